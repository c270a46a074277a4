import PyProof.Rows.All
import Wide.All
import OpenK.AllK
import Wide.FinOn
import PyProof.WalksEnum
import PyProof.Draws
import PyProof.GenQ
import PyProof.WalksMore
import PySem.Challenge.RW_xo0011_01
open PySem PySem.W PyProof.Rows
set_option Elab.async false
set_option rowWalk.seconds 0
namespace Mine
set_option maxRecDepth 100000 in
set_option maxHeartbeats 8000000 in
open_top hdK for PySem.Challenge.rw_xo0011_01
end Mine
open PySem PySem.W PyProof.Rows PySem.Calls PyProof.V PySem.Spec
namespace Mine
structure Stop (P : Prop) : Prop where
  out : P

theorem fr_if {h₀ h : Heap} {L : Addr} {f : Str → Option Value} {z : Str} {u : Value} (F : Fr h₀ L h f) (e : f z = some u) : Fr h₀ L h (fun y => if y = z then some u else f y) := by
  have : (fun y => if y = z then some u else f y) = f := by
    funext y
    by_cases hy : y = z
    · rw [if_pos hy, hy, e]
    · rw [if_neg hy]
  rw [this]; exact F
theorem fr_if1 {h₀ h : Heap} {L : Addr} {f : Str → Option Value} {x z : Str} {u : Value} {v : Option Value} (F : Fr h₀ L h (fun y => if y = x then v else f y)) (e : f z = some u) : Fr h₀ L h (fun y => if y = x then v else if y = z then some u else f y) := by
  have : (fun y => if y = x then v else if y = z then some u else f y) = (fun y => if y = x then v else f y) := by
    funext y
    by_cases hx : y = x
    · rw [if_pos hx, if_pos hx]
    · rw [if_neg hx, if_neg hx]
      by_cases hy : y = z
      · rw [if_pos hy, hy, e]
      · rw [if_neg hy]
  rw [this]; exact F

theorem ins {f g : Str → Option Value} {z : Str} {u : Value} (h : f = g) (e : f z = some u) : f = fun y => if y = z then some u else g y := by
  subst h
  funext y
  by_cases hy : y = z
  · rw [if_pos hy, hy, e]
  · rw [if_neg hy]
theorem fr_ext {h₀ h : Heap} {L : Addr} {f g : Str → Option Value} {x : Str} {v : Option Value} (F : Fr h₀ L h (fun y => if y = x then v else f y)) (e : f = g) : Fr h₀ L h (fun y => if y = x then v else g y) := e ▸ F
theorem fr_ext2 {h₀ h : Heap} {L : Addr} {f g : Str → Option Value} {x x' : Str} {v v' : Option Value} (F : Fr h₀ L h (fun y => if y = x then v else if y = x' then v' else f y)) (e : f = g) : Fr h₀ L h (fun y => if y = x then v else if y = x' then v' else g y) := e ▸ F
theorem fr_ext0 {h₀ h : Heap} {L : Addr} {f g : Str → Option Value} (F : Fr h₀ L h f) (e : f = g) : Fr h₀ L h g := e ▸ F
theorem all_of {d : Addr} : ∀ {l : List (Addr × Obj)}, AllLt d l → ∀ p ∈ l, p.1 < d
  | [], _, _, h => nomatch h
  | _ :: _, x, p, h => by
    rcases List.mem_cons.mp h with rfl | h
    · exact x.1
    · exact all_of x.2 p h
theorem news_head {h₀ h : Heap} {L : Addr} {q : Addr × Obj} {rest news : List (Addr × Obj)} (N : News h₀ L h (q :: rest)) (hs : ∀ p ∈ news, p ∈ rest) : News h₀ L h (q :: news) := fun p hp =>
  (List.mem_cons.mp hp).elim (fun e => N p (e ▸ .head _)) fun h => N p (.tail _ (hs p h))
theorem news_cons {h₀ h : Heap} {L : Addr} {news : List (Addr × Obj)} {p : Addr × Obj} (N : News h₀ L h news) (hp : p ∈ news) : News h₀ L h (p :: news) := fun q hq => (List.mem_cons.mp hq).elim (fun e => e ▸ N _ hp) (N q)

section
variable {prog : Program} {w : World} {A : Around} {E : Value → Shared → Prop} {s : Shared} {env : Env} {h₀ : Heap} {x : Str} {body : List Stmt} {Q : Flow → Shared → Prop}
theorem rng {n : Nat} {r : Addr} {b₀ : Int} {t₀ u₀ v₀ : Tok} {m₀ : Str → Option Value} {news : List (Addr × Obj)} (J : Nat → (Str → Option Value) → List (Addr × Obj) → Prop)
    (hh : A.handled = none) (hr : IsRange s.heap r 0 b₀ 1 t₀ u₀ v₀) (hb : b₀ = (n : Int)) (hsmall : n ≤ 1000) (F : Fr h₀ env.locals s.heap m₀) (N : News h₀ env.locals s.heap news) (hj : J 0 m₀ news)
    (turn : ∀ i t m₁ news₁ h tk own, i < n → news₁.map (·.1) = news.map (·.1) → OwnOff own (news.map (·.1)) → J i m₁ news₁ → Fr h₀ env.locals h (fun y => if y = x then some (.int (i : Int) t) else m₁ y) → News h₀ env.locals h (news₁ ++ own) →
      wpAny (model prog w) A (execs body env) (InvPostN h₀ env.locals (J (i + 1)) own (news.map (·.1)) { s with heap := h, toks := tk } Q) E { s with heap := h, toks := tk })
    (done : ∀ m₁ news₁ h tk, J n m₁ news₁ → news₁.map (·.1) = news.map (·.1) → Fr h₀ env.locals h m₁ → News h₀ env.locals h news₁ → Q .next { s with heap := h, toks := tk }) :
    wpAny (model prog w) A (pyIter (.ref r)) (fun it s₂ => LoopAtV prog w A h₀ env x body Q E it s₂) E s := by
  subst hb
  have hsz : Builtin.Range.rangeSize 0 (n : Int) 1 = (n : Int) := by
    unfold Builtin.Range.rangeSize
    simp
    omega
  refine wpAny_pyIter_range hr (by unfold Builtin.Range.small; simp [hsz, Builtin.Range.rangeFitsLong]; omega) ?_
  have W : Walks prog w A s.heap.objs.size [s.heap.objs.size] [s.heap.objs.size] n (fun i v => i < n ∧ ∃ t, v = .int ((0 : Int) + i * 1) t)
      (fun i h => IsRangeIter h s.heap.objs.size ((0 : Int) + (i : Nat) * 1) ((n : Int) - (i : Nat)) 1) := (Walks.range hh _ 0 1 n).bound
  refine loop_invN (fun i m nx => nx.map (·.1) = news.map (·.1) ∧ J i m nx) W ?_ ?_ ?_ ?_ (by show IsRangeIter _ _ _ _ _; rw [hsz]; simpa using Heap.get?_push_size _ rfl) (F.push _) (fun p hp => ⟨Heap.get?_push_of_some _ (N p hp).1, (N p hp).2⟩) ⟨rfl, hj⟩ ?_ ?_
  · intro hm
    exact absurd F.ns.lt ((List.mem_singleton.mp hm) ▸ Nat.lt_irrefl _)
  · intro b hb
    rw [List.mem_singleton.mp hb]
    exact next_is_new F
  · intro p hp hI
    exact absurd (Heap.lt_size (N p hp).1) ((List.mem_singleton.mp hI) ▸ Nat.lt_irrefl _)
  · intro p hp hI
    exact absurd (Heap.lt_size (N p hp).1) ((List.mem_singleton.mp hI) ▸ Nat.lt_irrefl _)
  · rintro i v m₁ news₁ h tk own hi ⟨_, t, rfl⟩ hadr hsep ⟨_, hJ⟩ F' N'
    have e1 : (0 : Int) + (i : Int) * 1 = (i : Int) := by omega
    rw [e1] at F'
    refine wpAny_mono (turn i t m₁ news₁ h tk own hi hadr hsep hJ F' N') (fun f s₂ p => ?_) fun _ _ e => e
    have up : InvEndN h₀ env.locals (J (i + 1)) own (news.map (·.1)) { s with heap := h, toks := tk } s₂ → InvEndN h₀ env.locals (fun m nx => nx.map (·.1) = news.map (·.1) ∧ J (i + 1) m nx) own (news.map (·.1)) { s with heap := h, toks := tk } s₂ := by
      rintro ⟨h', tk', m', news', nx', e', F', N', hn', ho', ha, hS⟩
      exact ⟨h', tk', m', news', nx', e', F', N', hn', ho', ha, ha, hS⟩
    cases f with
    | ret v => exact p
    | brk => exact p
    | next => exact up p
    | cont => exact up p
  · rintro m₁ news₁ h tk ⟨ha, hJ⟩ F₁ N₁
    exact done m₁ news₁ h tk hJ ha F₁ N₁
theorem rng2 {n : Nat} {r : Addr} {b₀ : Int} {t₀ u₀ v₀ : Tok} {m₀ : Str → Option Value} {a₁ a₂ : Addr} {o₁ o₂ : Obj} {rest : List (Addr × Obj)} (J : Addr → Addr → List (Addr × Obj) → Nat → (Str → Option Value) → List (Addr × Obj) → Prop)
    (hh : A.handled = none) (hr : IsRange s.heap r 0 b₀ 1 t₀ u₀ v₀) (hb : b₀ = (n : Int)) (hsmall : n ≤ 1000) (F : Fr h₀ env.locals s.heap m₀) (N : News h₀ env.locals s.heap ((a₁, o₁) :: (a₂, o₂) :: rest)) (hj : J a₁ a₂ rest 0 m₀ ((a₁, o₁) :: (a₂, o₂) :: rest))
    (turn : ∀ i t m₁ news₁ h tk own, i < n → OwnOff own (a₁ :: a₂ :: rest.map (·.1)) → J a₁ a₂ rest i m₁ news₁ → Fr h₀ env.locals h (fun y => if y = x then some (.int (i : Int) t) else m₁ y) → News h₀ env.locals h (news₁ ++ own) →
      wpAny (model prog w) A (execs body env) (InvPostN h₀ env.locals (J a₁ a₂ rest (i + 1)) own (a₁ :: a₂ :: rest.map (·.1)) { s with heap := h, toks := tk } Q) E { s with heap := h, toks := tk })
    (done : ∀ m₁ news₁ h tk, J a₁ a₂ rest n m₁ news₁ → Fr h₀ env.locals h m₁ → News h₀ env.locals h news₁ → Q .next { s with heap := h, toks := tk }) :
    wpAny (model prog w) A (pyIter (.ref r)) (fun it s₂ => LoopAtV prog w A h₀ env x body Q E it s₂) E s :=
  rng (J a₁ a₂ rest) hh hr hb hsmall F N hj (fun i t m₁ news₁ h tk own hi _ ho hJ F' N' => turn i t m₁ news₁ h tk own hi ho hJ F' N') (fun m₁ news₁ h tk hJ _ F' N' => done m₁ news₁ h tk hJ F' N')
end
section
variable {prog : Program} {w : World} {A : Around} {E : Value → Shared → Prop} {s : Shared} {h₀ : Heap} {L l b : Addr} {m : Str → Option Value} {news : List (Addr × Obj)} {value slice : PySem.Expr} {vs ws : List Value} {x : Int} {tx : Tok} {Q : Value → Shared → Prop}
theorem le_line {n : Nat} (h : n ≤ 1000) : n ≤ sizeLine := Nat.le_trans h (by decide)
theorem sl_from (F : Fr h₀ L s.heap m) (N : News h₀ L s.heap news) (hl : s.heap.IsList l vs.toArray) (h0 : 0 ≤ x) (hz : vs.length ≤ 1000)
    (h : ∀ D h', Fr h₀ L h' m → News h₀ L h' ((D, listOf (vs.drop x.toNat).toArray 0) :: news) → (∀ p ∈ news, p.1 < D) → Q (.ref D) { s with heap := h' })
    (hs : subscripted slice false (.ref l) (.ref s.heap.objs.size) = operate [.ref s.heap.objs.size, .ref l] (getItem (.ref l) (.ref s.heap.objs.size))) (ht : ∀ r, letTemporaryGo value (.ref l) r = pure ()) :
    wpAny (model prog w) A (subscriptTail value slice (.ref l) (.ref s.heap.objs.size)) Q E { s with heap := s.heap.push { cls := .type "slice", data := .fields #[.int x tx, .none, .none] } } := by
  have e : kms_pick vs (some x) none = vs.drop x.toNat := by
    unfold kms_pick kms_lo kms_hi
    simp only [if_neg (show ¬ x < 0 by omega)]
    rw [kmk_drop_min, List.take_of_length_le (by rw [List.length_drop]; omega)]
  exact kms_slice_lit (zs := vs.drop x.toNat) F N hl (IsPart.int _ _) IsPart.none (by simpa using e) h hs ht (by rw [List.size_toArray]; exact le_line hz)
theorem sl_upto (F : Fr h₀ L s.heap m) (N : News h₀ L s.heap news) (hl : s.heap.IsList l vs.toArray) (h0 : 0 ≤ x) (hz : vs.length ≤ 1000)
    (h : ∀ D h', Fr h₀ L h' m → News h₀ L h' ((D, listOf (vs.take x.toNat).toArray 0) :: news) → (∀ p ∈ news, p.1 < D) → Q (.ref D) { s with heap := h' })
    (hs : subscripted slice false (.ref l) (.ref s.heap.objs.size) = operate [.ref s.heap.objs.size, .ref l] (getItem (.ref l) (.ref s.heap.objs.size))) (ht : ∀ r, letTemporaryGo value (.ref l) r = pure ()) :
    wpAny (model prog w) A (subscriptTail value slice (.ref l) (.ref s.heap.objs.size)) Q E { s with heap := s.heap.push { cls := .type "slice", data := .fields #[.none, .int x tx, .none] } } := by
  have e : kms_pick vs none (some x) = vs.take x.toNat := by
    unfold kms_pick kms_lo kms_hi
    simp only [if_neg (show ¬ x < 0 by omega)]
    rw [List.drop_zero, Nat.sub_zero, kmk_take_min]
  exact kms_slice_lit (zs := vs.take x.toNat) F N hl IsPart.none (IsPart.int _ _) (by simpa using e) h hs ht (by rw [List.size_toArray]; exact le_line hz)
theorem cat_l (F : Fr h₀ L s.heap m) (N : News h₀ L s.heap news) (hl : s.heap.IsList l vs.toArray) (hb : s.heap.IsList b ws.toArray) (hz : vs.length + ws.length ≤ 1000)
    (h : ∀ D h', Fr h₀ L h' m → News h₀ L h' ((D, listOf (vs ++ ws).toArray 0) :: news) → (∀ p ∈ news, p.1 < D) → Q (.ref D) { s with heap := h' }) :
    wpAny (model prog w) A (binaryOp .Add (.ref l) (.ref b)) Q E s :=
  add_lists F N hl hb (fun h' F' N' => h _ h' F' N' fun p hp => Heap.lt_size (N p hp).1) (le_line hz)
end
end Mine
open PySem PySem.W PyProof.Rows PySem.Calls PyProof.V PySem.Spec
namespace Mine
set_option maxRecDepth 100000
set_option maxHeartbeats 8000000
def isO (x : Str) : Bool := x.cps[0]? == some 40
def bstep (i : Nat) (s : Int × Int) (b : Bool) : Int × Int := if b then (s.1 + 1, if s.1 = 0 then (i : Int) else s.2) else (s.1 - 1, s.2)
def bscan (ks : List Bool) : Int × Int := ks.zipIdx.foldl (fun s p => bstep p.2 s p.1) (0, -1)
theorem bscan_snoc (ks : List Bool) (b : Bool) : bscan (ks ++ [b]) = bstep ks.length (bscan ks) b := by
  unfold bscan
  simp [List.zipIdx_append]
theorem rev_ind {α : Type} {P : List α → Prop} (h0 : P []) (h1 : ∀ l a, P l → P (l ++ [a])) (l : List α) : P l := by
  have : ∀ m : List α, P m.reverse := by
    intro m
    induction m with
    | nil => exact h0
    | cons a r ih => rw [List.reverse_cons]; exact h1 _ _ ih
  simpa using this l.reverse
theorem bscan_range (ks : List Bool) : ((bscan ks).2 = -1 ∨ (0 ≤ (bscan ks).2 ∧ (bscan ks).2 < ks.length)) ∧ -(ks.length : Int) ≤ (bscan ks).1 ∧ (bscan ks).1 ≤ ks.length := by
  induction ks using rev_ind with
  | h0 => simp [bscan]
  | h1 l b ih =>
    rw [bscan_snoc, List.length_append]
    unfold bstep
    cases b <;> simp <;> (try split) <;> omega
theorem lit_open : Str.ofString "(" = ⟨#[40]⟩ := by decide +kernel
theorem head_eq (x : Str) (h : 0 < x.length) : (Txt.item x 0 == Str.ofString "(") = isO x := by
  obtain ⟨⟨c⟩⟩ := x
  cases c with
  | nil => exact absurd h (by decide)
  | cons a r =>
    have e : Txt.item ⟨⟨a :: r⟩⟩ 0 = ⟨#[a]⟩ := by
      unfold Txt.item Txt.charAt
      have : seqIndex? 0 (Str.length ⟨⟨a :: r⟩⟩) = some 0 := StrLaws.seqIndex_nonneg (i := 0) (by omega) (by exact_mod_cast h)
      rw [this]
      rfl
    rw [e, lit_open]
    unfold isO
    rw [Bool.eq_iff_iff]
    simp
theorem bscan_turn {xs : List Str} {i : Nat} (hi : i < xs.length) {d l : Int} (hs : (d, l) = bscan ((xs.take i).map isO)) (hp : (0 : Int) < (xs.getD ((i : Int).toNat) Str.empty).length) :
    bscan ((xs.take (i + 1)).map isO) = bstep i (d, l) (Txt.item (xs.getD ((i : Int).toNat) Str.empty) 0 == Str.ofString "(") := by
  rw [head_eq _ (by omega)]
  have e : xs.getD ((i : Int).toNat) Str.empty = xs[i] := by simp [List.getD, hi]
  rw [e, List.take_succ_eq_append_getElem hi, List.map_append, List.map_singleton, bscan_snoc, ← hs]
  simp [Nat.min_eq_left (Nat.le_of_lt hi)]


def back (xs : List Str) : List Str := let l := (bscan (xs.map isO)).2; if l < 0 then [] else xs.drop (l + 1).toNat ++ [xs.getD l.toNat Str.empty] ++ xs.take l.toNat
structure Cx (w : World) (p : Program) (loose : List Str) (mean : ExcName → Option Value) (mg mb : Str → Option Value) (dp un : Nat) (cn : Str) (cs : Scope) (L a : Addr) (ccd : Value) (cl : List (Str × Addr)) (outer : List Env) (A₀ : Around) (base h₀ : Heap) (m : Str → Option Value) (s : Shared) (news : List (Addr × Obj)) : Prop where
  B : Below A₀ base outer h₀
  F : Fr h₀ L s.heap m
  X : (hdK.heap_39 w.params).In h₀
  N : News h₀ L s.heap news
  T : Top p loose mean mg mb h₀
  hk : cs.kind = .function
  hd : dp + 4 < recursionLimit
  hu : un + 32 < cLine

end Mine
open PySem PySem.W PyProof.Rows PySem.Calls PyProof.V PySem.Spec
namespace Mine
set_option maxRecDepth 100000
set_option maxHeartbeats 4000000

theorem keepAll {h h' : Heap} (hx : Heap.ExtBut h.objs.size h h') : ∀ b o, h.get? b = some o → h'.get? b = some o := fun b o e => hx b o (Nat.ne_of_lt (Heap.lt_size e)) e
theorem fr_keep {h₀ h h' : Heap} {L : Addr} {m : Str → Option Value} (F : Fr h₀ L h m) (k : ∀ b o, h.get? b = some o → h'.get? b = some o) : Fr h₀ L h' m := ⟨F.ns.at' fun o e => k _ o e, fun b o e => k b o (F.keep b o e), F.above⟩
theorem news_keep {h₀ h h' : Heap} {L : Addr} {news : List (Addr × Obj)} (N : News h₀ L h news) (k : ∀ b o, h.get? b = some o → h'.get? b = some o) : News h₀ L h' news := fun p hp => ⟨k _ _ (N p hp).1, (N p hp).2⟩

section
variable {prog : Program} {w : World} {A : Around} {E : Value → Shared → Prop} {s : Shared} {env : Env} {h₀ : Heap} {m : Str → Option Value} {news : List (Addr × Obj)}
theorem assign2 {xi xv : Str} {pi pv pt : Pos} {x1 : Nat} {T : Addr} {v1 v2 : Value} {Q : Unit → Shared → Prop} (hh : A.handled = none) (hT : s.heap.IsTuple T #[v1, v2]) (F : Fr h₀ env.locals s.heap m) (N : News h₀ env.locals s.heap news)
    (hxi : env.kindOf xi = some .local) (hxv : env.kindOf xv = some .local) (hp : (env.scope.kind == .class || (env.scope.kind == .module && env.locals != env.globals)) = false)
    (h : ∀ h' tk', Fr h₀ env.locals h' (fun y => if y = xv then some v2 else if y = xi then some v1 else m y) → News h₀ env.locals h' news → Q () { s with heap := h', toks := tk' }) :
    wpAny (model prog w) A (assign (.Tuple [.Name xi pi, .Name xv pv] x1 pt) env (.ref T)) Q E s := by
  refine wpAny_assign_Tuple hh hT rfl rfl fun h₃ hx₃ => ?_
  have F₃ := fr_keep F (keepAll hx₃)
  have N₃ := news_keep N (keepAll hx₃)
  show wpAny _ A (do holding [v2] (assign (.Name xi pi) env v1); do holding [] (assign (.Name xv pv) env v2); pure ()) _ _ _
  refine wpAny_bind (wpAny_holding (wpAny_assign_Name (wpAny_storeName_local hxi F₃.ns (fun h₄ hn₄ hs₄ => ?_) hp)))
  have F₄ := F₃.set hn₄ hs₄
  have N₄ := N₃.set hs₄
  refine wpAny_bind (wpAny_holding (wpAny_assign_Name (wpAny_storeName_local hxv F₄.ns (fun h₅ hn₅ hs₅ => wpAny_pure ?_) hp)))
  exact h h₅ _ (F₄.set hn₅ hs₅) (N₄.set hs₅)
end

section
variable {prog : Program} {w : World} {A : Around} {E : Value → Shared → Prop} {s : Shared} {env : Env} {h₀ : Heap} {m : Str → Option Value} {news : List (Addr × Obj)}
abbrev enumObj (it : Addr) (i : Int) (old : Value) : Obj := { cls := .type "enumerate", dict := none, data := .fields #[.none, .bool false, .ref it, rawInt i, .none, old], slots := #[] }

def EnumEnd (s : Shared) (h₀ : Heap) (L e it : Addr) (old : Value) (oi : Obj) (i : Nat) (news : List (Addr × Obj)) (J : Nat → (Str → Option Value) → Prop) (s' : Shared) : Prop :=
  ∃ h' tk m', s' = { s with heap := h', toks := tk } ∧ Fr h₀ L h' m' ∧ News h₀ L h' ((e, enumObj it (i + 1 : Nat) old) :: (it, oi) :: news) ∧ J (i + 1) m'
def EnumNext (s : Shared) (h₀ : Heap) (L e it : Addr) (old : Value) (oi : Obj) (i : Nat) (news : List (Addr × Obj)) (J : Nat → (Str → Option Value) → Prop) (R : Result → Shared → Prop) (f : Flow) (s' : Shared) : Prop := match f with
  | .ret v => R (.ok (.ret v)) s'
  | .brk => R (.ok .next) s'
  | _ => EnumEnd s h₀ L e it old oi i news J s'

theorem forEnum {R : Result → Shared → Prop} {xi xv : Str} {pi pv pt : Pos} {x1 : Nat} {body orelse : List Stmt} {e it l : Addr} {vs : List Value} {n : Nat} {oi : Obj}
    (hh : A.handled = none) (hxi : env.kindOf xi = some .local) (hxv : env.kindOf xv = some .local) (hp : (env.scope.kind == .class || (env.scope.kind == .module && env.locals != env.globals)) = false)
    (F : Fr h₀ env.locals s.heap m) (N : News h₀ env.locals s.heap ((e, enumObj it 0 .none) :: (it, oi) :: news)) (hit : s.heap.IsListIter it l 0) (hl : (l, listOf vs.toArray n) ∈ news)
    (hei : e ≠ it) (hne : ∀ p ∈ news, p.1 ≠ e) (hni : ∀ p ∈ news, p.1 ≠ it)
    (J : Nat → (Str → Option Value) → Prop) (h0 : J 0 m)
    (turn : ∀ i v t m₁ h tk oi', vs[i]? = some v → J i m₁ → Fr h₀ env.locals h (fun y => if y = xv then some v else if y = xi then some (.int (i : Int) t) else m₁ y) → News h₀ env.locals h ((e, enumObj it (i + 1 : Nat) v) :: (it, oi') :: news) →
      wpAny (model prog w) A (execs body env) (EnumNext s h₀ env.locals e it v oi' i news J R) (notedBy (model prog w) A env fun e s' => R (.error e) s') { s with heap := h, toks := tk })
    (done : ∀ m₁ h tk, J vs.length m₁ → Fr h₀ env.locals h m₁ → News h₀ env.locals h news → wpAny (model prog w) A (execs orelse env) (fun f s₃ => R (.ok f) s₃) (notedBy (model prog w) A env fun e s' => R (.error e) s') { s with heap := h, toks := tk }) :
    codeAny (model prog w) A (.forLoop (.Tuple [.Name xi pi, .Name xv pv] x1 pt) (.ref e) body orelse env) R s := by
  refine codeAny_forLoop_any (fun k s' => ∃ h' tk m' i old oi', s' = { s with heap := h', toks := tk } ∧ Fr h₀ env.locals h' m' ∧ News h₀ env.locals h' ((e, enumObj it (i : Nat) old) :: (it, oi') :: news) ∧ h'.IsListIter it l i ∧ J i m' ∧ i ≤ vs.length ∧ k = vs.length + 1 - i) ?_ (vs.length + 1)
    ⟨s.heap, s.toks, m, 0, .none, oi, rfl, F, N, hit, h0, Nat.zero_le _, rfl⟩
  rintro k s' ⟨H, tk, m', i, old, oi', rfl, F', N', hit', hJ, hi, rfl⟩
  have he' : IsEnum H e it ((i : Nat) : Int) old := (N' _ (.head _)).1
  have hl' : H.IsList l vs.toArray := PySem.IsL.isList (n := n) (N' _ (.tail _ (.tail _ hl))).1
  cases hv : vs[i]? with
  | none =>
    have hsz : i = vs.length := Nat.le_antisymm hi (by simpa using hv)
    refine wpAny_pyNext_enum_end hh he' hit' hl' (by simpa using hv) fun h₁ he₁ => ?_
    have F₁ : Fr h₀ env.locals h₁ m' := ⟨F'.ns.at' fun o x => he₁ _ o (fun q => (N' _ (.tail _ (.head _))).2.1 q.symm) x, fun b o x => he₁ b o (fun q => by have := (N' _ (.tail _ (.head _))).2.2; rw [← q, x] at this; cases this) (F'.keep b o x), F'.above⟩
    refine done m' h₁ tk (hsz ▸ hJ) F₁ fun p hp => ⟨he₁ _ _ (hni p hp) (N' p (.tail _ (.tail _ hp))).1, (N' p (.tail _ (.tail _ hp))).2⟩
  | some v =>
    have hlt : i < vs.length := (List.getElem?_eq_some_iff.mp hv).1
    have heH : e < H.objs.size := Heap.lt_size he'
    refine wpAny_pyNext_enum_item he' hit' hl' (by simpa using hv) hei fun h₁ heo hit₁ ht₁ hz₁ hk₁ => ?_
    refine wpAny_letOwnedTupleGo_enum heo fun h₂ he₂ hs₂ => ?_
    replace hs₂ : Heap.SameBut e h₁ h₂ := hs₂
    have kk : ∀ b o, b ≠ e → b ≠ it → H.get? b = some o → h₂.get? b = some o := fun b o h1 h2 x => hs₂.extBut b o h1 (hk₁ b o h1 h2 x)
    have Le : env.locals ≠ e := fun q => (N' _ (.head _)).2.1 q.symm
    have Lit : env.locals ≠ it := fun q => (N' _ (.tail _ (.head _))).2.1 q.symm
    have F₂ : Fr h₀ env.locals h₂ m' := ⟨F'.ns.at' fun o x => kk _ o Le Lit x, fun b o x => kk b o (fun q => by have := (N' _ (.head _)).2.2; rw [← q, x] at this; cases this) (fun q => by have := (N' _ (.tail _ (.head _))).2.2; rw [← q, x] at this; cases this) (F'.keep b o x), F'.above⟩
    have ht₂ : h₂.IsTuple H.objs.size #[.int i tk, v] := ⟨_, (hs₂.2 _ (Nat.ne_of_gt heH)).trans ht₁, rfl, _, rfl⟩
    have hit₂ : h₂.IsListIter it l (i + 1) := hit₁.extBut hs₂.extBut (Ne.symm hei)
    obtain ⟨oi₂, ho₂, hr₂⟩ := id hit₂
    have ei : ((i + 1 : Nat) : Int) = (i : Int) + 1 := by push_cast; rfl
    have N₂ : News h₀ env.locals h₂ ((e, enumObj it (i + 1 : Nat) v) :: (it, oi₂) :: news) := fun p hp => by
      rcases List.mem_cons.mp hp with rfl | hp
      · exact ⟨by rw [ei]; exact he₂, (N' _ (.head _)).2⟩
      · rcases List.mem_cons.mp hp with rfl | hp
        · exact ⟨ho₂, (N' _ (.tail _ (.head _))).2⟩
        · exact ⟨kk _ _ (hne p hp) (hni p hp) (N' p (.tail _ (.tail _ hp))).1, (N' p (.tail _ (.tail _ hp))).2⟩
    refine assign2 hh ht₂ F₂ N₂ hxi hxv hp fun h₃ tk₃ F₃ N₃ => ?_
    refine wpAny_mono (turn i v tk m' h₃ tk₃ oi₂ hv hJ F₃ N₃) (fun f s₃ hf => ?_) fun _ _ x => x
    have up : (∃ h' tk m', s₃ = { s with heap := h', toks := tk } ∧ Fr h₀ env.locals h' m' ∧ News h₀ env.locals h' ((e, enumObj it (i + 1 : Nat) v) :: (it, oi₂) :: news) ∧ J (i + 1) m') →
        ∃ k', k' < vs.length + 1 - i ∧ ∃ h' tk m' j old oi', s₃ = { s with heap := h', toks := tk } ∧ Fr h₀ env.locals h' m' ∧ News h₀ env.locals h' ((e, enumObj it (j : Nat) old) :: (it, oi') :: news) ∧ h'.IsListIter it l j ∧ J j m' ∧ j ≤ vs.length ∧ k' = vs.length + 1 - j := by
      rintro ⟨h', tk', m'', e1, F'', N'', hJ'⟩
      refine ⟨vs.length + 1 - (i + 1), by omega, h', tk', m'', i + 1, v, oi₂, e1, F'', N'', ⟨oi₂, (N'' _ (.tail _ (.head _))).1, hr₂⟩, hJ', hlt, rfl⟩
    cases f with
    | ret v => exact hf
    | brk => exact hf
    | next => exact up hf
    | cont => exact up hf

theorem enumLoop {R : Result → Shared → Prop} {xi xv : Str} {pi pv pt : Pos} {x1 : Nat} {body orelse : List Stmt} {l : Addr} {vs : List Value} {n : Nat}
    (hh : A.handled = none) (hxi : env.kindOf xi = some .local) (hxv : env.kindOf xv = some .local) (hp : (env.scope.kind == .class || (env.scope.kind == .module && env.locals != env.globals)) = false)
    (F : Fr h₀ env.locals s.heap m) (N : News h₀ env.locals s.heap news) (hl : (l, listOf vs.toArray n) ∈ news)
    (J : Nat → (Str → Option Value) → Prop) (h0 : J 0 m)
    (turn : ∀ e it i v t m₁ h tk oi' h₂, vs[i]? = some v → J i m₁ → Fr h₀ env.locals h (fun y => if y = xv then some v else if y = xi then some (.int (i : Int) t) else m₁ y) → News h₀ env.locals h ((e, enumObj it (i + 1 : Nat) v) :: (it, oi') :: news) →
      wpAny (model prog w) A (execs body env) (EnumNext { s with heap := h₂ } h₀ env.locals e it v oi' i news J R) (notedBy (model prog w) A env fun e s' => R (.error e) s') { s with heap := h, toks := tk })
    (done : ∀ m₁ h tk, J vs.length m₁ → Fr h₀ env.locals h m₁ → News h₀ env.locals h news → wpAny (model prog w) A (execs orelse env) (fun f s₃ => R (.ok f) s₃) (notedBy (model prog w) A env fun e s' => R (.error e) s') { s with heap := h, toks := tk }) :
    wpAny (model prog w) A (call (.type "enumerate") [.ref l]) (fun x s₁ => wpAny (model prog w) A (pyIter x) (fun it s₂ => codeAny (model prog w) A (.forLoop (.Tuple [.Name xi pi, .Name xv pv] x1 pt) it body orelse env) R s₂) E s₁) E s := by
  have hL : s.heap.IsList l vs.toArray := PySem.IsL.isList (n := n) (N _ hl).1
  refine call_enumerate_list hL fun h' he hit hsz hk => ?_
  refine wpAny_pyIter_enum he ?_
  obtain ⟨oi, hoi, hr⟩ := id hit
  have hLs : env.locals < s.heap.objs.size := F.ns.lt
  have off : ∀ b o, s.heap.get? b = some o → b ≠ s.heap.objs.size + 1 ∧ b ≠ s.heap.objs.size := fun b o e => by
    have h1 := Heap.lt_size e
    exact ⟨Nat.ne_of_lt (Nat.lt_succ_of_lt h1), Nat.ne_of_lt h1⟩
  have new : ∀ b, s.heap.objs.size ≤ b → h₀.get? b = none := fun b hb => by
    cases q : h₀.get? b with
    | none => rfl
    | some o => exact absurd (Nat.lt_of_lt_of_le (Heap.lt_size (F.keep b o q)) hb) (Nat.lt_irrefl _)
  refine forEnum (s := { s with heap := h' }) (oi := oi) hh hxi hxv hp (fr_keep F hk) (fun p hp => ?_) hit hl (Nat.succ_ne_self _) (fun p hp => (off _ _ (N p hp).1).1) (fun p hp => (off _ _ (N p hp).1).2) J h0
    (fun i v t m₁ h tk oi' => turn _ _ i v t m₁ h tk oi' h') done
  rcases List.mem_cons.mp hp with rfl | hp
  · exact ⟨he, Nat.ne_of_gt (Nat.lt_succ_of_lt hLs), new _ (Nat.le_succ _)⟩
  · rcases List.mem_cons.mp hp with rfl | hp
    · exact ⟨hoi, Nat.ne_of_gt hLs, new _ (Nat.le_refl _)⟩
    · exact news_keep N hk p hp
end

def tokOf : Value → Nat
  | .int _ t => t
  | .str _ t => t
  | .bytes _ t => t
  | _ => 1
def ToksIn (n : Nat) (vs : List Value) : Prop := ∀ v ∈ vs, 0 < tokOf v ∧ tokOf v < n

section
variable {w : World} {A : Around} {E : Value → Shared → Prop} {s : Shared} {prog : Program} {Q : Value → Shared → Prop}
theorem notTold {t : Tok} {R : Bool → Shared → Prop} (X : (hdK.heap_39 w.params).In s.heap) (h : R false s) : wpAny (model prog w) A (sharingNotTold t) R E s := by
  unfold sharingNotTold
  refine wpAny_bind ((looks_nsIn X (r := none) (by kernel_rfl)).here ?_)
  exact wpAny_pure h
theorem created_is {b : Bool} {t u : Tok} {R : Bool → Shared → Prop} (X : (hdK.heap_39 w.params).In s.heap) (ht : t ≠ 0) (hu : u ≠ 0) (hb : t = u → b = true) (h : ∀ c, (c = true → b = true) → R c s) : wpAny (model prog w) A (isSame.created b t u) R E s := by
  have e0 : (t == 0 || u == 0) = false := by simp [ht, hu]
  show wpAny _ _ (if (t == 0 || u == 0) = true then _ else _) _ _ _
  rw [e0]
  show wpAny _ _ (if (t == u) = true then _ else _) _ _ _
  by_cases e : t = u
  · rw [if_pos (by simpa using e)]
    exact wpAny_pure (h true fun _ => hb e)
  · rw [if_neg (by simpa using e)]
    show wpAny _ _ (if (!b) = true then _ else _) _ _ _
    cases b with
    | false => exact wpAny_pure (h false fun x => by cases x)
    | true =>
      refine wpAny_bind (notTold X ?_)
      refine wpAny_bind (notTold X ?_)
      refine wpAny_bind (wpAny_rule (wpAny_bind (wpAny_askSetting (wpAny_pure ?_))))
      exact h _ fun _ => rfl
theorem is_ints {d x : Int} {t u : Tok} (X : (hdK.heap_39 w.params).In s.heap) (ht : t ≠ 0) (hu : u ≠ 0) (hb : t = u → d = x) (h1 : d = x → Q (.bool true) s) (h2 : Q (.bool false) s) : wpAny (model prog w) A (compareOp .Is (.int d t) (.int x u)) Q E s := by
  have h : ∀ c, (c = true → d = x) → Q (.bool c) s := fun c hc => by
    cases c with
    | true => exact h1 (hc rfl)
    | false => exact h2
  show wpAny _ A (do return .bool (← isSame (.int d t) (.int x u))) Q E s
  refine wpAny_bind ?_
  show wpAny _ _ (if (d == x && smallInt d) = true then isSame.cachedInt t u else isSame.created (d == x) t u) _ _ _
  by_cases e : (d == x && smallInt d) = true
  · rw [if_pos e]
    have ed : d = x := by simp at e; exact e.1
    unfold isSame.cachedInt
    rw [if_neg (by simp [ht, hu])]
    exact wpAny_bind (wpAny_rule (wpAny_pure (wpAny_pure (h true fun _ => ed))))
  · rw [if_neg e]
    exact created_is X ht hu (fun q => by simpa using hb q) fun c hc => wpAny_pure (h c fun q => by simpa using hc q)
end
end Mine
open PySem PySem.W PyProof.Rows PySem.Calls PyProof.V PySem.Spec
namespace Mine
set_option maxRecDepth 100000
set_option maxHeartbeats 8000000
def JBack (r : Addr) (xs : List Str) (news : List (Addr × Obj)) (i : Nat) (m : Str → Option Value) (nx : List (Addr × Obj)) : Prop :=
  nx = news ∧ m (Str.ofString "row") = some (.ref r) ∧ ∃ d l td tl, m (Str.ofString "depth") = some (.int d td) ∧ m (Str.ofString "last") = some (.int l tl) ∧ (d, l) = bscan ((xs.take i).map isO)

local macro_rules | `(tactic| walk_at "pyIter ref") => `(tactic| (k_here; refine Stop.out ?_))

local macro_rules | `(tactic| walk_at "last subscriptTail") => `(tactic| (k_here; (with_reducible show wpAny _ _ (subscriptTail _ _ (Value.str _ _) (Value.int 0 _)) _ _ _); (with_unfolding_all refine' item_str ?k1 ?k2 ?k3 ?_; (case k1 => decide); (case k2 => omega); (case k3 => omega)); intro _))

local macro_rules | `(tactic| walk_at "subscriptTail Name Slice ref ref") => `(tactic| (k_here; (with_reducible show wpAny _ _ (subscriptTail _ (PySem.Expr.Slice _ _ none _) (Value.ref _) (Value.ref _)) _ _ _); k_dflt (first
  | (refine' sl_from ?F ?N ?l ?h0 ?hz ?_ ?s ?t; (case F => k_asm); (case N => k_asm); (case l => kmk_list); (case h0 => omega); (case hz => omega); (case s => with_unfolding_all rfl); (case t => kmk_pure))
  | (refine' sl_upto ?F ?N ?l ?h0 ?hz ?_ ?s ?t; (case F => k_asm); (case N => k_asm); (case l => kmk_list); (case h0 => omega); (case hz => omega); (case s => with_unfolding_all rfl); (case t => kmk_pure))); intro D' h' F' N' l1; (try k_lt l1); (try k_sweep)))
local macro_rules | `(tactic| walk_at "binaryOp Add ref ref") => `(tactic| (k_here; k_dflt (refine' cat_l ?F ?N ?l ?b ?hz ?_; (case F => k_asm); (case N => k_asm); (case l => kmk_list); (case b => kmk_list); (case hz => (simp only [List.length_drop, List.length_take, List.length_append, List.length_cons, List.length_nil]; omega))); intro D' h' F' N' l1; (try k_lt l1); (try k_sweep)))

section
variable {w : World} {p : Program} {loose : List Str} {mean : ExcName → Option Value} {mg mb : Str → Option Value} {dp un : Nat} {gd : Option (List Code)} {cn : Str} {cs : Scope} {a : Addr} {ccd : Value} {cl : List (Str × Addr)} {outer : List Env} {A₀ : Around} {base h₀ : Heap} {L : Addr} {m : Str → Option Value} {s : Shared} {Q E : Value → Shared → Prop} {news : List (Addr × Obj)}


theorem back_c {r : Addr} {vs : List Value} {n : Nat} {xs : List Str} (C : Cx w p loose mean mg mb dp un cn cs L a ccd cl outer A₀ base h₀ m s news)
    (hr : (r, listOf vs.toArray n) ∈ news) (hx : StrsAre vs xs) (h8 : xs.length = 8) (hne : ∀ x ∈ xs, 0 < x.length)
    (ret : ∀ l' vs' h' tk', Fr h₀ L h' m → News h₀ L h' ((l', listOf vs'.toArray 0) :: news) → (∀ p ∈ news, p.1 < l') → StrsAre vs' (back xs) → Q (.ref l') { s with heap := h', toks := tk' }) :
    wpAny (model PySem.Challenge.rw_xo0011_01.row.prog w) (ktrTop dp un gd cn cs L a ccd cl outer) (call (.ref 107) [.ref r]) Q E s := by
  obtain ⟨B, F, X, N, T, hk, hd, hu⟩ := C
  have hx0 := hx
  w_top off
  revert X; k_fill; intro X
  have hlen : vs.length = 8 := by rw [hx.len_eq]; exact h8
  have N1 : News h₀ L s.heap ((r, listOf vs.toArray n) :: news) := news_cons N hr
  clear N
  refine wpAny_call ?_
  k_dflt cell_enter
  k_steps
  · refine Stop.mk ?_
    rename News _ _ _ _ => hN
    rename Fr _ _ _ _ => hF
    rename IsRange _ _ _ _ _ _ _ _ => hR
    with_unfolding_all refine rng (n := 8) (JBack r xs ((r, listOf vs.toArray n) :: news)) rfl hR ?_ (by decide) hF hN ?_ ?_ ?_
    · exact_mod_cast h8
    · exact ⟨rfl, by with_unfolding_all rfl, _, _, _, _, by with_unfolding_all rfl, by with_unfolding_all rfl, by simp [bscan]⟩
    · intro i t m₁ nx h tk own hi hadr hoff hJ F N
      obtain ⟨rfl, hrow, d, l, td, tl, hd, hl, hs⟩ := hJ
      replace F := fr_ext F (ins (ins (ins rfl hrow) hd) hl)
      have hpos : (0 : Int) < (xs.getD ((i : Int).toNat) Str.empty).length := by
        have e : xs.getD ((i : Int).toNat) Str.empty = xs[i]'(by omega) := by simp [List.getD, show i < xs.length by omega]
        rw [e]; exact_mod_cast hne _ (List.getElem_mem _)
      have hT := bscan_turn (by omega) hs hpos
      k_steps
      · rename ((Txt.item _ _) == _) = true => hO
        rename _ = (0 : Int) => hz
        rename News _ _ _ _ => N'
        rename Fr _ _ _ _ => F'
        refine InvEndN.intro F' N' ⟨rfl, by with_unfolding_all rfl, _, _, _, _, by with_unfolding_all rfl, by with_unfolding_all rfl, ?_⟩ rfl (fun p hp => List.mem_append_left _ hp) (fun p hp => List.mem_append_right _ hp)
        rw [hT, hO]
        simp [bstep, hz]
      · rename ((Txt.item _ _) == _) = true => hO
        rename ¬ _ = (0 : Int) => hz
        rename News _ _ _ _ => N'
        rename Fr _ _ _ _ => F'
        refine InvEndN.intro F' N' ⟨rfl, by with_unfolding_all rfl, _, _, _, _, by with_unfolding_all rfl, by with_unfolding_all rfl, ?_⟩ rfl (fun p hp => List.mem_append_left _ hp) (fun p hp => List.mem_append_right _ hp)
        rw [hT, hO]
        simp [bstep, hz]
      · rename ((Txt.item _ _) == _) = false => hO
        rename News _ _ _ _ => N'
        rename Fr _ _ _ _ => F'
        refine InvEndN.intro F' N' ⟨rfl, by with_unfolding_all rfl, _, _, _, _, by with_unfolding_all rfl, by with_unfolding_all rfl, ?_⟩ rfl (fun p hp => List.mem_append_left _ hp) (fun p hp => List.mem_append_right _ hp)
        rw [hT, hO]
        simp [bstep]
    · intro m₁ nx h tk hJ hadr F N
      obtain ⟨rfl, hrow, d, l, td, tl, hd, hl, hs⟩ := hJ
      replace F := fr_ext0 F (ins (ins (ins rfl hrow) hd) hl)
      rw [List.take_of_length_le (by omega)] at hs
      have hrg := bscan_range (xs.map isO)
      rw [← hs, List.length_map, h8] at hrg
      k_steps
      · rename _ < (0 : Int) => hneg
        rename News _ _ _ _ => N'
        rename Fr _ _ _ _ => F'
        rename _ ∧ AllLt _ _ => l1
        exact ret _ [] _ _ F' (news_head N' (fun p hp => by simp [hp])) (all_of l1.2) (by unfold back; rw [← hs]; simp only [if_pos hneg]; exact .nil)
      · rename ¬ _ < (0 : Int) => hneg
        rename News _ _ _ _ => N'
        rename Fr _ _ _ _ => F'
        rename _ ∧ _ ∧ _ ∧ _ ∧ _ ∧ AllLt _ _ => l1
        rename StrsAre _ _ => hx1
        refine ret _ _ _ _ F' (news_head N' (fun p hp => by simp [hp])) (all_of l1.2.2.2.2.2) (by
          unfold back; rw [← hs]; simp only [if_neg hneg]
          exact ((hx1.drop' _).append' (.cons _ _ .nil)).append' (hx1.take' _))
end
end Mine
open PySem PySem.W PyProof.Rows PySem.Calls PyProof.V PySem.Spec
namespace Mine
set_option maxRecDepth 100000
set_option maxHeartbeats 8000000

section
variable {prog : Program} {w : World} {A : Around} {E : Value → Shared → Prop} {s : Shared} {h₀ : Heap} {L D : Addr} {m : Str → Option Value} {news news' : List (Addr × Obj)} {vs : List Value} {ss : List Str} {i : Int} {u : Tok} {n : Nat} {Q : Value → Shared → Prop}
theorem cut_at : ∀ (vs : List Value) (k : Nat) (v : Value), vs[k]? = some v → kl_cut vs k = some (vs.take k, v, vs.drop (k + 1))
  | [], _, _, h => by cases h
  | x :: r, 0, v, h => by
    simp only [List.getElem?_cons_zero, Option.some.injEq] at h
    subst h; rfl
  | x :: r, k + 1, v, h => by
    simp only [List.getElem?_cons_succ] at h
    have q := cut_at r k v h
    unfold kl_cut
    rw [q]
    rfl
theorem pop_str (F : Fr h₀ L s.heap m) (N : News h₀ L s.heap news) (hs : StrsAre vs ss) (h0 : 0 ≤ i) (h1 : i < (ss.length : Int)) (hz : ss.length ≤ 1000)
    (U : Upd D (listOf vs.toArray n) (listOf (vs.take i.toNat ++ vs.drop (i.toNat + 1)).toArray (n + 1)) news news')
    (h : ∀ t h', Fr h₀ L h' m → News h₀ L h' news' → Q (.str (ss.getD i.toNat Str.empty) t) { s with heap := h' }) : wpAny (model prog w) A (call (.builtin "list.pop") [.ref D, .int i u]) Q E s := by
  have hl : i.toNat < ss.length := by omega
  have e : ss[i.toNat]? = some (ss.getD i.toNat Str.empty) := by simp [List.getD, hl]
  obtain ⟨t, ht⟩ := hs.at e
  have hlen := hs.len_eq
  have hlv : i.toNat < vs.length := by omega
  refine kl_popAt (k := i.toNat) (p := vs.take i.toNat) (q := vs.drop (i.toNat + 1)) (y := .str (ss.getD i.toNat Str.empty) t) F N ?_ ?_ ?_ U (by show vs.length ≤ _; exact le_line (by omega)) (fun h' F' N' => h t h' F' N')
  · unfold Builtin.List.listFitsIndex; simp; omega
  · rw [List.size_toArray]; exact StrLaws.seqIndex_nonneg h0 (by omega)
  · exact cut_at vs _ _ ht
theorem rest_strs {vs : List Value} {ss : List Str} (hs : StrsAre vs ss) (k : Nat) : StrsAre (vs.take k ++ vs.drop (k + 1)) (ss.take k ++ ss.drop (k + 1)) := (hs.take' k).append' (hs.drop' (k + 1))
theorem rest_perm {α : Type} (ss rs : List α) (k : Nat) (d : α) (hk : k < ss.length) : ((ss.take k ++ ss.drop (k + 1)) ++ (rs ++ [ss.getD k d])).Perm (ss ++ rs) := by
  have e : ss = ss.take k ++ ss.getD k d :: ss.drop (k + 1) := by
    have hg : ss.getD k d = ss[k] := by simp [List.getD, hk]
    rw [hg, List.getElem_cons_drop, List.take_append_drop]
  generalize ss.getD k d = x at *
  generalize ss.take k = a at *
  generalize ss.drop (k + 1) = b at *
  subst e
  have h1 : (a ++ b ++ (rs ++ [x])).Perm (x :: (a ++ b ++ rs)) := by
    rw [← List.append_assoc]
    exact (List.perm_append_comm).trans (by simp)
  refine h1.trans ?_
  rw [List.append_assoc a (x :: b) rs, List.cons_append, List.append_assoc a b rs]
  exact List.perm_middle.symm
end

theorem off2 {ra pa : Addr} {news own : List (Addr × Obj)} (hlt : pa < ra) (hnw : ∀ p ∈ news, p.1 < pa) (hoff : OwnOff own (ra :: pa :: news.map (·.1))) : ra ≠ pa ∧ pa ≠ ra ∧ (∀ p ∈ news ++ own, p.1 ≠ pa) ∧ (∀ p ∈ news ++ own, p.1 ≠ ra) := by
  have h1 : (pa : Nat) < ra := hlt
  refine ⟨Nat.ne_of_gt h1, Nat.ne_of_lt h1, fun p hp => ?_, fun p hp => ?_⟩
  · rcases List.mem_append.mp hp with h | h
    · exact Nat.ne_of_lt (hnw p h)
    · exact hoff p h _ (by simp)
  · rcases List.mem_append.mp hp with h | h
    · exact Nat.ne_of_lt (Nat.lt_trans (hnw p h) h1)
    · exact hoff p h _ (by simp)

def menu : List Str := ["(", ")", "(\")\"", ")\"((\"", "(\"\\\")\"", ")a", "(b", ") "].map Str.ofString

def JLaid (sc ra pa : Addr) (news : List (Addr × Obj)) (i : Nat) (m : Str → Option Value) (nx : List (Addr × Obj)) : Prop :=
  ∃ ps rs sp sr e1 e2, nx = (ra, listOf (List.toArray rs) e1) :: (pa, listOf (List.toArray ps) e2) :: news ∧ m (Str.ofString "script") = some (.ref sc) ∧ m (Str.ofString "row") = some (.ref ra) ∧ m (Str.ofString "pieces") = some (.ref pa) ∧
    StrsAre ps sp ∧ StrsAre rs sr ∧ sp.length + i = 8 ∧ sr.length = i ∧ (sp ++ sr).Perm menu ∧ pa < ra ∧ ∀ p ∈ news, p.1 < pa

theorem laid_end {g h' : Heap} {L' : Addr} {m' : Str → Option Value} {sc ra pa : Addr} {news own : List (Addr × Obj)} {ps rs : List Value} {sp sr : List Str} {k i : Nat} {t : Tok} {e1 e2 tk : Nat} {s₁ : Shared}
    (F : Fr g L' h' m') (N : News g L' h' ((ra, listOf (rs.toArray.push (.str (sp.getD k Str.empty) t)) e1) :: (pa, listOf (ps.take k ++ ps.drop (k + 1)).toArray e2) :: (news ++ own)))
    (h1 : m' (Str.ofString "script") = some (.ref sc)) (h2 : m' (Str.ofString "row") = some (.ref ra)) (h3 : m' (Str.ofString "pieces") = some (.ref pa))
    (hk : k < sp.length) (hsp : StrsAre ps sp) (hsr : StrsAre rs sr) (hlen : sp.length + i = 8) (hrl : sr.length = i) (hperm : (sp ++ sr).Perm menu) (hlt : pa < ra) (hnw : ∀ p ∈ news, p.1 < pa) :
    InvEndN g L' (JLaid sc ra pa news (i + 1)) own (ra :: pa :: news.map (·.1)) s₁ { s₁ with heap := h', toks := tk } := by
  rw [List.push_toArray] at N
  refine InvEndN.intro (nx := (ra, listOf (List.toArray (rs ++ [.str (sp.getD k Str.empty) t])) e1) :: (pa, listOf (List.toArray (ps.take k ++ ps.drop (k + 1))) e2) :: news) F N ⟨_, _, _, _, _, _, rfl, h1, h2, h3, rest_strs hsp k, hsr.append' (.cons _ t .nil), ?_, ?_, (rest_perm sp sr k Str.empty hk).trans hperm, hlt, hnw⟩ rfl ?_ ?_
  · simp; omega
  · simp; omega
  · intro p hp
    rcases List.mem_cons.mp hp with h | h
    · exact h ▸ .head _
    · rcases List.mem_cons.mp h with h | h
      · exact h ▸ .tail _ (.head _)
      · exact .tail _ (.tail _ (List.mem_append_left _ h))
  · exact fun p hp => .tail _ (.tail _ (List.mem_append_right _ hp))

local macro_rules | `(tactic| walk_at "call builtin:list.pop") => `(tactic| (k_here; k_dflt (refine' pop_str ?F ?N ?S ?h0 ?h1 ?hz ?U ?_; (case F => k_asm); (case N => k_asm); (case U => exact Upd.tail (by assumption) (Upd.head (by assumption))); (case S => assumption); (case h0 => exact Int.fmod_nonneg_of_pos _ (by omega)); (case h1 => exact Int.fmod_lt_of_pos _ (by omega)); (case hz => omega)); intro _ _ _ _))
local macro_rules | `(tactic| walk_at "call builtin:list.append") => `(tactic| (k_here; k_dflt (refine' append_K ?F ?N ?U ?_ ?z; (case F => k_asm); (case N => k_asm); (case U => exact Upd.head (List.forall_mem_cons.mpr ⟨by assumption, by assumption⟩)); (case z => (rw [List.size_toArray]; exact le_line (by omega)))); intro _ _ _))
local macro_rules | `(tactic| walk_at "pyIter ref") => `(tactic| (k_here; refine Stop.out ?_))

section
variable {w : World} {p : Program} {loose : List Str} {mean : ExcName → Option Value} {mg mb : Str → Option Value} {dp un : Nat} {gd : Option (List Code)} {cn : Str} {cs : Scope} {a : Addr} {ccd : Value} {cl : List (Str × Addr)} {outer : List Env} {A₀ : Around} {base h₀ : Heap} {L : Addr} {m : Str → Option Value} {s : Shared} {Q E : Value → Shared → Prop} {news : List (Addr × Obj)}

theorem laid_c {sc : Addr} {vs : List Value} {ns : List Int} (C : Cx w p loose mean mg mb dp un cn cs L a ccd cl outer A₀ base h₀ m s news)
    (hl : h₀.IsList sc vs.toArray) (hi : IntsAre vs ns) (hn : ns.length ≤ 63)
    (ret : ∀ l' vs' xs n' h' tk', Fr h₀ L h' m → News h₀ L h' ((l', listOf (List.toArray vs') n') :: news) → (∀ p ∈ news, p.1 < l') → StrsAre vs' xs → xs.Perm menu → Q (.ref l') { s with heap := h', toks := tk' }) :
    wpAny (model PySem.Challenge.rw_xo0011_01.row.prog w) (ktrTop dp un gd cn cs L a ccd cl outer) (call (.ref 100) [.ref sc]) Q E s := by
  obtain ⟨B, F, X, N, T, hk, hd, hu⟩ := C
  w_top off
  revert X; k_fill; intro X
  refine wpAny_call ?_
  k_dflt cell_enter
  k_steps
  · refine Stop.mk ?_
    rename News _ _ _ _ => hN
    rename Fr _ _ _ _ => hF
    rename IsRange _ _ _ _ _ _ _ _ => hR
    rename Fr h₀ L _ m => FG
    rename _ ∧ AllLt _ _ => l1
    rename ∀ p ∈ news, _ => l2
    have hlg := Fr.lst FG hl
    with_unfolding_all refine rng2 (n := 8) (JLaid sc) rfl hR ?_ (by decide) hF hN ?_ ?_ ?_
    · rfl
    · exact ⟨_, _, menu, [], _, _, rfl, by with_unfolding_all rfl, by with_unfolding_all rfl, by with_unfolding_all rfl, by unfold menu; repeat' constructor, .nil, rfl, rfl, by simp, l1.1, l2⟩
    · intro i t m₁ nx h tk own hi8 hoff hJ F N
      obtain ⟨ps, rs, sp, sr, e1, e2, rfl, hsc, hrow, hpc, hsp, hsr, hlen, hrl, hperm, hlt, hnw⟩ := hJ
      replace F := fr_ext F (ins (ins (ins rfl hpc) hrow) hsc)
      have hpl : ps.length + i = 8 := by rw [hsp.len_eq]; exact hlen
      have hrv : rs.length = i := by rw [hsr.len_eq]; exact hrl
      rw [List.cons_append, List.cons_append] at N
      obtain ⟨u0, u0', u1, u2⟩ := off2 hlt hnw hoff
      have hsp0 := hsp
      have hfm : ∀ x : Int, (Int.fmod x sp.length).toNat < sp.length := fun x => by
        have h1 := Int.fmod_nonneg_of_pos x (b := (sp.length : Int)) (by omega)
        have h2 := Int.fmod_lt_of_pos x (b := (sp.length : Int)) (by omega)
        omega
      k_steps
      · rename News _ _ _ _ => N'
        rename Fr _ _ _ _ => F'
        rename StrsAre rs sr => hsr1
        rename StrsAre ps sp => hsp1
        exact laid_end F' N' (by with_unfolding_all rfl) (by with_unfolding_all rfl) (by with_unfolding_all rfl) (hfm _) hsp1 hsr1 hlen hrl hperm hlt hnw
      · rename News _ _ _ _ => N'
        rename Fr _ _ _ _ => F'
        rename StrsAre rs sr => hsr1
        rename StrsAre ps sp => hsp1
        exact laid_end F' N' (by with_unfolding_all rfl) (by with_unfolding_all rfl) (by with_unfolding_all rfl) (hfm _) hsp1 hsr1 hlen hrl hperm hlt hnw
    · intro m₁ nx h tk hJ F N
      obtain ⟨ps, rs, sp, sr, e1, e2, rfl, hsc, hrow, hpc, hsp, hsr, hlen, hrl, hperm, hlt, hnw⟩ := hJ
      replace F := fr_ext0 F (ins (ins (ins rfl hpc) hrow) hsc)
      have hsp0 : sp = [] := List.length_eq_zero_iff.mp (by omega)
      subst hsp0
      k_steps
      rename News _ _ _ _ => N'
      rename Fr _ _ _ _ => F'
      rename StrsAre rs sr => hsr1
      exact ret _ _ _ _ _ _ F' (news_head N' (fun p hp => by simp [hp])) (fun p hp => Nat.lt_trans (hnw p hp) hlt) hsr1 hperm
end
end Mine
open PySem PySem.W PyProof.Rows PySem.Calls PyProof.V PySem.Spec
namespace Mine
set_option maxRecDepth 100000
set_option maxHeartbeats 8000000
theorem idxOf_at {ds : List Int} {i : Nat} {x d : Int} (h : ds[i]? = some d) (e : d = x) (hn : x ∉ ds.take i) : ds.idxOf x = i := by
  subst e
  induction ds generalizing i with
  | nil => cases h
  | cons a r ih =>
    cases i with
    | zero => simp at h; simp [h, List.idxOf_cons]
    | succ k =>
      simp only [List.getElem?_cons_succ] at h
      simp only [List.take_succ_cons, List.mem_cons, not_or] at hn
      rw [List.idxOf_cons, ih h hn.2]
      have : (a == d) = false := by simpa using Ne.symm hn.1
      simp [this]
def JIdx (l : Addr) (x : Int) (tx : Tok) (ds : List Int) (i : Nat) (m : Str → Option Value) : Prop := m (Str.ofString "a") = some (.ref l) ∧ m (Str.ofString "b") = some (.int x tx) ∧ x ∉ ds.take i
local macro_rules | `(tactic| walk_at "compareOp Is int int") => `(tactic| (k_here; refine is_ints (by k_in) (by assumption) (by assumption) (by assumption) ?_ ?_ <;> try intro _))
local macro_rules | `(tactic| walk_at "EnumNext") => `(tactic| (dsimp only [EnumNext]))
section
variable {w : World} {p : Program} {loose : List Str} {mean : ExcName → Option Value} {mg mb : Str → Option Value} {dp un : Nat} {gd : Option (List Code)} {cn : Str} {cs : Scope} {a : Addr} {ccd : Value} {cl : List (Str × Addr)} {outer : List Env} {A₀ : Around} {base h₀ : Heap} {L : Addr} {m : Str → Option Value} {s : Shared} {Q E : Value → Shared → Prop} {news : List (Addr × Obj)}

theorem le_c {x y : Int} {tx ty : Tok} (C : Cx w p loose mean mg mb dp un cn cs L a ccd cl outer A₀ base h₀ m s news)
    (ret : ∀ h' tk', Fr h₀ L h' m → News h₀ L h' news → Q (.bool (decide (x ≤ y))) { s with heap := h', toks := tk' }) :
    wpAny (model PySem.Challenge.rw_xo0011_01.row.prog w) (ktrTop dp un gd cn cs L a ccd cl outer) (call (.ref 72) [.int x tx, .int y ty]) Q E s := by
  obtain ⟨B, F, X, N, T, hk, hd, hu⟩ := C
  w_top off
  revert X; k_fill; intro X
  refine wpAny_call ?_
  k_dflt cell_enter
  k_steps
  rename News _ _ _ _ => N'
  rename Fr _ _ _ _ => F'
  exact ret _ _ F' N'

theorem idx_c {l : Addr} {vs : List Value} {ds : List Int} {n : Nat} {x : Int} {tx : Tok} (C : Cx w p loose mean mg mb dp un cn cs L a ccd cl outer A₀ base h₀ m s news)
    (hl : (l, listOf vs.toArray n) ∈ news) (hi : IntsAre vs ds) (hn : ds.length ≤ 8) (hx : x ∈ ds) (hT : ToksIn tx vs)
    (ret : ∀ t h' tk', Fr h₀ L h' m → News h₀ L h' news → Q (.int (ds.idxOf x) t) { s with heap := h', toks := tk' }) :
    wpAny (model PySem.Challenge.rw_xo0011_01.row.prog w) (ktrTop dp un gd cn cs L a ccd cl outer) (call (.ref 86) [.ref l, .int x tx]) Q E s := by
  obtain ⟨B, F, X, N, T, hk, hd, hu⟩ := C
  have hvl : vs.length = ds.length := hi.length
  have ret1 : ∀ (j : Nat) t h' tk', ds.idxOf x = j → Fr h₀ L h' m → News h₀ L h' news → Q (.int (j : Int) t) { s with heap := h', toks := tk' } := fun j t h' tk' e => e ▸ ret t h' tk'
  w_top off
  revert X; k_fill; intro X
  have N1 : News h₀ L s.heap ((l, listOf vs.toArray n) :: news) := news_cons N hl
  clear N
  refine wpAny_call ?_
  k_dflt cell_enter
  k_steps
  refine wpAny_For ?_ ?_
  · k_steps
    rename News _ _ _ _ => hN
    rename Fr _ _ _ _ => hF
    with_unfolding_all refine enumLoop (l := l) (vs := vs) (n := n) rfl rfl rfl rfl hF hN (.head _) (JIdx l x tx ds) ?_ ?_ ?_
    · exact ⟨by with_unfolding_all rfl, by with_unfolding_all rfl, by simp⟩
    · intro e it i v t m₁ h tk oi' h₂ hv hJ F N
      obtain ⟨ha, hb, hJ⟩ := hJ
      replace F := fr_ext2 F (ins (ins rfl hb) ha)
      rename IntsAre vs ds => hi1
      obtain ⟨d, td, rfl, hdi⟩ := hi1.at i v (by simpa using hv)
      have hT1 := hT _ (List.mem_of_getElem? hv)
      change 0 < td ∧ td < tx at hT1
      have t1 : td ≠ 0 := Nat.ne_of_gt hT1.1
      have t2 : tx ≠ 0 := Nat.ne_of_gt (Nat.lt_trans hT1.1 hT1.2)
      have t3 : td = tx → d = x := fun e => absurd e (Nat.ne_of_lt hT1.2)
      (with_reducible show wpAny _ _ (execs _ _) _ _ _); k_fold
      k_steps
      · rename News _ _ _ _ => N'
        rename Fr _ _ _ _ => F'
        rename d = x => hdx
        exact ret1 _ _ _ _ (idxOf_at hdi hdx hJ) F' (fun p hp => N' p (by simp [hp]))
      · rename News _ _ _ _ => N'
        rename Fr _ _ _ _ => F'
        rename d = x => hdx
        exact ret1 _ _ _ _ (idxOf_at hdi hdx hJ) F' (fun p hp => N' p (by simp [hp]))
      · rename News _ _ _ _ => N'
        rename Fr _ _ _ _ => F'
        rename ¬ d = x => hdx
        exact ⟨_, _, _, rfl, F', N', by with_unfolding_all rfl, by with_unfolding_all rfl, by
          rw [List.take_add_one, hdi]
          simp only [Option.toList_some, List.mem_append, List.mem_singleton, not_or]
          exact ⟨hJ, fun e => hdx e.symm⟩⟩
    · intro m₁ h tk hJ F N
      exfalso
      have hJ2 := hJ.2.2
      rw [List.take_of_length_le (by omega)] at hJ2
      exact hJ2 hx
  · intro x; rfl
end
end Mine
open PySem PySem.W PyProof.Rows PySem.Calls PyProof.V PySem.Spec
namespace Mine
set_option maxRecDepth 100000
set_option maxHeartbeats 8000000
structure RetK (P : Heap → Nat → Prop) : Prop where
  ret : ∀ h' tk', P h' tk'
local macro_rules | `(tactic| x_close) => `(tactic| ((rename W.X.Mem _ _ _ _ => D9); (rename RetK _ => R9); exact R9.ret _ _ (fun b o e => D9.keep b o e (by simp [W.X.away]))))
theorem hasattr_list {w : World} {A : Around} {E : Value → Shared → Prop} {s : Shared} {Q : Value → Shared → Prop} {l : Addr} {its : Array Value} {n : Nat} {t : Tok} (X : (hdK.heap_39 w.params).In s.heap)
    (hl : s.heap.get? l = some ⟨.type "list", none, .seq its n, #[]⟩)
    (R : RetK fun h' tk' => (∀ b o, s.heap.get? b = some o → h'.get? b = some o) → Q (.bool true) { s with heap := h', toks := tk' }) :
    wpAny (model PySem.Challenge.rw_xo0011_01.row.prog w) A (call (.builtin "hasattr") [.ref l, .str (Str.ofString "__getitem__") t]) Q E s := by
  w_top off
  revert X; k_fill; intro X
  open PySem.W.XRun in x_run

section
variable {prog : Program} {w : World} {A : Around} {E : Value → Shared → Prop} {s : Shared} {h₀ : Heap} {L l b : Addr} {m : Str → Option Value} {news news' : List (Addr × Obj)} {vs ws : List Value} {n n2 : Nat} {Q : Value → Shared → Prop}
theorem seq_list_iadd : seqSlot? (.type "list") (dunderI "add") = pure (some (.builtin "list.__iadd__")) := PySem.seqSlot_of PySem.F.slot_list_iadd.lookup (by decide +kernel)
theorem iadd_list (F : Fr h₀ L s.heap m) (N : News h₀ L s.heap ((l, listOf vs.toArray n) :: news)) (hb : (b, listOf ws.toArray n2) ∈ news) (hoff : ∀ p ∈ news, p.1 ≠ l) (hz : vs.length + ws.length ≤ 1000)
    (h : ∀ h' n', Fr h₀ L h' m → News h₀ L h' ((l, listOf (vs ++ ws).toArray n') :: news) → Q (.ref l) { s with heap := h' }) :
    wpAny (model prog w) A (inplaceOp .Add (.ref l) (.ref b)) Q E s := by
  have hl := N _ (.head _)
  have hB := N _ (.tail _ hb)
  have ha : s.TypeIs (.ref l) "list" := ⟨_, hl.1, rfl⟩
  have hb' : s.TypeIs (.ref b) "list" := ⟨_, hB.1, rfl⟩
  unfold inplaceOp
  refine wpAny_holding ?_
  have hfi : fillsInplaceSlot (.type "list") "add" (Operator.Add == .Add) = pure false := by
    unfold fillsInplaceSlot
    show (typeLookup (.type "list") (dunderI "add") >>= fun fi => pure (fi.isSome && !isSeqSlot fi)) = pure false
    rw [PySem.F.slot_list_iadd.lookup]
    show (pure (true && !isSeqSlot (some (.builtin "list.__iadd__"))) : Sem Bool) = pure false
    rw [show isSeqSlot (some (.builtin "list.__iadd__")) = true by decide +kernel]
    rfl
  refine wpAny_bind (wpAny_typeOf ha (wpAny_bind (wpAny_of_eq hfi ?_)))
  show wpAny _ A (if false = true then _ else _) Q E s
  rw [if_neg Bool.false_ne_true]
  refine wpAny_bind (wpAny_binaryOp1_none (nm := "add") ha hb' noFill_list_add ?_)
  refine wpAny_bind (wpAny_of_eq seq_list_iadd ?_)
  refine wpAny_bind (wpAny_rule ?_)
  have hs : (vs.toArray ++ ws.toArray) = (vs ++ ws).toArray := by simp
  have hs1 : vs.toArray.size ≤ sizeLine := by rw [List.size_toArray]; exact le_line (by omega)
  have hs2 : vs.toArray.size + ws.toArray.size ≤ sizeLine + 1 := by rw [List.size_toArray, List.size_toArray]; exact Nat.le_succ_of_le (le_line (by omega))
  have hs0 : ¬(!vs.toArray.isEmpty && Builtin.List.listTooLong (vs.toArray.size + ws.toArray.size)) = true := extend_door (by rw [List.size_toArray, List.size_toArray]; exact le_line (by omega))
  refine call_meets PySem.F.slot_list_iadd ha PySem.F.entry_list_iadd (PySem.F.args_list_iadd_2 _ _) (PySem.AutoSeq1.list___iadd___list_list_0 l vs.toArray n b ws.toArray n2 hs0 hs1 hs2) ⟨hl.1, hB.1, ?_⟩
  have q := PySem.IsL.update hl.1 (fun x => x ++ ws.toArray)
  rw [hs] at q
  exact h _ _ (F.change (Heap.SameBut.update ..) hl.2.1 hl.2.2) (news_set (pre := []) N (fun _ h => nomatch h) hoff (Heap.SameBut.update ..) q)
end
local macro_rules | `(tactic| walk_at "call builtin:hasattr") => `(tactic| (k_here; k_dflt (refine' hasattr_list ?X ?l ⟨?_⟩; (case X => k_in); (case l => exact News.get (by k_asm) (by k_mem))); intro h9 tk9 k9; (rename News _ _ _ _ => N9); (rename Fr _ _ _ _ => F9); (have F8 := fr_keep F9 k9); (have N8 := news_keep N9 k9); clear F9 N9 k9))
local macro_rules | `(tactic| walk_at "inplaceOp Add ref") => `(tactic| (k_here; k_dflt (refine' iadd_list ?F ?N ?b ?o ?z ?_; (case F => k_asm); (case N => k_asm); (case b => assumption); (case o => assumption); (case z => assumption)); intro _ _ _ _))
section
variable {w : World} {p : Program} {loose : List Str} {mean : ExcName → Option Value} {mg mb : Str → Option Value} {dp un : Nat} {gd : Option (List Code)} {cn : Str} {cs : Scope} {a : Addr} {ccd : Value} {cl : List (Str × Addr)} {outer : List Env} {A₀ : Around} {base h₀ : Heap} {L : Addr} {m : Str → Option Value} {s : Shared} {Q E : Value → Shared → Prop} {news : List (Addr × Obj)}

theorem iconcat_c {l b : Addr} {vs ws : List Value} {n n' : Nat} (C : Cx w p loose mean mg mb dp un cn cs L a ccd cl outer A₀ base h₀ m s ((l, listOf vs.toArray n) :: news))
    (hl : (b, listOf ws.toArray n') ∈ news) (hoff : ∀ p ∈ news, p.1 ≠ l) (hz : vs.length + ws.length ≤ 1000)
    (ret : ∀ h' tk' n'', Fr h₀ L h' m → News h₀ L h' ((l, listOf (vs ++ ws).toArray n'') :: news) → Q (.ref l) { s with heap := h', toks := tk' }) :
    wpAny (model PySem.Challenge.rw_xo0011_01.row.prog w) (ktrTop dp un gd cn cs L a ccd cl outer) (call (.ref 93) [.ref l, .ref b]) Q E s := by
  obtain ⟨B, F, X, N, T, hk, hd, hu⟩ := C
  w_top off
  revert X; k_fill; intro X
  refine wpAny_call ?_
  k_dflt cell_enter
  k_steps
  rename News _ _ _ _ => N'
  rename Fr _ _ _ _ => F'
  exact ret _ _ _ F' N'
end
end Mine
open PySem PySem.W PyProof.Rows PySem.Calls PyProof.V PySem.Spec
namespace Mine
set_option maxRecDepth 100000
set_option maxHeartbeats 4000000
abbrev asc : String := "str_ascii_iterator"
section
variable {prog : Program} {w : World} {A : Around} {E : Value → Shared → Prop} {s : Shared} {Q : Option Value → Shared → Prop} {e it : Addr} {x : Str} {t : Tok} {i : Nat} {old : Value}
theorem enum_sign {c : Nat} (hh : A.handled = none) (he : IsEnum s.heap e it i old) (hit : s.heap.IsStrIter it asc x t i) (hx : x.cps[i]? = some c) (hne : e ≠ it)
    (go : ∀ h₁ tp ts tk, IsEnumOut h₁ e it ((i : Int) + 1) (.str ⟨#[c]⟩ ts) s.heap.objs.size → h₁.IsStrIter it asc x t (i + 1) →
      h₁.get? s.heap.objs.size = some { cls := .type "tuple", data := .seq #[.int i tp, .str ⟨#[c]⟩ ts] } → (∀ b o, b ≠ e → b ≠ it → s.heap.get? b = some o → h₁.get? b = some o) →
      Q (some (.ref s.heap.objs.size)) { s with heap := h₁, toks := tk }) : wpAny (model prog w) A (pyNext (.ref e)) Q E s := by
  have hi : i < x.cps.size := (Array.getElem?_eq_some_iff.mp hx).1
  refine wpAny_pyNext_enum_itemD (Draws.strAscii (A := A.in1) hh it x t) he hit hi hne (fun m => hne (List.mem_singleton.mp m)) fun v h₁ tk hv ho hst ht _ hk => ?_
  obtain ⟨c', ts, hc', rfl⟩ := hv
  have hcc : c' = c := Option.some.inj (hc'.symm.trans hx)
  subst hcc
  exact go h₁ tk ts (tk + 1) ho hst ht hk
theorem enum_over (hh : A.handled = none) (he : IsEnum s.heap e it i old) (hit : s.heap.IsStrIter it asc x t i) (hi : i = x.cps.size)
    (go : ∀ h₁, Heap.ExtBut it s.heap h₁ → Q none { s with heap := h₁ }) : wpAny (model prog w) A (pyNext (.ref e)) Q E s :=
  wpAny_pyNext_enum_endD (Draws.strAscii (A := A.in1) hh it x t) he (hi ▸ hit) go
end
end Mine
open PySem PySem.W PyProof.Rows PySem.Calls PyProof.V PySem.Spec
namespace Mine
set_option maxRecDepth 100000
set_option maxHeartbeats 4000000
section
variable {M : Model} {A : Around} {R : GenEnd} {Y : Protocol} {n : Nat} {s₀ : Shared} {c : Code} {fs : List Frame} {s : Shared} {env : Env}
  {K : Flow → Sem Fin} {H : Value → Sem Fin} {gd : Bool → Bool} {lv : List Value → List Value}

theorem seg_stmt {α : Type} {m : Sem α} {K : α → Sem Fin} (h : wpAny M (A.over c fs) m (fun f s' => Seg M A R Y n s₀ c (K f) fs s') (fun _ _ => False) s) :
    Seg M A R Y n s₀ c (m.wrap K H gd lv) fs s := seg_wrap (wpAny_mono h (fun _ _ x => x) fun _ _ x => x.elim)

theorem seg_bindw {α β : Type} {m : Sem α} {k : α → Sem β} {K : β → Sem Fin} (h : wpAny M (A.over c fs) m (fun a s' => Seg M A R Y n s₀ c ((k a).wrap K H gd lv) fs s') (fun _ _ => False) s) :
    Seg M A R Y n s₀ c ((m >>= k).wrap K H gd lv) fs s := by
  rw [Sem.bind_eq_wrap', Sem.wrap_wrap]
  exact seg_stmt h

theorem seg_If {test : Expr} {body orelse : List Stmt} {pos : Pos}
    (h : wpAny M (A.over c fs) (isTrue test env (eval test env)) (fun b s' => if b = true then Seg M A R Y n s₀ c ((execs body env).wrap K H gd lv) fs s' else Seg M A R Y n s₀ c ((execs orelse env).wrap K H gd lv) fs s') (fun _ _ => False) s) :
    Seg M A R Y n s₀ c ((exec (.If test body orelse pos) env).wrap K H gd lv) fs s := by
  rw [exec_If]
  refine seg_bindw (wpAny_standAt (seg_bindw (wpAny_mono h (fun b s' hb => ?_) fun _ _ x => x)))
  cases b with
  | true => simpa using hb
  | false => simpa using hb

abbrev forK (K : Flow → Sem Fin) (H : Value → Sem Fin) (gd : Bool → Bool) (lv : List Value → List Value) (env : Env) : Result → Sem Fin := fun r =>
  ((match r with | .ok f => (.pure f : Sem Flow) | .error e => .raise e).onRaise fun (x : Value) => do
        if (← field x 1) == Value.none then unsupported "frame.own-activation:exception-without-traceback"
        setFlight x env.frame).wrap K H gd lv

theorem seg_For {target iter : Expr} {body orelse : List Stmt} {pos : Pos}
    (h : wpAny M (A.over c fs) (eval iter env) (fun x s₁ => wpAny M (A.over c fs) (pyIter x) (fun it s₂ => ∀ p,
        Seg M A R Y n s₀ (.forLoop target it body orelse env) (M.den (.forLoop target it body orelse env)) (.ret (forK K H gd lv env) none (gd false) (lv []) c p [] :: fs) s₂) (fun _ _ => False) s₁) (fun _ _ => False) s)
    (hs : ∀ x, foldedSetIterable iter env x = pure x := by intro _; rfl) :
    Seg M A R Y n s₀ c ((exec (.For target iter body orelse pos) env).wrap K H gd lv) fs s := by
  rw [exec_For]
  refine seg_bindw (wpAny_standAt (seg_bindw (wpAny_mono h (fun x s₁ h₁ => ?_) fun _ _ x => x)))
  refine seg_bindw (wpAny_of_eq (hs x) (seg_bindw (wpAny_standAt ?_)))
  refine seg_bindw (wpAny_holding (wpAny_mono h₁ (fun it s₂ h₂ => ?_) fun _ _ x => x))
  exact seg_call h₂
end

section
variable {prog : Program} {w : World} {A : Around} {R : GenEnd} {Y : Protocol} {n : Nat} {s₀ : Shared} {fs : List Frame} {s : Shared} {env : Env}

abbrev loopK (target : Expr) (it : Value) (body orelse : List Stmt) (env : Env) : Flow → Sem Fin := fun f => match f with
            | .next | .cont => .pure (.again (.forLoop target it body orelse env))
            | .brk => .pure (.done .next)
            | .ret v => .pure (.done (.ret v))
abbrev loopH (env : Env) : Value → Sem Fin := fun e => (do noteFrame e env; theTreesLotGoes e : Sem Unit).wrap (fun _ => .raise e) .raise id id

theorem seg_forLoop {target : Expr} {it : Value} {body orelse : List Stmt}
    (hq : (Code.block orelse env).quiet = true)
    (h : wpAny (model prog w) (A.over (.forLoop target it body orelse env) fs) (pyNext it) (fun r s₁ => match r with
      | none => Seg (model prog w) A R Y n s₀ (.block orelse env) ((model prog w).den (.block orelse env)) fs s₁
      | some v => wpAny (model prog w) (A.over (.forLoop target it body orelse env) fs) (letOwnedTupleGo target it v) (fun _ s₂ =>
          wpAny (model prog w) (A.over (.forLoop target it body orelse env) fs) (assign target env v) (fun _ s₃ =>
            Seg (model prog w) A R Y n s₀ (.forLoop target it body orelse env) ((execs body env).wrap (loopK target it body orelse env) (loopH env) id id) fs s₃) (fun _ _ => False) s₂) (fun _ _ => False) s₁) (fun _ _ => False) s) :
    Seg (model prog w) A R Y n s₀ (.forLoop target it body orelse env) ((model prog w).den (.forLoop target it body orelse env)) fs s := by
  show Seg _ A R Y n s₀ _ ((forTurn target it body orelse env).onRaise (fun x => do noteFrame x env; theTreesLotGoes x)) fs s
  unfold forTurn
  rw [Sem.onRaise_eq_wrap]
  refine seg_bindw (wpAny_standAt (seg_bindw (wpAny_onRaise (wpAny_mono h (fun r s₁ h₁ => ?_) fun _ _ x => x.elim))))
  cases r with
  | none => exact seg_again hq h₁
  | some v =>
    refine seg_bindw (wpAny_mono h₁ (fun _ s₂ h₂ => ?_) fun _ _ x => x)
    refine seg_bindw (wpAny_mono h₂ (fun _ s₃ h₃ => ?_) fun _ _ x => x)
    rw [Sem.bind_eq_wrap', Sem.wrap_wrap]
    rw [Sem.wrap_congr (execs body env) _ _ (K' := loopK target it body orelse env) (H' := loopH env) (fun f => by cases f <;> rfl)
        (fun e => by first | exact Sem.bind_eq_wrap _ _ | (show (do noteFrame e env; theTreesLotGoes e : Sem Unit).bind (fun _ => .raise e) = _; rw [Sem.bind_eq_wrap]))]
    exact h₃

theorem seg_block {stmts : List Stmt} (h : Seg (model prog w) A R Y n s₀ (.block stmts env) ((execs stmts env).wrap (fun f => .pure (.done f)) (loopH env) id id) fs s) :
    Seg (model prog w) A R Y n s₀ (.block stmts env) ((model prog w).den (.block stmts env)) fs s := by
  show Seg _ A R Y n s₀ _ (((execs stmts env).onRaise (fun x => do noteFrame x env; theTreesLotGoes x)) >>= fun f => .pure (.done f)) fs s
  rw [Sem.onRaise_eq_wrap, Sem.bind_eq_wrap', Sem.wrap_wrap]
  rw [Sem.wrap_congr (execs stmts env) _ _ (K' := fun f => (.pure (.done f) : Sem Fin)) (H' := loopH env) (fun f => by rfl)
        (fun e => by first | exact Sem.bind_eq_wrap _ _ | (show ((do noteFrame e env; theTreesLotGoes e : Sem Unit).bind (fun _ => .raise e)).wrap _ _ _ _ = _; rw [Sem.bind_eq_wrap, Sem.wrap_wrap]; rfl))]
  exact h
end
end Mine
open PySem PySem.W PyProof.Rows PySem.Calls PyProof.V PySem.Spec
namespace Mine
set_option maxRecDepth 100000
set_option maxHeartbeats 4000000
def escPairs : Nat → Bool → List Nat → List (Nat × List Nat)
  | _, _, [] => []
  | i, true, c :: r => (i, [92, c]) :: escPairs (i + 1) false r
  | i, false, c :: r => if c = 92 then escPairs (i + 1) true r else (i, [c]) :: escPairs (i + 1) false r
def escEnd : Bool → List Nat → Bool
  | b, [] => b
  | true, _ :: r => escEnd false r
  | false, c :: r => if c = 92 then escEnd true r else escEnd false r

theorem lit_bs : Str.ofString "\\" = ⟨#[92]⟩ := by decide +kernel
theorem sign_eq {c d : Nat} : ((⟨#[c]⟩ : Str) == ⟨#[d]⟩) = decide (c = d) := by
  rw [Bool.eq_iff_iff]
  simp

section
variable {prog : Program} {w : World} {A : Around} {E : Value → Shared → Prop} {s : Shared} {env : Env} {m : Str → Option Value}

theorem ld_raw {x : Str} {pos : Pos} {v : Value} {Q : Value → Shared → Prop} (hk : env.scope.kind = .function) (hl : env.kindOf x = some .local) (hn : s.heap.Ns env.locals m) (hv : m x = some v) (h : Q v s)
    (hd : (x == ("__debug__" : Str)) = false := by decide) : wpAny (model prog w) A (eval (.Name x pos) env) Q E s :=
  wpAny_Name (wpAny_loadName_local hk hl hn hv h) hd

theorem isTrue_name {x : Str} {pos : Pos} {b : Bool} {Q : Bool → Shared → Prop} (hk : env.scope.kind = .function) (hl : env.kindOf x = some .local) (hn : s.heap.Ns env.locals m) (hv : m x = some (.bool b)) (h : Q b s)
    (hd : (x == ("__debug__" : Str)) = false := by decide) : wpAny (model prog w) A (isTrue (.Name x pos) env (eval (.Name x pos) env)) Q E s :=
  wpAny_isTrue_value (ld_raw hk hl hn hv (wpAny_truthy_bool h) hd)

theorem isTrue_eqc {x y : Str} {p1 p2 p3 : Pos} {k : Nat} {z : Str} {t : Tok} {Q : Bool → Shared → Prop} (hk : env.scope.kind = .function) (hl : env.kindOf x = some .local) (hn : s.heap.Ns env.locals m) (hv : m x = some (.str z t))
    (h : Q (z == y) { s with toks := s.toks + 1 }) (hd : (x == ("__debug__" : Str)) = false := by decide) :
    wpAny (model prog w) A (isTrue (.Compare (.Name x p1) [.Eq] [.Constant (.str y) k p2] p3) env (eval (.Compare (.Name x p1) [.Eq] [.Constant (.str y) k p2] p3) env)) Q E s :=
  wpAny_isTrue_Compare1 (ld_raw hk hl hn hv (wpAny_Constant_str (PyProof.Rows.eq_str (wpAny_truthy_bool h))) hd)

theorem pair_plain {x y : Str} {p1 p2 p3 : Pos} {k : Nat} {v u : Value} {Q : Value → Shared → Prop} (hk : env.scope.kind = .function) (hx : env.kindOf x = some .local) (hy : env.kindOf y = some .local) (hn : s.heap.Ns env.locals m)
    (hv : m x = some v) (hu : m y = some u) (h : Q (.ref s.heap.objs.size) { s with heap := s.heap.push { cls := .type "tuple", data := .seq #[v, u] } })
    (dx : (x == ("__debug__" : Str)) = false := by decide) (dy : (y == ("__debug__" : Str)) = false := by decide) :
    wpAny (model prog w) A (eval (.Tuple [.Name x p1, .Name y p2] k p3) env) Q E s :=
  Tuple_ (args_cons (ld_raw hk hx hn hv (args_cons (ld_raw hk hy hn hu (args_nil (wpAny_newTuple h)) dy)) dx))

theorem pair_glued {x y z : Str} {p1 p2 p3 p4 p5 : Pos} {k k' : Nat} {v : Value} {u : Str} {t : Tok} {Q : Value → Shared → Prop} (hk : env.scope.kind = .function) (hx : env.kindOf x = some .local) (hy : env.kindOf y = some .local) (hn : s.heap.Ns env.locals m)
    (hv : m x = some v) (hu : m y = some (.str u t)) (hz : z.length + u.length ≤ sizeLine)
    (h : ∀ t' tk, Q (.ref s.heap.objs.size) { s with toks := tk, heap := s.heap.push { cls := .type "tuple", data := .seq #[v, .str (z ++ u) t'] } })
    (dx : (x == ("__debug__" : Str)) = false := by decide) (dy : (y == ("__debug__" : Str)) = false := by decide) :
    wpAny (model prog w) A (eval (.Tuple [.Name x p1, .BinOp (.Constant (.str z) k' p2) .Add (.Name y p3) p4] k p5) env) Q E s :=
  Tuple_ (args_cons (ld_raw hk hx hn hv (args_cons (wpAny_BinOp (wpAny_Constant_str (ld_raw hk hy hn hu (PyProof.Rows.add_str (fun t' tk => args_nil (wpAny_newTuple (h t' tk))) hz) dy))) ) dx))
end

structure GEnv (env : Env) : Prop where
  k : env.scope.kind = .function
  co : env.scope.isCoroutine = false
  pos : env.kindOf (Str.ofString "pos") = some .local
  ch : env.kindOf (Str.ofString "ch") = some .local
  es : env.kindOf (Str.ofString "escape") = some .local
  int : interactive env = false
  p : (env.scope.kind == .class || (env.scope.kind == .module && env.locals != env.globals)) = false

def Since (own : List Addr) (s₀ s : Shared) : Prop := ∃ h' tk, s = { s₀ with heap := h', toks := tk } ∧ ∀ b o, b ∉ own → s₀.heap.get? b = some o → h'.get? b = some o
theorem Since.refl (own : List Addr) (s : Shared) : Since own s s := ⟨s.heap, s.toks, rfl, fun _ _ _ e => e⟩
theorem Since.step {own : List Addr} {s₀ s : Shared} (x : Since own s₀ s) {h' : Heap} {tk : Nat} (hk : ∀ b o, b ∉ own → s.heap.get? b = some o → h'.get? b = some o) : Since own s₀ { s with heap := h', toks := tk } := by
  obtain ⟨h₁, tk₁, rfl, hk₁⟩ := x
  exact ⟨h', tk, rfl, fun b o hb e => hk b o hb (hk₁ b o hb e)⟩

abbrev pairObj (it : Nat × List Nat) (tp ts : Tok) : Obj := { cls := .type "tuple", data := .seq #[.int (it.1 : Int) tp, .str ⟨it.2.toArray⟩ ts] }
def pairProto (C e I : Addr) (items : List (Nat × List Nat)) : Protocol := fun m s₀ v s kap =>
  ∃ T it tp ts oC oe oI, items[items.length - 1 - m]? = some it ∧ v = .ref T ∧ s.heap.get? T = some (pairObj it tp ts) ∧ s₀.heap.get? T = none ∧ T ∉ [C, e, I] ∧ Since [C, e, I] s₀ s ∧
    s.heap.get? C = some oC ∧ s.heap.get? e = some oe ∧ s.heap.get? I = some oI ∧
    ∀ s'' : Shared, s''.heap.get? C = some oC → s''.heap.get? e = some oe → s''.heap.get? I = some oI → kap (.send .none) s''
abbrev pairEnd (C e I : Addr) : GenEnd := fun n s₀ r s₁ => r = .ok (.ret .none) ∧ (n = 0 ∧ Since [C, e, I] s₀ s₁)

section
variable {q1 q2 q3 q4 q5 q6 q7 q8 q9 q10 q11 q12 q13 q14 q15 q16 q17 q18 q19 q20 q21 q22 q23 q24 r1 r2 r3 : Pos} {k1 k2 k3 k4 k5 k6 k7 : Nat}
abbrev iterTurn (q1 q2 q3 q4 q5 q6 q7 q8 q9 q10 q11 q12 q13 q14 q15 q16 q17 q18 q19 q20 q21 q22 q23 q24 : Pos) (k1 k2 k3 k4 k5 k6 : Nat) : List Stmt :=
  [.If (.Name (Str.ofString "escape") q1)
     [.Expr (.Yield (some (.Tuple [.Name (Str.ofString "pos") q2, .BinOp (.Constant (.str (Str.ofString "\\")) k1 q3) .Add (.Name (Str.ofString "ch") q4) q5] k2 q6)) q7) q8,
      .Assign [.Name (Str.ofString "escape") q9] (.Constant (.bool false) k3 q10) q11]
     [.If (.Compare (.Name (Str.ofString "ch") q12) [.Eq] [.Constant (.str (Str.ofString "\\")) k4 q13] q14)
        [.Assign [.Name (Str.ofString "escape") q15] (.Constant (.bool true) k5 q16) q17]
        [.Expr (.Yield (some (.Tuple [.Name (Str.ofString "pos") q18, .Name (Str.ofString "ch") q19] k6 q20)) q21) q22] q23] q24]
abbrev iterTarget (r1 r2 r3 : Pos) (k7 : Nat) : Expr := .Tuple [.Name (Str.ofString "pos") r1, .Name (Str.ofString "ch") r2] k7 r3

variable {prog : Program} {w : World} {A : Around}

theorem seg_iterLoop {env : Env} {e I : Addr} {x : Str} {t : Tok} {items : List (Nat × List Nat)} {c : Code} {p : Pos} {K : Flow → Sem Fin} {H : Value → Sem Fin}
    (hh : A.handled = none) (G : GEnv env) (heI : e ≠ I) (hCe : env.locals ≠ e) (hCI : env.locals ≠ I)
    (tail : ∀ s₀ s m, s.heap.Ns env.locals m → m (Str.ofString "escape") = some (.bool false) → Since [env.locals, e, I] s₀ s → Seg (model prog w) A (pairEnd env.locals e I) (pairProto env.locals e I items) 0 s₀ c (K .next) [] s) :
    ∀ (k i : Nat) (esc : Bool) (s₀ s : Shared) (m : Str → Option Value) (old : Value), x.cps.size - i = k → i ≤ x.cps.size → IsEnum s.heap e I i old → s.heap.IsStrIter I asc x t i → s.heap.Ns env.locals m → m (Str.ofString "escape") = some (.bool esc) →
      Since [env.locals, e, I] s₀ s → escEnd esc (x.cps.toList.drop i) = false → (∃ pre, items = pre ++ escPairs i esc (x.cps.toList.drop i)) →
      Seg (model prog w) A (pairEnd env.locals e I) (pairProto env.locals e I items) (escPairs i esc (x.cps.toList.drop i)).length s₀
        (.forLoop (iterTarget r1 r2 r3 k7) (.ref e) (iterTurn q1 q2 q3 q4 q5 q6 q7 q8 q9 q10 q11 q12 q13 q14 q15 q16 q17 q18 q19 q20 q21 q22 q23 q24 k1 k2 k3 k4 k5 k6) [] env)
        ((model prog w).den (.forLoop (iterTarget r1 r2 r3 k7) (.ref e) (iterTurn q1 q2 q3 q4 q5 q6 q7 q8 q9 q10 q11 q12 q13 q14 q15 q16 q17 q18 q19 q20 q21 q22 q23 q24 k1 k2 k3 k4 k5 k6) [] env))
        [.ret (forK K H id id env) none false [] c p []] s := by
  intro k
  induction k with
  | zero =>
    intro i esc s₀ s m old hk hi he hit hn hes hs hend hpre
    have hx : x.cps[i]? = none := Array.getElem?_eq_none (by omega)
    have hd : x.cps.toList.drop i = [] := List.drop_eq_nil_of_le (by simp; omega)
    rw [hd] at hend hpre ⊢
    have hesc : esc = false := by cases esc <;> simp_all [escEnd]
    subst hesc
    refine seg_forLoop rfl ?_
    refine enum_over hh he hit (by omega) fun h' hk' => ?_
    refine seg_block (seg_execs_nil (seg_leaf (.ok .next) ?_))
    exact tail s₀ _ _ (hn.at' fun o y => hk' _ o hCI y) hes (hs.step (tk := s.toks) fun b o hb y => hk' b o (fun q => hb (by simp [q])) y)
  | succ k ih =>
    intro i esc s₀ s m old hk hi he hit hn hes hs hend hpre
    have hlt : i < x.cps.size := by omega
    have hx : x.cps[i]? = some x.cps[i] := Array.getElem?_eq_getElem hlt
    have hd : x.cps.toList.drop i = x.cps[i] :: x.cps.toList.drop (i + 1) := by
      rw [List.drop_eq_getElem_cons (by simpa using hlt)]; simp
    generalize x.cps[i] = c0 at hx hd
    rw [hd] at hend hpre ⊢
    obtain ⟨pre, hpre⟩ := hpre
    refine seg_forLoop rfl ?_
    refine enum_sign hh he hit hx heI fun h₁ tp ts tk₁ he₁ hit₁ ht₁ hk₁ => ?_
    refine wpAny_letOwnedTupleGo_enum he₁ fun h₂ he₂ hs₂ => ?_
    replace hs₂ : Heap.SameBut e h₁ h₂ := hs₂
    have heH : e < s.heap.objs.size := Heap.lt_size he
    have hIH : I < s.heap.objs.size := by obtain ⟨o, ho, _⟩ := hit; exact Heap.lt_size ho
    have hCH : env.locals < s.heap.objs.size := hn.lt
    have ht₂ : h₂.IsTuple s.heap.objs.size #[.int i tp, .str ⟨#[c0]⟩ ts] := ⟨_, (hs₂.2 _ (Nat.ne_of_gt heH)).trans ht₁, rfl, _, rfl⟩
    refine wpAny_assign_Tuple hh ht₂ rfl rfl fun h₃ hx₃ => ?_
    have k₃ := keepAll hx₃
    replace k₃ : ∀ b o, h₂.get? b = some o → h₃.get? b = some o := k₃
    have up₂ : ∀ b o, b ≠ e → b ≠ I → s.heap.get? b = some o → h₂.get? b = some o := fun b o h1 h2 y => hs₂.extBut b o h1 (hk₁ b o h1 h2 y)
    have hn₃ : h₃.Ns env.locals m := hn.at' fun o y => k₃ _ o (up₂ _ o hCe hCI y)
    show wpAny _ _ (do holding [Value.str ⟨#[c0]⟩ ts] (assign (.Name (Str.ofString "pos") r1) env (.int i tp)); do holding [] (assign (.Name (Str.ofString "ch") r2) env (Value.str ⟨#[c0]⟩ ts)); pure ()) _ _ _
    refine wpAny_bind (wpAny_holding (wpAny_assign_Name (wpAny_storeName_local G.pos hn₃ (fun h₄ hn₄ hs₄ => ?_) G.p)))
    replace hs₄ : Heap.SameBut env.locals h₃ h₄ := hs₄
    refine wpAny_bind (wpAny_holding (wpAny_assign_Name (wpAny_storeName_local G.ch hn₄ (fun h₅ hn₅ hs₅ => wpAny_pure ?_) G.p)))
    replace hs₅ : Heap.SameBut env.locals h₄ h₅ := hs₅
    have up : ∀ b o, b ≠ env.locals → h₂.get? b = some o → h₅.get? b = some o := fun b o h1 y => hs₅.extBut b o h1 (hs₄.extBut b o h1 (k₃ b o y))
    have he₅ : IsEnum h₅ e I ((i + 1 : Nat) : Int) (.str ⟨#[c0]⟩ ts) := by
      have := up e _ (Ne.symm hCe) he₂
      simpa using this
    have hit₅ : h₅.IsStrIter I asc x t (i + 1) := by
      obtain ⟨o, ho, r⟩ := hit₁.extBut hs₂.extBut (Ne.symm heI)
      exact ⟨o, up I o (Ne.symm hCI) ho, r⟩
    have hes₅ : (fun y => if y = Str.ofString "ch" then some (Value.str ⟨#[c0]⟩ ts) else if y = Str.ofString "pos" then some (.int i tp) else m y) (Str.ofString "escape") = some (.bool esc) := by
      show (if _ then _ else if _ then _ else _) = _
      rw [if_neg (by decide), if_neg (by decide)]; exact hes
    have hch₅ : (fun y => if y = Str.ofString "ch" then some (Value.str ⟨#[c0]⟩ ts) else if y = Str.ofString "pos" then some (.int i tp) else m y) (Str.ofString "ch") = some (.str ⟨#[c0]⟩ ts) := by
      show (if _ then _ else if _ then _ else _) = _
      rw [if_pos rfl]
    have hpos₅ : (fun y => if y = Str.ofString "ch" then some (Value.str ⟨#[c0]⟩ ts) else if y = Str.ofString "pos" then some (.int i tp) else m y) (Str.ofString "pos") = some (.int i tp) := by
      show (if _ then _ else if _ then _ else _) = _
      rw [if_neg (by decide), if_pos rfl]
    generalize (fun y => if y = Str.ofString "ch" then some (Value.str ⟨#[c0]⟩ ts) else if y = Str.ofString "pos" then some (.int i tp) else m y) = m₅ at hn₅ hes₅ hch₅ hpos₅
    have hs₅' : Since [env.locals, e, I] s₀ { s with heap := h₅, toks := tk₁ + 1 + 1 } := hs.step fun b o hb y => by
      simp only [List.mem_cons, List.not_mem_nil, or_false, not_or] at hb
      exact up b o hb.1 (up₂ b o hb.2.1 hb.2.2 y)
    generalize tk₁ + 1 + 1 = tk₅ at hs₅'
    have hTn : ∀ h : Heap, (∀ b o, b ∉ [env.locals, e, I] → s₀.heap.get? b = some o → h.get? b = some o) → h.objs.size ∉ [env.locals, e, I] → s₀.heap.get? h.objs.size = none := fun h hk' hm => by
      cases q : s₀.heap.get? h.objs.size with
      | none => rfl
      | some o => exact absurd (Heap.lt_size (hk' _ o hm q)) (Nat.lt_irrefl _)
    have obC : ∃ oC, h₅.get? env.locals = some oC := let ⟨o, _, _, ho, _⟩ := hn₅; ⟨o, ho⟩
    obtain ⟨oC, hoC⟩ := obC
    obtain ⟨oI, hoI, hIr⟩ := id hit₅
    have hsz : h₅.objs.size ∉ [env.locals, e, I] := by
      have a1 := Heap.lt_size hoC
      have a2 := Heap.lt_size he₅
      have a3 := Heap.lt_size hoI
      simp only [List.mem_cons, List.not_mem_nil, or_false, not_or]
      exact ⟨Nat.ne_of_gt a1, Nat.ne_of_gt a2, Nat.ne_of_gt a3⟩
    have hnone : s₀.heap.get? h₅.objs.size = none := by
      obtain ⟨hh', tk', e', hk'⟩ := hs₅'
      have e2 : h₅ = hh' := congrArg Shared.heap e'
      subst e2
      exact hTn h₅ hk' hsz
    refine seg_execs_cons (seg_If (isTrue_name G.k G.es hn₅ hes₅ ?_))
    cases esc with
    | true =>
      rw [if_pos rfl]
      have hit' : escPairs i true (c0 :: x.cps.toList.drop (i + 1)) = (i, [92, c0]) :: escPairs (i + 1) false (x.cps.toList.drop (i + 1)) := rfl
      rw [hit'] at hpre ⊢
      rw [List.length_cons]
      refine seg_execs_cons (seg_Expr_Yield rfl rfl rfl (pair_glued G.k G.pos G.ch hn₅ hpos₅ hch₅ (by show 1 + 1 ≤ sizeLine; decide) fun t' tk kap hkap => ?_) G.co G.int)
      refine ⟨h₅.objs.size, (i, [92, c0]), tp, t', oC, _, oI, ?_, rfl, ?_, hnone, hsz, hs₅'.step (fun b o _ y => Heap.get?_push_of_some _ y), Heap.get?_push_of_some _ hoC, Heap.get?_push_of_some _ he₅, Heap.get?_push_of_some _ hoI, fun s'' g1 g2 g3 => hkap .none s'' ?_⟩
      · rw [hpre]; simp
      · rw [lit_bs]
        exact Heap.get?_push_size _ rfl
      · have hn₆ : s''.heap.Ns env.locals m₅ := hn₅.at' fun o y => by rw [hoC] at y; cases y; exact g1
        refine seg_execs_cons (seg_stmt (wpAny_Assign_Name (wpAny_Constant_bool (wpAny_storeName_local G.es hn₆ (fun h₇ hn₇ hs₇ => ?_) G.p))))
        replace hs₇ : Heap.SameBut env.locals s''.heap h₇ := hs₇
        refine seg_execs_nil (seg_execs_nil (seg_again rfl ?_))
        exact ih (i + 1) false s'' _ _ (.str ⟨#[c0]⟩ ts) (by omega) hlt (hs₇.extBut _ _ (Ne.symm hCe) g2) ⟨_, hs₇.extBut _ _ (Ne.symm hCI) g3, hIr⟩ hn₇ (by simp)
          (by simpa using (Since.refl [env.locals, e, I] s'').step (tk := s''.toks + 1) fun b o hb y => hs₇.extBut b o (fun q => hb (by simp [q])) y) hend ⟨pre ++ [(i, [92, c0])], by rw [hpre]; simp⟩
    | false =>
      rw [if_neg Bool.false_ne_true]
      refine seg_execs_cons (seg_If (isTrue_eqc G.k G.ch hn₅ hch₅ ?_))
      rw [lit_bs, sign_eq]
      by_cases hc : c0 = 92
      · rw [if_pos (by simpa using hc)]
        have hit' : escPairs i false (c0 :: x.cps.toList.drop (i + 1)) = escPairs (i + 1) true (x.cps.toList.drop (i + 1)) := by simp [escPairs, hc]
        have hend' : escEnd true (x.cps.toList.drop (i + 1)) = false := by simpa [escEnd, hc] using hend
        rw [hit'] at hpre ⊢
        refine seg_execs_cons (seg_stmt (wpAny_Assign_Name (wpAny_Constant_bool (wpAny_storeName_local G.es hn₅ (fun h₇ hn₇ hs₇ => ?_) G.p))))
        replace hs₇ : Heap.SameBut env.locals h₅ h₇ := hs₇
        refine seg_execs_nil (seg_execs_nil (seg_execs_nil (seg_again rfl ?_)))
        exact ih (i + 1) true s₀ _ _ (.str ⟨#[c0]⟩ ts) (by omega) hlt (hs₇.extBut _ _ (Ne.symm hCe) he₅) ⟨_, hs₇.extBut _ _ (Ne.symm hCI) hoI, hIr⟩ hn₇ (by simp)
          (hs₅'.step fun b o hb y => hs₇.extBut b o (fun q => hb (by simp [q])) y) hend' ⟨pre, hpre⟩
      · rw [if_neg (by simpa using hc)]
        have hit' : escPairs i false (c0 :: x.cps.toList.drop (i + 1)) = (i, [c0]) :: escPairs (i + 1) false (x.cps.toList.drop (i + 1)) := by simp [escPairs, hc]
        have hend' : escEnd false (x.cps.toList.drop (i + 1)) = false := by simpa [escEnd, hc] using hend
        rw [hit'] at hpre ⊢
        rw [List.length_cons]
        refine seg_execs_cons (seg_Expr_Yield rfl rfl rfl (pair_plain G.k G.pos G.ch hn₅ hpos₅ hch₅ fun kap hkap => ?_) G.co G.int)
        refine ⟨h₅.objs.size, (i, [c0]), tp, ts, oC, _, oI, ?_, rfl, ?_, hnone, hsz, hs₅'.step (fun b o _ y => Heap.get?_push_of_some _ y), Heap.get?_push_of_some _ hoC, Heap.get?_push_of_some _ he₅, Heap.get?_push_of_some _ hoI, fun s'' g1 g2 g3 => hkap .none s'' ?_⟩
        · rw [hpre]; simp
        · exact Heap.get?_push_size _ rfl
        · have hn₆ : s''.heap.Ns env.locals m₅ := hn₅.at' fun o y => by rw [hoC] at y; cases y; exact g1
          refine seg_execs_nil (seg_execs_nil (seg_execs_nil (seg_again rfl ?_)))
          exact ih (i + 1) false s'' _ _ (.str ⟨#[c0]⟩ ts) (by omega) hlt g2 ⟨_, g3, hIr⟩ hn₆ hes₅ (Since.refl _ _) hend' ⟨pre ++ [(i, [c0])], by rw [hpre]; simp⟩
end
end Mine
open PySem PySem.W PyProof.Rows PySem.Calls PyProof.V PySem.Spec
namespace Mine
set_option maxRecDepth 100000
set_option maxHeartbeats 4000000
section
variable {prog : Program} {w : World} {A : Around} {E : Value → Shared → Prop} {s : Shared}

abbrev endsNone (P : Nat → Shared → Shared → Prop) : GenEnd := fun n s₀ r s₁ => r = .ok (.ret .none) ∧ P n s₀ s₁
abbrev goesOn (prog : Program) (w : World) (A : Around) (P : Nat → Shared → Shared → Prop) (Y : Protocol) (gs : GenState) : Nat → Resume → Shared → Prop
  | 0, _, _ => False
  | m + 1, r, s => gs.Goes (model prog w) A (endsNone P) Y m r s
theorem stop_raised {α β : Type} {k : α → Sem β} {Q : β → Shared → Prop} (hh : A.handled = none)
    (h : ∀ h' e, (∀ b o, s.heap.get? b = some o → h'.get? b = some o) → (∃ o, h'.get? e = some o ∧ o.cls = .type "StopIteration") → E (.ref e) { s with heap := h' }) :
    wpAny (model prog w) A (newExc (.type "StopIteration") [] >>= fun e => (raiseNew e : Sem α) >>= k) Q E s := by
  have first : firstArgMember (.type "StopIteration") [] = pure Value.none := by simp only [firstArgMember]; rfl
  unfold newExc newTuple
  refine wpAny_bind (wpAny_bind (wpAny_newObj_type (wpAny_bind (wpAny_of_eq first ?_)) (by size_fits)))
  exact wpAny_newObj_type (wpAny_bind (wpAny_raiseNew_none hh (h _ _ (fun _ _ q => Heap.get?_push_of_some _ (Heap.get?_push_of_some _ q)) ⟨_, Heap.get?_push_size _ rfl, rfl⟩))) (by size_fits)
theorem gen_woken {a : Addr} {g n : Nat} {gs : GenState} {P : Nat → Shared → Shared → Prop} {Y : Protocol} {Q : Value → Shared → Prop} (hh : A.handled = none) (hl : s.heap.NoLimit) (hroom : A.depth < recursionLimit)
    (hg : s.heap.IsGen a g) (hgs : s.gens[g]? = some gs) (hgo : gs.Goes (model prog w) A (endsNone P) Y n (.send .none) (s.setGen g .running))
    (hY : ∀ v s₁ gs', gs'.bare = true → Y (n - 1) (s.setGen g .running) v s₁ (goesOn prog w A P Y gs' n) → Q v (s₁.setGen g gs'))
    (hP : ∀ s₁ h' e, P n (s.setGen g .running) s₁ → (∀ b o, s₁.heap.get? b = some o → h'.get? b = some o) → (∃ o, h'.get? e = some o ∧ o.cls = .type "StopIteration") →
      E (.ref e) { s₁.setGen g .finished with heap := h' }) :
    wpAny (model prog w) A (Builtin.Generator.genWake (.ref a) (.send .none)) (fun fin s' => ∃ v, fin = .done (.ret v) ∧ Q v s') E s := by
  have run : ∀ (k : GenResult → Sem Fin), (∀ s₁, P n (s.setGen g .running) s₁ → wpAny (model prog w) A (k (End.ret (.ok (.ret .none))).result) (fun fin s' => ∃ v, fin = .done (.ret v) ∧ Q v s') E (s₁.setGen g .finished)) →
      (∀ v, k (.yielded v) = pure (.done (.ret v))) → wpAny (model prog w) A (.resume g (.send .none) [] k) (fun fin s' => ∃ v, fin = .done (.ret v) ∧ Q v s') E s := fun k he hy =>
    wpAny_resumeQ hgs hgo (fun x s₁ ⟨hx, hp⟩ => hx ▸ he s₁ hp) fun v s₁ gs' hb hv => by
      rw [hy]
      refine wpAny_pure ⟨v, rfl, hY v s₁ gs' hb ?_⟩
      cases n <;> exact hv
  unfold Builtin.Generator.genWake
  refine wpAny_bind (wpAny_holding (wpAny_genNumber hg (wpAny_bind (wpAny_genState hgs ?_))))
  match gs, hgo with
  | .fresh _, _ | .suspended .., _ =>
    refine wpAny_bind (wpAny_roomToWake hl hroom ?_)
    with_unfolding_all exact run _ (fun s₁ hp => stop_raised hh fun h' e hk ho => hP s₁ h' e hp hk ho) fun v => rfl
theorem pyNext_genQ {a : Addr} {g n : Nat} {gs : GenState} {P : Nat → Shared → Shared → Prop} {Y : Protocol} {Q : Option Value → Shared → Prop} (hh : A.handled = none) (hl : s.heap.NoLimit) (hroom : A.depth < recursionLimit)
    (hg : s.heap.IsGen a g) (hgs : s.gens[g]? = some gs) (hgo : gs.Goes (model prog w) A.in1 (endsNone P) Y n (.send .none) (s.setGen g .running))
    (hY : ∀ v s₁ gs', gs'.bare = true → Y (n - 1) (s.setGen g .running) v s₁ (goesOn prog w A.in1 P Y gs' n) → Q (some v) (s₁.setGen g gs'))
    (hP : ∀ s₁ h', P n (s.setGen g .running) s₁ → (∀ b o, s₁.heap.get? b = some o → h'.get? b = some o) → Q none { s₁.setGen g .finished with heap := h' }) :
    wpAny (model prog w) A (pyNext (.ref a)) Q E s := by
  have woken : wpAny (model prog w) A.in1 (Builtin.«generator.__next__» ⟨[.ref a], []⟩) (fun fin s' => ∃ v, fin = .done (.ret v) ∧ ∃ u, some v = some u ∧ Q (some u) s')
      (fun e s' => wpAny (model prog w) A (isInstance e (.type "StopIteration")) (fun b s₂ => b = true ∧ Q none s₂) E s') s :=
    gen_woken (Q := fun v s' => ∃ u, some v = some u ∧ Q (some u) s') hh hl hroom hg hgs hgo (fun v s₁ gs' hb hv => ⟨v, rfl, hY v s₁ gs' hb hv⟩)
      fun s₁ h' e hp hk ho => wpAny_isInstance (T := "StopIteration") (b := true) ho isSubtype_stop ⟨rfl, hP s₁ h' hp hk⟩
  have called := wpAny_callSpecial?_slot (name := Str.ofString "__next__") hg.typeIs slot_gen_next (args := []) (kw := []) (Q := fun r s' => ∃ u, r = some u ∧ Q (some u) s') (wpAny_call_entry slot_gen_next hg.typeIs entry_gen_next woken (args_gen_next _))
  unfold pyNext
  refine wpAny_bind (wpAny_attempt (wpAny_mono called (fun r s₁ hr => ?_) fun e s₁ he => ?_))
  · obtain ⟨u, rfl, hu⟩ := hr
    exact wpAny_pure hu
  · refine wpAny_bind (wpAny_mono he (fun b s₂ hb => ?_) fun _ _ q => q)
    obtain ⟨rfl, hn⟩ := hb
    exact wpAny_pure hn

def keepsAll (h h' : Heap) : Prop := ∀ b o, h.get? b = some o → h'.get? b = some o

structure GenAt (prog : Program) (w : World) (A : Around) (h₀ : Heap) (C a : Addr) (gn : Nat) (own : List (Addr × Obj)) (l : List (Nat × List Nat)) (s : Shared) : Prop where
  gen : s.heap.IsGen a gn
  has : ∀ p ∈ own, s.heap.get? p.1 = some p.2
  st : ∃ gs, s.gens[gn]? = some gs ∧ ∀ s'' : Shared, keepsAll h₀ s''.heap → (∀ p ∈ own, s''.heap.get? p.1 = some p.2) →
    ∃ e I items, (∃ pre, items = pre ++ l) ∧ (∃ o, (C, o) ∈ own) ∧ ((∃ o, (e, o) ∈ own) ∨ s''.heap.get? e = none) ∧ ((∃ o, (I, o) ∈ own) ∨ s''.heap.get? I = none) ∧
      gs.Goes (model prog w) A.in1 (pairEnd C e I) (pairProto C e I items) l.length (.send .none) s''

theorem gen_next {h₀ : Heap} {C a : Addr} {gn : Nat} {own : List (Addr × Obj)} {l : List (Nat × List Nat)} {Q : Option Value → Shared → Prop} (hh : A.handled = none) (hl : s.heap.NoLimit) (hroom : A.depth < recursionLimit)
    (G : GenAt prog w A h₀ C a gn own l s) (hk : keepsAll h₀ s.heap) (hoff : ∀ p ∈ own, p.1 ≠ a)
    (item : ∀ it l' T tp ts h' tk gs' own', l = it :: l' → gs'.bare = true → (∀ b o, (∀ p ∈ own, b ≠ p.1) → s.heap.get? b = some o → h'.get? b = some o) →
      (∀ p ∈ own', (∃ o, (p.1, o) ∈ own) ∨ s.heap.get? p.1 = none) → s.heap.get? T = none → (∀ p ∈ own', p.1 ≠ T) → h'.get? T = some (pairObj it tp ts) →
      GenAt prog w A h₀ C a gn own' l' { s with heap := h', toks := tk, gens := s.gens.setIfInBounds gn gs' } → Q (some (.ref T)) { s with heap := h', toks := tk, gens := s.gens.setIfInBounds gn gs' })
    (done : ∀ h' tk, l = [] → (∀ b o, (∀ p ∈ own, b ≠ p.1) → s.heap.get? b = some o → h'.get? b = some o) → Q none { s with heap := h', toks := tk, gens := s.gens.setIfInBounds gn .finished }) :
    wpAny (model prog w) A (pyNext (.ref a)) Q E s := by
  obtain ⟨hg, has, gs, hgs, go⟩ := G
  obtain ⟨e, I, items, ⟨pre, hpre⟩, ⟨oC, hC⟩, he, hI, hgo⟩ := go (s.setGen gn .running) hk has
  have offOf : ∀ (x : Addr) b, ((∃ o, (x, o) ∈ own) ∨ s.heap.get? x = none) → (∀ p ∈ own, b ≠ p.1) → (∃ o, s.heap.get? b = some o) → b ≠ x := by
    rintro x b (⟨o, ho⟩ | hn) hb ⟨o', ho'⟩ rfl
    · exact hb _ ho rfl
    · rw [hn] at ho'; cases ho'
  have since : ∀ s₁, Since [C, e, I] (s.setGen gn .running) s₁ → ∀ b o, (∀ p ∈ own, b ≠ p.1) → s.heap.get? b = some o → s₁.heap.get? b = some o := by
    rintro s₁ ⟨h', tk, rfl, hk'⟩ b o hb ho
    refine hk' b o ?_ ho
    simp only [List.mem_cons, List.not_mem_nil, or_false, not_or]
    exact ⟨fun q => hb _ hC q, offOf e b he hb ⟨o, ho⟩, offOf I b hI hb ⟨o, ho⟩⟩
  refine pyNext_genQ (P := fun n s₀ s₁ => n = 0 ∧ Since [C, e, I] s₀ s₁) hh hl hroom hg hgs hgo (fun v s₁ gs' hb hv => ?_) (fun s₁ h' hp hk' => ?_)
  · obtain ⟨T, it, tp, ts, oC', oe, oI, hit, rfl, hT, hTn, hTo, hs, gC, ge, gI, hkap⟩ := hv
    have hs' := since s₁ hs
    obtain ⟨h₁, tk₁, rfl, hk₁⟩ := hs
    cases l with
    | nil =>
      exact (hkap { s with heap := h₁, toks := tk₁ } gC ge gI).elim
    | cons it' l' =>
      have hit' : it = it' := by
        rw [hpre] at hit
        simp only [List.length_append, List.length_cons] at hit
        rw [show pre.length + (l'.length + 1) - 1 - (l'.length + 1 - 1) = pre.length by omega, List.getElem?_append_right (Nat.le_refl _), Nat.sub_self] at hit
        simpa using hit.symm
      subst hit'
      have e2 : (({ s.setGen gn .running with heap := h₁, toks := tk₁ } : Shared).setGen gn gs') = { s with heap := h₁, toks := tk₁, gens := s.gens.setIfInBounds gn gs' } := by
        simp [Shared.setGen]
      rw [e2]
      refine item it l' T tp ts h₁ tk₁ gs' [(C, oC'), (e, oe), (I, oI)] rfl hb hs' ?_ hTn ?_ hT ⟨?_, ?_, gs', ?_, fun s'' _ ho => ⟨e, I, items, ⟨pre ++ [it], by rw [hpre]; simp⟩, ⟨oC', by simp⟩, .inl ⟨oe, by simp⟩, .inl ⟨oI, by simp⟩, ?_⟩⟩
      · intro p hp
        simp only [List.mem_cons, List.not_mem_nil, or_false] at hp
        rcases hp with rfl | rfl | rfl
        · exact .inl ⟨oC, hC⟩
        · exact he
        · exact hI
      · intro p hp q
        apply hTo
        simp only [List.mem_cons, List.not_mem_nil, or_false] at hp ⊢
        rcases hp with rfl | rfl | rfl
        · exact .inl q.symm
        · exact .inr (.inl q.symm)
        · exact .inr (.inr q.symm)
      · obtain ⟨o, nm, qn, ho, r⟩ := hg
        exact ⟨o, nm, qn, hs' a o (fun p hp q => hoff p hp q.symm) ho, r⟩
      · intro p hp
        simp only [List.mem_cons, List.not_mem_nil, or_false] at hp
        rcases hp with rfl | rfl | rfl
        · exact gC
        · exact ge
        · exact gI
      · have : gn < s.gens.size := by
          rcases Nat.lt_or_ge gn s.gens.size with h' | h'
          · exact h'
          · rw [Array.getElem?_eq_none h'] at hgs; cases hgs
        simp [this]
      · exact hkap s'' (ho (C, oC') (by simp)) (ho (e, oe) (by simp)) (ho (I, oI) (by simp))
  · obtain ⟨hz, hs⟩ := hp
    have hs' := since s₁ hs
    obtain ⟨h₁, tk₁, rfl, hk₁⟩ := hs
    have e2 : ({ (({ s.setGen gn .running with heap := h₁, toks := tk₁ } : Shared).setGen gn .finished) with heap := h' } : Shared) = { s with heap := h', toks := tk₁, gens := s.gens.setIfInBounds gn .finished } := by
      simp [Shared.setGen]
    rw [e2]
    exact done h' tk₁ (List.length_eq_zero_iff.mp hz) fun b o hb ho => hk' b o (hs' b o hb ho)
end
end Mine
open PySem PySem.W PyProof.Rows PySem.Calls PyProof.V PySem.Spec
namespace Mine
set_option maxRecDepth 100000
set_option maxHeartbeats 4000000
section
variable {q1 q2 q3 q4 q5 q6 q7 q8 q9 q10 q11 q12 q13 q14 q15 q16 q17 q18 q19 q20 q21 q22 q23 q24 r1 r2 r3 : Pos} {k1 k2 k3 k4 k5 k6 k7 k8 k9 : Nat}
variable {u1 u2 u3 u4 u5 u6 u7 u8 u9 u10 u11 u12 : Pos} {tailBody : List Stmt}
variable {prog : Program} {w : World} {A : Around}

theorem enumCall {K : Frag} {p : Program} {loose : List Str} {mg mb : Str → Option Value} {s : Shared} {g : Heap} {C fa : Addr} {cn : Str} {cs : Scope} {cd : Value} {m : Str → Option Value} {x : Str} {t : Tok} {Q : Value → Shared → Prop} {E : Value → Shared → Prop}
    (F : Fr g C s.heap m) (X : K.In g) (T : TopRead p loose mg mb g) (e : nsIn K mainGlobals (Str.ofString "enumerate") = some none) (hk : cs.kind = .function) (ha : m (Str.ofString "addr") = some (.str x t))
    (hka : (envOf cn cs C fa cd).kindOf (Str.ofString "addr") = some .local) (hke : (envOf cn cs C fa cd).kindOf (Str.ofString "enumerate") = some .globalImplicit)
    (h : ∀ h', IsEnum h' (s.heap.objs.size + 1) s.heap.objs.size 0 .none → h'.IsStrIter s.heap.objs.size (strIterType x) x t 0 → h'.objs.size = s.heap.objs.size + 2 →
      (∀ b o, s.heap.get? b = some o → h'.get? b = some o) → Q (.ref (s.heap.objs.size + 1)) { s with heap := h' }) :
    wpAny (model prog w) A (eval (.Call (.Name (Str.ofString "enumerate") u1) [.Name (Str.ofString "addr") u2] [] u3) (envOf cn cs C fa cd)) Q E s := by
  refine Call_ (name_B F X T e (by boot_by_name) (by decide) ?_ hk hke)
  refine Pv.callWith_type1 (args_cons (ld_raw hk hka F.ns ha (args_nil ?_)))
  exact call_enumerate_str h

theorem seg_iterStart {K : Frag} {p : Program} {loose : List Str} {mg mb : Str → Option Value} {s : Shared} {g : Heap} {C fa : Addr} {cn : Str} {cs : Scope} {cd : Value} {m : Str → Option Value} {x : Str} {t : Tok}
    (hh : A.handled = none) (F : Fr g C s.heap m) (X : K.In g) (T : TopRead p loose mg mb g) (e : nsIn K mainGlobals (Str.ofString "enumerate") = some none) (ha : m (Str.ofString "addr") = some (.str x t)) (G : GEnv (envOf cn cs C fa cd))
    (hka : (envOf cn cs C fa cd).kindOf (Str.ofString "addr") = some .local) (hke : (envOf cn cs C fa cd).kindOf (Str.ofString "enumerate") = some .globalImplicit)
    (hasc : x.cps.all (· < 128) = true) (hend : escEnd false x.cps.toList = false) :
    Seg (model prog w) A (pairEnd C (s.heap.objs.size + 1) s.heap.objs.size) (pairProto C (s.heap.objs.size + 1) s.heap.objs.size (escPairs 0 false x.cps.toList)) (escPairs 0 false x.cps.toList).length s
      (.func [.Assign [.Name (Str.ofString "pos") u4] (.Constant (.int 0) k8 u5) u6, .Assign [.Name (Str.ofString "escape") u7] (.Constant (.bool false) k9 u8) u9,
        .For (iterTarget r1 r2 r3 k7) (.Call (.Name (Str.ofString "enumerate") u1) [.Name (Str.ofString "addr") u2] [] u3) (iterTurn q1 q2 q3 q4 q5 q6 q7 q8 q9 q10 q11 q12 q13 q14 q15 q16 q17 q18 q19 q20 q21 q22 q23 q24 k1 k2 k3 k4 k5 k6) [] u10,
        .If (.Name (Str.ofString "escape") u11) tailBody [] u12] (envOf cn cs C fa cd))
      ((model prog w).den (.func [.Assign [.Name (Str.ofString "pos") u4] (.Constant (.int 0) k8 u5) u6, .Assign [.Name (Str.ofString "escape") u7] (.Constant (.bool false) k9 u8) u9,
        .For (iterTarget r1 r2 r3 k7) (.Call (.Name (Str.ofString "enumerate") u1) [.Name (Str.ofString "addr") u2] [] u3) (iterTurn q1 q2 q3 q4 q5 q6 q7 q8 q9 q10 q11 q12 q13 q14 q15 q16 q17 q18 q19 q20 q21 q22 q23 q24 k1 k2 k3 k4 k5 k6) [] u10,
        .If (.Name (Str.ofString "escape") u11) tailBody [] u12] (envOf cn cs C fa cd))) [] s := by
  have hC := F.ns.lt
  refine seg_func ?_
  refine seg_execs_cons (seg_stmt (wpAny_Assign_Name (wpAny_Constant_int (wpAny_storeName_local G.pos F.ns (fun h₁ hn₁ hs₁ => ?_) G.p))))
  replace hs₁ : Heap.SameBut C s.heap h₁ := hs₁
  have F₁ := F.set hn₁ hs₁
  refine seg_execs_cons (seg_stmt (wpAny_Assign_Name (wpAny_Constant_bool (wpAny_storeName_local G.es hn₁ (fun h₂ hn₂ hs₂ => ?_) G.p))))
  replace hs₂ : Heap.SameBut C h₁ h₂ := hs₂
  have F₂ := F₁.set hn₂ hs₂
  have hz : h₂.objs.size = s.heap.objs.size := by rw [hs₂.1, hs₁.1]
  refine seg_execs_cons (seg_For (enumCall (x := x) (t := t) F₂ X T e G.k ?_ hka hke ?_))
  · show (if _ then _ else if _ then _ else _) = _
    rw [if_neg (by decide), if_neg (by decide)]; exact ha
  · intro h₃ he hit hz₃ hk₃
    replace he : IsEnum h₃ (h₂.objs.size + 1) h₂.objs.size 0 .none := he
    replace hit : h₃.IsStrIter h₂.objs.size (strIterType x) x t 0 := hit
    replace hk₃ : ∀ b o, h₂.get? b = some o → h₃.get? b = some o := hk₃
    have e1 : strIterType x = asc := by unfold strIterType; rw [if_pos hasc]
    rw [e1] at hit
    rw [hz] at he hit
    show wpAny _ _ (pyIter (.ref (h₂.objs.size + 1))) _ _ _
    rw [hz]
    refine wpAny_pyIter_enum he fun pp => ?_
    refine seg_iterLoop (p := pp) hh G (Nat.succ_ne_self _) (Nat.ne_of_lt (Nat.lt_succ_of_lt hC)) (Nat.ne_of_lt hC) ?_ x.cps.size 0 false s _ _ .none (Nat.sub_zero _) (Nat.zero_le _) he hit (F₂.ns.at' fun o y => hk₃ _ o y) ?_ ?_ hend ⟨[], rfl⟩
    · intro s₀ s₁ m₁ hn₁ hes hs
      refine seg_execs_cons (seg_If (isTrue_name G.k G.es hn₁ hes ?_))
      rw [if_neg Bool.false_ne_true]
      exact seg_execs_nil (seg_execs_nil (seg_end (.ok (.ret .none)) ⟨rfl, rfl, hs⟩))
    · show (if _ then _ else _) = _
      rw [if_pos rfl]
    · refine ⟨h₃, _, rfl, fun b o hb y => hk₃ b o (hs₂.extBut b o (fun q => hb (by subst q; simp [envOf])) (hs₁.extBut b o (fun q => hb (by subst q; simp [envOf])) y))⟩
end
end Mine
open PySem PySem.W PyProof.Rows PySem.Calls PyProof.V PySem.Spec
namespace Mine
set_option maxRecDepth 100000
set_option maxHeartbeats 4000000
theorem none_of_ge {h : Heap} {b : Addr} (hb : h.objs.size ≤ b) : h.get? b = none := by
  cases q : h.get? b with
  | none => rfl
  | some o => exact absurd (Nat.lt_of_lt_of_le (Heap.lt_size q) hb) (Nat.lt_irrefl _)

section
variable {prog : Program} {w : World} {A : Around} {s : Shared} {h₀ : Heap} {L : Addr} {m : Str → Option Value} {news : List (Addr × Obj)} {K : Frag} {p : Program} {loose : List Str} {mean : ExcName → Option Value} {mg mb : Str → Option Value}
theorem gen_def {R : Result → Shared → Prop} {name qual : Str} {params : Arguments} {body : List Stmt} {scope : Scope} {dV kV doc pm cdv ct oc : Value} {an od : Option Addr} {osl : Array (Option Value)} {f : Addr} {args : Args} {binds : List (Str × Value)}
    (F : Fr h₀ L s.heap m) (X₀ : K.In h₀) (T : Top p loose mean mg mb h₀)
    (ho : K.lookup f = some ⟨oc, od, .func (fnOf name qual params body scope dV kV doc pm an cdv ct), osl⟩) (hcd : codeIn K cdv qual = true) (hroom : A.depth < recursionLimit)
    (hbind : BindsTo s (fnOf name qual params body scope dV kV doc pm an cdv ct) args binds) (hloc : ∀ y ∈ binds, scope.names.lookup y.1 = some .local)
    (h : ∀ C h' tk' oa, C = s.heap.objs.size → h'.get? (C + 1) = some oa → (∀ b o, s.heap.get? b = some o → h'.get? b = some o) → h'.Ns C (fun y => binds.reverse.lookup y) → h'.IsGen (C + 1) s.gens.size →
      R (.ok (.ret (.ref (C + 1)))) { s with heap := h', toks := tk', gens := s.gens.push (.fresh (.func body (envOf qual scope C f cdv))) })
    (hco : scope.isCoroutine = false) (hgen : scope.isGenerator = true) (hk : scope.kind = .function)
    (hcell : ∀ x ∈ scope.names, x.2 ≠ .cell) : codeAny (model prog w) A (.call (.ref f) args) R s := by
  refine codeAny_call_generator hroom ((X₀.keeps F.keep) _ _ ho) rfl hco hgen rfl (codeRec_of (X₀.keeps F.keep) hcd) ?_
  refine hbind _ _ _ _ ?_
  refine wpAny_newFunctionEnv hcell hloc (fun h₁ hns hsb => ?_) hk
  have hz : h₁.objs.size = s.heap.objs.size + 1 := by rw [hsb.1, Heap.size_push]
  have kp : ∀ b o, s.heap.get? b = some o → h₁.get? b = some o := fun b o e => hsb.extBut b o (Nat.ne_of_lt (Heap.lt_size e)) (Heap.get?_push_of_some _ e)
  refine ⟨(T.nolimit.keeps F.keep).keeps kp, ?_⟩
  show R (.ok (.ret (.ref h₁.objs.size))) _
  rw [hz]
  have hg := Heap.get?_push_size h₁ (o := { cls := .type "generator", data := .fields #[.int s.gens.size 0, .str name (s.toks + binds.length), .str qual (s.toks + binds.length + 1)] }) rfl
  rw [hz] at hg
  exact h _ _ _ _ rfl hg (fun b o e => Heap.get?_push_of_some _ (kp b o e)) (hns.push _) ⟨_, _, _, hg, rfl, rfl, rfl⟩

theorem iter_call {x : Str} {t : Tok} {E : Value → Shared → Prop} {Q : Value → Shared → Prop} (F : Fr h₀ L s.heap m) (X : (hdK.heap_39 w.params).In h₀) (T : Top p loose mean mg mb h₀) (hroom : A.depth < recursionLimit)
    (hasc : x.cps.all (· < 128) = true) (hend : escEnd false x.cps.toList = false)
    (ret : ∀ C oC oa h' tk' gs, C = s.heap.objs.size → gs.bare = true → (∀ b o, s.heap.get? b = some o → h'.get? b = some o) → h'.get? C = some oC → h'.get? (C + 1) = some oa →
      (∀ A' : Around, A'.handled = none → GenAt PySem.Challenge.rw_xo0011_01.row.prog w A' h₀ C (C + 1) s.gens.size [(C, oC)] (escPairs 0 false x.cps.toList) { s with heap := h', toks := tk', gens := s.gens.push gs }) →
      Q (.ref (C + 1)) { s with heap := h', toks := tk', gens := s.gens.push gs }) :
    wpAny (model PySem.Challenge.rw_xo0011_01.row.prog w) A (call (.ref 51) [.str x t]) Q E s := by
  w_top off
  revert X; k_fill; intro X
  refine wpAny_call ?_
  refine' gen_def (binds := [(Str.ofString "addr", .str x t)]) F X T ?ho ?hcd hroom ?hb ?hl ?_ ?c1 ?c2 ?c3 ?c4
  case ho => k_is
  case hcd => k_is
  case hb => exact BindsTo.of_eq rfl
  case hl => exact locs rfl
  case c1 => exact rfl
  case c2 => exact rfl
  case c3 => exact rfl
  case c4 => decide
  intro C h' tk' oa hC hoa kp hns hig
  obtain ⟨oC, n1, n2, hoC, n3⟩ := id hns
  refine ret C oC oa h' tk' (.fresh _) hC rfl kp hoC hoa fun A' hA => ⟨hig, ?_, .fresh _, by rw [Array.getElem?_push_size], fun s'' hk ho => ⟨s''.heap.objs.size + 1, s''.heap.objs.size, escPairs 0 false x.cps.toList, ⟨[], rfl⟩, ⟨oC, by simp⟩, .inr (none_of_ge (Nat.le_succ _)), .inr (none_of_ge (Nat.le_refl _)), ?_⟩⟩
  · intro q hq
    simp only [List.mem_cons, List.not_mem_nil, or_false] at hq
    subst hq
    exact hoC
  · refine ⟨rfl, ?_⟩
    have F' : Fr h₀ C s''.heap _ := ⟨hns.at' fun o e => by rw [hoC] at e; cases e; exact ho (C, oC) (by simp), hk, Nat.le_of_lt (hC ▸ Nat.lt_of_le_of_lt F.above F.ns.lt)⟩
    with_unfolding_all refine seg_iterStart (A := A'.in1) (x := x) (t := t) hA F' X (topRead_of T) ?_ ?_ ?_ ?_ ?_ hasc hend
    · k_is
    · rfl
    · exact ⟨rfl, rfl, rfl, rfl, rfl, rfl, rfl⟩
    · rfl
    · rfl
end
end Mine
open PySem PySem.W PyProof.Rows PySem.Calls PyProof.V PySem.Spec
namespace Mine
set_option maxRecDepth 100000
set_option maxHeartbeats 4000000
section
variable {prog : Program} {w : World} {A : Around} {E : Value → Shared → Prop} {s : Shared} {h₀ : Heap} {env : Env} {m : Str → Option Value} {news : List (Addr × Obj)}

theorem GenAt.frame {C a : Addr} {gn : Nat} {own : List (Addr × Obj)} {l : List (Nat × List Nat)} {s' : Shared} (G : GenAt prog w A h₀ C a gn own l s) (hg : s'.gens = s.gens) (ha : ∀ o, s.heap.get? a = some o → s'.heap.get? a = some o)
    (ho : ∀ p ∈ own, s'.heap.get? p.1 = some p.2) : GenAt prog w A h₀ C a gn own l s' :=
  ⟨let ⟨o, nm, qn, h, r⟩ := G.gen; ⟨o, nm, qn, ha o h, r⟩, ho, hg ▸ G.st⟩

theorem letOwned_gen {elts : List Expr} {x1 : Nat} {pos : Pos} {a T : Addr} {gn : Nat} {Q : Unit → Shared → Prop} (hg : s.heap.IsGen a gn) (hQ : Q () s) :
    wpAny (model prog w) A (letOwnedTupleGo (.Tuple elts x1 pos) (.ref a) (.ref T)) Q E s := by
  obtain ⟨o, nm, qn, ho, hc, hd, hs⟩ := hg
  unfold letOwnedTupleGo
  refine wpAny_bind (wpAny_load ho ?_)
  rw [hc, hd]
  dsimp only
  rw [if_neg (by simp)]
  exact wpAny_pure hQ

theorem setIf_bare {gens : Array GenState} {gn : Nat} {g : GenState} (h : ∀ x ∈ gens, x.bare = true) (hg : g.bare = true) : ∀ x ∈ gens.setIfInBounds gn g, x.bare = true := by
  intro x hx
  obtain ⟨i, hi, rfl⟩ := Array.mem_iff_getElem.mp hx
  have hi' : i < gens.size := by simpa using hi
  rw [Array.getElem_setIfInBounds (hj := hi')]
  split
  · exact hg
  · exact h _ (Array.getElem_mem _)

theorem forGen {R : Result → Shared → Prop} {xi xv : Str} {pi pv pt : Pos} {x1 : Nat} {body orelse : List Stmt} {C a : Addr} {gn : Nat} {oa : Obj} {own0 : List (Addr × Obj)} {l0 : List (Nat × List Nat)}
    (hh : A.handled = none) (hroom : A.depth < recursionLimit) (hlim : h₀.NoLimit) (hxi : env.kindOf xi = some .local) (hxv : env.kindOf xv = some .local) (hp : (env.scope.kind == .class || (env.scope.kind == .module && env.locals != env.globals)) = false)
    (F : Fr h₀ env.locals s.heap m) (N : News h₀ env.locals s.heap (news ++ (a, oa) :: own0)) (hoff : OwnOff ((a, oa) :: own0) (news.map (·.1))) (hao : ∀ p ∈ own0, p.1 ≠ a) (hbare : ∀ x ∈ s.gens, x.bare = true)
    (G : GenAt prog w A h₀ C a gn own0 l0 s)
    (J : List (Nat × List Nat) → (Str → Option Value) → List (Addr × Obj) → Prop) (h0 : J l0 m news)
    (turn : ∀ it l' tp ts m₁ news₁ h tk gens own, (∀ x ∈ gens, x.bare = true) → news₁.map (·.1) = news.map (·.1) → OwnOff own (news.map (·.1)) → J (it :: l') m₁ news₁ →
      Fr h₀ env.locals h (fun y => if y = xv then some (.str ⟨it.2.toArray⟩ ts) else if y = xi then some (.int (it.1 : Int) tp) else m₁ y) → News h₀ env.locals h (news₁ ++ own) →
      wpAny (model prog w) A (execs body env) (InvPostN h₀ env.locals (J l') own (news.map (·.1)) { s with heap := h, toks := tk, gens := gens } fun f s₃ => R (.ok f) s₃)
        (notedBy (model prog w) A env fun e s' => R (.error e) s') { s with heap := h, toks := tk, gens := gens })
    (done : ∀ m₁ news₁ h tk gens, (∀ x ∈ gens, x.bare = true) → news₁.map (·.1) = news.map (·.1) → J [] m₁ news₁ → Fr h₀ env.locals h m₁ → News h₀ env.locals h news₁ →
      wpAny (model prog w) A (execs orelse env) (fun f s₃ => R (.ok f) s₃) (notedBy (model prog w) A env fun e s' => R (.error e) s') { s with heap := h, toks := tk, gens := gens }) :
    codeAny (model prog w) A (.forLoop (.Tuple [.Name xi pi, .Name xv pv] x1 pt) (.ref a) body orelse env) R s := by
  refine codeAny_forLoop_any (fun k s' => ∃ h tk m' news' own gens l, s' = { s with heap := h, toks := tk, gens := gens } ∧ Fr h₀ env.locals h m' ∧ News h₀ env.locals h (news' ++ (a, oa) :: own) ∧ news'.map (·.1) = news.map (·.1) ∧
      OwnOff ((a, oa) :: own) (news.map (·.1)) ∧ (∀ p ∈ own, p.1 ≠ a) ∧ (∀ x ∈ gens, x.bare = true) ∧ GenAt prog w A h₀ C a gn own l s' ∧ J l m' news' ∧ k = l.length) ?_ l0.length
    ⟨s.heap, s.toks, m, news, own0, s.gens, l0, rfl, F, N, rfl, hoff, hao, hbare, G, h0, rfl⟩
  rintro k s' ⟨h, tk, m', news', own, gens, l, rfl, F', N', hadr, hoff', hao', hb', G', hJ, rfl⟩
  have nown : ∀ p ∈ own, h.get? p.1 = some p.2 ∧ p.1 ≠ env.locals ∧ h₀.get? p.1 = none := fun p hp => N' p (List.mem_append_right _ (List.mem_cons_of_mem _ hp))
  have na : h.get? a = some oa ∧ a ≠ env.locals ∧ h₀.get? a = none := N' (a, oa) (List.mem_append_right _ (List.mem_cons_self ..))
  have hmem : ∀ p ∈ news', p.1 ∈ news.map (·.1) := fun p hp => by rw [← hadr]; exact List.mem_map_of_mem hp
  refine gen_next hh (hlim.keeps F'.keep) hroom G' F'.keep hao' (fun it l' T tp ts h₁ tk₁ gs' own' hl hgb hk hown' hT0 hoT hT hG => ?_) (fun h₁ tk₁ hl hk => ?_)
  · subst hl
    have offo : ∀ b o, h.get? b = some o → (∀ p ∈ own, b ≠ p.1) → h₁.get? b = some o := fun b o e hb => hk b o hb e
    have F₁ : Fr h₀ env.locals h₁ m' := ⟨F'.ns.at' fun o e => offo _ o e fun p hp q => (nown p hp).2.1 q.symm, fun b o e => offo b o (F'.keep b o e) fun p hp q => (by have := (nown p hp).2.2; rw [← q, e] at this; cases this), F'.above⟩
    have own'ok : ∀ p ∈ own', p.1 ≠ env.locals ∧ h₀.get? p.1 = none ∧ p.1 ≠ a ∧ ∀ q ∈ news', p.1 ≠ q.1 := by
      intro p hp
      rcases hown' p hp with ⟨o, ho⟩ | hn
      · exact ⟨(nown _ ho).2.1, (nown _ ho).2.2, hao' (p.1, o) ho, fun q hq => hoff' (p.1, o) (List.mem_cons_of_mem _ ho) _ (hmem q hq)⟩
      · replace hn : h.get? p.1 = none := hn
        refine ⟨fun q => ?_, ?_, fun q => ?_, fun q hq e => ?_⟩
        · obtain ⟨o, _, _, ho, _⟩ := F'.ns
          rw [q, ho] at hn; cases hn
        · cases e : h₀.get? p.1 with
          | none => rfl
          | some o => rw [F'.keep _ _ e] at hn; cases hn
        · rw [q, na.1] at hn; cases hn
        · rw [e, (N' q (List.mem_append_left _ hq)).1] at hn; cases hn
    have N₁ : News h₀ env.locals h₁ (news' ++ (a, oa) :: own') := fun p hp => by
      rcases List.mem_append.mp hp with hp | hp
      · have q := N' p (List.mem_append_left _ hp)
        exact ⟨offo _ _ q.1 fun r hr e => hoff' r (List.mem_cons_of_mem _ hr) _ (hmem p hp) e.symm, q.2⟩
      · rcases List.mem_cons.mp hp with rfl | hp
        · exact ⟨offo _ _ na.1 fun r hr e => hao' r hr e.symm, na.2⟩
        · exact ⟨hG.has p hp, (own'ok p hp).1, (own'ok p hp).2.1⟩
    have hoff₁ : OwnOff ((a, oa) :: own') (news.map (·.1)) := by
      intro p hp b hb
      rcases List.mem_cons.mp hp with rfl | hp
      · exact hoff' (a, oa) (List.mem_cons_self ..) b hb
      · rw [← hadr] at hb
        obtain ⟨q, hq, rfl⟩ := List.mem_map.mp hb
        exact (own'ok p hp).2.2.2 q hq
    refine letOwned_gen hG.gen ?_
    have hT₁ : h₁.IsTuple T #[.int (it.1 : Int) tp, .str ⟨it.2.toArray⟩ ts] := ⟨_, hT, rfl, _, rfl⟩
    refine assign2 hh hT₁ F₁ N₁ hxi hxv hp fun h₃ tk₃ F₃ N₃ => ?_
    have hb₁ := setIf_bare (gn := gn) hb' hgb
    refine wpAny_mono (turn it l' tp ts m' news' h₃ tk₃ (gens.setIfInBounds gn gs') ((a, oa) :: own') hb₁ hadr hoff₁ hJ F₃ N₃) (fun f s₃ hf => ?_) fun _ _ x => x
    have up : InvEndN h₀ env.locals (J l') ((a, oa) :: own') (news.map (·.1)) { s with heap := h₃, toks := tk₃, gens := gens.setIfInBounds gn gs' } s₃ →
        ∃ k', k' < (it :: l').length ∧ ∃ h tk m' news' own gens l, s₃ = { s with heap := h, toks := tk, gens := gens } ∧ Fr h₀ env.locals h m' ∧ News h₀ env.locals h (news' ++ (a, oa) :: own) ∧ news'.map (·.1) = news.map (·.1) ∧
      OwnOff ((a, oa) :: own) (news.map (·.1)) ∧ (∀ p ∈ own, p.1 ≠ a) ∧ (∀ x ∈ gens, x.bare = true) ∧ GenAt prog w A h₀ C a gn own l s₃ ∧ J l m' news' ∧ k' = l.length := by
      rintro ⟨h', tk', m'', news'', nx, rfl, F'', N'', hn, ho, ha, hJ'⟩
      refine ⟨l'.length, Nat.lt_succ_self _, h', tk', m'', nx, own', gens.setIfInBounds gn gs', l', rfl, F'', ?_, ha, hoff₁, fun p hp => (own'ok p hp).2.2.1, hb₁, ?_, hJ', rfl⟩
      · intro p hp
        rcases List.mem_append.mp hp with hp | hp
        · exact N'' p (hn p hp)
        · exact N'' p (ho p hp)
      · refine hG.frame rfl (fun o e => ?_) fun p hp => (N'' p (ho p (List.mem_cons_of_mem _ hp))).1
        replace e : h₁.get? a = some o := e
        have e1 := (N₁ (a, oa) (List.mem_append_right _ (List.mem_cons_self ..))).1
        rw [e1] at e
        cases e
        exact (N'' (a, oa) (ho _ (List.mem_cons_self ..))).1
    cases f with
    | ret v => exact hf
    | brk => exact hf
    | next => exact up hf
    | cont => exact up hf
  · subst hl
    have F₁ : Fr h₀ env.locals h₁ m' := ⟨F'.ns.at' fun o e => hk _ o (fun p hp q => (nown p hp).2.1 q.symm) e, fun b o e => hk b o (fun p hp q => (by have := (nown p hp).2.2; rw [← q, e] at this; cases this)) (F'.keep b o e), F'.above⟩
    refine done m' news' h₁ tk₁ (gens.setIfInBounds gn .finished) (setIf_bare (gn := gn) hb' rfl) hadr hJ F₁ fun p hp => ?_
    have q := N' p (List.mem_append_left _ hp)
    exact ⟨hk _ _ (fun r hr e => hoff' r (List.mem_cons_of_mem _ hr) _ (hmem p hp) e.symm) q.1, q.2⟩
end
section
variable {w : World} {A : Around} {E : Value → Shared → Prop} {s : Shared} {h₀ : Heap} {env : Env} {m : Str → Option Value} {news : List (Addr × Obj)} {p : Program} {loose : List Str} {mean : ExcName → Option Value} {mg mb : Str → Option Value}
theorem iterFor {R : Result → Shared → Prop} {xi xv : Str} {pi pv pt : Pos} {x1 : Nat} {body orelse : List Stmt} {x : Str} {t : Tok}
    (J : List (Addr × Obj) → List (Nat × List Nat) → (Str → Option Value) → List (Addr × Obj) → Prop)
    (hh : A.handled = none) (hroom : A.depth < recursionLimit) (hxi : env.kindOf xi = some .local) (hxv : env.kindOf xv = some .local) (hp : (env.scope.kind == .class || (env.scope.kind == .module && env.locals != env.globals)) = false)
    (F : Fr h₀ env.locals s.heap m) (N : News h₀ env.locals s.heap news) (X : (hdK.heap_39 w.params).In h₀) (T : Top p loose mean mg mb h₀) (hbare : ∀ x ∈ s.gens, x.bare = true)
    (hasc : x.cps.all (· < 128) = true) (hend : escEnd false x.cps.toList = false)
    (h0 : J news (escPairs 0 false x.cps.toList) m news)
    (turn : ∀ it l' tp ts m₁ news₁ h tk gens own, (∀ x ∈ gens, x.bare = true) → news₁.map (·.1) = news.map (·.1) → OwnOff own (news.map (·.1)) → J news (it :: l') m₁ news₁ →
      Fr h₀ env.locals h (fun y => if y = xv then some (.str ⟨it.2.toArray⟩ ts) else if y = xi then some (.int (it.1 : Int) tp) else m₁ y) → News h₀ env.locals h (news₁ ++ own) →
      wpAny (model PySem.Challenge.rw_xo0011_01.row.prog w) A (execs body env) (InvPostN h₀ env.locals (J news l') own (news.map (·.1)) { s with heap := h, toks := tk, gens := gens } fun f s₃ => R (.ok f) s₃)
        (notedBy (model PySem.Challenge.rw_xo0011_01.row.prog w) A env fun e s' => R (.error e) s') { s with heap := h, toks := tk, gens := gens })
    (done : ∀ m₁ news₁ h tk gens, (∀ x ∈ gens, x.bare = true) → news₁.map (·.1) = news.map (·.1) → J news [] m₁ news₁ → Fr h₀ env.locals h m₁ → News h₀ env.locals h news₁ →
      wpAny (model PySem.Challenge.rw_xo0011_01.row.prog w) A (execs orelse env) (fun f s₃ => R (.ok f) s₃) (notedBy (model PySem.Challenge.rw_xo0011_01.row.prog w) A env fun e s' => R (.error e) s') { s with heap := h, toks := tk, gens := gens }) :
    wpAny (model PySem.Challenge.rw_xo0011_01.row.prog w) A (call (.ref 51) [.str x t]) (fun x s₁ => wpAny (model PySem.Challenge.rw_xo0011_01.row.prog w) A (pyIter x) (fun it s₂ =>
      codeAny (model PySem.Challenge.rw_xo0011_01.row.prog w) A (.forLoop (.Tuple [.Name xi pi, .Name xv pv] x1 pt) it body orelse env) R s₂) E s₁) E s := by
  refine iter_call F X T hroom hasc hend ?_
  intro C oC oa h1 tk1 gs hC hgs hk1 hoC hoa hG
  have hz : ∀ b o, s.heap.get? b = some o → b ≠ C ∧ b ≠ C + 1 := fun b o e => hC ▸ ⟨Nat.ne_of_lt (Heap.lt_size e), Nat.ne_of_lt (Nat.lt_succ_of_lt (Heap.lt_size e))⟩
  refine wpAny_pyIter_gen (hG {} rfl).gen ?_
  have F1 := fr_keep F hk1
  have N1 := news_keep N hk1
  have newN : ∀ b, C ≤ b → s.heap.get? b = none := fun b hb => none_of_ge (hC ▸ hb)
  have new0 : ∀ b, C ≤ b → h₀.get? b = none := fun b hb => by
    cases q : h₀.get? b with
    | none => rfl
    | some o => have := F.keep b o q; rw [newN b hb] at this; cases this
  have hlt := F.ns.lt
  rw [← hC] at hlt
  refine forGen (C := C) (a := C + 1) (oa := oa) (own0 := [(C, oC)]) (news := news) hh hroom T.nolimit hxi hxv hp F1 ?_ ?_ ?_ ?_ (hG _ hh) (J news) h0 (fun it l' tp ts m₁ n₁ h tk gens own => turn it l' tp ts m₁ n₁ h tk gens own) (fun m₁ n₁ h tk gens => done m₁ n₁ h tk gens)
  · intro q hq
    rcases List.mem_append.mp hq with hq | hq
    · exact N1 q hq
    · simp only [List.mem_cons, List.not_mem_nil, or_false] at hq
      rcases hq with rfl | rfl
      · exact ⟨hoa, Nat.ne_of_gt (Nat.lt_succ_of_lt hlt), new0 _ (Nat.le_succ _)⟩
      · exact ⟨hoC, Nat.ne_of_gt hlt, new0 _ (Nat.le_refl _)⟩
  · intro q hq b hb e
    obtain ⟨r, hr, rfl⟩ := List.mem_map.mp hb
    have := hz _ _ (N r hr).1
    simp only [List.mem_cons, List.not_mem_nil, or_false] at hq
    rcases hq with rfl | rfl
    · exact this.2 e.symm
    · exact this.1 e.symm
  · intro q hq
    simp only [List.mem_cons, List.not_mem_nil, or_false] at hq
    subst hq
    exact (Nat.succ_ne_self C).symm
  · intro q hq
    rw [Array.mem_push] at hq
    rcases hq with hq | rfl
    · exact hbare q hq
    · exact hgs
end
end Mine
open PySem PySem.W PyProof.Rows PySem.Calls PyProof.V PySem.Spec
namespace Mine
set_option maxRecDepth 100000
set_option maxHeartbeats 8000000
structure SS where
  st : Int
  op : Option Int
  res : List Str
def sstep (x : Str) (s : SS) (it : Nat × List Nat) : SS :=
  if it.2 = [34] then match s.op with
    | none => ⟨s.st, some (it.1 : Int), s.res⟩
    | some o => ⟨(it.1 : Int) + 1, none, if s.st = o then s.res else s.res ++ [Txt.slice x (some s.st) (some o)]⟩
  else s
def sfold (x : Str) (items : List (Nat × List Nat)) : SS := items.foldl (sstep x) ⟨0, none, []⟩
theorem sfold_snoc (x : Str) (pre : List (Nat × List Nat)) (it : Nat × List Nat) : sfold x (pre ++ [it]) = sstep x (sfold x pre) it := by simp [sfold]
def openV (o : Option Int) (t : Tok) : Value := match o with | none => .none | some i => .int i t
def JStrip (x : Str) (t : Tok) (items : List (Nat × List Nat)) (N₀ : List (Addr × Obj)) (rest : List (Nat × List Nat)) (m : Str → Option Value) (nx : List (Addr × Obj)) : Prop := match N₀ with
  | [] => False
  | (l, _) :: news => ∃ pre rs n ta tb, items = pre ++ rest ∧ nx = (l, listOf (List.toArray rs) n) :: news ∧ StrsAre rs (sfold x pre).res ∧ m (Str.ofString "addr") = some (.str x t) ∧ m (Str.ofString "start") = some (.int (sfold x pre).st ta) ∧
    m (Str.ofString "open_pos") = some (openV (sfold x pre).op tb) ∧ m (Str.ofString "result") = some (.ref l) ∧ (sfold x pre).res.length ≤ pre.length
theorem escPairs_len : ∀ (l : List Nat) (i : Nat) (e : Bool), (escPairs i e l).length ≤ l.length
  | [], i, e => by cases e <;> simp [escPairs]
  | c :: r, i, true => by have := escPairs_len r (i + 1) false; simp [escPairs]; omega
  | c :: r, i, false => by
    have h1 := escPairs_len r (i + 1) false
    have h2 := escPairs_len r (i + 1) true
    simp only [escPairs]
    split <;> simp <;> omega
theorem lit_q : Str.ofString "\"" = ⟨#[34]⟩ := by decide +kernel
def stripS (x : Str) : Str := let S := sfold x (escPairs 0 false x.cps.toList); Txt.join (Str.ofString "") (if S.st < (x.length : Int) then S.res ++ [Txt.slice x (some S.st) none] else S.res)
theorem sfold_small (x : Str) (pre : List (Nat × List Nat)) : ∀ y ∈ (sfold x pre).res, y.length ≤ x.length := by
  induction pre using rev_ind with
  | h0 => simp [sfold]
  | h1 l it ih =>
    rw [sfold_snoc]
    unfold sstep
    split
    · split
      · exact ih
      · dsimp only
        split
        · exact ih
        · intro y hy
          rcases List.mem_append.mp hy with h | h
          · exact ih y h
          · rw [List.mem_singleton.mp h]; exact PyProof.Txt.length_slice_le x _ _
    · exact ih
theorem weigh_le : ∀ (ys : List Str) (k : Nat), (∀ y ∈ ys, y.length ≤ k) → (ys.map (·.length)).sum ≤ ys.length * k
  | [], k, _ => by simp
  | y :: r, k, h => by
    have h1 := weigh_le r k fun z hz => h z (.tail _ hz)
    have h2 := h y (.head _)
    simp only [List.map_cons, List.sum_cons, List.length_cons, Nat.add_mul, Nat.one_mul]
    omega
theorem weigh_ok {ys : List Str} (h : ∀ y ∈ ys, y.length ≤ 500) (hl : ys.length ≤ 1000) : (ys.map (·.length)).sum + ys.length ≤ 1048576 := by
  have h1 := weigh_le ys 500 h
  have h2 : ys.length * 500 ≤ 1000 * 500 := Nat.mul_le_mul_right _ hl
  omega
theorem qeq (l : List Nat) : ((⟨l.toArray⟩ : Str) == Str.ofString "\"") = decide (l = [34]) := by
  rw [lit_q, Bool.eq_iff_iff]
  constructor
  · intro h
    have h1 : (⟨l.toArray⟩ : Str) = ⟨#[34]⟩ := by simpa using h
    have h2 : l.toArray = #[34] := congrArg Str.cps h1
    have h3 := congrArg Array.toList h2
    simpa using h3
  · intro h
    have h1 : l = [34] := by simpa using h
    subst h1
    simp
theorem strip_end {g h' : Heap} {L' : Addr} {m' : Str → Option Value} {x : Str} {t ta tb : Tok} {items pre l' : List (Nat × List Nat)} {it : Nat × List Nat} {l : Addr} {o : Obj} {news own : List (Addr × Obj)} {rs : List Value} {n tk : Nat} {S : SS} {s₁ : Shared}
    (F : Fr g L' h' m') (N : News g L' h' ((l, listOf (List.toArray rs) n) :: (news ++ own))) (hpre : items = pre ++ it :: l') (hS : sfold x (pre ++ [it]) = S) (hrs : StrsAre rs S.res)
    (h1 : m' (Str.ofString "addr") = some (.str x t)) (h2 : m' (Str.ofString "start") = some (.int S.st ta)) (h3 : m' (Str.ofString "open_pos") = some (openV S.op tb)) (h4 : m' (Str.ofString "result") = some (.ref l)) (hle : S.res.length ≤ pre.length + 1) :
    InvEndN g L' (JStrip x t items ((l, o) :: news) l') own (l :: news.map (·.1)) s₁ { s₁ with heap := h', toks := tk } := by
  subst hS
  refine InvEndN.intro (nx := (l, listOf (List.toArray rs) n) :: news) F N ⟨pre ++ [it], rs, n, ta, tb, by rw [hpre]; simp, rfl, hrs, h1, h2, h3, h4, by simpa using hle⟩ rfl ?_ ?_
  · intro q hq
    rcases List.mem_cons.mp hq with h | h
    · exact h ▸ .head _
    · exact .tail _ (List.mem_append_left _ h)
  · exact fun q hq => .tail _ (List.mem_append_right _ hq)
section
variable {w : World} {p : Program} {loose : List Str} {mean : ExcName → Option Value} {mg mb : Str → Option Value} {dp un : Nat} {gd : Option (List Code)} {cn : Str} {cs : Scope} {a : Addr} {ccd : Value} {cl : List (Str × Addr)} {outer : List Env} {A₀ : Around} {base h₀ : Heap} {L : Addr} {m : Str → Option Value} {s : Shared} {Q E : Value → Shared → Prop} {news : List (Addr × Obj)}
local macro_rules | `(tactic| walk_at "call builtin:list.append") => `(tactic| (k_here; k_dflt (refine' append_K ?F ?N ?U ?_ ?z; (case F => k_asm); (case N => k_asm); (case U => exact Upd.head (by assumption)); (case z => (rw [List.size_toArray]; exact le_line (by omega)))); intro _ _ _))
local macro_rules | `(tactic| walk_at "call builtin:str.join") => `(tactic| (k_here; k_dflt (refine' join_listW ?L ?S ?x ?W ?_; (case L => kmk_list); (case S => first | assumption | (simp only [Array.toList_push, List.toList_toArray]; rename ∀ t, StrsAre (_ ++ [_]) _ => hS; exact hS _)); (case x => decide); (case W => assumption)); intro _ _))
local macro_rules | `(tactic| walk_at "call ref") => `(tactic| (k_here; refine Stop.out ?_))
theorem strip_c {x : Str} {t : Tok} (C : Cx w p loose mean mg mb dp un cn cs L a ccd cl outer A₀ base h₀ m s news)
    (hasc : x.cps.all (· < 128) = true) (hend : escEnd false x.cps.toList = false) (hlen : x.length ≤ 500) (hq : 34 ∈ x.cps.toList) (hbare : ∀ g ∈ s.gens, g.bare = true)
    (ret : ∀ t' h' tk' gens, (∀ g ∈ gens, g.bare = true) → Fr h₀ L h' m → News h₀ L h' news → Q (.str (stripS x) t') { s with heap := h', toks := tk', gens := gens }) :
    wpAny (model PySem.Challenge.rw_xo0011_01.row.prog w) (ktrTop dp un gd cn cs L a ccd cl outer) (call (.ref 58) [.str x t]) Q E s := by
  obtain ⟨B, F, X, N, T, hk, hd, hu⟩ := C
  w_top off
  revert X; k_fill; intro X
  refine wpAny_call ?_
  k_dflt cell_enter
  k_steps
  · exfalso
    rename (Builtin.Str.occurrences _ _ _ _ _).isEmpty = true => hoc
    have q := StrLaws.found_one x 34
    rw [← lit_q, hoc] at q
    simp at q
    exact q (by simpa using hq)
  · refine wpAny_For ?_ ?_
    · k_steps
      refine Stop.mk ?_
      rename News _ _ _ ((_, _) :: _) => hN
      rename Fr _ _ _ _ => hF
      rename Frag.In _ _ => hX
      rename Top _ _ _ _ _ _ => hT
      rename ∀ p ∈ news, _ => l2
      with_unfolding_all refine iterFor (JStrip x t (escPairs 0 false x.cps.toList)) rfl ?_ rfl rfl rfl hF hN hX hT hbare hasc hend ?_ ?_ ?_
      · ktr_room
      · exact ⟨[], [], 0, _, 0, rfl, rfl, .nil, by with_unfolding_all rfl, by with_unfolding_all rfl, by with_unfolding_all rfl, by with_unfolding_all rfl, by simp [sfold]⟩
      · intro it l' tp ts m₁ nx h tk gens own hb hadr hoff hJ F N
        obtain ⟨pre, rs, n, ta, tb, hpre, rfl, hrs, h1, h2, h3, h4, hle⟩ := hJ
        replace F := fr_ext2 F (ins (ins (ins (ins rfl h4) h3) h2) h1)
        have hrl : rs.length < 999 := by
          have e1 := hrs.len_eq
          have e2 := congrArg List.length hpre
          have e3 := escPairs_len x.cps.toList 0 false
          have e4 : x.cps.toList.length = x.length := by simp [Str.length]
          rw [List.length_append, List.length_cons] at e2
          omega
        have uo : ∀ q ∈ news ++ own, q.1 ≠ _ := fun q hq => (List.mem_append.mp hq).elim (fun hq => Nat.ne_of_lt (l2 q hq)) fun hq => hoff q hq _ (List.mem_cons_self ..)
        rw [List.cons_append] at N
        have hsn := sfold_snoc x pre it
        generalize sfold x pre = S at hrs h2 h3 hle hsn F
        obtain ⟨st, op, res⟩ := S
        cases op with
        | none =>
          dsimp only [openV] at *
          k_steps
          · rename ((_ == Str.ofString "\"") = true) => hqq
            rw [qeq] at hqq
            rename News _ _ _ _ => N'
            rename Fr _ _ _ _ => F'
            exact strip_end (S := ⟨st, some (it.1 : Int), res⟩) F' N' hpre (hsn.trans (by unfold sstep; rw [if_pos (by simpa using hqq)])) hrs (by with_unfolding_all rfl) (by with_unfolding_all rfl) (by with_unfolding_all rfl) (by with_unfolding_all rfl) (Nat.le_succ_of_le hle)
          · rename ((_ == Str.ofString "\"") = false) => hqq
            rw [qeq] at hqq
            rename News _ _ _ _ => N'
            rename Fr _ _ _ _ => F'
            exact strip_end (S := ⟨st, none, res⟩) (tb := tb) F' N' hpre (hsn.trans (by unfold sstep; rw [if_neg (by simpa using hqq)])) hrs (by with_unfolding_all rfl) (by with_unfolding_all rfl) (by with_unfolding_all rfl) (by with_unfolding_all rfl) (Nat.le_succ_of_le hle)
        | some o =>
          dsimp only [openV] at *
          k_steps
          · rename ((_ == Str.ofString "\"") = true) => hqq
            rw [qeq] at hqq
            rename News _ _ _ _ => N'
            rename Fr _ _ _ _ => F'
            rename ¬ st = o => hne
            rw [List.push_toArray] at N'
            exact strip_end (S := ⟨(it.1 : Int) + 1, none, res ++ [Txt.slice x (some st) (some o)]⟩) (tb := 0) F' N' hpre (hsn.trans (by unfold sstep; rw [if_pos (by simpa using hqq)]; dsimp only; rw [if_neg hne])) (hrs.append' (.cons _ _ .nil)) (by with_unfolding_all rfl) (by with_unfolding_all rfl) (by with_unfolding_all rfl) (by with_unfolding_all rfl) (by simpa using hle)
          · rename ((_ == Str.ofString "\"") = true) => hqq
            rw [qeq] at hqq
            rename News _ _ _ _ => N'
            rename Fr _ _ _ _ => F'
            rename st = o => hne
            exact strip_end (S := ⟨(it.1 : Int) + 1, none, res⟩) (tb := 0) F' N' hpre (hsn.trans (by unfold sstep; rw [if_pos (by simpa using hqq)]; dsimp only; rw [if_pos hne])) hrs (by with_unfolding_all rfl) (by with_unfolding_all rfl) (by with_unfolding_all rfl) (by with_unfolding_all rfl) (Nat.le_succ_of_le hle)
          · rename ((_ == Str.ofString "\"") = false) => hqq
            rw [qeq] at hqq
            rename News _ _ _ _ => N'
            rename Fr _ _ _ _ => F'
            exact strip_end (S := ⟨st, some o, res⟩) F' N' hpre (hsn.trans (by unfold sstep; rw [if_neg (by simpa using hqq)])) hrs (by with_unfolding_all rfl) (by with_unfolding_all rfl) (by with_unfolding_all rfl) (by with_unfolding_all rfl) (Nat.le_succ_of_le hle)
      · intro m₁ nx h tk gens hb hadr hJ F N
        obtain ⟨pre, rs, n, ta, tb, hpre, rfl, hrs, h1, h2, h3, h4, hle⟩ := hJ
        rw [List.append_nil] at hpre
        subst hpre
        replace F := fr_ext0 F (ins (ins (ins rfl h4) h2) h1)
        have hrl : rs.length < 999 := by
          have e1 := hrs.len_eq
          have e3 := escPairs_len x.cps.toList 0 false
          have e4 : x.cps.toList.length = x.length := by simp [Str.length]
          omega
        have uo : ∀ q ∈ news, q.1 ≠ _ := fun q hq => Nat.ne_of_lt (l2 q hq)
        have hsm := sfold_small x (escPairs 0 false x.cps.toList)
        have hy : stripS x = Txt.join (Str.ofString "") (if (sfold x (escPairs 0 false x.cps.toList)).st < (x.length : Int) then (sfold x (escPairs 0 false x.cps.toList)).res ++ [Txt.slice x (some (sfold x (escPairs 0 false x.cps.toList)).st) none] else (sfold x (escPairs 0 false x.cps.toList)).res) := rfl
        generalize sfold x (escPairs 0 false x.cps.toList) = S at *
        obtain ⟨st, op, res⟩ := S
        dsimp only at *
        have hrl2 : res.length < 999 := by rw [← hrs.len_eq]; exact hrl
        have hw1 := weigh_ok (fun y hy => Nat.le_trans (hsm y hy) hlen) (by omega)
        have hw2 : ((res ++ [Txt.slice x (some st) none]).map (·.length)).sum + (res ++ [Txt.slice x (some st) none]).length ≤ 1048576 := weigh_ok (fun y hy => (List.mem_append.mp hy).elim (fun h => Nat.le_trans (hsm y h) hlen) fun h => by rw [List.mem_singleton.mp h]; exact Nat.le_trans (PyProof.Txt.length_slice_le x _ _) hlen) (by simp; omega)
        have hrs2 : ∀ t, StrsAre (rs ++ [.str (Txt.slice x (some st) none) t]) (res ++ [Txt.slice x (some st) none]) := fun t => hrs.append' (.cons _ _ .nil)
        k_steps
        · rename News _ _ _ _ => N'
          rename Fr _ _ _ _ => F'
          rename st < _ => hlt
          rw [if_pos hlt] at hy
          rw [← hy]
          exact ret _ _ _ _ hb F' (fun q hq => N' q (by simp [hq]))
        · rename News _ _ _ _ => N'
          rename Fr _ _ _ _ => F'
          rename ¬ st < _ => hlt
          rw [if_neg hlt] at hy
          rw [← hy]
          exact ret _ _ _ _ hb F' (fun q hq => N' q (by simp [hq]))
    · intro x; rfl
end
end Mine
open PySem PySem.W PyProof.Rows PySem.Calls PyProof.V PySem.Spec
namespace Mine
set_option maxRecDepth 100000
set_option maxHeartbeats 8000000
def ckGo : Int → List (Nat × List Nat) → Bool
  | o, [] => decide (o = 0)
  | o, it :: r => if it.2 = [40] then ckGo (o + 1) r else if it.2 = [41] then (if o - 1 < 0 then false else ckGo (o - 1) r) else ckGo o r
theorem ckGo_cons (o : Int) (it : Nat × List Nat) (r : List (Nat × List Nat)) : ckGo o (it :: r) = if it.2 = [40] then ckGo (o + 1) r else if it.2 = [41] then (if o - 1 < 0 then false else ckGo (o - 1) r) else ckGo o r := rfl
def checkS (x : Str) : Bool := ckGo 0 (escPairs 0 false (stripS x).cps.toList)
def JCheck (items : List (Nat × List Nat)) (N₀ : List (Addr × Obj)) (rest : List (Nat × List Nat)) (m : Str → Option Value) (nx : List (Addr × Obj)) : Prop :=
  nx = N₀ ∧ ∃ o t, m (Str.ofString "opens") = some (.int o t) ∧ ckGo 0 items = ckGo o rest
theorem lit_c1 : Str.ofString "(" = ⟨#[40]⟩ := by decide +kernel
theorem lit_c2 : Str.ofString ")" = ⟨#[41]⟩ := by decide +kernel
theorem ceq (l : List Nat) (c : Nat) : ((⟨l.toArray⟩ : Str) == ⟨#[c]⟩) = decide (l = [c]) := by
  rw [Bool.eq_iff_iff]
  constructor
  · intro h
    have h1 : (⟨l.toArray⟩ : Str) = ⟨#[c]⟩ := by simpa using h
    have h2 : l.toArray = #[c] := congrArg Str.cps h1
    have h3 := congrArg Array.toList h2
    simpa using h3
  · intro h
    have h1 : l = [c] := by simpa using h
    subst h1
    simp
theorem check_end {g h' : Heap} {L' : Addr} {m' : Str → Option Value} {items l' : List (Nat × List Nat)} {nx own : List (Addr × Obj)} {o : Int} {t tk : Nat} {s₁ : Shared}
    (F : Fr g L' h' m') (N : News g L' h' (nx ++ own)) (h1 : m' (Str.ofString "opens") = some (.int o t)) (h2 : ckGo 0 items = ckGo o l') :
    InvEndN g L' (JCheck items nx l') own (nx.map (·.1)) s₁ { s₁ with heap := h', toks := tk } :=
  InvEndN.intro (nx := nx) F N ⟨rfl, o, t, h1, h2⟩ rfl (fun _ hq => List.mem_append_left _ hq) fun _ hq => List.mem_append_right _ hq
section
variable {w : World} {p : Program} {loose : List Str} {mean : ExcName → Option Value} {mg mb : Str → Option Value} {dp un : Nat} {gd : Option (List Code)} {cn : Str} {cs : Scope} {a : Addr} {ccd : Value} {cl : List (Str × Addr)} {outer : List Env} {A₀ : Around} {base h₀ : Heap} {L : Addr} {m : Str → Option Value} {s : Shared} {Q E : Value → Shared → Prop} {news : List (Addr × Obj)}
local macro_rules | `(tactic| walk_at "call ref") => `(tactic| (k_here; refine Stop.out ?_))
theorem check_c {x : Str} {t : Tok} (C : Cx w p loose mean mg mb dp un cn cs L a ccd cl outer A₀ base h₀ m s news) (hd2 : dp + 8 < recursionLimit) (hu2 : un + 64 < cLine)
    (hasc : x.cps.all (· < 128) = true) (hend : escEnd false x.cps.toList = false) (hlen : x.length ≤ 500) (hq : 34 ∈ x.cps.toList) (hbare : ∀ g ∈ s.gens, g.bare = true)
    (hasc2 : (stripS x).cps.all (· < 128) = true) (hend2 : escEnd false (stripS x).cps.toList = false)
    (ret : ∀ h' tk' gens, (∀ g ∈ gens, g.bare = true) → Fr h₀ L h' m → News h₀ L h' news → Q (.bool (checkS x)) { s with heap := h', toks := tk', gens := gens }) :
    wpAny (model PySem.Challenge.rw_xo0011_01.row.prog w) (ktrTop dp un gd cn cs L a ccd cl outer) (call (.ref 65) [.str x t]) Q E s := by
  obtain ⟨B, F, X, N, T, hk, hd, hu⟩ := C
  w_top off
  revert X; k_fill; intro X
  refine wpAny_call ?_
  k_dflt cell_enter
  k_steps
  refine Stop.mk ?_
  rename News _ _ _ _ => hN
  rename Fr _ _ _ _ => hF
  rename Frag.In _ _ => hX
  rename Top _ _ _ _ _ _ => hT
  rename Below _ _ _ _ => hB
  with_unfolding_all refine strip_c ⟨hB, hF, hX, hN, hT, rfl, ?_, ?_⟩ hasc hend hlen hq hbare ?_
  · dsimp only [ktrTop]; omega
  · dsimp only [ktrTop]; omega
  intro t' h' tk' gens hb F1 N1
  clear hN hF
  k_steps
  refine wpAny_For ?_ ?_
  · k_steps
    refine Stop.mk ?_
    rename News _ _ _ _ => hN
    rename Fr _ _ _ _ => hF
    with_unfolding_all refine iterFor (JCheck (escPairs 0 false (stripS x).cps.toList)) rfl ?_ rfl rfl rfl hF hN hX hT hb hasc2 hend2 ?_ ?_ ?_
    · ktr_room
    · exact ⟨rfl, _, _, by with_unfolding_all rfl, rfl⟩
    · intro it l' tp ts m₁ nx h tk gens own hb hadr hoff hJ F N
      obtain ⟨hnx, o, t, h1, h2⟩ := hJ
      rw [hnx] at N
      clear hnx hadr
      replace F := fr_ext2 F (ins rfl h1)
      k_steps
      · rename ((_ == Str.ofString "(") = true) => g1
        rename News _ _ _ _ => N'
        rename Fr _ _ _ _ => F'
        rw [lit_c1, ceq] at g1
        exact check_end (o := o + 1) F' N' (by with_unfolding_all rfl) (h2.trans (by rw [ckGo_cons, if_pos (by simpa using g1)]))
      · rename ((_ == Str.ofString ")") = true) => g2
        rename ((_ == Str.ofString "(") = false) => g1
        rename News _ _ _ _ => N'
        rename Fr _ _ _ _ => F'
        rename o - 1 < 0 => g3
        rw [lit_c1, ceq] at g1
        rw [lit_c2, ceq] at g2
        have e : false = checkS x := Eq.symm (h2.trans (by rw [ckGo_cons, if_neg (by simpa using g1), if_pos (by simpa using g2), if_pos g3]))
        rw [e]
        exact ret _ _ _ hb F' (fun q hq => N' q (List.mem_append_left _ hq))
      · rename ((_ == Str.ofString ")") = true) => g2
        rename ((_ == Str.ofString "(") = false) => g1
        rename News _ _ _ _ => N'
        rename Fr _ _ _ _ => F'
        rename ¬ o - 1 < 0 => g3
        rw [lit_c1, ceq] at g1
        rw [lit_c2, ceq] at g2
        exact check_end (o := o - 1) F' N' (by with_unfolding_all rfl) (h2.trans (by rw [ckGo_cons, if_neg (by simpa using g1), if_pos (by simpa using g2), if_neg g3]))
      · rename ((_ == Str.ofString ")") = false) => g2
        rename ((_ == Str.ofString "(") = false) => g1
        rename News _ _ _ _ => N'
        rename Fr _ _ _ _ => F'
        rw [lit_c1, ceq] at g1
        rw [lit_c2, ceq] at g2
        exact check_end (o := o) F' N' (by with_unfolding_all rfl) (h2.trans (by rw [ckGo_cons, if_neg (by simpa using g1), if_neg (by simpa using g2)]))
    · intro m₁ nx h tk gens hb hadr hJ F N
      obtain ⟨hnx, o, t, h1, h2⟩ := hJ
      rw [hnx] at N
      clear hnx hadr
      replace F := fr_ext0 F (ins rfl h1)
      k_steps
      rename News _ _ _ _ => N'
      rename Fr _ _ _ _ => F'
      have e : (o == 0) = checkS x := Eq.symm (h2.trans (by unfold ckGo; rw [Bool.eq_iff_iff]; simp))
      rw [e]
      exact ret _ _ _ hb F' N'
  · intro x; rfl
end
end Mine
namespace Mine
set_option maxRecDepth 100000
set_option maxHeartbeats 4000000
open PySem
def rxC : Array Nat := #[14, 8, 1, 2, 4294967295, 1, 1, 34, 0, 16, 34, 28, 22, 0, 4294967295, 7, 11, 13, 7, 21, 16, 34, 16, 92, 0, 15, 8, 6, 16, 92, 2, 15, 2, 0, 1, 16, 34, 1]
inductive Steps : Nat → Sre.M → Sre.M → Prop
  | refl (m) : Steps 0 m m
  | step {n m m'} (h : m.outcome = none) : Steps n m.step m' → Steps (n + 1) m m'
theorem Steps.run {n : Nat} {m m' : Sre.M} (h : Steps n m m') : m.runFor n = m' := by
  induction h with
  | refl => rfl
  | step h0 _ ih => unfold Sre.M.runFor; rw [h0]; exact ih
theorem Steps.trans {a b : Nat} {m m' m'' : Sre.M} (h : Steps a m m') (h' : Steps b m' m'') : Steps (a + b) m m'' := by
  induction h with
  | refl => simpa using h'
  | step h0 _ ih => rw [Nat.add_right_comm]; exact .step h0 (ih h')
theorem Steps.one {m m' : Sre.M} (h : m.outcome = none) (e : m.step = m') : Steps 1 m m' := .step h (e ▸ .refl _)
def RT (n : Nat) (m : Sre.M) (P : Sre.Seen → Sre.M) : Prop := ∃ seen', Steps n m (P seen')
theorem RT.step {n : Nat} {m : Sre.M} {P : Sre.Seen → Sre.M} (h : m.outcome = none) (r : RT n m.step P) : RT (n + 1) m P := let ⟨s, r⟩ := r; ⟨s, .step h r⟩
theorem RT.refl {P : Sre.Seen → Sre.M} (s : Sre.Seen) : RT 0 (P s) P := ⟨s, .refl _⟩
theorem RT.trans {a b : Nat} {m : Sre.M} {P P' : Sre.Seen → Sre.M} (h : RT a m P) (h' : ∀ s, RT b (P s) P') : RT (a + b) m P' := let ⟨s, r⟩ := h; let ⟨s', r'⟩ := h' s; ⟨s', r.trans r'⟩
def RB (b : Nat) (m : Sre.M) (P : Sre.Seen → Sre.M) : Prop := ∃ n, n ≤ b ∧ RT n m P
theorem RT.b {n b : Nat} {m : Sre.M} {P : Sre.Seen → Sre.M} (h : RT n m P) (hb : n ≤ b) : RB b m P := ⟨n, hb, h⟩
theorem RT.transB {a b c : Nat} {m : Sre.M} {P P' : Sre.Seen → Sre.M} (h : RT a m P) (h' : ∀ s, RB b (P s) P') (hc : a + b ≤ c) : RB c m P' := let ⟨s, r⟩ := h; let ⟨n, hn, s', r'⟩ := h' s; ⟨a + n, by omega, s', r.trans r'⟩
theorem RB.transB {a b c : Nat} {m : Sre.M} {P P' : Sre.Seen → Sre.M} (h : RB a m P) (h' : ∀ s, RB b (P s) P') (hc : a + b ≤ c) : RB c m P' := let ⟨n, hn, r⟩ := h; r.transB h' (by omega)
section
variable {T : Array Nat} {lim s q pos handed w : Nat} {om : Bool} {loops : Array Sre.Loop} {inner : Option Nat} {frames : List Sre.Frame} {seen : Sre.Seen} {k : Int}
abbrev rst (T : Array Nat) (lim s pc pos handed : Nat) (om : Bool) (loops : Array Sre.Loop) (inner : Option Nat) (frames : List Sre.Frame) (weight : Nat) (ans : Option Bool) (seen : Sre.Seen) : Sre.M :=
  { code := rxC, text := T, lim, start := s, lastStart := lim, wholeText := false, mustAdvance := false, pc, pos, handed, outermost := om, marks := #[], lastmark := -1, lastindex := -1, loops, inner, frames, weight, answer := ans, seen, outcome := none }
abbrev nsF (s : Nat) (om : Bool) : Sre.Frame := { wait := .nextStart, pc := 9, pos := s, outermost := om }
abbrev K0 : Sre.Kept := { lastmark := -1, lastindex := -1, whole := true, marks := #[] }
abbrev pmF (q : Nat) (om : Bool) (k : Int) : Sre.Frame := { wait := .possMore, pc := 11, pos := q, outermost := om, count := k, kept := K0, loop := 0, began := none }
abbrev nbF (a q : Nat) : Sre.Frame := { wait := .nextBranch, pc := a, pos := q, outermost := false, kept := K0 }
abbrev lp : Array Sre.Loop := #[{ pc := 0, count := -1, began := none, outer := none }]
abbrev stP (T : Array Nat) (lim s : Nat) (om : Bool) (seen : Sre.Seen) : Sre.M := rst T lim s 9 s s om #[] none [nsF s om] 1 none seen
abbrev stL (T : Array Nat) (lim s q : Nat) (om : Bool) (k : Int) (seen : Sre.Seen) : Sre.M := rst T lim s 15 q q false lp (some 0) [pmF q om k, nsF s om] 2 none seen

theorem step_lit9 : (rst T lim s 9 pos handed om loops inner frames w none seen).step =
    (if pos ≥ lim then rst T lim s 9 pos handed om loops inner frames w (some false) (seen.add 16) else
      cond (T.getD pos 0 == 34) (rst T lim s 11 (pos + 1) handed om loops inner frames w none (seen.add 16)) (rst T lim s 9 pos handed om loops inner frames w (some false) (seen.add 16))) := by
  kernel_rfl
theorem step_next : (rst T lim s 9 s s om #[] none [nsF s om] 1 (some false) seen).step = if s < lim then stP T lim (s + 1) false seen else rst T lim s 9 s s om #[] none [] 0 (some false) seen := by
  kernel_rfl
theorem step_lost : (rst T lim s 9 pos handed om loops inner [] w (some false) seen).step = { rst T lim s 9 pos handed om loops inner [] w (some false) seen with outcome := some .failed } := by
  kernel_rfl
theorem step_won : (rst T lim s 9 pos handed om loops inner [] w (some true) seen).step = { rst T lim s 9 pos handed om loops inner [] w (some true) seen with outcome := some .matched } := by
  kernel_rfl
theorem step_poss : (rst T lim s 11 (s + 1) handed om #[] none [nsF s om] 1 none seen).step = stL T lim s (s + 1) om 0 (seen.add 28) := by
  kernel_rfl
theorem step_branch : (stL T lim s q om k seen).step = rst T lim s 17 q q false lp (some 0) [nbF 16 q, pmF q om k, nsF s om] 3 none (seen.add 7) := by
  kernel_rfl
theorem step_in : (rst T lim s 17 q handed false loops inner frames 3 none seen).step = if q ≥ lim then rst T lim s 17 q handed false loops inner frames 3 (some false) (seen.add 13) else
    match Sre.accepts rxC 17 (T.getD q 0) (seen.add 13) with
    | .error why => (rst T lim s 17 q handed false loops inner frames 3 none (seen.add 13)).stick why
    | .ok (false, seen) => rst T lim s 17 q handed false loops inner frames 3 (some false) seen
    | .ok (true, seen) => rst T lim s 25 (q + 1) handed false loops inner frames 3 none seen := by
  kernel_rfl
theorem acc_in (c : Nat) (seen : Sre.Seen) : Sre.accepts rxC 17 c seen = if c == 34 then .ok (false, (seen.add 21).add 16) else if c == 92 then .ok (false, ((seen.add 21).add 16).add 16) else .ok (true, (((seen.add 21).add 16).add 16).add 0) := by
  kernel_rfl
theorem step_ok1 : (rst T lim s 25 pos handed false loops inner frames 3 none seen).step.step = rst T lim s 34 pos pos false loops inner frames 3 (some true) ((seen.add 15).add 1) := by
  kernel_rfl
theorem step_ok2 : (rst T lim s 31 pos handed false loops inner frames 3 none seen).step.step = rst T lim s 34 pos pos false loops inner frames 3 (some true) ((seen.add 15).add 1) := by
  kernel_rfl
theorem step_nb (a : Nat) : (rst T lim s 34 pos handed false loops inner (nbF a q :: frames) 3 (some true) seen).step = rst T lim s a q handed false loops inner frames 2 (some true) seen := by
  kernel_rfl
theorem step_alt1 : (rst T lim s 17 pos handed false loops inner (nbF 16 q :: frames) 3 (some false) seen).step = rst T lim s 28 q q false loops inner (nbF 27 q :: frames) 3 none seen := by
  kernel_rfl
theorem step_lit28 : (rst T lim s 28 pos handed false loops inner frames w none seen).step =
    (if pos ≥ lim then rst T lim s 28 pos handed false loops inner frames w (some false) (seen.add 16) else
      cond (T.getD pos 0 == 92) (rst T lim s 30 (pos + 1) handed false loops inner frames w none (seen.add 16)) (rst T lim s 28 pos handed false loops inner frames w (some false) (seen.add 16))) := by
  kernel_rfl
theorem step_any : (rst T lim s 30 pos handed false loops inner frames w none seen).step =
    (if pos ≥ lim then rst T lim s 30 pos handed false loops inner frames w (some false) (seen.add 2) else
      cond (T.getD pos 0 != 10) (rst T lim s 31 (pos + 1) handed false loops inner frames w none (seen.add 2)) (rst T lim s 30 pos handed false loops inner frames w (some false) (seen.add 2))) := by
  kernel_rfl
theorem step_alt2 : (rst T lim s 28 pos handed false loops inner (nbF 27 q :: frames) 3 (some false) seen).step = rst T lim s 27 q handed false loops inner frames 2 (some false) seen := by
  kernel_rfl
theorem step_pm_yes {pc : Nat} {om' : Bool} : (rst T lim s pc pos handed om' lp (some 0) [pmF q om k, nsF s om] 2 (some true) seen).step = (rst T lim s 11 q handed om lp (some 0) [nsF s om] 1 none seen).possessive 0 (k + 1) (some q) := by
  kernel_rfl
theorem step_pm_no {pc : Nat} {om' : Bool} : (rst T lim s pc pos handed om' lp (some 0) [pmF q om k, nsF s om] 2 (some false) seen).step = (rst T lim s 11 q q om lp (some 0) [nsF s om] 1 none seen).possessive 0 k (some q) := by
  kernel_rfl
theorem poss_go (hk : 0 ≤ k) (hq : q ≠ handed) : (rst T lim s 11 q handed om lp (some 0) [nsF s om] 1 none seen).possessive 0 k (some q) = stL T lim s handed om k seen := by
  unfold Sre.M.possessive
  have e2 : (rst T lim s 11 q handed om lp (some 0) [nsF s om] 1 none seen).word 2 = 0 := by kernel_rfl
  have e3 : (rst T lim s 11 q handed om lp (some 0) [nsF s om] 1 none seen).word 3 = 4294967295 := by kernel_rfl
  rw [e2, e3]
  dsimp only
  rw [if_neg (by simpa using hk), if_pos (by simp [Sre.maxRepeat, hq])]
  kernel_rfl
theorem poss_end (hk : 0 ≤ k) : (rst T lim s 11 q q om lp (some 0) [nsF s om] 1 none seen).possessive 0 k (some q) = rst T lim s 35 q q om #[] none [nsF s om] 1 none seen := by
  unfold Sre.M.possessive
  have e2 : (rst T lim s 11 q q om lp (some 0) [nsF s om] 1 none seen).word 2 = 0 := by kernel_rfl
  have e3 : (rst T lim s 11 q q om lp (some 0) [nsF s om] 1 none seen).word 3 = 4294967295 := by kernel_rfl
  rw [e2, e3]
  dsimp only
  rw [if_neg (by simpa using hk), if_neg (by simp)]
  kernel_rfl
theorem step_lit35 : (rst T lim s 35 pos handed om loops inner frames w none seen).step =
    (if pos ≥ lim then rst T lim s 35 pos handed om loops inner frames w (some false) (seen.add 16) else
      cond (T.getD pos 0 == 34) (rst T lim s 37 (pos + 1) handed om loops inner frames w none (seen.add 16)) (rst T lim s 35 pos handed om loops inner frames w (some false) (seen.add 16))) := by
  kernel_rfl
theorem step_succ : (rst T lim s 37 pos handed om #[] none [nsF s om] 1 none seen).step = rst T lim s 37 pos pos om #[] none [nsF s om] 1 (some true) (seen.add 1) := by
  cases om <;> kernel_rfl
theorem step_fin : (rst T lim s 37 pos handed om #[] none [nsF s om] 1 (some true) seen).step = rst T lim s 9 s handed om #[] none [] 0 (some true) seen := by
  kernel_rfl

def qspan : List Nat → Option Nat
  | [] => none
  | 34 :: _ => some 1
  | [92] => none
  | 92 :: c :: r => if c = 10 then none else (qspan r).map (· + 2)
  | _ :: r => (qspan r).map (· + 1)

theorem getD_drop {q c : Nat} {r : List Nat} (h : T.toList.drop q = c :: r) : q < T.size ∧ T.getD q 0 = c ∧ T.toList.drop (q + 1) = r := by
  have h1 : q < T.toList.length := by
    rcases Nat.lt_or_ge q T.toList.length with h' | h'
    · exact h'
    · rw [List.drop_eq_nil_of_le h'] at h; cases h
  have h2 : q < T.size := by simpa using h1
  rw [List.drop_eq_getElem_cons h1] at h
  have h3 := List.cons.inj h
  refine ⟨h2, ?_, h3.2⟩
  rw [Array.getD_eq_getD_getElem?, Array.getElem?_eq_getElem h2]
  simpa using h3.1

def Won (s e : Nat) (m : Sre.M) : Prop := m.outcome = some .matched ∧ m.start = s ∧ m.handed = e

theorem yes_to (hk : 0 ≤ k) {q' a : Nat} (hq : q < q') : Steps 2 (rst T lim s 34 q' q' false lp (some 0) [nbF a q, pmF q om k, nsF s om] 3 (some true) seen) (stL T lim s q' om (k + 1) seen) := by
  refine .step rfl ?_
  rw [step_nb]
  refine .one rfl ?_
  rw [step_pm_yes, poss_go (by omega) (Nat.ne_of_lt hq)]

theorem in_34 (h : q < lim) (hc : T.getD q 0 = 34) : (rst T lim s 17 q handed false loops inner frames 3 none seen).step = rst T lim s 17 q handed false loops inner frames 3 (some false) (((seen.add 13).add 21).add 16) := by
  rw [step_in, if_neg (by omega), hc, acc_in]
  rfl
theorem in_92 (h : q < lim) (hc : T.getD q 0 = 92) : (rst T lim s 17 q handed false loops inner frames 3 none seen).step = rst T lim s 17 q handed false loops inner frames 3 (some false) ((((seen.add 13).add 21).add 16).add 16) := by
  rw [step_in, if_neg (by omega), hc, acc_in]
  rfl
theorem in_any (h : q < lim) (hc : T.getD q 0 ≠ 34) (hd : T.getD q 0 ≠ 92) : (rst T lim s 17 q handed false loops inner frames 3 none seen).step = rst T lim s 25 (q + 1) handed false loops inner frames 3 none (((((seen.add 13).add 21).add 16).add 16).add 0) := by
  rw [step_in, if_neg (by omega), acc_in, if_neg (by simpa using hc), if_neg (by simpa using hd)]

abbrev stWon (T : Array Nat) (lim s e : Nat) (om : Bool) (seen : Sre.Seen) : Sre.M := { rst T lim s 9 s e om #[] none [] 0 (some true) seen with outcome := some .matched }
abbrev stLost (T : Array Nat) (lim s : Nat) (om : Bool) (seen : Sre.Seen) : Sre.M := { rst T lim s 9 s s om #[] none [] 0 (some false) seen with outcome := some .failed }
theorem L_close (h : q < lim) (hc : T.getD q 0 = 34) (hk : 0 ≤ k) : RT 10 (stL T lim s q om k seen) (stWon T lim s (q + 1) om) := by
  refine .step rfl ?_
  rw [step_branch]
  refine .step rfl ?_
  rw [in_34 h hc]
  refine .step rfl ?_
  rw [step_alt1]
  refine .step rfl ?_
  rw [step_lit28, if_neg (by omega), hc]
  show RT _ (rst _ _ _ _ _ _ _ _ _ _ _ _ _) _
  refine .step rfl ?_
  rw [step_alt2]
  refine .step rfl ?_
  rw [step_pm_no, poss_end hk]
  refine .step rfl ?_
  rw [step_lit35, if_neg (by omega), hc]
  show RT _ (rst _ _ _ _ _ _ _ _ _ _ _ _ _) _
  refine .step rfl ?_
  rw [step_succ]
  refine .step rfl ?_
  rw [step_fin]
  refine .step rfl ?_
  rw [step_won]
  exact RT.refl (P := stWon T lim s (q + 1) om) _
theorem L_yes (hk : 0 ≤ k) {q' a : Nat} (hq : q < q') : RT 2 (rst T lim s 34 q' q' false lp (some 0) [nbF a q, pmF q om k, nsF s om] 3 (some true) seen) (stL T lim s q' om (k + 1)) := by
  refine .step rfl ?_
  rw [step_nb]
  refine .step rfl ?_
  rw [step_pm_yes, poss_go (by omega) (Nat.ne_of_lt hq)]
  exact .refl _
theorem L_plain (h : q < lim) (hc : T.getD q 0 ≠ 34) (hd : T.getD q 0 ≠ 92) (hk : 0 ≤ k) : RT 6 (stL T lim s q om k seen) (stL T lim s (q + 1) om (k + 1)) := by
  refine .step rfl ?_
  rw [step_branch]
  refine .step rfl ?_
  rw [in_any h hc hd]
  refine .step rfl (.step rfl ?_)
  rw [step_ok1]
  exact L_yes hk (Nat.lt_succ_self q)
theorem L_esc (h : q + 1 < lim) (hc : T.getD q 0 = 92) (hd : T.getD (q + 1) 0 ≠ 10) (hk : 0 ≤ k) : RT 9 (stL T lim s q om k seen) (stL T lim s (q + 2) om (k + 1)) := by
  refine .step rfl ?_
  rw [step_branch]
  refine .step rfl ?_
  rw [in_92 (by omega) hc]
  refine .step rfl ?_
  rw [step_alt1]
  refine .step rfl ?_
  rw [step_lit28, if_neg (by omega), hc]
  show RT _ (rst _ _ _ _ _ _ _ _ _ _ _ _ _) _
  refine .step rfl ?_
  rw [step_any, if_neg (by omega)]
  rw [show (T.getD (q + 1) 0 != 10) = true by simpa using hd, cond_true]
  refine .step rfl (.step rfl ?_)
  rw [step_ok2]
  exact L_yes hk (by omega)

theorem inner_run (hlim : lim = T.size) : ∀ (n : Nat) (l : List Nat) (d q : Nat) (k : Int) (seen : Sre.Seen), l.length = n → T.toList.drop q = l → qspan l = some d → 0 ≤ k → RB (12 * d) (stL T lim s q om k seen) (stWon T lim s (q + d) om) := by
  intro n
  induction n using Nat.strongRecOn with
  | _ n ih =>
    intro l d q k seen hn h hd hk
    subst hn
    unfold qspan at hd
    split at hd
    · cases hd
    · obtain ⟨h1, h2, _⟩ := getD_drop h
      simp only [Option.some.injEq] at hd
      subst hd
      exact (L_close (by omega) h2 hk).b (by omega)
    · cases hd
    · rename_i c r
      obtain ⟨h1, h2, h3⟩ := getD_drop h
      obtain ⟨h4, h5, h6⟩ := getD_drop h3
      split at hd
      · cases hd
      · rename_i hc
        obtain ⟨d', hd', rfl⟩ := Option.map_eq_some_iff.mp hd
        rw [show q + (d' + 2) = q + 2 + d' by omega]
        exact (L_esc (by omega) h2 (by rw [h5]; exact hc) hk).transB (fun s' => ih r.length (by simp; omega) r d' (q + 2) (k + 1) s' rfl h6 hd' (by omega)) (by omega)
    · rename_i c r n1 n2 n3
      obtain ⟨h1, h2, h3⟩ := getD_drop h
      obtain ⟨d', hd', rfl⟩ := Option.map_eq_some_iff.mp hd
      have c1 : c ≠ 34 := fun e => n1 e
      have c2 : c ≠ 92 := fun e => by
        cases r with
        | nil => exact n2 e rfl
        | cons a b => exact n3 a b e rfl
      rw [show q + (d' + 1) = q + 1 + d' by omega]
      exact (L_plain (by omega) (by rw [h2]; exact c1) (by rw [h2]; exact c2) hk).transB (fun s' => ih r.length (by simp) r d' (q + 1) (k + 1) s' rfl h3 hd' (by omega)) (by omega)

theorem P_skip (h : s < lim) (hc : T.getD s 0 ≠ 34) : RT 2 (stP T lim s om seen) (stP T lim (s + 1) false) := by
  refine .step rfl ?_
  rw [step_lit9, if_neg (by omega), show (T.getD s 0 == 34) = false by simpa using hc, cond_false]
  refine .step rfl ?_
  rw [step_next, if_pos h]
  exact .refl _
theorem P_end (hs : s = lim) : RT 3 (stP T lim s om seen) (stLost T lim s om) := by
  refine .step rfl ?_
  rw [step_lit9, if_pos (by omega)]
  refine .step rfl ?_
  rw [step_next, if_neg (by omega)]
  refine .step rfl ?_
  rw [step_lost]
  exact RT.refl (P := stLost T lim s om) _
theorem P_quote (h : s < lim) (hc : T.getD s 0 = 34) : RT 2 (stP T lim s om seen) (stL T lim s (s + 1) om 0) := by
  refine .step rfl ?_
  rw [step_lit9, if_neg (by omega), hc]
  show RT _ (rst _ _ _ _ _ _ _ _ _ _ _ _ _) _
  refine .step rfl ?_
  rw [step_poss]
  exact .refl _

theorem outer_won (hlim : lim = T.size) : ∀ (u r : List Nat) (d s : Nat) (om : Bool) (seen : Sre.Seen), T.toList.drop s = u ++ 34 :: r → (∀ c ∈ u, c ≠ 34) → qspan r = some d → ∃ om', RB (2 * u.length + 12 * d + 2) (stP T lim s om seen) (stWon T lim (s + u.length) (s + u.length + 1 + d) om') := by
  intro u
  induction u with
  | nil =>
    intro r d s om seen h _ hd
    obtain ⟨h1, h2, h3⟩ := getD_drop h
    exact ⟨om, (P_quote (by omega) h2).transB (fun s' => inner_run hlim _ r d (s + 1) 0 s' rfl h3 hd (by omega)) (by simp; omega)⟩
  | cons c u ih =>
    intro r d s om seen h hu hd
    obtain ⟨h1, h2, h3⟩ := getD_drop h
    obtain ⟨s', hr⟩ := P_skip (om := om) (seen := seen) (show s < lim by omega) (by rw [h2]; exact hu c (.head _))
    obtain ⟨om', n, hn, s'', hr'⟩ := ih r d (s + 1) false s' h3 (fun c hc => hu c (.tail _ hc)) hd
    refine ⟨om', 2 + n, by simp; omega, s'', ?_⟩
    rw [List.length_cons, show s + (u.length + 1) = s + 1 + u.length by omega]
    exact hr.trans hr'
theorem outer_lost (hlim : lim = T.size) : ∀ (u : List Nat) (s : Nat) (om : Bool) (seen : Sre.Seen), s ≤ lim → T.toList.drop s = u → (∀ c ∈ u, c ≠ 34) → ∃ om', RB (2 * u.length + 3) (stP T lim s om seen) (stLost T lim lim om') := by
  intro u
  induction u with
  | nil =>
    intro s om seen hs h _
    have : s = lim := by
      have h1 : T.toList.length ≤ s := List.drop_eq_nil_iff.mp h
      have : T.toList.length = T.size := by simp
      omega
    subst this
    exact ⟨om, (P_end rfl).b (by simp)⟩
  | cons c u ih =>
    intro s om seen hs h hu
    obtain ⟨h1, h2, h3⟩ := getD_drop h
    obtain ⟨s', hr⟩ := P_skip (om := om) (seen := seen) (show s < lim by omega) (by rw [h2]; exact hu c (.head _))
    obtain ⟨om', n, hn, s'', hr'⟩ := ih (s + 1) false s' (by omega) h3 fun c hc => hu c (.tail _ hc)
    exact ⟨om', 2 + n, by simp; omega, s'', hr.trans hr'⟩

theorem search_start (h1 : s ≤ lim) (h2 : ¬ lim - s < 2) : Sre.forSearch rxC T 0 s lim false = stP T lim s true (({} : Sre.Seen).add 14) := by
  have e : Sre.forSearch rxC T 0 s lim false = if (decide (s > lim) || decide (lim - s < 2)) = true then ({ rst T lim s 9 s s true #[] none [] 0 none (({} : Sre.Seen).add 14) with lastStart := 0 } : Sre.M).say false else stP T lim s true (({} : Sre.Seen).add 14) := by
    kernel_rfl
  rw [e, if_neg (by simp; omega)]
theorem search_short (h2 : s > lim ∨ lim - s < 2) : ∃ m, Sre.forSearch rxC T 0 s lim false = m ∧ m.outcome = none ∧ m.step.outcome = some .failed := by
  have e : Sre.forSearch rxC T 0 s lim false = if (decide (s > lim) || decide (lim - s < 2)) = true then ({ rst T lim s 9 s s true #[] none [] 0 none (({} : Sre.Seen).add 14) with lastStart := 0 } : Sre.M).say false else stP T lim s true (({} : Sre.Seen).add 14) := by
    kernel_rfl
  rw [if_pos (by simpa using h2)] at e
  exact ⟨_, e, rfl, by kernel_rfl⟩
end
end Mine
namespace Mine
set_option maxRecDepth 100000
set_option maxHeartbeats 4000000
open PySem PySem.W PyProof.Rows PySem.Calls PyProof.V PySem.Spec
open PySem.Builtin.Re

theorem Steps.split {a : Nat} : ∀ {b : Nat} {m mf : Sre.M}, Steps (a + b) m mf → ∃ m1, Steps a m m1 ∧ Steps b m1 mf := by
  induction a with
  | zero => intro b m mf h; exact ⟨m, .refl _, by simpa using h⟩
  | succ a ih =>
    intro b m mf h
    rw [Nat.add_right_comm] at h
    cases h with
    | step h0 h1 =>
      obtain ⟨m1, h2, h3⟩ := ih h1
      exact ⟨m1, .step h0 h2, h3⟩
theorem runFor_done {m : Sre.M} (h : m.outcome.isSome = true) : ∀ n, m.runFor n = m
  | 0 => rfl
  | n + 1 => by unfold Sre.M.runFor; rw [if_pos h]
theorem runFor_add : ∀ (a b : Nat) (m : Sre.M), m.runFor (a + b) = (m.runFor a).runFor b
  | 0, b, m => by simp [Sre.M.runFor]
  | a + 1, b, m => by
    rw [Nat.add_right_comm]
    by_cases h : m.outcome.isSome = true
    · rw [runFor_done h, runFor_done h, runFor_done h]
    · show (if m.outcome.isSome = true then m else Sre.M.runFor (a + b) m.step) = (if m.outcome.isSome = true then m else Sre.M.runFor a m.step).runFor b
      rw [if_neg h, if_neg h, runFor_add a b]
section
variable {M : Model} {A : Around} {E : Value → Shared → Prop} {s : Shared}
theorem drive {mf : Sre.M} {Q : Sre.M → Shared → Prop} (hf : mf.outcome.isSome = true) (hQ : Q mf s) : ∀ (turns n : Nat) (m : Sre.M), Steps n m mf → n ≤ 4 * turns → 0 < turns → wpAny M A (reDrive turns m) Q E s := by
  intro turns
  induction turns with
  | zero => intro n m _ _ h; exact absurd h (Nat.lt_irrefl _)
  | succ t ih =>
    intro n m hs hn _
    show wpAny M A (if (m.runFor 4).outcome.isSome = true then pure (m.runFor 4) else (do rule "sre.turn"; reDrive t (m.runFor 4))) Q E s
    by_cases h4 : n ≤ 4
    · have e : m.runFor 4 = mf := by
        have := runFor_add n (4 - n) m
        rw [show n + (4 - n) = 4 by omega, hs.run, runFor_done hf] at this
        exact this
      rw [e, if_pos hf]
      exact wpAny_pure hQ
    · obtain ⟨m1, h1, h2⟩ := Steps.split (a := 4) (b := n - 4) (by rw [show 4 + (n - 4) = n by omega]; exact hs)
      rw [h1.run]
      obtain ⟨k, hk⟩ : ∃ k, n - 4 = k + 1 := ⟨n - 5, by omega⟩
      rw [hk] at h2
      have h0 : m1.outcome = none := by cases h2 with | step h0 _ => exact h0
      rw [h0, if_neg (by simp)]
      exact wpAny_bind (wpAny_rule (ih (k + 1) m1 h2 (by omega) (by omega)))

theorem rules_in {f : Nat → Bool} {g : Nat → String} {Q : PUnit → Shared → Prop} (h : Q PUnit.unit s) : ∀ {l : List Nat}, wpAny M A (forIn l PUnit.unit fun i _ => if f i = true then (do rule (g i); pure (ForInStep.yield PUnit.unit)) else pure (ForInStep.yield PUnit.unit)) Q E s
  | [] => wpAny_pure h
  | i :: l => by
    rw [List.forIn_cons]
    by_cases hf : f i = true
    · rw [if_pos hf]
      exact wpAny_bind (wpAny_bind (wpAny_rule (wpAny_pure (rules_in h))))
    · rw [if_neg hf]
      exact wpAny_bind (wpAny_pure (rules_in h))
theorem toEnd {n : Nat} {m mf : Sre.M} {Q : Option Sre.M → Shared → Prop} (hs : Steps n m mf) (hn : n ≤ 1000000) (h : (mf.outcome = some .matched ∧ Q (some mf) s) ∨ (mf.outcome = some .failed ∧ Q none s)) : wpAny M A (reRunToEnd m) Q E s := by
  have hf : mf.outcome.isSome = true := by rcases h with ⟨h, _⟩ | ⟨h, _⟩ <;> rw [h] <;> rfl
  unfold reRunToEnd
  refine wpAny_bind (drive hf ?_ (2 ^ 64) n m hs (Nat.le_trans hn (by decide)) (by decide))
  refine wpAny_bind (rules_in ?_)
  rcases h with ⟨h, hq⟩ | ⟨h, hq⟩
  · rw [h]; exact wpAny_pure hq
  · rw [h]; exact wpAny_pure hq
end
end Mine
namespace Mine
set_option maxRecDepth 100000
set_option maxHeartbeats 4000000
open PySem PySem.W PyProof.Rows PySem.Calls PyProof.V PySem.Spec
theorem slot_bcount : Slot "bytes" "count" "bytes.count" :=
  .of (owner := "bytes") (n := "count") (by rw [typeLookup_type, builtinLookup_eq_fast]; kernel_rfl) (by decide +kernel) (by decide +kernel) (by decide +kernel)
    (by first | exact .inl (by decide +kernel) | exact .inr (by decide +kernel)) (by rw [isSubtype_type]; kernel_rfl)
theorem type_bcount : typeOf (.builtin "bytes.count") = pure (.type "method_descriptor") := by show builtinType _ = _; rw [builtinType_eq_fast]; kernel_rfl
theorem entry_bcount : entryFor table "bytes.count" = some Builtin.«bytes.count» := entryFor_of_tree (by kernel_rfl)
theorem args_bcount (a b : Value) : argsOk "bytes.count" ⟨[a, b], []⟩ := by
  unfold argsOk; rw [signature?_of (id := "bytes.count") (n := ['t', 'n', 'u', 'o', 'c']) (o := ['s', 'e', 't', 'y', 'b']) (by kernel_rfl) FB.owner_bytes]; kernel_rfl
theorem slot_bjoin : Slot "bytes" "join" "bytes.join" :=
  .of (owner := "bytes") (n := "join") (by rw [typeLookup_type, builtinLookup_eq_fast]; kernel_rfl) (by decide +kernel) (by decide +kernel) (by decide +kernel)
    (by first | exact .inl (by decide +kernel) | exact .inr (by decide +kernel)) (by rw [isSubtype_type]; kernel_rfl)
theorem entry_bjoin : entryFor table "bytes.join" = some Builtin.«bytes.join» := entryFor_of_tree (by kernel_rfl)
theorem args_bjoin (a b : Value) : argsOk "bytes.join" ⟨[a, b], []⟩ := by
  unfold argsOk; rw [signature?_of (id := "bytes.join") (n := ['n', 'i', 'o', 'j']) (o := ['s', 'e', 't', 'y', 'b']) (by kernel_rfl) FB.owner_bytes]; kernel_rfl
theorem slot_psub : Slot "re.Pattern" "sub" "re.Pattern.sub" :=
  .of (owner := "re.Pattern") (n := "sub") (by rw [typeLookup_type, builtinLookup_eq_fast]; kernel_rfl) (by decide +kernel) (by decide +kernel) (by decide +kernel)
    (by first | exact .inl (by decide +kernel) | exact .inr (by decide +kernel)) (by rw [isSubtype_type]; kernel_rfl)
theorem type_psub : typeOf (.builtin "re.Pattern.sub") = pure (.type "method_descriptor") := by show builtinType _ = _; rw [builtinType_eq_fast]; kernel_rfl
theorem entry_psub : entryFor table "re.Pattern.sub" = some Builtin.«re.Pattern.sub» := entryFor_of_tree (by kernel_rfl)
theorem entry_psubl : entryFor table "re.Pattern.sub.loop" = some Builtin.«re.Pattern.sub.loop» := entryFor_of_tree (by kernel_rfl)
theorem args_psub (a b c : Value) : argsOk "re.Pattern.sub" ⟨[a, b, c], []⟩ := by
  unfold argsOk; kernel_rfl
end Mine
namespace Mine
set_option maxRecDepth 100000
set_option maxHeartbeats 4000000
open PySem PySem.W PyProof.Rows PySem.Calls PyProof.V PySem.Spec
open Builtin
def cntB (c : UInt8) (b : Array UInt8) : Nat := b.toList.count c
theorem foldl_occ (b : Array UInt8) (c : UInt8) : ∀ k, k ≤ b.size →
    (((List.range k).map (· + 0)).foldl (fun (acc : List Nat × Nat) (i : Nat) => if (decide (i ≥ acc.2) && b.extract i (i + (#[c] : Array UInt8).size) == #[c]) = true then (i :: acc.1, i + (#[c] : Array UInt8).size) else acc) ([], 0)).1.length = (b.toList.take k).count c ∧
    (((List.range k).map (· + 0)).foldl (fun (acc : List Nat × Nat) (i : Nat) => if (decide (i ≥ acc.2) && b.extract i (i + (#[c] : Array UInt8).size) == #[c]) = true then (i :: acc.1, i + (#[c] : Array UInt8).size) else acc) ([], 0)).2 ≤ k := by
  intro k
  induction k with
  | zero => intro _; simp
  | succ k ih =>
    intro hk
    obtain ⟨h1, h2⟩ := ih (by omega)
    rw [List.range_succ, List.map_append, List.foldl_append, List.map_singleton, List.foldl_cons, List.foldl_nil]
    generalize ((List.range k).map (· + 0)).foldl _ _ = acc at h1 h2 ⊢
    have hlt : k < b.size := by omega
    have e1 : b.extract (k + 0) (k + 0 + (#[c] : Array UInt8).size) = #[b[k]] := by
      apply Array.ext'
      simp [Array.toList_extract]
      rw [List.drop_eq_getElem_cons (by simpa using hlt)]
      simp
    have e2 : b.toList.take (k + 1) = b.toList.take k ++ [b[k]] := by
      rw [List.take_succ_eq_append_getElem (by simpa using hlt)]; simp
    rw [e1, e2, List.count_append]
    have e3 : decide (k + 0 ≥ acc.2) = true := by simpa using h2
    rw [e3, Bool.true_and]
    by_cases hc : b[k] = c
    · rw [if_pos (by simp [hc])]
      simp [hc, h1]
    · rw [if_neg (by simp [hc])]
      simp [hc, h1]
      omega
theorem occ_count (b : Array UInt8) (c : UInt8) : (Bytes.occurrences b #[c] 0 b.size).length = cntB c b := by
  have h := (foldl_occ b c b.size (Nat.le_refl _)).1
  rw [List.take_of_length_le (by simp)] at h
  unfold cntB
  rw [← h]
  unfold Bytes.occurrences
  rw [List.length_reverse]
  rfl
section
variable {prog : Program} {w : World} {A : Around} {E : Value → Shared → Prop} {s : Shared} {b : Array UInt8} {c : UInt8} {t u : Tok} {Q : Value → Shared → Prop}
theorem search_eq : Bytes.searchArgs .bytes "count" ⟨[.bytes b t, .bytes #[c] u], []⟩ = pure (b, #[c], if (((min (b.size : Int) (b.size : Int)) : Int) - 0 < (1 : Int)) then none else some (0, (min (b.size : Int) (b.size : Int)).toNat)) := by
  unfold Bytes.searchArgs
  show (Bytes.buffer? _ (.bytes #[c] u) >>= fun r => _) = _
  rw [KBy.buffer_eq]
  with_unfolding_all rfl
theorem call_count (h : ∀ k, Q (.int (cntB c b) s.toks) { s with toks := k }) : wpAny (model prog w) A (call (.builtin "bytes.count") [.bytes b t, .bytes #[c] u]) Q E s := by
  refine wpAny_call_entry slot_bcount (typeIs_bytes _ _ _) entry_bcount ?_ (args_bcount _ _)
  show wpAny _ _ (Bytes.countM .bytes _) _ _ _
  unfold Bytes.countM
  refine wpAny_bind (wpAny_of_eq search_eq ?_)
  rw [Int.min_self, Int.sub_zero]
  by_cases hb : (b.size : Int) < 1
  · rw [if_pos hb]
    have hz : b.toList = [] := by
      have : b.size = 0 := by omega
      exact List.length_eq_zero_iff.mp (by simpa using this)
    have e : cntB c b = 0 := by unfold cntB; rw [hz]; rfl
    rw [e] at h
    exact wpAny_bind (wpAny_mkInt (wpAny_pure ⟨_, rfl, h _⟩))
  · rw [if_neg hb]
    show wpAny _ _ (if (#[c] : Array UInt8).isEmpty = true then _ else retInt ((Bytes.occurrences b #[c] 0 ((b.size : Int)).toNat).length : Nat)) _ _ _
    rw [if_neg (by simp), Int.toNat_natCast, occ_count]
    exact wpAny_bind (wpAny_mkInt (wpAny_pure ⟨_, rfl, h _⟩))
end
end Mine
namespace Mine
set_option maxRecDepth 100000
set_option maxHeartbeats 4000000
open PySem PySem.W PyProof.Rows PySem.Calls PyProof.V PySem.Spec
open Builtin
theorem range_two {σ : Type} (n : Nat) (b0 b1 : σ) (f : Nat → σ → Sem (ForInStep σ)) (h0 : n ≠ 0 → f 0 b0 = pure (.yield b1)) (h1 : ∀ i, f i b1 = pure (.done b1)) (hz : n = 0 → b0 = b1) :
    (forIn [:n] b0 f) = pure b1 := by
  rw [Std.Legacy.Range.forIn_eq_forIn_range']
  simp only [Std.Legacy.Range.size]
  cases n with
  | zero => simp [hz rfl]
  | succ n =>
    have e : List.range' 0 ((n + 1 - 0 + 1 - 1) / 1) 1 = 0 :: List.range' 1 n 1 := by
      simp [List.range'_succ]
    rw [e, List.forIn_cons, h0 (by omega)]
    show (forIn (List.range' 1 n 1) b1 f) = _
    cases n with
    | zero => rfl
    | succ n =>
      rw [List.range'_succ, List.forIn_cons, h1]
      rfl
theorem mkB {M : Model} {A : Around} {E : Value → Shared → Prop} {s : Shared} {b : Array UInt8} {Q : Value → Shared → Prop} (hz : b.size ≤ sizeLine) (h : Q (.bytes b s.toks) { s with toks := s.toks + 1 }) : wpAny M A (mkBytes b) Q E s := by
  unfold mkBytes
  rw [if_neg (Nat.not_lt.mpr hz)]
  exact wpAny_bind (wpAny_fresh (wpAny_pure h))
section
variable {prog : Program} {w : World} {A : Around} {E : Value → Shared → Prop} {s : Shared} {x : PySem.Str} {t u : Tok} {Q : Value → Shared → Prop}
theorem enc_road : _codecs.encodeRoad "str.encode" (.str x t) x (PySem.Str.ofString "utf-8") none = (_codecs.encodeNarrow "str.encode" _codecs.utf8Codec none (.str x t) x >>= fun b => mkBytes b) := by
  kernel_rfl
theorem enc_entry : «str.encode» ⟨[.str x t], []⟩ = (_codecs.encodeRoad "str.encode" (.str x t) x (PySem.Str.ofString "utf-8") none >>= fun v => ret v) := by
  kernel_rfl
def encB (x : PySem.Str) : Array UInt8 := x.cps.map (·.toUInt8)
theorem foldl_push (l : List Nat) (h : ∀ c ∈ l, c < 128) : ∀ out : Array UInt8, l.foldl (fun acc y => acc ++ (_codecs.utf8Codec.bytesOf y).toArray) out = out ++ (l.map (·.toUInt8)).toArray := by
  induction l with
  | nil => intro out; simp
  | cons c r ih =>
    intro out
    rw [List.foldl_cons, ih fun d hd => h d (.tail _ hd)]
    have e : _codecs.utf8Codec.bytesOf c = [c.toUInt8] := by
      show PySem.Str.utf8Of c = _
      unfold PySem.Str.utf8Of
      rw [if_pos (h c (.head _))]
    rw [e]
    simp
theorem not_bad {c : Nat} (h : c < 128) : _codecs.utf8Codec.bad c = false := by
  show PySem.Str.isSurrogate c = false
  unfold PySem.Str.isSurrogate
  simp
  omega
theorem enc_narrow (ha : ∀ c ∈ x.cps.toList, c < 128) (hz : x.length ≤ 1000) : _codecs.encodeNarrow "str.encode" _codecs.utf8Codec none (.str x t) x = pure (encB x) := by
  unfold _codecs.encodeNarrow
  have hno : Array.findIdx? _codecs.utf8Codec.bad (x.cps.extract 0) = none := by
    rw [Array.findIdx?_eq_none_iff]
    intro c hc
    exact not_bad (ha c (by simpa using hc))
  dsimp only
  have q := range_two (σ := Nat × Array UInt8 × _codecs.Faults) x.length (0, #[], {}) (x.cps.size, encB x, {})
  rw [q _ ?_ ?_ ?_]
  · rfl
  · intro h0
    dsimp only
    have hl : 0 < x.cps.size := Nat.pos_of_ne_zero h0
    rw [if_neg (by simp), Array.getElem?_eq_getElem hl]
    dsimp only
    rw [not_bad (ha _ (by simp))]
    rw [if_pos (show (!false) = true from rfl), hno]
    have e1 : (x.cps.extract 0).size = x.cps.size := by simp
    have e2 : ((x.cps.extract 0).extract 0 ((none : Option Nat).getD (x.cps.extract 0).size)).foldl (fun acc y => acc ++ (_codecs.utf8Codec.bytesOf y).toArray) #[] = encB x := by
      rw [← Array.foldl_toList]
      have e3 : ((x.cps.extract 0).extract 0 ((none : Option Nat).getD (x.cps.extract 0).size)).toList = x.cps.toList := by simp
      rw [e3, foldl_push _ ha]
      unfold encB
      apply Array.ext'
      simp
    rw [e2]
    simp
  · intro i
    dsimp only
    have e : (encB x).size = x.length := by simp [encB, PySem.Str.length]
    rw [if_neg (by rw [e]; exact Nat.not_lt.mpr (le_line hz))]
    have e2 : x.cps[x.cps.size]? = none := Array.getElem?_eq_none (Nat.le_refl _)
    rw [e2]
  · intro h0
    have : x.cps = #[] := Array.eq_empty_of_size_eq_zero h0
    simp [encB, this]
theorem call_encode (ha : ∀ c ∈ x.cps.toList, c < 128) (hz : x.length ≤ 1000) (h : ∀ t' k, Q (.bytes (encB x) t') { s with toks := k }) : wpAny (model prog w) A (call (.builtin "str.encode") [.str x t]) Q E s := by
  refine wpAny_call_entry F.slot_str_encode (typeIs_str _ _ _) F.entry_str_encode ?_ (F.args_str_encode_1 _)
  rw [enc_entry, enc_road, enc_narrow ha hz]
  have e : (encB x).size = x.length := by simp [encB, PySem.Str.length]
  exact wpAny_bind (wpAny_bind (wpAny_pure (mkB (by rw [e]; exact le_line hz) (wpAny_pure ⟨_, rfl, h _ _⟩))))
end
end Mine
namespace Mine
set_option maxRecDepth 100000
set_option maxHeartbeats 4000000
open PySem PySem.W PyProof.Rows PySem.Calls PyProof.V PySem.Spec
open Builtin
section
variable {M : Model} {A : Around} {E : Value → Shared → Prop} {s : Shared}
theorem forList {σ : Type} {Q : σ → Shared → Prop} {f : Nat → σ → Sem (ForInStep σ)} {n : Nat} (I : Nat → σ → Prop)
    (step : ∀ i b, i < n → I i b → ∀ Q' : ForInStep σ → Shared → Prop, (∀ b', I (i + 1) b' → Q' (.yield b') s) → wpAny M A (f i b) Q' E s) (done : ∀ b, I n b → Q b s) :
    ∀ (k i : Nat) (b : σ), i + k = n → I i b → wpAny M A (forIn (List.range' i k 1) b f) Q E s := by
  intro k
  induction k with
  | zero =>
    intro i b hk hI
    exact wpAny_pure (done b (by have : i = n := by omega
                                 rw [← this]; exact hI))
  | succ k ih =>
    intro i b hk hI
    rw [List.range'_succ, List.forIn_cons]
    refine wpAny_bind (step i b (by omega) hI _ fun b' hb' => ?_)
    exact ih (i + 1) b' (by omega) hb'
theorem forRange {σ : Type} {Q : σ → Shared → Prop} {f : Nat → σ → Sem (ForInStep σ)} {n : Nat} {b : σ} (I : Nat → σ → Prop) (h0 : I 0 b)
    (step : ∀ i b, i < n → I i b → ∀ Q' : ForInStep σ → Shared → Prop, (∀ b', I (i + 1) b' → Q' (.yield b') s) → wpAny M A (f i b) Q' E s) (done : ∀ b, I n b → Q b s) :
    wpAny M A (forIn [:n] b f) Q E s := by
  rw [Std.Legacy.Range.forIn_eq_forIn_range']
  simp only [Std.Legacy.Range.size]
  rw [show (n - 0 + 1 - 1) / 1 = n by simp]
  exact forList I step done n 0 b (by simp) h0
end
abbrev bV (p : Array UInt8 × Tok) : Value := .bytes p.1 p.2
theorem take_eq {b : Array UInt8} {t : Tok} {id : String} : Bytes.takeBufferQuiet? id (.bytes b t) 0 = pure (some (b, none)) := by
  unfold Bytes.takeBufferQuiet? Bytes.takeBuffer?
  rw [KBy.special_eq KBy.look_buffer, KBy.own_buffer]
  simp only [show ((0 : Int) == Bytes.fullReadOnly) = false by decide, KBy.buffer_eq]
  kernel_rfl
def catB (bl : List (Array UInt8 × Tok)) : Array UInt8 := Bytes.joined #[] (bl.map (·.1))
theorem catB_list (bl : List (Array UInt8 × Tok)) : (catB bl).toList = bl.flatMap (·.1.toList) := by
  unfold catB Bytes.joined
  have key : ∀ (l : List (Array UInt8)) (k : Nat) (out : Array UInt8), ((l.zipIdx k).foldl (fun out (x : Array UInt8 × Nat) => (if x.2 > 0 then out ++ (#[] : Array UInt8) else out) ++ x.1) out).toList = out.toList ++ l.flatMap (·.toList) := by
    intro l
    induction l with
    | nil => intro k out; simp
    | cons y r ih =>
      intro k out
      rw [List.zipIdx_cons, List.foldl_cons, ih]
      split <;> simp
  rw [show (fun (out : Array UInt8) (x : Array UInt8 × Nat) => match x with | (p, i) => (if i > 0 then out ++ (#[] : Array UInt8) else out) ++ p) = fun out x => (if x.2 > 0 then out ++ (#[] : Array UInt8) else out) ++ x.1 from rfl, key]
  simp [List.flatMap_map]
section
variable {prog : Program} {w : World} {A : Around} {E : Value → Shared → Prop} {s : Shared} {Q : Value → Shared → Prop}
theorem letGo_all {taken : List (Value × Option Value)} {keep : List Value} {Q : Unit → Shared → Prop} (hn : ∀ p ∈ taken, p.2 = none) (h : Q () s) : wpAny (model prog w) A (Bytes.joinLetGo taken keep) Q E s := by
  induction taken with
  | nil => exact wpAny_pure h
  | cons p r ih =>
    obtain ⟨x, u⟩ := p
    have e : u = none := hn (x, u) (.head _)
    subst e
    unfold Bytes.joinLetGo
    exact wpAny_bind (wpAny_letGo (ih fun q hq => hn q (.tail _ hq)))
theorem call_join {bl : List (Array UInt8 × Tok)} {l : Addr} {n : Nat} {t : Tok} (hl : s.heap.get? l = some ⟨.type "list", none, .seq (bl.map bV).toArray n, #[]⟩) (hz : (bl.map (·.1.size)).sum ≤ 1000)
    (h : ∀ t' k, Q (.bytes (catB bl) t') { s with toks := k }) : wpAny (model prog w) A (call (.builtin "bytes.join") [.bytes #[] t, .ref l]) Q E s := by
  refine wpAny_call_entry slot_bjoin (typeIs_bytes _ _ _) entry_bjoin ?_ (args_bjoin _ _)
  show wpAny _ _ (Bytes.joinM .bytes _) _ _ _
  unfold Bytes.joinM
  refine wpAny_bind (m := selfAndOne _ _) (wpAny_pure ?_)
  have hT : s.TypeIs (.ref l) "list" := ⟨_, hl, rfl⟩
  refine wpAny_bind (m := Bytes.joinItems (.ref l)) ?_
  unfold Bytes.joinItems
  refine wpAny_bind (wpAny_typeOf hT ?_)
  refine wpAny_pure ?_
  refine wpAny_bind (wpAny_seqItems hl rfl ?_)
  dsimp only
  rw [if_pos (by decide)]
  have hcases : (∃ p, bl = [p]) ∨ bl = [] ∨ ∃ p q r, bl = p :: q :: r := by
    rcases bl with _ | ⟨p, _ | ⟨q, r⟩⟩
    · exact .inr (.inl rfl)
    · exact .inl ⟨p, rfl⟩
    · exact .inr (.inr ⟨p, q, r, rfl⟩)
  rcases hcases with ⟨p, rfl⟩ | hmore
  · with_unfolding_all show wpAny _ _ (typeOf (bV p) >>= _) _ _ _
    have hc : catB [p] = p.1 := by simp [catB, Bytes.joined]
    rw [hc] at h
    refine wpAny_bind (wpAny_typeOf (T := "bytes") (typeIs_bytes _ _ _) ?_)
    rw [if_pos (by decide)]
    exact wpAny_bind (wpAny_rule (wpAny_pure ⟨_, rfl, h p.2 s.toks⟩))
  · rcases hmore with rfl | ⟨p, q, r, rfl⟩
    all_goals with_unfolding_all show wpAny _ _ (forIn [: _] ((#[] : Array (Array UInt8)), ([] : List (Value × Option Value))) _ >>= _) _ _ _
    all_goals first | generalize (p :: q :: r) = bl at * | generalize ([] : List (Array UInt8 × Tok)) = bl at *
    all_goals (
      have hsz : (List.map bV bl).toArray.size = bl.length := by simp
      rw [hsz]
      refine wpAny_bind (forRange (fun i (st : Array (Array UInt8) × List (Value × Option Value)) => st.1 = ((bl.take i).map (·.1)).toArray ∧ (∀ q ∈ st.2, q.2 = none) ∧ st.2.any (fun x => x.1.onHeap) = false) ⟨by simp, by simp, by simp⟩ ?_ ?_)
      · rintro i ⟨parts, taken⟩ hi ⟨h1, h2, h3⟩ Q' hQ'
        dsimp only at h1 h2 h3 ⊢
        refine wpAny_bind (wpAny_seqItems hl rfl ?_)
        dsimp only
        rw [h3]
        rw [if_neg (by decide)]
        have hx : (List.map bV bl).toArray.getD i Value.none = bV bl[i] := by
          simp [Array.getD, hi]
        rw [hx]
        refine wpAny_bind (wpAny_holding (wpAny_of_eq take_eq ?_))
        dsimp only
        refine wpAny_bind (wpAny_seqItems hl rfl ?_)
        dsimp only
        rw [if_neg (by simp)]
        refine wpAny_pure (hQ' _ ⟨?_, ?_, ?_⟩)
        · dsimp only
          rw [h1, List.take_succ_eq_append_getElem hi, List.map_append, List.map_singleton, List.push_toArray]
        · intro q hq
          rcases List.mem_append.mp hq with hq | hq
          · exact h2 q hq
          · rw [List.mem_singleton.mp hq]
        · dsimp only
          rw [List.any_append, h3]
          rfl
      · rintro ⟨parts, taken⟩ ⟨h1, h2, h3⟩
        dsimp only at h1 h2 h3 ⊢
        rw [List.take_length] at h1
        subst h1
        refine wpAny_bind (m := Bytes.payload (.bytes #[] t)) (wpAny_pure ?_)
        have hfold : ∀ (l : List (Array UInt8)) (a : Nat), l.foldl (fun x1 x2 => x1 + x2.size) a = a + (l.map (·.size)).sum := by
          intro l
          induction l with
          | nil => intro a; simp
          | cons y r ih => intro a; rw [List.foldl_cons, ih]; simp; omega
        have hsum : (bl.map (·.1)).toArray.foldl (fun x1 x2 => x1 + x2.size) ((#[] : Array UInt8).size * ((bl.map (·.1)).toArray.size - 1)) ≤ 1000 := by
          rw [← Array.foldl_toList, hfold]
          simp only [List.map_map]
          have : (List.map ((fun x => Array.size x) ∘ fun x => x.1) bl).sum ≤ 1000 := hz
          simp
          simpa using this
        rw [if_neg (by
          rw [KBy.tooLong_not (by omega)]
          decide)]
        have hb : (catB bl).size ≤ 1000 := by rw [← Array.length_toList, catB_list]; simpa [List.length_flatMap] using hz
        refine wpAny_bind (m := Bytes.Kind.bytes.new _) (mkB (le_line hb) ?_)
        refine wpAny_bind (wpAny_holding (wpAny_point ?_))
        exact wpAny_bind (letGo_all h2 (wpAny_pure ⟨_, rfl, h _ _⟩)))
end
end Mine
namespace Mine
set_option maxRecDepth 100000
set_option maxHeartbeats 4000000
open PySem PySem.W PyProof.Rows PySem.Calls PyProof.V PySem.Spec
open Builtin PySem.Builtin.Re

def patO (t1 t2 : Tok) (n : Nat) : Obj := { cls := .type "re.Pattern", data := .fields #[.bytes #[34, 40, 63, 58, 91, 94, 34, 92, 92, 93, 124, 92, 92, 46, 41, 42, 43, 34] t1, .int 0 t2, .int 0 0, .none, .none, .ref n, .int 1 0] }
def codeO : Obj := { cls := .type "tuple", data := .seq (rxC.toList.map fun w => Value.int (Int.ofNat w) 0).toArray }
theorem look_call : typeLookup (.type "bytes") "__call__" = pure none := by rw [typeLookup_type, builtinLookup_eq_fast]; kernel_rfl
section
variable {M : Model} {A : Around} {E : Value → Shared → Prop} {s : Shared} {b : Array UInt8} {t t1 t2 : Tok}
abbrev natB (b : Array UInt8) : Array Nat := b.map (·.toNat)
theorem textOf_bytes : reTextOf (.bytes b t) = pure (natB b, 1) := by
  unfold reTextOf
  show (Bytes.bufferQuiet? "_sre" (.bytes b t) >>= fun r => _) = _
  rw [KBy.quiet_eq]
  rfl
theorem codeNat : ((rxC.toList.map fun w => Value.int (Int.ofNat w) 0).toArray.map reRawOf).map (·.toNat) = rxC := by
  decide +kernel
theorem wholeTarget {Q : ReTarget → Shared → Prop} (h36 : s.heap.get? 36 = some (patO t1 t2 35)) (h35 : s.heap.get? 35 = some codeO)
    (h : Q { pattern := .ref 36, string := .bytes b t, code := rxC, text := natB b, kind := 1, groups := 0, pos := 0, lim := (natB b).size } s) : wpAny M A (reWholeTarget (.ref 36) (.bytes b t)) Q E s := by
  unfold reWholeTarget
  refine wpAny_bind (wpAny_fieldsOf h36 rfl ?_)
  rw [textOf_bytes]
  refine wpAny_bind (wpAny_pure ?_)
  with_unfolding_all show wpAny _ _ (reNoCollectionInside (.bytes b t) 1 >>= _) _ _ _
  unfold reNoCollectionInside
  rw [KBy.isInstance_eq]
  refine wpAny_bind (wpAny_pure ?_)
  with_unfolding_all show wpAny _ _ (reRawItems (.ref 35) >>= fun r => pure ({ pattern := .ref 36, string := .bytes b t, code := r.map (·.toNat), text := natB b, kind := 1, groups := 0, pos := 0, lim := (natB b).size } : ReTarget)) _ _ _
  unfold reRawItems
  refine wpAny_bind (wpAny_bind (wpAny_seqItems h35 rfl (wpAny_pure (wpAny_pure ?_))))
  rw [show (((some (List.map (fun w => Value.int (Int.ofNat w) 0) rxC.toList).toArray).getD #[]).map reRawOf).map (fun x => x.toNat) = rxC from codeNat]
  exact h
end

inductive Segs : List Nat → List Nat → Prop
  | last {u} : (∀ c ∈ u, c ≠ 34) → Segs u u
  | quote {u r d v} : (∀ c ∈ u, c ≠ 34) → qspan r = some d → Segs (r.drop d) v → Segs (u ++ 34 :: r) (u ++ v)

section
variable {prog : Program} {w : World} {A : Around} {s : Shared} {b : Array UInt8} {t t1 t2 : Tok}
theorem slice1 {T : Array Nat} {i j : Nat} {E : Value → Shared → Prop} {Q : Value → Shared → Prop} (hz : T.size ≤ 1000) (h : Q (.bytes ((T.extract i j).map (·.toUInt8)) s.toks) { s with toks := s.toks + 1 }) : wpAny (model prog w) A (reSlice T 1 i j) Q E s := by
  unfold reSlice
  rw [if_neg (by decide)]
  exact mkB (by
    rw [Array.size_map]
    exact Nat.le_trans (by simp; omega) (le_line hz)) h
theorem qspan_le : ∀ (n : Nat) (r : List Nat) (d : Nat), r.length = n → qspan r = some d → 0 < d ∧ d ≤ r.length := by
  intro n
  induction n using Nat.strongRecOn with
  | _ n ih =>
    intro r d hn h
    subst hn
    unfold qspan at h
    split at h
    · cases h
    · cases h; simp
    · cases h
    · split at h
      · cases h
      · obtain ⟨d', hd', rfl⟩ := Option.map_eq_some_iff.mp h
        have := ih _ (by simp; omega) _ d' rfl hd'
        simp; omega
    · obtain ⟨d', hd', rfl⟩ := Option.map_eq_some_iff.mp h
      have := ih _ (by simp) _ d' rfl hd'
      simp; omega
theorem back_bytes {b : Array UInt8} {i j : Nat} : ((natB b).extract i j).map (·.toUInt8) = b.extract i j := by
  apply Array.ext'
  rw [Array.toList_map, Array.toList_extract, Array.toList_map, Array.toList_extract, List.extract_eq_take_drop, List.extract_eq_take_drop, ← List.map_drop, ← List.map_take, List.map_map]
  have e : ((fun x : Nat => x.toUInt8) ∘ fun x : UInt8 => x.toNat) = fun x => x := by funext x; simp
  rw [e, List.map_id']
theorem ext_nat {b : Array UInt8} {i j : Nat} : (b.extract i j).toList = (((natB b).toList.drop i).take (j - i)).map (·.toUInt8) := by
  rw [← back_bytes, Array.toList_map, Array.toList_extract, List.extract_eq_take_drop]
theorem lit_eq {tr : Tok} : reLiteralCannotBeTurned (.bytes #[] tr) = pure () := by
  unfold reLiteralCannotBeTurned
  rw [KBy.isInstance_eq]
  rfl
theorem found_none {s : Shared} {st : Nat} {Q : Option Sre.M → Shared → Prop} {E : Value → Shared → Prop} {A : Around} (hz : b.size ≤ 300) (hst : st ≤ b.size) (hu : ∀ c ∈ (natB b).toList.drop st, c ≠ 34) (h : Q none s) :
    wpAny (model prog w) A (reRunToEnd (Sre.forSearch rxC (natB b) 0 st (natB b).size false)) Q E s := by
  have hsz : (natB b).size = b.size := by simp
  by_cases hs : (natB b).size - st < 2
  · obtain ⟨m, hm, h0, h1⟩ := search_short (T := natB b) (s := st) (lim := (natB b).size) (.inr hs)
    rw [hm]
    exact toEnd (.one h0 rfl) (by omega) (.inr ⟨h1, h⟩)
  · rw [search_start (by omega) hs]
    obtain ⟨om', n, hn, s', hr⟩ := outer_lost (lim := (natB b).size) (T := natB b) rfl _ st true (({} : Sre.Seen).add 14) (by omega) rfl hu
    have hl : ((natB b).toList.drop st).length ≤ 300 := by simp; omega
    exact toEnd hr (by omega) (.inr ⟨rfl, h⟩)
theorem found_some {s : Shared} {st d : Nat} {u r : List Nat} {Q : Option Sre.M → Shared → Prop} {E : Value → Shared → Prop} {A : Around} (hz : b.size ≤ 300) (hst : st ≤ b.size) (hl : (natB b).toList.drop st = u ++ 34 :: r) (hu : ∀ c ∈ u, c ≠ 34) (hq : qspan r = some d)
    (h : ∀ m : Sre.M, m.start = st + u.length → m.handed = st + u.length + 1 + d → Q (some m) s) :
    wpAny (model prog w) A (reRunToEnd (Sre.forSearch rxC (natB b) 0 st (natB b).size false)) Q E s := by
  have hsz : (natB b).size = b.size := by simp
  have hlen : (u ++ 34 :: r).length = b.size - st := by rw [← hl]; simp
  have hd := qspan_le _ r d rfl hq
  simp only [List.length_append, List.length_cons] at hlen
  rw [search_start (by omega) (by omega)]
  obtain ⟨om', n, hn, s', hr⟩ := outer_won (lim := (natB b).size) (T := natB b) rfl u r d st true (({} : Sre.Seen).add 14) hl hu hq
  exact toEnd hr (by omega) (.inl ⟨rfl, h _ rfl rfl⟩)
theorem loop_tail {A A' : Around} {R : Result → Shared → Prop} {P : Addr} {bl : List (Array UInt8 × Tok)} {N : Nat} {n : Int} {s : Shared} (hP : s.heap.get? P = some ⟨.type "list", none, .seq (bl.map bV).toArray N, #[]⟩) (hz : b.size ≤ 300) (hs : (bl.map (·.1.size)).sum ≤ 1000)
    (h : ∀ t' tk', R (.ok (.ret (.bytes (catB bl) t'))) { s with toks := tk' }) :
    wpAny (model prog w) A' (reSlice (natB b) 1 0 0 >>= fun joiner => seqItems? (.ref P) >>= fun r => if (r.getD #[]).isEmpty = true
        then (pure joiner >>= fun text => if false = true then (holding [text] (mkInt n >>= fun v => newTuple [text, v]) >>= fun v => PySem.ret v) else PySem.ret text)
        else (call (.builtin (if ((1 : Nat) == 0) = true then "str.join" else "bytes.join")) [joiner, .ref P] >>= fun text => if false = true then (holding [text] (mkInt n >>= fun v => newTuple [text, v]) >>= fun v => PySem.ret v) else PySem.ret text))
      (fun fin s' => match fin with | .done f => R (.ok f) s' | .again c' => c'.quiet = true ∧ codeAny (model prog w) A c' R s') (fun e s' => R (.error e) s') s := by
  have hsz : (natB b).size = b.size := by simp
  refine wpAny_bind (slice1 (by omega) ?_)
  refine wpAny_bind (wpAny_seqItems hP rfl ?_)
  have e0 : ((natB b).extract 0 0).map (·.toUInt8) = #[] := by simp
  rw [e0]
  cases bl with
  | nil =>
    rw [if_pos (by simp)]
    refine wpAny_bind (wpAny_pure ?_)
    rw [if_neg Bool.false_ne_true]
    exact wpAny_pure (h _ _)
  | cons p r =>
    rw [if_neg (by simp)]
    have hid : (if ((1 : Nat) == 0) = true then "str.join" else "bytes.join") = "bytes.join" := by decide
    rw [hid]
    refine wpAny_bind (call_join hP hs fun t' k => ?_)
    dsimp only
    rw [if_neg Bool.false_ne_true]
    exact wpAny_pure (h _ _)
abbrev loopArgs (P : Addr) (b : Array UInt8) (t tr : Tok) (n : Int) (st : Nat) : Args := ⟨[.ref 36, .bytes b t, .bytes #[] tr, rawInt 0, rawInt 0, rawInt n, rawInt st, rawInt st, .bool false, .ref P, .bool false], []⟩
theorem sub_loop {R : Result → Shared → Prop} {P : Addr} {tr : Tok} (hz : b.size ≤ 300) : ∀ (l v : List Nat), Segs l v → ∀ (st : Nat) (n : Int) (acc : List (Array UInt8 × Tok)) (N : Nat) (s : Shared),
    s.heap.get? 36 = some (patO t1 t2 35) → s.heap.get? 35 = some codeO → P ≠ 36 → P ≠ 35 → (acc.map (·.1.size)).sum ≤ st → acc.length ≤ st → s.heap.get? P = some ⟨.type "list", none, .seq (acc.map bV).toArray N, #[]⟩ → (natB b).toList.drop st = l → st ≤ b.size →
    (∀ t' h' tk', (∀ a o, a ≠ P → s.heap.get? a = some o → h'.get? a = some o) → R (.ok (.ret (.bytes ((catB acc).toList ++ v.map (·.toUInt8)).toArray t'))) { s with heap := h', toks := tk' }) →
    codeAny (model prog w) A (.builtin "re.Pattern.sub.loop" (loopArgs P b t tr n st)) R s := by
  intro l v hs
  induction hs with
  | @last u hu =>
    intro st n acc N s h36 h35 hP1 hP2 ha1 ha2 hP hd hst ret
    refine codeAny_builtin entry_psubl ?_
    with_unfolding_all show wpAny _ _ (reWholeTarget (.ref 36) (.bytes b t) >>= _) _ _ s
    refine wpAny_bind (wholeTarget h36 h35 ?_)
    dsimp only
    rw [if_pos (by decide), lit_eq]
    refine wpAny_bind (wpAny_pure ?_)
    rw [if_neg (by simp)]
    unfold reNextFound
    rw [Int.toNat_natCast]
    refine wpAny_bind (found_none hz hst (by rw [hd]; exact hu) ?_)
    dsimp only
    have hsz : (natB b).size = b.size := by simp
    have hT : (natB b).size ≤ 1000 := by omega
    by_cases hlt : st < (natB b).size
    · rw [if_pos hlt]
      refine wpAny_bind (slice1 hT ?_)
      refine wpAny_bind (wpAny_updateSeq hP rfl ?_ (le_line (by simp; omega)) (by rw [Array.size_push, List.size_toArray, List.length_map]; exact Nat.le_succ_of_le (le_line (by omega))))
      have hP' := IsL.update hP (fun x => x.push (.bytes (((natB b).extract st (natB b).size).map (·.toUInt8)) s.toks))
      rw [back_bytes] at hP' ⊢
      have e1 : ((acc.map bV).toArray.push (.bytes (b.extract st (natB b).size) s.toks)) = ((acc ++ [(b.extract st (natB b).size, s.toks)]).map bV).toArray := by simp
      rw [e1] at hP'
      refine loop_tail hP' hz (by simp; omega) fun t' tk' => ?_
      have e2 : catB (acc ++ [(b.extract st (natB b).size, s.toks)]) = ((catB acc).toList ++ u.map (·.toUInt8)).toArray := by
        apply Array.ext'
        rw [catB_list, List.flatMap_append, ← catB_list, ← hd]
        simp only [List.flatMap_cons, List.flatMap_nil, List.append_nil]
        rw [ext_nat, List.take_of_length_le (by simp)]
      rw [e2]
      exact ret t' _ tk' fun a o hne e => (Heap.get?_update_other _ _ (Ne.symm hne)).trans e
    · rw [if_neg hlt]
      refine loop_tail hP hz (by omega) fun t' tk' => ?_
      have hu0 : u = [] := by
        rw [← hd]; exact List.drop_eq_nil_of_le (by simp at hlt ⊢; omega)
      have e2 : catB acc = ((catB acc).toList ++ u.map (·.toUInt8)).toArray := by rw [hu0]; simp
      rw [e2]
      exact ret t' _ tk' fun a o hne e => e
  | @quote u r d v hu hq hs ih =>
    intro st n acc N s h36 h35 hP1 hP2 ha1 ha2 hP hd hst ret
    refine codeAny_builtin entry_psubl ?_
    with_unfolding_all show wpAny _ _ (reWholeTarget (.ref 36) (.bytes b t) >>= _) _ _ s
    refine wpAny_bind (wholeTarget h36 h35 ?_)
    dsimp only
    rw [if_pos (by decide), lit_eq]
    refine wpAny_bind (wpAny_pure ?_)
    rw [if_neg (by simp)]
    unfold reNextFound
    rw [Int.toNat_natCast]
    refine wpAny_bind (found_some hz hst hd hu hq fun mf hm1 hm2 => ?_)
    dsimp only
    rw [hm1, hm2]
    have hsz : (natB b).size = b.size := by simp
    have hT : (natB b).size ≤ 1000 := by omega
    have hmust : ((st + u.length + 1 + d) == (st + u.length)) = false := by simp; omega
    rw [hmust]
    have hlen : (u ++ 34 :: r).length = b.size - st := by rw [← hd]; simp
    have hdl := qspan_le _ r d rfl hq
    simp only [List.length_append, List.length_cons] at hlen
    have hd' : (natB b).toList.drop (st + u.length + 1 + d) = r.drop d := by
      rw [show st + u.length + 1 + d = st + (u.length + (1 + d)) by omega, ← List.drop_drop, hd, ← List.drop_drop, List.drop_left, Nat.add_comm 1 d, List.drop_succ_cons]
    have other : ∀ (f : Obj → Obj) (h : Heap) a o, a ≠ P → h.get? a = some o → (h.update P f).get? a = some o := fun f h a o hne e => (Heap.get?_update_other _ _ (Ne.symm hne)).trans e
    have hq' : (Code.builtin "re.Pattern.sub.loop" (loopArgs P b t tr (n + 1) (st + u.length + 1 + d))).quiet = true := Code.quiet_builtin _ (by decide +kernel)
    by_cases hlt : st < st + u.length
    · rw [if_pos hlt]
      refine wpAny_bind (slice1 hT ?_)
      refine wpAny_bind (wpAny_updateSeq hP rfl ?_ (le_line (by simp; omega)) (by rw [Array.size_push, List.size_toArray, List.length_map]; exact Nat.le_succ_of_le (le_line (by omega))))
      have hP' := IsL.update hP (fun x => x.push (.bytes (((natB b).extract st (st + u.length)).map (·.toUInt8)) s.toks))
      rw [back_bytes] at hP' ⊢
      have e1 : ((acc.map bV).toArray.push (.bytes (b.extract st (st + u.length)) s.toks)) = ((acc ++ [(b.extract st (st + u.length), s.toks)]).map bV).toArray := by simp
      rw [e1] at hP'
      rw [if_pos (by decide)]
      refine wpAny_bind (wpAny_pure ?_)
      rw [if_pos (by rfl)]
      refine wpAny_bind (wpAny_updateSeq hP' rfl ?_ (le_line (by simp; omega)) (by rw [Array.size_push, List.size_toArray, List.length_map]; exact Nat.le_succ_of_le (le_line (by simp; omega))))
      have hP'' := IsL.update hP' (fun x => x.push (.bytes #[] tr))
      have e2 : ((acc ++ [(b.extract st (st + u.length), s.toks)]).map bV).toArray.push (.bytes #[] tr) = ((acc ++ [(b.extract st (st + u.length), s.toks)] ++ [(#[], tr)]).map bV).toArray := by simp
      rw [e2] at hP''
      refine wpAny_pure ⟨hq', ih _ (n + 1) _ _ _ (other _ _ _ _ (Ne.symm hP1) (other _ _ _ _ (Ne.symm hP1) h36)) (other _ _ _ _ (Ne.symm hP2) (other _ _ _ _ (Ne.symm hP2) h35)) hP1 hP2 ?_ ?_ hP'' hd' (by omega) fun t' h' tk' hk => ?_⟩
      · simp; omega
      · simp; omega
      · have e3 : (catB (acc ++ [(b.extract st (st + u.length), s.toks)] ++ [(#[], tr)])).toList = (catB acc).toList ++ u.map (·.toUInt8) := by
          rw [catB_list, catB_list]
          simp only [List.flatMap_append, List.flatMap_cons, List.flatMap_nil, List.append_nil]
          rw [ext_nat, hd, show st + u.length - st = u.length by omega, List.take_left]
        have r' := ret t' h' tk' fun a o hne e => hk a o hne (other _ _ _ _ hne (other _ _ _ _ hne e))
        rw [e3, List.append_assoc, ← List.map_append]
        exact r'
    · rw [if_neg hlt]
      have hu0 : u = [] := List.length_eq_zero_iff.mp (by omega)
      subst hu0
      rw [if_pos (by decide)]
      refine wpAny_bind (wpAny_pure ?_)
      rw [if_pos (by rfl)]
      refine wpAny_bind (wpAny_updateSeq hP rfl ?_ (le_line (by simp; omega)) (by rw [Array.size_push, List.size_toArray, List.length_map]; exact Nat.le_succ_of_le (le_line (by omega))))
      have hP'' := IsL.update hP (fun x => x.push (.bytes #[] tr))
      have e2 : (acc.map bV).toArray.push (.bytes #[] tr) = ((acc ++ [(#[], tr)]).map bV).toArray := by simp
      rw [e2] at hP''
      refine wpAny_pure ⟨hq', ih _ (n + 1) _ _ _ (other _ _ _ _ (Ne.symm hP1) h36) (other _ _ _ _ (Ne.symm hP2) h35) hP1 hP2 ?_ ?_ hP'' hd' (by omega) fun t' h' tk' hk => ?_⟩
      · simp; omega
      · simp; omega
      · have e3 : (catB (acc ++ [(#[], tr)])).toList = (catB acc).toList := by
          rw [catB_list, catB_list]; simp
        have r' := ret t' h' tk' fun a o hne e => hk a o hne (other _ _ _ _ hne e)
        rw [e3]
        simpa using r'
end
end Mine
namespace Mine
set_option maxRecDepth 100000
set_option maxHeartbeats 4000000
open PySem PySem.W PyProof.Rows PySem.Calls PyProof.V PySem.Spec
open Builtin PySem.Builtin.Re
section
variable {prog : Program} {w : World} {A : Around} {E : Value → Shared → Prop} {s : Shared} {b : Array UInt8} {t t1 t2 tr : Tok}
theorem named_eq {x y : Value} : reNamed "re.Pattern.sub" "sub" ["repl", "string", "count"] 2 [x, y] [] = pure [some x, some y, none] := by
  kernel_rfl
theorem special_call : specialOf (.bytes #[] tr) "__call__" = pure none := KBy.special_eq look_call
theorem asStr_eq : asStr? (.bytes b t) = pure none := by kernel_rfl
theorem call_sub {Q : Value → Shared → Prop} {v : List Nat} (h36 : s.heap.get? 36 = some (patO t1 t2 35)) (h35 : s.heap.get? 35 = some codeO) (hz : b.size ≤ 300) (hs : Segs (natB b).toList v)
    (h : ∀ t' h' tk', (∀ a o, s.heap.get? a = some o → h'.get? a = some o) → Q (.bytes (v.map (·.toUInt8)).toArray t') { s with heap := h', toks := tk' }) :
    wpAny (model prog w) A (call (.builtin "re.Pattern.sub") [.ref 36, .bytes #[] tr, .bytes b t]) Q E s := by
  have hT : s.TypeIs (.ref 36) "re.Pattern" := ⟨_, h36, rfl⟩
  refine wpAny_call (codeAny_call_builtin slot_psub.plain entry_psub (slot_psub.check _ _ _ _ _ _ _ _ hT (args_psub _ _ _) ?_))
  show wpAny _ _ (reSubstitute "re.Pattern.sub" "sub" false _) _ _ s
  unfold reSubstitute
  dsimp only
  rw [named_eq]
  refine wpAny_bind (wpAny_pure ?_)
  dsimp only
  refine wpAny_bind (wpAny_pure ?_)
  rw [special_call]
  refine wpAny_bind (wpAny_pure ?_)
  rw [if_neg (by simp)]
  rw [asStr_eq]
  refine wpAny_bind (wpAny_pure ?_)
  dsimp only
  rw [KBy.quiet_eq]
  refine wpAny_bind (wpAny_pure ?_)
  dsimp only
  refine wpAny_bind (wpAny_pure ?_)
  rw [if_neg (by simp), if_pos (by simp)]
  refine wpAny_bind (wpAny_pure ?_)
  dsimp only
  refine wpAny_bind (wpAny_holding (wholeTarget h36 h35 ?_))
  rw [if_neg (by decide)]
  refine wpAny_bind ?_
  refine wpAny_newObj_type (wpAny_pure ⟨Code.quiet_builtin _ (by decide +kernel), ?_⟩) (by size_fits)
  have hP := Heap.get?_push_size s.heap (o := { cls := .type "list", data := .seq (([] : List (Array UInt8 × Tok)).map bV).toArray 0 }) rfl
  have n36 : s.heap.objs.size ≠ 36 := Nat.ne_of_gt (Heap.lt_size h36)
  have n35 : s.heap.objs.size ≠ 35 := Nat.ne_of_gt (Heap.lt_size h35)
  refine sub_loop (t1 := t1) (t2 := t2) hz _ v hs 0 0 [] 0 _ (Heap.get?_push_of_some _ h36) (Heap.get?_push_of_some _ h35) n36 n35 (by simp) (by simp) hP rfl (Nat.zero_le _) fun t' h' tk' hk => ?_
  have r := h t' h' tk' fun a o e => hk a o (Nat.ne_of_lt (Heap.lt_size e)) (Heap.get?_push_of_some _ e)
  have e : (catB []).toList = [] := by rw [catB_list]; rfl
  rw [e, List.nil_append]
  exact r
end
end Mine
open PySem PySem.W PyProof.Rows PySem.Calls PyProof.V PySem.Spec
namespace Mine
set_option maxRecDepth 100000
set_option maxHeartbeats 8000000
theorem plainAttrs_pat : PlainAttrs "re.Pattern" :=
  ⟨⟨"object.__getattribute__", by rw [typeLookup_type, builtinLookup_eq_fast]; kernel_rfl, by decide +kernel⟩, by rw [typeLookup_type, builtinLookup_eq_fast]; kernel_rfl⟩
def pdel (v : List Nat) : Int := (cntB 40 (v.map (·.toUInt8)).toArray : Int) - cntB 41 (v.map (·.toUInt8)).toArray
section
variable {w : World} {p : Program} {loose : List Str} {mean : ExcName → Option Value} {mg mb : Str → Option Value} {dp un : Nat} {gd : Option (List Code)} {cn : Str} {cs : Scope} {a : Addr} {ccd : Value} {cl : List (Str × Addr)} {outer : List Env} {A₀ : Around} {base h₀ : Heap} {L : Addr} {m : Str → Option Value} {s : Shared} {Q E : Value → Shared → Prop} {news : List (Addr × Obj)}
local macro_rules | `(tactic| walk_at "getMethod ref") => `(tactic| (k_here; (with_reducible show wpAny _ _ (getMethod (Value.ref 36) _ _) _ _ _); refine getMethod_builtin ⟨_, by assumption, rfl⟩ plainAttrs_pat slot_psub type_psub (fun a e => ⟨_, by cases e; assumption, rfl⟩) ?_; (try dsimp only)))
local macro_rules | `(tactic| walk_at "getMethod bytes") => `(tactic| (k_here; refine KBd.method_of (Value.bytes _ _) (typeIs_bytes _ _ _) slot_bcount type_bcount KBd.noRef ?_; (try dsimp only)))
local macro_rules | `(tactic| walk_at "call builtin:re.Pattern.sub") => `(tactic| (k_here; refine call_sub (t1 := 285) (t2 := 326) (by assumption) (by assumption) (by assumption) (by assumption) ?_; intro t9 h9 tk9 k9; (rename News _ _ _ _ => N9); (rename Fr _ _ _ _ => F9); (have F8 := fr_keep F9 k9); (have N8 := news_keep N9 k9); clear F9 N9 k9))
local macro_rules | `(tactic| walk_at "call builtin:bytes.count") => `(tactic| (k_here; refine call_count ?_; intro _))
theorem paren2_c {b : Array UInt8} {tb td : Tok} {v : List Nat} {d : Int} (C : Cx w p loose mean mg mb dp un cn cs L a ccd cl outer A₀ base h₀ m s news)
    (hz : b.size ≤ 300) (hs : Segs (natB b).toList v) (htk : 2 ≤ s.toks)
    (ret : ∀ t h' tk', 0 < t → t < tk' → s.toks ≤ tk' → Fr h₀ L h' m → News h₀ L h' news → Q (.int (d + pdel v) t) { s with heap := h', toks := tk' }) :
    wpAny (model PySem.Challenge.rw_xo0011_01.row.prog w) (ktrTop dp un gd cn cs L a ccd cl outer) (call (.ref 44) [.bytes b tb, .int d td]) Q E s := by
  obtain ⟨B, F, X, N, T, hk, hd, hu⟩ := C
  w_top off
  revert X; k_fill; intro X
  refine wpAny_with_toks (Nat.le_refl s.toks) ?_
  have ret' : ∀ (x : Int) t h' tk', x = d + pdel v → t + 1 = tk' → Fr h₀ L h' m → News h₀ L h' news → s.toks ≤ tk' → Q (.int x t) { s with heap := h', toks := tk' } := fun x t h' tk' e e2 F' N' hle => e ▸ ret t h' tk' (by omega) (by omega) hle F' N'
  clear ret
  refine wpAny_call ?_
  k_dflt (refine' code_def ?k1 ?k2 ?k3 ?k4 ?k5 ?kA ?kF ?kK ?k6 ?k7 ?k8 ?k9 ?kB ?_ ?c2 ?c3 ?c4 ?c5; (case kA => exact rfl); (case kF => exact rfl); (case kK => assumption); (case k1 => k_asm); (case k2 => k_asm); (case k3 => k_asm); (case k4 => k_asm); (case k5 => k_asm); (case k6 => k_is); (case k7 => k_is); (case k8 => ktr_room); (case k9 => exact binds_K (by k_in) rfl (by k_is) rfl rfl rfl); (case c5 => decide); (case kB => exact locs rfl); (case c2 => exact rfl); (case c3 => exact rfl); (case c4 => exact rfl); k_whole; intro g' L' h' FG' F' N' B' X' T'; (try dsimp only); (try k_lift B'); (try k_fold))
  have h36 := (Frag.In.keeps X' F'.keep) 36 _ (by k_is)
  have h35 := (Frag.In.keeps X' F'.keep) 35 _ (by k_is)
  change h'.get? 36 = some (patO 285 326 35) at h36
  change h'.get? 35 = some codeO at h35
  k_steps
  rename News _ _ _ _ => N'
  rename Fr _ _ _ _ => F'
  refine ret' _ _ _ _ ?_ rfl F' N' (by assumption)
  unfold pdel
  omega
theorem paren1_c {b : Array UInt8} {tb : Tok} {v : List Nat} (C : Cx w p loose mean mg mb dp un cn cs L a ccd cl outer A₀ base h₀ m s news)
    (hz : b.size ≤ 300) (hs : Segs (natB b).toList v) (htk : 2 ≤ s.toks)
    (ret : ∀ t h' tk', 0 < t → t < tk' → s.toks ≤ tk' → Fr h₀ L h' m → News h₀ L h' news → Q (.int (0 + pdel v) t) { s with heap := h', toks := tk' }) :
    wpAny (model PySem.Challenge.rw_xo0011_01.row.prog w) (ktrTop dp un gd cn cs L a ccd cl outer) (call (.ref 44) [.bytes b tb]) Q E s := by
  obtain ⟨B, F, X, N, T, hk, hd, hu⟩ := C
  w_top off
  revert X; k_fill; intro X
  refine wpAny_with_toks (Nat.le_refl s.toks) ?_
  have ret' : ∀ (x : Int) t h' tk', x = 0 + pdel v → t + 1 = tk' → Fr h₀ L h' m → News h₀ L h' news → s.toks ≤ tk' → Q (.int x t) { s with heap := h', toks := tk' } := fun x t h' tk' e e2 F' N' hle => e ▸ ret t h' tk' (by omega) (by omega) hle F' N'
  clear ret
  refine wpAny_call ?_
  k_dflt (refine' code_def ?k1 ?k2 ?k3 ?k4 ?k5 ?kA ?kF ?kK ?k6 ?k7 ?k8 ?k9 ?kB ?_ ?c2 ?c3 ?c4 ?c5; (case kA => exact rfl); (case kF => exact rfl); (case kK => assumption); (case k1 => k_asm); (case k2 => k_asm); (case k3 => k_asm); (case k4 => k_asm); (case k5 => k_asm); (case k6 => k_is); (case k7 => k_is); (case k8 => ktr_room); (case k9 => exact binds_K (by k_in) rfl (by k_is) rfl rfl rfl); (case c5 => decide); (case kB => exact locs rfl); (case c2 => exact rfl); (case c3 => exact rfl); (case c4 => exact rfl); k_whole; intro g' L' h' FG' F' N' B' X' T'; (try dsimp only); (try k_lift B'); (try k_fold))
  have h36 := (Frag.In.keeps X' F'.keep) 36 _ (by k_is)
  have h35 := (Frag.In.keeps X' F'.keep) 35 _ (by k_is)
  change h'.get? 36 = some (patO 285 326 35) at h36
  change h'.get? 35 = some codeO at h35
  k_steps
  rename News _ _ _ _ => N'
  rename Fr _ _ _ _ => F'
  refine ret' _ _ _ _ ?_ rfl F' N' (by assumption)
  unfold pdel
  omega
end
end Mine
open PySem PySem.W PyProof.Rows PySem.Calls PyProof.V PySem.Spec
namespace Mine
set_option maxRecDepth 100000
set_option maxHeartbeats 8000000
def onF (xs : List Str) (ds : List Int) : List Str := let up := ds.idxOf (-1) + (ds.drop (ds.idxOf (-1))).idxOf 0; xs.drop (up + 1) ++ [xs.getD up Str.empty] ++ xs.take up
local macro_rules | `(tactic| walk_at "call ref") => `(tactic| (k_here; refine Stop.out ?_))
local macro_rules | `(tactic| walk_at "execs cons") => `(tactic| (refine wpAny_execs_cons ?_))
local macro_rules | `(tactic| walk_at "subscriptTail Name Slice ref ref") => `(tactic| (k_here; (with_reducible show wpAny _ _ (subscriptTail _ (PySem.Expr.Slice _ _ none _) (Value.ref _) (Value.ref _)) _ _ _); k_dflt (first
  | (refine' sl_from ?F ?N ?l ?h0 ?hz ?_ ?s ?t; (case F => k_asm); (case N => k_asm); (case l => kmk_list); (case h0 => omega); (case hz => omega); (case s => with_unfolding_all rfl); (case t => kmk_pure))
  | (refine' sl_upto ?F ?N ?l ?h0 ?hz ?_ ?s ?t; (case F => k_asm); (case N => k_asm); (case l => kmk_list); (case h0 => omega); (case hz => omega); (case s => with_unfolding_all rfl); (case t => kmk_pure))); intro D' h' F' N' l1; (try k_lt l1); (try k_sweep)))
theorem news_swap {h₀ h : Heap} {L : Addr} {x y : Addr × Obj} {r : List (Addr × Obj)} (N : News h₀ L h (x :: y :: r)) : News h₀ L h (y :: x :: r) := fun q hq => N q (by
  rcases List.mem_cons.mp hq with rfl | hq
  · exact .tail _ (.head _)
  · rcases List.mem_cons.mp hq with rfl | hq
    · exact .head _
    · exact .tail _ (.tail _ hq))
section
variable {w : World} {p : Program} {loose : List Str} {mean : ExcName → Option Value} {mg mb : Str → Option Value} {dp un : Nat} {gd : Option (List Code)} {cn : Str} {cs : Scope} {a : Addr} {ccd : Value} {cl : List (Str × Addr)} {outer : List Env} {A₀ : Around} {base h₀ : Heap} {L : Addr} {m : Str → Option Value} {s : Shared} {Q E : Value → Shared → Prop} {news : List (Addr × Obj)}
theorem on_c {r dl : Addr} {vs dv : List Value} {n n' : Nat} {xs : List Str} {ds : List Int} (C : Cx w p loose mean mg mb dp un cn cs L a ccd cl outer A₀ base h₀ m s news) (hd2 : dp + 8 < recursionLimit) (hu2 : un + 64 < cLine)
    (hr : (r, listOf vs.toArray n) ∈ news) (hx : StrsAre vs xs) (h8 : xs.length = 8) (hdl : (dl, listOf dv.toArray n') ∈ news) (hi : IntsAre dv ds) (hd8 : ds.length = 8) (hneg : (-1 : Int) ∈ ds) (hup : (0 : Int) ∈ ds.drop (ds.idxOf (-1)))
    (hT : ToksIn s.toks dv)
    (ret : ∀ l' vs' h' tk' n', Fr h₀ L h' m → News h₀ L h' ((l', listOf (List.toArray vs') n') :: news) → (∀ p ∈ news, p.1 < l') → StrsAre vs' (onF xs ds) → Q (.ref l') { s with heap := h', toks := tk' }) :
    wpAny (model PySem.Challenge.rw_xo0011_01.row.prog w) (ktrTop dp un gd cn cs L a ccd cl outer) (call (.ref 114) [.ref r, .ref dl]) Q E s := by
  obtain ⟨B, F, X, N, T, hk, hd, hu⟩ := C
  have hvl : dv.length = 8 := by rw [hi.length]; exact hd8
  have hlen : vs.length = 8 := by rw [hx.len_eq]; exact h8
  w_top off
  revert X; k_fill; intro X
  have N1 : News h₀ L s.heap ((r, listOf vs.toArray n) :: (dl, listOf dv.toArray n') :: news) := news_cons (news_cons N hdl) (.tail _ hr)
  clear N
  refine wpAny_call ?_
  k_dflt cell_enter
  k_steps
  refine Stop.mk ?_
  rename News _ _ _ _ => hN
  rename Fr _ _ _ _ => hF
  rename Frag.In _ _ => hX
  rename Top _ _ _ _ _ _ => hT'
  rename Below _ _ _ _ => hB
  refine wpAny_with_toks (Nat.le_refl _) ?_
  with_unfolding_all refine idx_c ⟨hB, hF, hX, hN, hT', rfl, ?_, ?_⟩ (.tail _ (.head _)) hi (by omega) hneg ?_ ?_
  · dsimp only [ktrTop]; omega
  · dsimp only [ktrTop]; omega
  · intro v hv
    have := hT v hv
    omega
  intro t1 h1 tk1 F1 N1 hle1
  dsimp only at hle1
  clear hN hF
  k_steps
  refine Stop.mk ?_
  rename News _ _ _ _ => hN
  rename Fr _ _ _ _ => hF
  rename _ ∧ _ ∧ AllLt _ _ => l1
  have hi2 := IntsAre.drop hi (ds.idxOf (-1))
  have hT2 : ∀ v ∈ dv.drop (ds.idxOf (-1)), 0 < tokOf v ∧ tokOf v < s.toks := fun v hv => hT v (List.mem_of_mem_drop hv)
  rw [show ((ds.idxOf (-1) : Nat) : Int).toNat = ds.idxOf (-1) from Int.toNat_natCast _] at hN
  with_unfolding_all refine idx_c ⟨hB, hF, hX, hN, hT', rfl, ?_, ?_⟩ (.head _) hi2 (by rw [List.length_drop]; omega) hup ?_ ?_
  · dsimp only [ktrTop]; omega
  · dsimp only [ktrTop]; omega
  · intro v hv
    have := hT2 v hv
    omega
  intro t2 h2 tk2 F2 N2
  clear hN hF
  have hD : ds.idxOf (-1) < 8 := by rw [← hd8]; exact List.idxOf_lt_length_of_mem hneg
  have hU : ds.idxOf (-1) + (ds.drop (ds.idxOf (-1))).idxOf 0 < 8 := by
    have h1 := List.idxOf_lt_length_of_mem hup
    rw [List.length_drop] at h1
    omega
  have hon : onF xs ds = xs.drop (ds.idxOf (-1) + (ds.drop (ds.idxOf (-1))).idxOf 0 + 1) ++ [xs.getD (ds.idxOf (-1) + (ds.drop (ds.idxOf (-1))).idxOf 0) Str.empty] ++ xs.take (ds.idxOf (-1) + (ds.drop (ds.idxOf (-1))).idxOf 0) := rfl
  generalize (ds.drop (ds.idxOf (-1))).idxOf 0 = U at *
  generalize ds.idxOf (-1) = D at *
  k_steps
  refine Stop.mk ?_
  rename News _ _ _ _ => hN
  rename Fr _ _ _ _ => hF
  rename _ ∧ _ ∧ _ ∧ _ ∧ AllLt _ _ => l3
  rename _ ∧ _ ∧ _ ∧ AllLt _ _ => l2
  with_unfolding_all refine iconcat_c ⟨hB, hF, hX, news_swap hN, hT', rfl, ?_, ?_⟩ (.head _) ?_ ?_ ?_
  · dsimp only [ktrTop]; omega
  · dsimp only [ktrTop]; omega
  · intro q hq
    simp only [List.mem_cons] at hq
    rcases hq with rfl | rfl | rfl | rfl | hq
    · exact Nat.ne_of_gt l3.1
    · exact Nat.ne_of_lt l2.1
    · exact Nat.ne_of_lt l2.2.1
    · exact Nat.ne_of_lt l2.2.2.1
    · exact Nat.ne_of_lt (all_of l2.2.2.2 q hq)
  · simp; omega
  intro h3 tk3 n3 F3 N3
  clear hN hF
  k_steps
  refine Stop.mk ?_
  rename News _ _ _ _ => hN
  rename Fr _ _ _ _ => hF
  rename _ ∧ _ ∧ _ ∧ _ ∧ _ ∧ AllLt _ _ => l4
  with_unfolding_all refine iconcat_c ⟨hB, hF, hX, news_swap hN, hT', rfl, ?_, ?_⟩ (.head _) ?_ ?_ ?_
  · dsimp only [ktrTop]; omega
  · dsimp only [ktrTop]; omega
  · intro q hq
    simp only [List.mem_cons] at hq
    rcases hq with rfl | rfl | rfl | rfl | rfl | hq
    · exact Nat.ne_of_gt l4.1
    · exact Nat.ne_of_gt l3.1
    · exact Nat.ne_of_lt l2.1
    · exact Nat.ne_of_lt l2.2.1
    · exact Nat.ne_of_lt l2.2.2.1
    · exact Nat.ne_of_lt (all_of l2.2.2.2 q hq)
  · simp; omega
  intro h4 tk4 n4 F4 N4
  clear hN hF
  k_steps
  rename News _ _ _ _ => N'
  rename Fr _ _ _ _ => F'
  rename StrsAre _ _ => hxx
  refine ret _ _ _ _ _ F' (news_head N' (fun q hq => by simp [hq])) (all_of l2.2.2.2) ?_
  rw [hon]
  rw [show ((D : Int) + (U : Int) + 1).toNat = D + U + 1 by omega, show ((D : Int) + (U : Int)).toNat = D + U by omega]
  exact ((hxx.drop' _).append' (.cons _ _ .nil)).append' (hxx.take' _)
end
end Mine
open PySem PySem.W PyProof.Rows PySem.Calls PyProof.V PySem.Spec
namespace Mine
set_option maxRecDepth 100000
set_option maxHeartbeats 4000000
abbrev Gens := Array GenState
def EndG (h₀ : Heap) (L : Addr) (J : Nat → Gens → (Str → Option Value) → List (Addr × Obj) → Prop) (own : List (Addr × Obj)) (adr : List Addr) (s₁ s₂ : Shared) : Prop :=
  ∃ h' tk g m' news' nx, s₂ = { s₁ with heap := h', toks := tk, gens := g } ∧ Fr h₀ L h' m' ∧ News h₀ L h' news' ∧ (∀ p ∈ nx, p ∈ news') ∧ (∀ p ∈ own, p ∈ news') ∧ nx.map (·.1) = adr ∧ J tk g m' nx
def PostG (h₀ : Heap) (L : Addr) (J : Nat → Gens → (Str → Option Value) → List (Addr × Obj) → Prop) (own : List (Addr × Obj)) (adr : List Addr) (s₁ : Shared) (Q : Flow → Shared → Prop) (f : Flow) (s₂ : Shared) : Prop :=
  match f with
  | .ret v => Q (.ret v) s₂
  | .brk => Q .next s₂
  | _ => EndG h₀ L J own adr s₁ s₂
section
variable {prog : Program} {w : World} {A : Around} {E : Value → Shared → Prop} {s : Shared} {h₀ : Heap} {env : Env} {m : Str → Option Value} {news : List (Addr × Obj)}
theorem forCore {R : Result → Shared → Prop} {x : Str} {px : Pos} {body orelse : List Stmt} {I l : Addr} {ob oI : Obj} {vs : List Value} {St : Nat → Heap → Prop}
    (W : Walks prog w A I [I, l] [I] vs.length (fun i v => vs[i]? = some v) St) (hI : ∀ i h, St i h → ∃ o, h.get? I = some o) (hlI : l ≠ I)
    (hx : env.kindOf x = some .local) (hp : (env.scope.kind == .class || (env.scope.kind == .module && env.locals != env.globals)) = false)
    (F : Fr h₀ env.locals s.heap m) (N : News h₀ env.locals s.heap (news ++ [(I, oI)])) (hoff : ∀ b ∈ news.map (·.1), I ≠ b) (hst : St 0 s.heap)
    (J : Nat → Nat → Gens → (Str → Option Value) → List (Addr × Obj) → Prop) (hl : ∀ i tk g m nx, J i tk g m nx → (l, ob) ∈ nx) (hmono : ∀ i tk tk' g m nx, tk ≤ tk' → J i tk g m nx → J i tk' g m nx) (h0 : J 0 s.toks s.gens m news)
    (turn : ∀ i v m₁ news₁ h tk tk₀ g own, vs[i]? = some v → tk₀ ≤ tk → news₁.map (·.1) = news.map (·.1) → OwnOff own (news.map (·.1)) → J i tk₀ g m₁ news₁ →
      Fr h₀ env.locals h (fun y => if y = x then some v else m₁ y) → News h₀ env.locals h (news₁ ++ own) →
      wpAny (model prog w) A (execs body env) (PostG h₀ env.locals (J (i + 1)) own (news.map (·.1)) { s with heap := h, toks := tk, gens := g } fun f s₃ => R (.ok f) s₃)
        (notedBy (model prog w) A env fun e s' => R (.error e) s') { s with heap := h, toks := tk, gens := g })
    (done : ∀ m₁ news₁ h tk g, news₁.map (·.1) = news.map (·.1) → J vs.length tk g m₁ news₁ → Fr h₀ env.locals h m₁ → News h₀ env.locals h news₁ →
      wpAny (model prog w) A (execs orelse env) (fun f s₃ => R (.ok f) s₃) (notedBy (model prog w) A env fun e s' => R (.error e) s') { s with heap := h, toks := tk, gens := g }) :
    codeAny (model prog w) A (.forLoop (.Name x px) (.ref I) body orelse env) R s := by
  refine codeAny_forLoop_any (fun k s' => ∃ h tk g m' news' oI i, s' = { s with heap := h, toks := tk, gens := g } ∧ Fr h₀ env.locals h m' ∧ News h₀ env.locals h (news' ++ [(I, oI)]) ∧ news'.map (·.1) = news.map (·.1) ∧ St i h ∧ J i tk g m' news' ∧ i ≤ vs.length ∧ k = vs.length - i) ?_ vs.length
    ⟨s.heap, s.toks, s.gens, m, news, oI, 0, rfl, F, N, rfl, hst, h0, Nat.zero_le _, rfl⟩
  rintro k s' ⟨h, tk, g, m', news', oI', i, rfl, F', N', hadr, hst', hJ, hi, rfl⟩
  have hIN := N' (I, oI') (by simp)
  have hmem : ∀ p ∈ news', p.1 ∈ news.map (·.1) := fun p hp => by rw [← hadr]; exact List.mem_map_of_mem hp
  have keepF : ∀ h₁ : Heap, (∀ b o, b ∉ [I] → h.get? b = some o → h₁.get? b = some o) → Fr h₀ env.locals h₁ m' := fun h₁ hk =>
    ⟨F'.ns.at' fun o e => hk _ o (fun q => hIN.2.1 (List.mem_singleton.mp q).symm) e, fun b o e => hk b o (fun q => by have := hIN.2.2; rw [← List.mem_singleton.mp q, e] at this; cases this) (F'.keep b o e), F'.above⟩
  have keepN : ∀ h₁ : Heap, (∀ b o, b ∉ [I] → h.get? b = some o → h₁.get? b = some o) → News h₀ env.locals h₁ news' := fun h₁ hk p hp => by
    have q := N' p (List.mem_append_left _ hp)
    exact ⟨hk _ _ (fun e => hoff _ (hmem p hp) (List.mem_singleton.mp e).symm) q.1, q.2⟩
  by_cases hlt : i < vs.length
  · refine wpAny_with_toks (Nat.le_refl _) (W.item i _ _ _ hlt hst' fun v h₁ tk₁ hv hst₁ hk₁ hle => ?_)
    replace hk₁ : ∀ b o, b ∉ [I] → h.get? b = some o → h₁.get? b = some o := hk₁
    replace hle : tk ≤ tk₁ := hle
    have F₁ := keepF h₁ hk₁
    have N₁ := keepN h₁ hk₁
    obtain ⟨oI₁, hoI₁⟩ := hI _ _ hst₁
    refine wpAny_of_eq (a := ()) (rfl : letOwnedTupleGo (.Name x px) (.ref I) v = pure ()) ?_
    refine wpAny_assign_Name (wpAny_storeName_local hx F₁.ns (fun h₂ hn₂ hs₂ => ?_) hp)
    replace hs₂ : Heap.SameBut env.locals h₁ h₂ := hs₂
    have F₂ := F₁.set hn₂ hs₂
    have N₂ := N₁.set hs₂
    have NI : News h₀ env.locals h₂ [(I, oI₁)] := fun p hp => by
      rw [List.mem_singleton.mp hp]
      exact ⟨hs₂.extBut _ _ hIN.2.1 hoI₁, hIN.2⟩
    refine wpAny_mono (turn i v m' news' h₂ (tk₁ + 1) tk g [(I, oI₁)] hv (by omega) hadr (fun p hp b hb => by rw [List.mem_singleton.mp hp]; exact hoff b hb) hJ F₂ (fun p hp => (List.mem_append.mp hp).elim (N₂ p) (NI p))) (fun f s₃ hf => ?_) fun _ _ x => x
    have hst₂ : St (i + 1) h₂ := W.frame _ _ _ hst₁ fun b hb o e => by
      simp only [List.mem_cons, List.not_mem_nil, or_false] at hb
      rcases hb with rfl | rfl
      · exact hs₂.extBut _ _ hIN.2.1 e
      · have := (N₁ _ (hl _ _ _ _ _ hJ)).2.1
        exact hs₂.extBut _ _ this e
    have up : EndG h₀ env.locals (J (i + 1)) [(I, oI₁)] (news.map (·.1)) { s with heap := h₂, toks := tk₁ + 1, gens := g } s₃ →
        ∃ k', k' < vs.length - i ∧ ∃ h tk g m' news' oI i, s₃ = { s with heap := h, toks := tk, gens := g } ∧ Fr h₀ env.locals h m' ∧ News h₀ env.locals h (news' ++ [(I, oI)]) ∧ news'.map (·.1) = news.map (·.1) ∧ St i h ∧ J i tk g m' news' ∧ i ≤ vs.length ∧ k' = vs.length - i := by
      rintro ⟨h', tk', g', m'', news'', nx, rfl, F'', N'', hn, ho, ha, hJ'⟩
      refine ⟨vs.length - (i + 1), by omega, h', tk', g', m'', nx, oI₁, i + 1, rfl, F'', fun p hp => ?_, ha, ?_, hJ', by omega, rfl⟩
      · rcases List.mem_append.mp hp with hp | hp
        · exact N'' p (hn p hp)
        · exact N'' p (ho p hp)
      · refine W.frame _ _ _ hst₂ fun b hb o e => ?_
        simp only [List.mem_cons, List.not_mem_nil, or_false] at hb
        rcases hb with rfl | rfl
        · rw [(NI (b, oI₁) (by simp)).1] at e
          cases e
          exact (N'' (b, oI₁) (ho _ (by simp))).1
        · rw [(N₂ _ (hl _ _ _ _ _ hJ)).1] at e
          cases e
          exact (N'' _ (hn _ (hl _ _ _ _ _ hJ'))).1
    cases f with
    | ret v => exact hf
    | brk => exact hf
    | next => exact up hf
    | cont => exact up hf
  · have hie : i = vs.length := by omega
    subst hie
    refine wpAny_with_toks (Nat.le_refl _) (W.done _ _ _ hst' fun h₁ tk₁ hk₁ hle => ?_)
    replace hk₁ : ∀ b o, b ∉ [I] → h.get? b = some o → h₁.get? b = some o := hk₁
    exact done m' news' h₁ tk₁ g hadr (hmono _ _ _ _ _ _ hle hJ) (keepF h₁ hk₁) (keepN h₁ hk₁)

theorem forListW {R : Result → Shared → Prop} {x : Str} {px : Pos} {body orelse : List Stmt} {l : Addr} {n : Nat} {vs : List Value}
    (hh : A.handled = none) (hx : env.kindOf x = some .local) (hp : (env.scope.kind == .class || (env.scope.kind == .module && env.locals != env.globals)) = false)
    (F : Fr h₀ env.locals s.heap m) (N : News h₀ env.locals s.heap news)
    (J : Nat → Nat → Gens → (Str → Option Value) → List (Addr × Obj) → Prop) (hl : ∀ i tk g m nx, J i tk g m nx → (l, listOf vs.toArray n) ∈ nx) (hmono : ∀ i tk tk' g m nx, tk ≤ tk' → J i tk g m nx → J i tk' g m nx) (h0 : J 0 s.toks s.gens m news)
    (turn : ∀ i v m₁ news₁ h tk tk₀ g own, vs[i]? = some v → tk₀ ≤ tk → news₁.map (·.1) = news.map (·.1) → OwnOff own (news.map (·.1)) → J i tk₀ g m₁ news₁ →
      Fr h₀ env.locals h (fun y => if y = x then some v else m₁ y) → News h₀ env.locals h (news₁ ++ own) →
      wpAny (model prog w) A (execs body env) (PostG h₀ env.locals (J (i + 1)) own (news.map (·.1)) { s with heap := h, toks := tk, gens := g } fun f s₃ => R (.ok f) s₃)
        (notedBy (model prog w) A env fun e s' => R (.error e) s') { s with heap := h, toks := tk, gens := g })
    (done : ∀ m₁ news₁ h tk g, news₁.map (·.1) = news.map (·.1) → J vs.length tk g m₁ news₁ → Fr h₀ env.locals h m₁ → News h₀ env.locals h news₁ →
      wpAny (model prog w) A (execs orelse env) (fun f s₃ => R (.ok f) s₃) (notedBy (model prog w) A env fun e s' => R (.error e) s') { s with heap := h, toks := tk, gens := g }) :
    wpAny (model prog w) A (pyIter (.ref l)) (fun it s₂ => codeAny (model prog w) A (.forLoop (.Name x px) it body orelse env) R s₂) E s := by
  have hL := N _ (hl _ _ _ _ _ h0)
  have hls : s.heap.IsList l vs.toArray := PySem.IsL.isList (n := n) hL.1
  have hll := Heap.lt_size hL.1
  refine wpAny_pyIter_list hls ?_
  have W := Walks.list (prog := prog) (w := w) hh s.heap.objs.size l (Nat.ne_of_lt hll) vs.toArray
  rw [show vs.toArray.size = vs.length by simp, show (fun i v => vs.toArray[i]? = some v) = fun i v => vs[i]? = some v by funext i v; simp] at W
  have N' := N.push F { cls := .type "list_iterator", data := .fields #[.ref l, .int 0 0] }
  refine forCore (s := { s with heap := s.heap.push { cls := .type "list_iterator", data := .fields #[.ref l, .int 0 0] } }) (oI := { cls := .type "list_iterator", data := .fields #[.ref l, .int 0 0] }) W (fun i h st => let ⟨o, ho, _⟩ := st.1; ⟨o, ho⟩) (Nat.ne_of_lt hll) hx hp (F.push _) (fun p hp => ?_) (fun b hb e => ?_) ⟨⟨_, Heap.get?_push_size _ rfl, rfl, rfl⟩, hls.at fun o e => Heap.get?_push_of_some _ e⟩ J hl hmono h0 turn done
  · rcases List.mem_append.mp hp with hp | hp
    · exact N' p (.tail _ hp)
    · rw [List.mem_singleton.mp hp]; exact N' _ (.head _)
  · obtain ⟨q, hq, rfl⟩ := List.mem_map.mp hb
    have := Heap.lt_size (N q hq).1
    rw [← e] at this
    exact Nat.lt_irrefl _ this

theorem forTuple {R : Result → Shared → Prop} {x : Str} {px : Pos} {body orelse : List Stmt} {l : Addr} {vs : List Value}
    (hh : A.handled = none) (hx : env.kindOf x = some .local) (hp : (env.scope.kind == .class || (env.scope.kind == .module && env.locals != env.globals)) = false)
    (F : Fr h₀ env.locals s.heap m) (N : News h₀ env.locals s.heap news)
    (J : Nat → Nat → Gens → (Str → Option Value) → List (Addr × Obj) → Prop) (hl : ∀ i tk g m nx, J i tk g m nx → (l, ({ cls := .type "tuple", data := .seq vs.toArray } : Obj)) ∈ nx) (hmono : ∀ i tk tk' g m nx, tk ≤ tk' → J i tk g m nx → J i tk' g m nx) (h0 : J 0 s.toks s.gens m news)
    (turn : ∀ i v m₁ news₁ h tk tk₀ g own, vs[i]? = some v → tk₀ ≤ tk → news₁.map (·.1) = news.map (·.1) → OwnOff own (news.map (·.1)) → J i tk₀ g m₁ news₁ →
      Fr h₀ env.locals h (fun y => if y = x then some v else m₁ y) → News h₀ env.locals h (news₁ ++ own) →
      wpAny (model prog w) A (execs body env) (PostG h₀ env.locals (J (i + 1)) own (news.map (·.1)) { s with heap := h, toks := tk, gens := g } fun f s₃ => R (.ok f) s₃)
        (notedBy (model prog w) A env fun e s' => R (.error e) s') { s with heap := h, toks := tk, gens := g })
    (done : ∀ m₁ news₁ h tk g, news₁.map (·.1) = news.map (·.1) → J vs.length tk g m₁ news₁ → Fr h₀ env.locals h m₁ → News h₀ env.locals h news₁ →
      wpAny (model prog w) A (execs orelse env) (fun f s₃ => R (.ok f) s₃) (notedBy (model prog w) A env fun e s' => R (.error e) s') { s with heap := h, toks := tk, gens := g }) :
    wpAny (model prog w) A (pyIter (.ref l)) (fun it s₂ => codeAny (model prog w) A (.forLoop (.Name x px) it body orelse env) R s₂) E s := by
  have hL := N _ (hl _ _ _ _ _ h0)
  have hls : s.heap.IsTuple l vs.toArray := ⟨_, hL.1, rfl, _, rfl⟩
  have hll := Heap.lt_size hL.1
  refine wpAny_pyIter_tuple hls ?_
  have W := Walks.tuple (prog := prog) (w := w) hh s.heap.objs.size l (Nat.ne_of_lt hll) vs.toArray
  rw [show vs.toArray.size = vs.length by simp, show (fun i v => vs.toArray[i]? = some v) = fun i v => vs[i]? = some v by funext i v; simp] at W
  have N' := N.push F { cls := .type "tuple_iterator", data := .fields #[.ref l, .int 0 0] }
  refine forCore (s := { s with heap := s.heap.push { cls := .type "tuple_iterator", data := .fields #[.ref l, .int 0 0] } }) (oI := { cls := .type "tuple_iterator", data := .fields #[.ref l, .int 0 0] }) W (fun i h st => let ⟨o, ho, _⟩ := st.1; ⟨o, ho⟩) (Nat.ne_of_lt hll) hx hp (F.push _) (fun p hp => ?_) (fun b hb e => ?_) ⟨⟨_, Heap.get?_push_size _ rfl, rfl, rfl⟩, hls.at fun o e => Heap.get?_push_of_some _ e⟩ J hl hmono h0 turn done
  · rcases List.mem_append.mp hp with hp | hp
    · exact N' p (.tail _ hp)
    · rw [List.mem_singleton.mp hp]; exact N' _ (.head _)
  · obtain ⟨q, hq, rfl⟩ := List.mem_map.mp hb
    have := Heap.lt_size (N q hq).1
    rw [← e] at this
    exact Nat.lt_irrefl _ this
end
end Mine
open PySem PySem.W PyProof.Rows PySem.Calls PyProof.V PySem.Spec
namespace Mine
set_option maxRecDepth 100000
set_option maxHeartbeats 8000000
def NoBook (h : Heap) : Prop := ∃ m, h.Ns cStatics m ∧ m sharingNotToldKey = none
theorem noBook_of {P : Params} {h : Heap} {mc : Str → Option Value} (n : h.Ns cStatics mc) (X : (hdK.heap_39 P).In h) : NoBook h := by
  obtain ⟨o, es, ep, e, hd, sk, r⟩ := n
  have l : ∃ o', (hdK.heap_39 P).lookup 2 = some o' ∧ ∀ es' ep', o'.data = .dict es' ep' → nsFind es' sharingNotToldKey = none := by
    refine ⟨_, rfl, ?_⟩
    intro es' ep' q
    injection q with q1 q2
    subst q1
    rfl
  obtain ⟨o', l, f⟩ := l
  have e2 : h.get? 2 = some o' := X _ _ l
  have e3 : h.get? 2 = some o := e
  have e4 : o = o' := Option.some.inj (e3.symm.trans e2)
  rw [e4] at hd
  refine ⟨mc, ⟨o', es, ep, e2, hd, sk, r⟩, ?_⟩
  rw [← r]
  exact f _ _ hd
theorem entry_is : entryFor table "proto.is" = some Builtin.«proto.is» := entryFor_of_tree (by kernel_rfl)
section
variable {prog : Program} {w : World} {A : Around} {E : Value → Shared → Prop} {s : Shared}
theorem told_no {t : Tok} {Q : Bool → Shared → Prop} (n : NoBook s.heap) (h : Q false s) : wpAny (model prog w) A (sharingNotTold t) Q E s := by
  obtain ⟨m, hn, hm⟩ := n
  unfold sharingNotTold
  refine wpAny_bind (wpAny_nsGet hn ?_)
  rw [hm]
  exact wpAny_pure h
theorem created_any {c : Bool} {t u : Tok} {Q : Bool → Shared → Prop} (ht : 0 < t) (hu : 0 < u) (htu : t = u → c = true) (n : NoBook s.heap) (h : ∀ r, (r = true → c = true) → Q r s) :
    wpAny (model prog w) A (isSame.created c t u) Q E s := by
  unfold isSame.created
  have e0 : (t == 0 || u == 0) = false := by
    have a : (t == 0) = false := beq_false_of_ne (by intro e; rw [e] at ht; exact absurd ht (by decide))
    have b : (u == 0) = false := beq_false_of_ne (by intro e; rw [e] at hu; exact absurd hu (by decide))
    rw [a, b]; rfl
  rw [e0]
  by_cases e : t = u
  · rw [show (t == u) = true by simpa using e]
    exact wpAny_pure (h _ fun _ => htu e)
  · rw [show (t == u) = false by simpa using e]
    cases c with
    | false => exact wpAny_pure (h _ fun x => x)
    | true =>
      refine wpAny_bind (told_no n ?_)
      refine wpAny_bind (told_no n ?_)
      refine wpAny_bind (wpAny_rule ?_)
      refine wpAny_bind (wpAny_askSetting ?_)
      exact wpAny_pure (h _ fun _ => rfl)
theorem proto_is_str {x y : Str} {t u : Tok} {Q : Value → Shared → Prop} (ht : 0 < t) (hu : 0 < u) (htu : t = u → x = y) (n : NoBook s.heap) (h : ∀ r, (r = true → x = y) → Q (.bool r) s) :
    wpAny (model prog w) A (runValue (.builtin "proto.is" ⟨[.str x t, .str y u], []⟩)) Q E s := by
  refine runValue_entry (b := Builtin.«proto.is») entry_is ?_
  unfold Builtin.«proto.is»
  refine wpAny_bind (created_any (c := x == y) ht hu (fun e => by simpa using htu e) n fun r hr => ?_)
  exact wpAny_pure ⟨_, rfl, h r fun e => by simpa using hr e⟩
theorem proto_is_bool {x y : Bool} {Q : Value → Shared → Prop} (h : Q (.bool (x == y)) s) :
    wpAny (model prog w) A (runValue (.builtin "proto.is" ⟨[.bool x, .bool y], []⟩)) Q E s := by
  refine runValue_entry (b := Builtin.«proto.is») entry_is ?_
  unfold Builtin.«proto.is»
  refine wpAny_bind (wpAny_pure (a := (Value.bool x == Value.bool y)) ?_)
  refine wpAny_pure ⟨_, rfl, ?_⟩
  cases x <;> cases y <;> exact h
theorem sameItems2 {x y : Str} {t u : Tok} {c d : Bool} {Q : Bool → Shared → Prop} (ht : 0 < t) (hu : 0 < u) (htu : t = u → x = y) (n : NoBook s.heap) (h : ∀ r, (r = true → x = y ∧ c = d) → Q r s) :
    wpAny (model prog w) A (sameItems #[.str x t, .bool c] #[.str y u, .bool d]) Q E s := by
  unfold sameItems
  rw [if_neg (by simp)]
  simp only [List.zip_cons_cons, List.zip_nil_right]
  simp only [List.forIn_cons, List.forIn_nil]
  refine wpAny_bind (wpAny_bind (wpAny_bind (proto_is_str ht hu htu n fun r hr => ?_)))
  cases r with
  | false => exact wpAny_pure (wpAny_pure (wpAny_pure (h _ fun x => by cases x)))
  | true =>
    refine wpAny_bind (wpAny_askSetting ?_)
    show wpAny (model prog w) A (pure (ForInStep.yield (none, ()))) _ _ _
    refine wpAny_pure ?_
    show wpAny (model prog w) A (_ >>= _) _ _ _
    refine wpAny_bind ?_
    refine wpAny_bind (proto_is_bool ?_)
    by_cases e : c = d
    · rw [show (c == d) = true by simpa using e]
      refine wpAny_bind (wpAny_askSetting ?_)
      show wpAny (model prog w) A (pure (ForInStep.yield (none, ()))) _ _ _
      exact wpAny_pure (wpAny_pure (wpAny_pure (h _ fun _ => ⟨hr rfl, e⟩)))
    · rw [show (c == d) = false by simpa using e]
      exact wpAny_pure (wpAny_pure (wpAny_pure (h _ fun x => by cases x)))
theorem is_tup2 {a b : Addr} {x y : Str} {t u : Tok} {c d : Bool} {Q : Value → Shared → Prop} (hab : a ≠ b) (ha : s.heap.get? a = some { cls := .type "tuple", data := .seq #[.str x t, .bool c] })
    (hb : s.heap.get? b = some { cls := .type "tuple", data := .seq #[.str y u, .bool d] }) (ht : 0 < t) (hu : 0 < u) (htu : t = u → x = y) (n : NoBook s.heap) (h : ∀ r, (r = true → x = y ∧ c = d) → Q (.bool r) s) :
    wpAny (model prog w) A (compareOp .Is (.ref a) (.ref b)) Q E s := by
  show wpAny _ A (do return .bool (← isSame (.ref a) (.ref b))) Q E s
  refine wpAny_bind ?_
  show wpAny _ A (if (a == b) = true then pure true else _) _ E s
  rw [if_neg (by simpa using hab)]
  refine wpAny_bind (wpAny_load ha (wpAny_bind (wpAny_load hb ?_)))
  show wpAny _ A (sameTuple a b #[.str x t, .bool c] #[.str y u, .bool d]) _ E s
  unfold sameTuple
  refine wpAny_bind (wpAny_askSetting ?_)
  have no : wpAny (model prog w) A (pure false) (fun r s => wpAny (model prog w) A (pure (Value.bool r)) Q E s) E s := wpAny_pure (wpAny_pure (h _ fun x => by cases x))
  dsimp only
  split
  · exact no
  split
  · exact no
  refine wpAny_bind (wpAny_holding (sameItems2 ht hu htu n fun r hr => ?_))
  cases r with
  | false => exact no
  | true =>
    refine wpAny_bind (wpAny_rule ?_)
    exact wpAny_pure (wpAny_pure (h _ hr))
theorem same_tup2 {x y : Str} {c d : Bool} : PySem.Spec.same (.tuple [.str x, .bool c]) (.tuple [.str y, .bool d]) = (x == y && c == d) := by
  rw [PySem.Spec.same, PySem.Spec.sameAll, PySem.Spec.sameAll, PySem.Spec.sameAll, PySem.Spec.same, PySem.Spec.same, Bool.and_true]
theorem eq_tup2 {a b : Addr} {x y : Str} {t u : Tok} {c d : Bool} {Q : Value → Shared → Prop} (ha : s.heap.get? a = some { cls := .type "tuple", data := .seq #[.str x t, .bool c] })
    (hb : s.heap.get? b = some { cls := .type "tuple", data := .seq #[.str y u, .bool d] }) (hu : A.units + 64 < cLine) (ox : PyData.strOk x = true) (oy : PyData.strOk y = true) (h : Q (.bool (x == y && c == d)) s) :
    wpAny (model prog w) A (compareOp .Eq (.ref a) (.ref b)) Q E s := by
  have r : ∀ {a : Addr} {x : Str} {t : Tok} {c : Bool}, s.heap.get? a = some { cls := .type "tuple", data := .seq #[.str x t, .bool c] } → Reads s.heap (.ref a) (.tuple [.str x, .bool c]) [] := fun ha =>
    .tuple ha rfl rfl (.cons (.str _ _) (.cons (.bool _) .nil))
  have sh : ∀ {x : Str} {c : Bool}, PyData.strOk x = true → SeqAt.shaped (.tuple [.str x, .bool c]) = true := fun o => by
    simp [SeqAt.shaped, PyData.canLay0, PyData.canLayAll0, PyData.depth, PyData.depthAll, o]
  refine eq_dataH_same (r ha) (r hb) (sh ox) (sh oy) hu (by simp [SeqAt.noMix, SeqAt.noMixAll]) ?_
  rw [same_tup2]
  exact h
end
end Mine
open PySem PySem.W PyProof.Rows PySem.Calls PyProof.V PySem.Spec
namespace Mine
set_option maxRecDepth 100000
set_option maxHeartbeats 8000000
abbrev tupO (x : Str) (t : Tok) (c : Bool) : Obj := { cls := .type "tuple", data := .seq #[.str x t, .bool c] }
def KindsAre (T : Addr) (t : Tok) (news : List (Addr × Obj)) (kv : List Value) (ps : List (Str × Bool)) : Prop :=
  kv.length = ps.length ∧ ∀ (i : Nat) (v : Value) (p : Str × Bool), kv[i]? = some v → ps[i]? = some p → ∃ a t', v = .ref a ∧ (a, tupO p.1 t' p.2) ∈ news ∧ a ≠ T ∧ 0 < t' ∧ (t' = t → p.1 = Str.ofString "(") ∧ PyData.strOk p.1 = true
def cntK (ps : List (Str × Bool)) : Int := (ps.countP fun p => p.1 == Str.ofString "(" && p.2 : Nat)
def JCnt (l T : Addr) (ob : Obj) (news : List (Addr × Obj)) (G : Gens) (ps : List (Str × Bool)) (i : Nat) (_tk : Nat) (g : Gens) (m : Str → Option Value) (nx : List (Addr × Obj)) : Prop :=
  nx = news ∧ g = G ∧ m (Str.ofString "b") = some (.ref T) ∧ (∃ t, m (Str.ofString "count") = some (.int (cntK (ps.take i)) t)) ∧ (l, ob) ∈ news
local macro_rules | `(tactic| walk_at "call ref") => `(tactic| (k_here; refine Stop.out ?_))
local macro_rules | `(tactic| walk_at "PostG") => `(tactic| (dsimp only [PostG]))
section
variable {w : World} {p : Program} {loose : List Str} {mean : ExcName → Option Value} {mg mb : Str → Option Value} {dp un : Nat} {gd : Option (List Code)} {cn : Str} {cs : Scope} {a : Addr} {ccd : Value} {cl : List (Str × Addr)} {outer : List Env} {A₀ : Around} {base h₀ : Heap} {L : Addr} {m : Str → Option Value} {s : Shared} {Q E : Value → Shared → Prop} {news : List (Addr × Obj)}
theorem count_c {l T : Addr} {kv : List Value} {n : Nat} {t : Tok} {ps : List (Str × Bool)} (C : Cx w p loose mean mg mb dp un cn cs L a ccd cl outer A₀ base h₀ m s news) (hu2 : un + 128 < cLine) (ht : 0 < t)
    (hl : (l, listOf kv.toArray n) ∈ news) (hT : (T, tupO (Str.ofString "(") t true) ∈ news) (hk : KindsAre T t news kv ps)
    (ret : ∀ t h' tk', Fr h₀ L h' m → News h₀ L h' news → Q (.int (cntK ps) t) { s with heap := h', toks := tk' }) :
    wpAny (model PySem.Challenge.rw_xo0011_01.row.prog w) (ktrTop dp un gd cn cs L a ccd cl outer) (call (.ref 79) [.ref l, .ref T]) Q E s := by
  obtain ⟨B, F, X, N, T', hk', hd, hu⟩ := C
  w_top off
  revert X; k_fill; intro X
  refine wpAny_call ?_
  k_dflt cell_enter
  k_steps
  refine wpAny_For ?_ ?_
  · k_steps
    rename News _ _ _ _ => hN
    rename Fr _ _ _ _ => hF
    with_unfolding_all refine forListW (l := l) (n := n) (vs := kv) rfl rfl rfl hF hN (JCnt l T (listOf kv.toArray n) news s.gens ps) ?_ ?_ ?_ ?_ ?_
    · rintro i tk g m nx ⟨rfl, _, _, _, h⟩; exact h
    · rintro i tk tk' g m nx _ h; exact h
    · exact ⟨rfl, rfl, by with_unfolding_all rfl, ⟨_, by with_unfolding_all rfl⟩, hl⟩
    · intro i v m₁ nx h tk tk₀ g own hv hle hadr hoff hJ F N
      obtain ⟨hnx, hg, hb, ⟨tc, hc⟩, _⟩ := hJ
      subst hg
      rw [hnx] at N
      clear hnx hadr
      replace F := fr_ext F (ins (ins rfl hc) hb)
      have hil : i < ps.length := by rw [← hk.1]; exact (List.getElem?_eq_some_iff.mp hv).1
      obtain ⟨a1, t1, rfl, hmem, hne, ht1, htt, hok⟩ := hk.2 i v ps[i] hv (List.getElem?_eq_getElem hil)
      have hN1 := N _ (List.mem_append_left _ hmem)
      have hN2 := N _ (List.mem_append_left _ hT)
      have cl : (if (ps[i].1 == Str.ofString "(" && ps[i].2) = true then cntK (ps.take (i + 1)) = cntK (ps.take i) + 1 else cntK (ps.take (i + 1)) = cntK (ps.take i)) := by
        unfold cntK
        rw [List.take_succ_eq_append_getElem hil, List.countP_append, List.countP_singleton]
        split <;> simp
      k_steps
      rename Top _ _ _ _ _ _ => TG
      rename Frag.In _ _ => XG
      obtain ⟨_, hT2, _⟩ := TG.nodigits
      have nb : NoBook h := noBook_of (Heap.Ns.keepsP hT2 F.keep) (Frag.In.keeps XG F.keep)
      refine is_tup2 hne hN1.1 hN2.1 ht1 ht htt nb fun r hr => ?_
      k_steps
      · rename News _ _ _ _ => N5
        rename Fr _ _ _ _ => F5
        have e5 : r = true := by assumption
        rw [if_pos (by rw [(hr e5).1, (hr e5).2]; rfl)] at cl
        refine ⟨_, _, _, _, _, news, rfl, F5, N5, fun p hp => List.mem_append_left _ hp, fun p hp => List.mem_append_right _ hp, rfl, rfl, rfl, ?_, ?_, hl⟩
        · with_unfolding_all rfl
        · rw [cl]; exact ⟨_, by with_unfolding_all rfl⟩
      · refine eq_tup2 hN1.1 hN2.1 (by show _ + 64 < cLine; dsimp only [ktrTop, Around.deeper]; omega) hok (by with_unfolding_all rfl) ?_
        k_steps
        · rename News _ _ _ _ => N5
          rename Fr _ _ _ _ => F5
          have e5 : (ps[i].fst == Str.ofString "(" && ps[i].snd == true) = true := by assumption
          rw [if_pos (by simpa using e5)] at cl
          refine ⟨_, _, _, _, _, news, rfl, F5, N5, fun p hp => List.mem_append_left _ hp, fun p hp => List.mem_append_right _ hp, rfl, rfl, rfl, ?_, ?_, hl⟩
          · with_unfolding_all rfl
          · rw [cl]; exact ⟨_, by with_unfolding_all rfl⟩
        · have e5 : (ps[i].fst == Str.ofString "(" && ps[i].snd == true) = false := by assumption
          rw [if_neg (by simpa using e5)] at cl
          refine ⟨_, _, _, _, _, news, rfl, F, N, fun p hp => List.mem_append_left _ hp, fun p hp => List.mem_append_right _ hp, rfl, rfl, rfl, ?_, ?_, hl⟩
          · with_unfolding_all rfl
          · rw [cl]; exact ⟨tc, by with_unfolding_all rfl⟩
    · intro m₁ news₁ h tk g ha hJ F N
      obtain ⟨hnx, hg, hb, ⟨tc, hc⟩, _⟩ := hJ
      subst hg
      rw [hnx] at N
      replace F := fr_ext0 F (ins (ins rfl hc) hb)
      k_steps
      rename News _ _ _ _ => N5
      rename Fr _ _ _ _ => F5
      have e6 : ps.take kv.length = ps := by rw [hk.1, List.take_length]
      have := ret tc _ tk F5 N5
      rw [← e6] at this
      exact this
  · intro x; rfl
end
end Mine
open PySem PySem.W PyProof.Rows PySem.Calls PyProof.V PySem.Spec
namespace Mine
set_option maxRecDepth 100000
set_option maxHeartbeats 4000000
def EndH (h₀ : Heap) (L : Addr) (J : Nat → Gens → (Str → Option Value) → List (Addr × Obj) → Prop) (I : Addr) (oI : Obj) (s₁ s₂ : Shared) : Prop :=
  ∃ h' tk g m' news' nx, s₂ = { s₁ with heap := h', toks := tk, gens := g } ∧ Fr h₀ L h' m' ∧ News h₀ L h' news' ∧ (∀ p ∈ nx, p ∈ news') ∧ (I, oI) ∈ news' ∧ (∀ q ∈ nx, I ≠ q.1) ∧ J tk g m' nx
def PostH (h₀ : Heap) (L : Addr) (J : Nat → Gens → (Str → Option Value) → List (Addr × Obj) → Prop) (I : Addr) (oI : Obj) (s₁ : Shared) (Q : Flow → Shared → Prop) (f : Flow) (s₂ : Shared) : Prop :=
  match f with
  | .ret v => Q (.ret v) s₂
  | .brk => Q .next s₂
  | _ => EndH h₀ L J I oI s₁ s₂
section
variable {prog : Program} {w : World} {A : Around} {E : Value → Shared → Prop} {s : Shared} {h₀ : Heap} {env : Env} {m : Str → Option Value} {news : List (Addr × Obj)}
theorem forCoreH {R : Result → Shared → Prop} {x : Str} {px : Pos} {body orelse : List Stmt} {I l : Addr} {ob oI : Obj} {vs : List Value} {St : Nat → Heap → Prop}
    (W : Walks prog w A I [I, l] [I] vs.length (fun i v => vs[i]? = some v) St) (hI : ∀ i h, St i h → ∃ o, h.get? I = some o) (hlI : l ≠ I)
    (hx : env.kindOf x = some .local) (hp : (env.scope.kind == .class || (env.scope.kind == .module && env.locals != env.globals)) = false)
    (F : Fr h₀ env.locals s.heap m) (N : News h₀ env.locals s.heap (news ++ [(I, oI)])) (hoff : ∀ q ∈ news, @LT.lt Nat instLTNat q.1 I) (hst : St 0 s.heap)
    (J : Nat → Nat → Gens → (Str → Option Value) → List (Addr × Obj) → Prop) (hl : ∀ i tk g m nx, J i tk g m nx → (l, ob) ∈ nx) (hmono : ∀ i tk tk' g m nx, tk ≤ tk' → J i tk g m nx → J i tk' g m nx) (h0 : J 0 s.toks s.gens m news)
    (turn : ∀ i v m₁ news₁ h tk tk₀ g I oI, vs[i]? = some v → tk₀ < tk → (∀ q ∈ news, @LT.lt Nat instLTNat q.1 I) → (∀ q ∈ news₁, I ≠ q.1) → J i tk₀ g m₁ news₁ →
      Fr h₀ env.locals h (fun y => if y = x then some v else m₁ y) → News h₀ env.locals h ((I, oI) :: news₁) →
      wpAny (model prog w) A (execs body env) (PostH h₀ env.locals (J (i + 1)) I oI { s with heap := h, toks := tk, gens := g } fun f s₃ => R (.ok f) s₃)
        (notedBy (model prog w) A env fun e s' => R (.error e) s') { s with heap := h, toks := tk, gens := g })
    (done : ∀ m₁ news₁ h tk g, J vs.length tk g m₁ news₁ → Fr h₀ env.locals h m₁ → News h₀ env.locals h news₁ →
      wpAny (model prog w) A (execs orelse env) (fun f s₃ => R (.ok f) s₃) (notedBy (model prog w) A env fun e s' => R (.error e) s') { s with heap := h, toks := tk, gens := g }) :
    codeAny (model prog w) A (.forLoop (.Name x px) (.ref I) body orelse env) R s := by
  refine codeAny_forLoop_any (fun k s' => ∃ h tk g m' news' oI i, s' = { s with heap := h, toks := tk, gens := g } ∧ Fr h₀ env.locals h m' ∧ News h₀ env.locals h (news' ++ [(I, oI)]) ∧ (∀ q ∈ news', I ≠ q.1) ∧ St i h ∧ J i tk g m' news' ∧ i ≤ vs.length ∧ k = vs.length - i) ?_ vs.length
    ⟨s.heap, s.toks, s.gens, m, news, oI, 0, rfl, F, N, (fun q hq => Nat.ne_of_gt (hoff q hq)), hst, h0, Nat.zero_le _, rfl⟩
  rintro k s' ⟨h, tk, g, m', news', oI', i, rfl, F', N', hadr, hst', hJ, hi, rfl⟩
  have hIN := N' (I, oI') (by simp)
  have keepF : ∀ h₁ : Heap, (∀ b o, b ∉ [I] → h.get? b = some o → h₁.get? b = some o) → Fr h₀ env.locals h₁ m' := fun h₁ hk =>
    ⟨F'.ns.at' fun o e => hk _ o (fun q => hIN.2.1 (List.mem_singleton.mp q).symm) e, fun b o e => hk b o (fun q => by have := hIN.2.2; rw [← List.mem_singleton.mp q, e] at this; cases this) (F'.keep b o e), F'.above⟩
  have keepN : ∀ h₁ : Heap, (∀ b o, b ∉ [I] → h.get? b = some o → h₁.get? b = some o) → News h₀ env.locals h₁ news' := fun h₁ hk p hp => by
    have q := N' p (List.mem_append_left _ hp)
    exact ⟨hk _ _ (fun e => hadr _ hp (List.mem_singleton.mp e).symm) q.1, q.2⟩
  by_cases hlt : i < vs.length
  · refine wpAny_with_toks (Nat.le_refl _) (W.item i _ _ _ hlt hst' fun v h₁ tk₁ hv hst₁ hk₁ hle => ?_)
    replace hk₁ : ∀ b o, b ∉ [I] → h.get? b = some o → h₁.get? b = some o := hk₁
    replace hle : tk ≤ tk₁ := hle
    have F₁ := keepF h₁ hk₁
    have N₁ := keepN h₁ hk₁
    obtain ⟨oI₁, hoI₁⟩ := hI _ _ hst₁
    refine wpAny_of_eq (a := ()) (rfl : letOwnedTupleGo (.Name x px) (.ref I) v = pure ()) ?_
    refine wpAny_assign_Name (wpAny_storeName_local hx F₁.ns (fun h₂ hn₂ hs₂ => ?_) hp)
    replace hs₂ : Heap.SameBut env.locals h₁ h₂ := hs₂
    have F₂ := F₁.set hn₂ hs₂
    have N₂ := N₁.set hs₂
    have NI : News h₀ env.locals h₂ [(I, oI₁)] := fun p hp => by
      rw [List.mem_singleton.mp hp]
      exact ⟨hs₂.extBut _ _ hIN.2.1 hoI₁, hIN.2⟩
    refine wpAny_mono (turn i v m' news' h₂ (tk₁ + 1) tk g I oI₁ hv (by omega) hoff hadr hJ F₂ (fun p hp => (List.mem_cons.mp hp).elim (fun e => NI p (by rw [e]; exact .head _)) (N₂ p))) (fun f s₃ hf => ?_) fun _ _ x => x
    have hst₂ : St (i + 1) h₂ := W.frame _ _ _ hst₁ fun b hb o e => by
      simp only [List.mem_cons, List.not_mem_nil, or_false] at hb
      rcases hb with rfl | rfl
      · exact hs₂.extBut _ _ hIN.2.1 e
      · have := (N₁ _ (hl _ _ _ _ _ hJ)).2.1
        exact hs₂.extBut _ _ this e
    have up : EndH h₀ env.locals (J (i + 1)) I oI₁ { s with heap := h₂, toks := tk₁ + 1, gens := g } s₃ →
        ∃ k', k' < vs.length - i ∧ ∃ h tk g m' news' oI i, s₃ = { s with heap := h, toks := tk, gens := g } ∧ Fr h₀ env.locals h m' ∧ News h₀ env.locals h (news' ++ [(I, oI)]) ∧ (∀ q ∈ news', I ≠ q.1) ∧ St i h ∧ J i tk g m' news' ∧ i ≤ vs.length ∧ k' = vs.length - i := by
      rintro ⟨h', tk', g', m'', news'', nx, rfl, F'', N'', hn, ho, ha, hJ'⟩
      refine ⟨vs.length - (i + 1), by omega, h', tk', g', m'', nx, oI₁, i + 1, rfl, F'', fun p hp => ?_, ha, ?_, hJ', by omega, rfl⟩
      · rcases List.mem_append.mp hp with hp | hp
        · exact N'' p (hn p hp)
        · rw [List.mem_singleton.mp hp]; exact N'' _ ho
      · refine W.frame _ _ _ hst₂ fun b hb o e => ?_
        simp only [List.mem_cons, List.not_mem_nil, or_false] at hb
        rcases hb with rfl | rfl
        · rw [(NI (b, oI₁) (by simp)).1] at e
          cases e
          exact (N'' (b, oI₁) ho).1
        · rw [(N₂ _ (hl _ _ _ _ _ hJ)).1] at e
          cases e
          exact (N'' _ (hn _ (hl _ _ _ _ _ hJ'))).1
    cases f with
    | ret v => exact hf
    | brk => exact hf
    | next => exact up hf
    | cont => exact up hf
  · have hie : i = vs.length := by omega
    subst hie
    refine wpAny_with_toks (Nat.le_refl _) (W.done _ _ _ hst' fun h₁ tk₁ hk₁ hle => ?_)
    replace hk₁ : ∀ b o, b ∉ [I] → h.get? b = some o → h₁.get? b = some o := hk₁
    exact done m' news' h₁ tk₁ g (hmono _ _ _ _ _ _ hle hJ) (keepF h₁ hk₁) (keepN h₁ hk₁)

theorem forListH {R : Result → Shared → Prop} {x : Str} {px : Pos} {body orelse : List Stmt} {l : Addr} {n : Nat} {vs : List Value}
    (hh : A.handled = none) (hx : env.kindOf x = some .local) (hp : (env.scope.kind == .class || (env.scope.kind == .module && env.locals != env.globals)) = false)
    (F : Fr h₀ env.locals s.heap m) (N : News h₀ env.locals s.heap news)
    (J : Nat → Nat → Gens → (Str → Option Value) → List (Addr × Obj) → Prop) (hl : ∀ i tk g m nx, J i tk g m nx → (l, listOf vs.toArray n) ∈ nx) (hmono : ∀ i tk tk' g m nx, tk ≤ tk' → J i tk g m nx → J i tk' g m nx) (h0 : J 0 s.toks s.gens m news)
    (turn : ∀ i v m₁ news₁ h tk tk₀ g I oI, vs[i]? = some v → tk₀ < tk → (∀ q ∈ news, @LT.lt Nat instLTNat q.1 I) → (∀ q ∈ news₁, I ≠ q.1) → J i tk₀ g m₁ news₁ →
      Fr h₀ env.locals h (fun y => if y = x then some v else m₁ y) → News h₀ env.locals h ((I, oI) :: news₁) →
      wpAny (model prog w) A (execs body env) (PostH h₀ env.locals (J (i + 1)) I oI { s with heap := h, toks := tk, gens := g } fun f s₃ => R (.ok f) s₃)
        (notedBy (model prog w) A env fun e s' => R (.error e) s') { s with heap := h, toks := tk, gens := g })
    (done : ∀ m₁ news₁ h tk g, J vs.length tk g m₁ news₁ → Fr h₀ env.locals h m₁ → News h₀ env.locals h news₁ →
      wpAny (model prog w) A (execs orelse env) (fun f s₃ => R (.ok f) s₃) (notedBy (model prog w) A env fun e s' => R (.error e) s') { s with heap := h, toks := tk, gens := g }) :
    wpAny (model prog w) A (pyIter (.ref l)) (fun it s₂ => codeAny (model prog w) A (.forLoop (.Name x px) it body orelse env) R s₂) E s := by
  have hL := N _ (hl _ _ _ _ _ h0)
  have hls : s.heap.IsList l vs.toArray := PySem.IsL.isList (n := n) hL.1
  have hll := Heap.lt_size hL.1
  refine wpAny_pyIter_list hls ?_
  have W := Walks.list (prog := prog) (w := w) hh s.heap.objs.size l (Nat.ne_of_lt hll) vs.toArray
  rw [show vs.toArray.size = vs.length by simp, show (fun i v => vs.toArray[i]? = some v) = fun i v => vs[i]? = some v by funext i v; simp] at W
  have N' := N.push F { cls := .type "list_iterator", data := .fields #[.ref l, .int 0 0] }
  refine forCoreH (s := { s with heap := s.heap.push { cls := .type "list_iterator", data := .fields #[.ref l, .int 0 0] } }) (oI := { cls := .type "list_iterator", data := .fields #[.ref l, .int 0 0] }) W (fun i h st => let ⟨o, ho, _⟩ := st.1; ⟨o, ho⟩) (Nat.ne_of_lt hll) hx hp (F.push _) (fun p hp => ?_) (fun q hq => Heap.lt_size (N q hq).1) ⟨⟨_, Heap.get?_push_size _ rfl, rfl, rfl⟩, hls.at fun o e => Heap.get?_push_of_some _ e⟩ J hl hmono h0 turn done
  rcases List.mem_append.mp hp with hp | hp
  · exact N' p (.tail _ hp)
  · rw [List.mem_singleton.mp hp]; exact N' _ (.head _)

theorem forTupleH {R : Result → Shared → Prop} {x : Str} {px : Pos} {body orelse : List Stmt} {l : Addr} {vs : List Value}
    (hh : A.handled = none) (hx : env.kindOf x = some .local) (hp : (env.scope.kind == .class || (env.scope.kind == .module && env.locals != env.globals)) = false)
    (F : Fr h₀ env.locals s.heap m) (N : News h₀ env.locals s.heap news)
    (J : Nat → Nat → Gens → (Str → Option Value) → List (Addr × Obj) → Prop) (hl : ∀ i tk g m nx, J i tk g m nx → (l, ({ cls := .type "tuple", data := .seq vs.toArray } : Obj)) ∈ nx) (hmono : ∀ i tk tk' g m nx, tk ≤ tk' → J i tk g m nx → J i tk' g m nx) (h0 : J 0 s.toks s.gens m news)
    (turn : ∀ i v m₁ news₁ h tk tk₀ g I oI, vs[i]? = some v → tk₀ < tk → (∀ q ∈ news, @LT.lt Nat instLTNat q.1 I) → (∀ q ∈ news₁, I ≠ q.1) → J i tk₀ g m₁ news₁ →
      Fr h₀ env.locals h (fun y => if y = x then some v else m₁ y) → News h₀ env.locals h ((I, oI) :: news₁) →
      wpAny (model prog w) A (execs body env) (PostH h₀ env.locals (J (i + 1)) I oI { s with heap := h, toks := tk, gens := g } fun f s₃ => R (.ok f) s₃)
        (notedBy (model prog w) A env fun e s' => R (.error e) s') { s with heap := h, toks := tk, gens := g })
    (done : ∀ m₁ news₁ h tk g, J vs.length tk g m₁ news₁ → Fr h₀ env.locals h m₁ → News h₀ env.locals h news₁ →
      wpAny (model prog w) A (execs orelse env) (fun f s₃ => R (.ok f) s₃) (notedBy (model prog w) A env fun e s' => R (.error e) s') { s with heap := h, toks := tk, gens := g }) :
    wpAny (model prog w) A (pyIter (.ref l)) (fun it s₂ => codeAny (model prog w) A (.forLoop (.Name x px) it body orelse env) R s₂) E s := by
  have hL := N _ (hl _ _ _ _ _ h0)
  have hls : s.heap.IsTuple l vs.toArray := ⟨_, hL.1, rfl, _, rfl⟩
  have hll := Heap.lt_size hL.1
  refine wpAny_pyIter_tuple hls ?_
  have W := Walks.tuple (prog := prog) (w := w) hh s.heap.objs.size l (Nat.ne_of_lt hll) vs.toArray
  rw [show vs.toArray.size = vs.length by simp, show (fun i v => vs.toArray[i]? = some v) = fun i v => vs[i]? = some v by funext i v; simp] at W
  have N' := N.push F { cls := .type "tuple_iterator", data := .fields #[.ref l, .int 0 0] }
  refine forCoreH (s := { s with heap := s.heap.push { cls := .type "tuple_iterator", data := .fields #[.ref l, .int 0 0] } }) (oI := { cls := .type "tuple_iterator", data := .fields #[.ref l, .int 0 0] }) W (fun i h st => let ⟨o, ho, _⟩ := st.1; ⟨o, ho⟩) (Nat.ne_of_lt hll) hx hp (F.push _) (fun p hp => ?_) (fun q hq => Heap.lt_size (N q hq).1) ⟨⟨_, Heap.get?_push_size _ rfl, rfl, rfl⟩, hls.at fun o e => Heap.get?_push_of_some _ e⟩ J hl hmono h0 turn done
  rcases List.mem_append.mp hp with hp | hp
  · exact N' p (.tail _ hp)
  · rw [List.mem_singleton.mp hp]; exact N' _ (.head _)
end
end Mine
open PySem PySem.W PyProof.Rows PySem.Calls PyProof.V PySem.Spec
namespace Mine
set_option maxRecDepth 100000
set_option maxHeartbeats 4000000
open PyProof.Rows.LCg
section
variable {prog : Program} {w : World} {A : Around} {E : Value → Shared → Prop} {s : Shared} {h₀ : Heap} {env : Env} {m : Str → Option Value}
theorem compTurns {L : Addr} {elt iter : Expr} {x : Str} {px : Pos} {scope : Scope} {cl : List (Str × Addr)} {pos : Pos} {n : Nat} {I C D : Addr} {R : Result → Shared → Prop} {news : List (Addr × Obj)} {mC : Str → Option Value}
    (J : Nat → Nat → List Value → List (Addr × Obj) → Prop) (hmono : ∀ i tk tk' ys nw, tk ≤ tk' → J i tk ys nw → J i tk' ys nw) (hh : A.handled = none) (hkind : scope.kind = .function) (hx : scope.names.lookup x = some .local) (hn : n ≤ 1000)
    (hIC : I ≠ C) (hID : I ≠ D) (hCD : C ≠ D) (hIL : I ≠ L) (hCL : C ≠ L) (hDL : D ≠ L) (hI₀ : h₀.get? I = none) (hC₀ : h₀.get? C = none) (hD₀ : h₀.get? D = none)
    (hit : IsRangeIter s.heap I 0 n 1) (F : Fr h₀ L s.heap m) (hC : s.heap.Ns C mC) (N : News h₀ L s.heap ((D, lst []) :: news)) (off : Off3 I C D news) (h0 : J 0 s.toks [] news)
    (turn : ∀ i ys nw t oI oC m₂ h tk tk₀ E', i < n → J i tk₀ ys nw → tk₀ < tk → NsObj oC m₂ → m₂ x = some (.int (i : Int) t) → Fr h₀ L h m → News h₀ L h ((I, oI) :: (C, oC) :: (D, lst ys) :: nw) → Off3 I C D nw →
      wpAny (model prog w) A (eval elt (compEnvC scope cl C env)) (fun y s₂ => ∃ h' tk' nw', s₂ = { s with heap := h', toks := tk' } ∧ Fr h₀ L h' m ∧ News h₀ L h' ((I, oI) :: (C, oC) :: (D, lst ys) :: nw') ∧ Off3 I C D nw' ∧ J (i + 1) tk' (ys ++ [y]) nw') E' { s with heap := h, toks := tk })
    (done : ∀ h tk ys nw mC', J n tk ys nw → Fr h₀ L h m → h.Ns C mC' → News h₀ L h ((D, lst ys) :: nw) → Off3 I C D nw → R (.ok .next) { s with heap := h, toks := tk }) :
    codeAny (model prog w) A (.compLoop (.ListComp elt [⟨.Name x px, iter, [], 0⟩] scope pos) 0 (.ref I) (.ref D) (compEnvC scope cl C env)) R s := by
  have W := range_walks (prog := prog) (w := w) (I := I) hh 0 n
  refine codeAny_compLoop_tests (fun k s' => ∃ h tk i ys nw mC', s' = { s with heap := h, toks := tk } ∧ i ≤ n ∧ k = n - i ∧ ys.length = i ∧ IsRangeIter h I (0 + (i : Nat) * 1) ((n : Int) - (i : Nat)) 1 ∧ Fr h₀ L h m ∧ h.Ns C mC' ∧ News h₀ L h ((D, lst ys) :: nw) ∧ Off3 I C D nw ∧ J i tk ys nw) ?_ n
    ⟨s.heap, s.toks, 0, [], news, mC, rfl, Nat.zero_le _, rfl, rfl, by simpa using hit, F, hC, N, off, h0⟩
  rintro k s' ⟨h, tk, i, ys, nw, mC', rfl, hi, rfl, hl, hst, F', hC', N', off', hJ⟩
  have o3 := off'.mem
  have nI : ∀ p ∈ (D, lst ys) :: nw, p.1 ≠ I := fun p hp => by
    rcases List.mem_cons.mp hp with rfl | hp
    · exact Ne.symm hID
    · exact (o3 p hp).1
  have nC : ∀ p ∈ (D, lst ys) :: nw, p.1 ≠ C := fun p hp => by
    rcases List.mem_cons.mp hp with rfl | hp
    · exact Ne.symm hCD
    · exact (o3 p hp).2.1
  by_cases hlt : i < n
  · refine wpAny_with_toks (Nat.le_refl _) (W.item i _ _ _ hlt hst fun v h₁ tk₁ hv hst₁ hk₁ hle => ?_)
    obtain ⟨t, rfl⟩ := hv
    replace hle : tk ≤ tk₁ := hle
    have C₁ : h₁.Ns C mC' := hC'.at' fun o e => hk₁ _ o (by simpa using Ne.symm hIC) e
    refine wpAny_assign_Name (wpAny_storeName_local (lookup_relabel_local hx) C₁ (fun h₂ hn₂ hs₂ => ?_) (by simp [compEnvC, relabel, hkind]))
    replace hs₂ : Heap.SameBut C h₁ h₂ := hs₂
    refine wpAny_tests_nil ?_
    rw [if_pos rfl]
    obtain ⟨oC, eC, hoC⟩ := ns_obj hn₂
    obtain ⟨oI, eI, hI'⟩ : ∃ oI, h₁.get? I = some oI ∧ ∀ h', h'.get? I = some oI → IsRangeIter h' I (0 + ((i + 1 : Nat) : Int) * 1) ((n : Int) - ((i + 1 : Nat) : Int)) 1 := ⟨_, hst₁, fun _ e => e⟩
    have st₂ := hs₂.extBut _ _ hIC eI
    have N₁ := news_but N' hk₁ nI
    have F₂ : Fr h₀ L h₂ m := (fr_but F' hk₁ (Ne.symm hIL) hI₀).change hs₂ hCL hC₀
    refine wpAny_mono (turn i ys nw t oI oC _ h₂ (tk₁ + 1) tk _ hlt hJ (by omega) hoC (by simp) F₂ (fun p hp => ?_) off') (fun y s₃ h₃ => ?_) fun _ _ e => e
    · rcases List.mem_cons.mp hp with rfl | hp
      · exact ⟨st₂, hIL, hI₀⟩
      rcases List.mem_cons.mp hp with rfl | hp
      · exact ⟨eC, hCL, hC₀⟩
      · exact ⟨hs₂.extBut _ _ (nC p hp) (N₁ p hp).1, (N₁ p hp).2⟩
    obtain ⟨h₄, tk₄, nw₄, rfl, F₄, N₄, off₄, hJ₄⟩ := h₃
    have zI := (N₄ _ (.head _)).1
    have zC := (N₄ _ (.tail _ (.head _))).1
    have zD := (N₄ _ (.tail _ (.tail _ (.head _)))).1
    refine append_at (hsz := by rw [List.size_toArray, hl]; exact Nat.le_trans hi (Nat.le_trans hn (by decide))) zD fun h₅ hs₅ hD₅ => ?_
    replace hs₅ : Heap.SameBut D h₄ h₅ := hs₅
    have o4 := off₄.mem
    refine ⟨n - (i + 1), by omega, h₅, tk₄, i + 1, ys ++ [y], nw₄, _, rfl, hlt, rfl, by rw [List.length_append, hl]; rfl, ?_, F₄.change hs₅ hDL hD₀, (hoC.ns zC).sameBut hs₅ hCD, fun p hp => ?_, off₄, hJ₄⟩
    · exact hI' _ (hs₅.extBut _ _ hID zI)
    · rcases List.mem_cons.mp hp with rfl | hp
      · exact ⟨hD₅.trans (congrArg some (lst_snoc ys y)), hDL, hD₀⟩
      · have q := N₄ p (.tail _ (.tail _ (.tail _ hp)))
        exact ⟨hs₅.extBut _ _ (o4 p hp).2.2 q.1, q.2⟩
  · have e : i = n := Nat.le_antisymm hi (Nat.not_lt.mp hlt)
    subst e
    refine wpAny_with_toks (Nat.le_refl _) (W.done _ _ _ hst fun h₁ tk₁ hk₁ hle => ?_)
    exact done h₁ tk₁ ys nw mC' (hmono _ _ _ _ _ hle hJ) (fr_but F' hk₁ (Ne.symm hIL) hI₀) (hC'.at' fun o e => hk₁ _ o (by simpa using Ne.symm hIC) e) (news_but N' hk₁ nI) off'
theorem compRng {elt iter : Expr} {x y : Str} {px py : Pos} {scope : Scope} {cl : List (Str × Addr)} {pos spos : Pos} {Q : Flow → Shared → Prop} {n : Nat}
    (_F₀ : Fr h₀ env.locals s.heap m) (J : Nat → Nat → List Value → List (Addr × Obj) → Prop) (hmono : ∀ i tk tk' ys nw, tk ≤ tk' → J i tk ys nw → J i tk' ys nw)
    (hsw : swapsWith (.ListComp elt [⟨.Name x px, iter, [], 0⟩] scope pos) (some (.Name y py)) spos.line env = pure true)
    (hh : A.handled = none) (hclos : closureFor scope env = pure cl) (hcell : ∀ z ∈ scope.names, z.2 ≠ .cell) (hkind : scope.kind = .function)
    (hnames : ∀ z ∈ scope.names, z.2 = .local → scope.names.lookup z.1 = some .local) (hx : scope.names.lookup x = some .local)
    (hy : env.kindOf y = some .local) (hp : (env.scope.kind == .class || (env.scope.kind == .module && env.locals != env.globals)) = false) (hn : n ≤ 1000)
    (h : wpAny (model prog w) A (eval iter env) (fun xv s₁ => ∃ r t u v news h' tk', s₁ = { s with heap := h', toks := tk' } ∧ xv = .ref r ∧ IsRange h' r 0 n 1 t u v ∧ Fr h₀ env.locals h' m ∧ News h₀ env.locals h' news ∧ J 0 tk' [] news) E s)
    (turn : ∀ i ys nw t I oI C oC D m₂ h tk tk₀ E', i < n → J i tk₀ ys nw → tk₀ < tk → NsObj oC m₂ → m₂ x = some (.int (i : Int) t) → Fr h₀ env.locals h m → News h₀ env.locals h ((I, oI) :: (C, oC) :: (D, lst ys) :: nw) → Off3 I C D nw → (@Ne Nat I C ∧ @Ne Nat I D ∧ @Ne Nat C D) →
      wpAny (model prog w) A (eval elt (compEnvC scope cl C env)) (fun y s₂ => ∃ h' tk' nw', s₂ = { s with heap := h', toks := tk' } ∧ Fr h₀ env.locals h' m ∧ News h₀ env.locals h' ((I, oI) :: (C, oC) :: (D, lst ys) :: nw') ∧ Off3 I C D nw' ∧ J (i + 1) tk' (ys ++ [y]) nw') E' { s with heap := h, toks := tk })
    (done : ∀ D h tk ys nw, J n tk ys nw → Fr h₀ env.locals h (fun z => if z = y then some (.ref D) else m z) → News h₀ env.locals h ((D, lst ys) :: nw) → Off1 D nw → Q .next { s with heap := h, toks := tk })
    (hs : ∀ x, foldedSetIterable iter env x = pure x := by intro _; rfl) :
    wpAny (model prog w) A (exec (.Assign [.Name y py] (.ListComp elt [⟨.Name x px, iter, [], 0⟩] scope pos) spos) env) Q E s := by
  rw [exec_Assign_Name_used _ _ _ _ hsw]
  refine wpAny_bind (wpAny_standAt (wpAny_bind ?_))
  show wpAny _ A (do let _ ← comprehension (.ListComp elt [⟨.Name x px, iter, [], 0⟩] scope pos) scope env _ (newList []) false (eval iter env) (some (assign (.Name y py) env))) _ _ s
  refine wpAny_bind (wpAny_mono (wpAny_comprehension_free (use := some (assign (.Name y py) env)) (Q := fun _ s' => Q .next s') rfl hs hclos hkind hnames
    (wpAny_mono h (fun xv s₁ h₁ => ?_) fun _ _ e => e)) (fun _ s' hq => wpAny_pure (wpAny_pure hq)) fun _ _ e => e)
  obtain ⟨r, t, u, v, news, g, tk, rfl, rfl, hr, F, N, h0⟩ := h₁
  have hsz : Builtin.Range.rangeSize 0 (n : Int) 1 = (n : Int) := by
    unfold Builtin.Range.rangeSize
    simp
    omega
  refine wpAny_pyIter_range hr (by unfold Builtin.Range.small; simp [hsz, Builtin.Range.rangeFitsLong]; omega) ?_
  have F1 := F.push { cls := .type "range_iterator", data := .fields #[rawInt 0, rawInt (Builtin.Range.rangeSize 0 (n : Int) 1), rawInt 1] }
  have I₀ := next_is_new F
  have IL := Nat.ne_of_lt F.ns.lt
  have IN : ∀ p ∈ news, p.1 < g.objs.size := fun p hp => Heap.lt_size (N p hp).1
  have N1 : News h₀ env.locals (g.push { cls := .type "range_iterator", data := .fields #[rawInt 0, rawInt (Builtin.Range.rangeSize 0 (n : Int) 1), rawInt 1] }) news := fun p hp => ⟨Heap.get?_push_of_some _ (N p hp).1, (N p hp).2⟩
  have st : IsRangeIter (g.push { cls := .type "range_iterator", data := .fields #[rawInt 0, rawInt (Builtin.Range.rangeSize 0 (n : Int) 1), rawInt 1] }) g.objs.size 0 n 1 := by
    show _ = _
    rw [hsz]; exact Heap.get?_push_size _ rfl
  have sz : (g.push { cls := .type "range_iterator", data := .fields #[rawInt 0, rawInt (Builtin.Range.rangeSize 0 (n : Int) 1), rawInt 1] }).objs.size = g.objs.size + 1 := Heap.size_push _ _
  dsimp only
  generalize g.push { cls := .type "range_iterator", data := .fields #[rawInt 0, rawInt (Builtin.Range.rangeSize 0 (n : Int) 1), rawInt 1] } = g1 at *
  generalize g.objs.size = I at *
  refine wpAny_newObj_type (wpAny_newFunctionEnv hcell (by intro y hy; simp at hy) (fun h₁ hns₁ hsb₁ => ?_) hkind)
  dsimp only at hns₁ hsb₁ ⊢
  have F2 := F1.push (lst [])
  have D₀ := next_is_new F1
  have DL := Nat.ne_of_lt F1.ns.lt
  have N2 : News h₀ env.locals (g1.push (lst [])) ((g1.objs.size, lst []) :: news) := fun p hp => by
    rcases List.mem_cons.mp hp with rfl | hp
    · exact ⟨Heap.get?_push_size _ rfl, Ne.symm DL, D₀⟩
    · exact ⟨Heap.get?_push_of_some _ (N1 p hp).1, (N1 p hp).2⟩
  have st2 : IsRangeIter (g1.push (lst [])) I 0 n 1 := Heap.get?_push_of_some _ st
  have sz2 : (g1.push (lst [])).objs.size = I + 2 := by rw [Heap.size_push, sz]
  have hsb2 : Heap.SameBut (g1.push (lst [])).objs.size ((g1.push (lst [])).push { cls := .type (if (some env).isSome then "dict" else "frame"), data := .dict #[] }) h₁ := hsb₁
  have hns2 : h₁.Ns (g1.push (lst [])).objs.size (fun x => ([] : List (Str × Value)).reverse.lookup x) := hns₁
  have C₀ := next_is_new F2
  have CL := Nat.ne_of_lt F2.ns.lt
  have F3 := (F2.push { cls := .type (if (some env).isSome then "dict" else "frame"), data := .dict #[] }).change hsb2 (Ne.symm CL) C₀
  have cN : ∀ p ∈ (g1.objs.size, lst []) :: news, p.1 ≠ (g1.push (lst [])).objs.size := fun p hp => Nat.ne_of_lt (Heap.lt_size (N2 p hp).1)
  have N3 : News h₀ env.locals h₁ ((g1.objs.size, lst []) :: news) := fun p hp => ⟨hsb2.extBut _ _ (cN p hp) (Heap.get?_push_of_some _ (N2 p hp).1), (N2 p hp).2⟩
  have eC : (g1.push (lst [])).objs.size = I + 2 := sz2
  have eD : g1.objs.size = I + 1 := sz
  have st3 : IsRangeIter h₁ I 0 n 1 := hsb2.extBut _ _ (by rw [eC]; exact Nat.ne_of_lt (Nat.lt_add_of_pos_right (by decide))) (Heap.get?_push_of_some _ st2)
  have off3 : Off3 I (g1.push (lst [])).objs.size g1.objs.size news := Off3.of fun p hp => by
    have a : @LT.lt Nat instLTNat p.1 I := IN p hp
    have b : (g1.push (lst [])).objs.size = (I : Nat) + 2 := eC
    have c : g1.objs.size = (I : Nat) + 1 := eD
    rw [b, c]
    exact ⟨Nat.ne_of_lt a, Nat.ne_of_lt (Nat.lt_add_right _ a), Nat.ne_of_lt (Nat.lt_add_right _ a)⟩
  have IC : (I : Nat) ≠ (g1.push (lst [])).objs.size := by
    have b : (g1.push (lst [])).objs.size = (I : Nat) + 2 := eC
    rw [b]; exact Nat.ne_of_lt (Nat.lt_add_of_pos_right (by decide))
  have ID : (I : Nat) ≠ g1.objs.size := by
    have b : g1.objs.size = (I : Nat) + 1 := eD
    rw [b]; exact Nat.ne_of_lt (Nat.lt_add_of_pos_right (by decide))
  have CD : (g1.push (lst [])).objs.size ≠ g1.objs.size := by
    rw [Heap.size_push]; exact Nat.ne_of_gt (Nat.lt_succ_self _)
  generalize (g1.push (lst [])).objs.size = C at *
  generalize g1.objs.size = D at *
  have loop : ∀ s₃ : Shared, s₃ = { s with heap := h₁, toks := tk + 0 } →
      codeAny (model prog w) A (.compLoop (.ListComp elt [⟨.Name x px, iter, [], 0⟩] scope pos) 0 (.ref I) (.ref D) (compEnvC scope cl C env)) (compPost (model prog w) A E (some (assign (.Name y py) env)) (fun _ s' => Q .next s') (.ref D) C) s₃ := by
    rintro s₃ rfl
    refine compTurns (s := { s with heap := h₁, toks := tk + 0 }) (L := env.locals) (news := news) J hmono hh hkind hx hn IC ID CD (Ne.symm IL) (Ne.symm CL) (Ne.symm DL) I₀ C₀ D₀ st3 F3 hns2 N3 off3 h0 (fun i ys nw t oI oC m₂ h tk tk₀ E' hi hJ htk hoC hm F N off => ?_) fun h tk ys nw mC' hJ F hC N off => ?_
    · exact turn i ys nw t I oI C oC D m₂ h tk tk₀ E' hi hJ htk hoC hm F N off ⟨IC, ID, CD⟩
    · show wpAny _ A (assign (.Name y py) env (.ref D)) _ _ _
      refine wpAny_assign_Name (wpAny_storeName_local hy F.ns (fun h₂ hn₂ hs₂ => ?_) hp)
      have hL₀ : h₀.get? env.locals = none := Heap.get?_none_of_le F.above
      have F₂ : Fr h₀ env.locals h₂ (fun z => if z = y then some (.ref D) else m z) := ⟨hn₂, fun b o e => hs₂.extBut b o (fun q => by rw [q, hL₀] at e; cases e) (F.keep b o e), F.above⟩
      refine ⟨mC', hC.sameBut hs₂ (Ne.symm CL), fun h'' hs'' => done D h'' _ ys nw (hmono _ _ _ _ _ (Nat.le_succ _) hJ) (F₂.change hs'' (Ne.symm CL) C₀) (fun p hp => ?_) off.one⟩
      refine ⟨hs''.extBut _ _ ?_ (hs₂.extBut _ _ (N p hp).2.1 (N p hp).1), (N p hp).2⟩
      rcases List.mem_cons.mp hp with rfl | hp
      · exact Ne.symm CD
      · exact (off.mem p hp).2.1
  exact codeAny_compStart_list (loop _ rfl) ((range_walks (I := I) hh 0 n).self 0 _ _ _ (by simpa using st3) (loop _ rfl))
end
end Mine
open PySem PySem.W PyProof.Rows PySem.Calls PyProof.V PySem.Spec
namespace Mine
set_option maxRecDepth 100000
set_option maxHeartbeats 4000000
def depFrom : Int → List Bool → List Int
  | _, [] => []
  | d, b :: r => (if b then d + 1 else d - 1) :: depFrom (if b then d + 1 else d - 1) r
def flawsFrom : Int → List Bool → Nat
  | _, [] => 0
  | d, b :: r => (if b && decide (d + 1 ≤ 0) then 1 else 0) + flawsFrom (if b then d + 1 else d - 1) r
def dep (ks : List Bool) : List Int := depFrom 0 ks
def flaws (ks : List Bool) : Nat := flawsFrom 0 ks
def rot {α : Type} (xs : List α) (i : Nat) (d : α) : List α := xs.drop (i + 1) ++ [xs.getD i d] ++ xs.take i
def ckB : Int → List Bool → Bool
  | d, [] => decide (d = 0)
  | d, b :: r => if b then ckB (d + 1) r else if d - 1 < 0 then false else ckB (d - 1) r
def factB (ks : List Bool) : Bool :=
  if (bscan ks).2 < 0 then flaws ks == 4 else flaws (rot ks (bscan ks).2.toNat false) == flaws ks + 1
def factC (ks : List Bool) : Bool := decide (flaws ks ≤ 4) && (ckB 0 ks == decide (flaws ks = 0))
def upOf (ks : List Bool) : Nat := (dep ks).idxOf (-1) + ((dep ks).drop ((dep ks).idxOf (-1))).idxOf 0
def factD (ks : List Bool) : Bool := decide (flaws ks = 0) || ((dep ks).contains (-1) && ((dep ks).drop ((dep ks).idxOf (-1))).contains 0 && decide (upOf ks < 8) && (flaws (rot ks (upOf ks) false) + 1 == flaws ks) && ((bscan (rot ks (upOf ks) false)).2 == 7 - (upOf ks : Int)))
theorem bools8 : ∀ a b c d e f g h : Bool, [a, b, c, d, e, f, g, h].countP (fun x => x) = 4 → factB [a, b, c, d, e, f, g, h] = true ∧ factC [a, b, c, d, e, f, g, h] = true ∧ factD [a, b, c, d, e, f, g, h] = true := by
  decide +kernel
theorem list8 : ∀ ks : List Bool, ks.length = 8 → ∃ a b c d e f g h, ks = [a, b, c, d, e, f, g, h]
  | [a, b, c, d, e, f, g, h], _ => ⟨a, b, c, d, e, f, g, h, rfl⟩
theorem facts {ks : List Bool} (h8 : ks.length = 8) (h4 : ks.countP (fun x => x) = 4) : factB ks = true ∧ factC ks = true ∧ factD ks = true := by
  obtain ⟨a, b, c, d, e, f, g, h, rfl⟩ := list8 ks h8
  exact bools8 _ _ _ _ _ _ _ _ h4
theorem rot_perm {α : Type} {xs : List α} {i : Nat} {d : α} (h : i < xs.length) : (rot xs i d).Perm xs := by
  unfold rot
  have e : xs = xs.take i ++ (xs.getD i d :: xs.drop (i + 1)) := by
    have h1 : xs.getD i d = xs[i] := by simp [List.getD, h]
    rw [h1, ← List.drop_eq_getElem_cons h, List.take_append_drop]
  have h2 : (xs.drop (i + 1) ++ [xs.getD i d] ++ xs.take i).Perm (xs.take i ++ (xs.getD i d :: xs.drop (i + 1))) := by
    refine List.perm_append_comm.trans ?_
    refine List.Perm.append_left _ ?_
    exact List.perm_append_comm.trans (by simp)
  exact h2.trans (by rw [← e])
theorem rot_map {α β : Type} (f : α → β) (xs : List α) (i : Nat) (d : α) : (rot xs i d).map f = rot (xs.map f) i (f d) := by
  unfold rot
  rw [List.map_append, List.map_append, List.map_drop, List.map_take, List.map_singleton]
  have : (xs.map f).getD i (f d) = f (xs.getD i d) := by
    simp only [List.getD, List.getElem?_map]
    cases xs[i]? <;> rfl
  rw [this]
theorem split_at {α : Type} {xs : List α} {i : Nat} {d : α} (h : i < xs.length) : xs = xs.take i ++ (xs.getD i d :: xs.drop (i + 1)) := by
  have h1 : xs.getD i d = xs[i] := by simp [List.getD, h]
  rw [h1, ← List.drop_eq_getElem_cons h, List.take_append_drop]
theorem rot_rot {α : Type} {xs : List α} {i j : Nat} {d : α} (h : i + j + 1 = xs.length) : rot (rot xs i d) j d = xs := by
  have h1 : (xs.drop (i + 1)).length = j := by rw [List.length_drop]; omega
  have hx := split_at (d := d) (show i < xs.length by omega)
  unfold rot
  clear h
  generalize xs.drop (i + 1) = A at h1 hx ⊢
  generalize xs.getD i d = y at hx ⊢
  generalize xs.take i = B at hx ⊢
  subst h1
  have e1 : (A ++ [y] ++ B).drop (A.length + 1) = B := by
    have : A.length + 1 = (A ++ [y]).length := by simp
    rw [this, List.drop_left]
  have e2 : (A ++ [y] ++ B).getD A.length d = y := by simp [List.getD]
  have e3 : (A ++ [y] ++ B).take A.length = A := by rw [List.append_assoc, List.take_left]
  rw [e1, e2, e3, hx, List.append_assoc]
  rfl
end Mine
open PySem PySem.W PyProof.Rows PySem.Calls PyProof.V PySem.Spec
namespace Mine
set_option maxRecDepth 100000
set_option maxHeartbeats 4000000
structure Row (xs : List Str) : Prop where
  perm : xs.Perm menu
theorem Row.len {xs : List Str} (R : Row xs) : xs.length = 8 := by rw [R.perm.length_eq]; rfl
theorem Row.ne {xs : List Str} (R : Row xs) : ∀ x ∈ xs, 0 < x.length := fun x hx =>
  (by decide +kernel : ∀ x ∈ menu, 0 < x.length) x (R.perm.mem_iff.mp hx)
theorem Row.strOk {xs : List Str} (R : Row xs) : ∀ x ∈ xs, PyData.strOk x = true := fun x hx =>
  (by decide +kernel : ∀ x ∈ menu, PyData.strOk x = true) x (R.perm.mem_iff.mp hx)
theorem Row.klen {xs : List Str} (R : Row xs) : (xs.map isO).length = 8 := by rw [List.length_map, R.len]
theorem Row.four {xs : List Str} (R : Row xs) : (xs.map isO).countP (fun x => x) = 4 := by
  rw [(R.perm.map isO).countP_eq]
  decide +kernel
theorem Row.rot {xs : List Str} (R : Row xs) {i : Nat} (h : i < 8) (d : Str) : Row (Mine.rot xs i d) := ⟨(rot_perm (by rw [R.len]; exact h)).trans R.perm⟩
theorem isO_empty : isO Str.empty = false := by decide +kernel
theorem kinds_rot (xs : List Str) (i : Nat) : (rot xs i Str.empty).map isO = rot (xs.map isO) i false := by rw [rot_map, isO_empty]
theorem back_eq (xs : List Str) : back xs = if (bscan (xs.map isO)).2 < 0 then [] else rot xs (bscan (xs.map isO)).2.toNat Str.empty := by
  unfold back
  dsimp only
  split
  · rfl
  · rename_i h
    unfold rot
    rw [show ((bscan (xs.map isO)).2 + 1).toNat = (bscan (xs.map isO)).2.toNat + 1 by omega]
theorem row_back {xs : List Str} (R : Row xs) (h : back xs ≠ []) : Row (back xs) ∧ flaws ((back xs).map isO) = flaws (xs.map isO) + 1 := by
  have hf := (facts R.klen R.four).1
  have hr := (bscan_range (xs.map isO)).1
  rw [R.klen] at hr
  rw [back_eq] at h ⊢
  by_cases hn : (bscan (xs.map isO)).2 < 0
  · rw [if_pos hn] at h; exact absurd rfl h
  · rw [if_neg hn]
    refine ⟨R.rot (by omega) _, ?_⟩
    rw [kinds_rot]
    unfold factB at hf
    rw [if_neg hn] at hf
    simpa using hf
theorem row_bottom {xs : List Str} (R : Row xs) (h : back xs = []) : flaws (xs.map isO) = 4 := by
  have hf := (facts R.klen R.four).1
  rw [back_eq] at h
  by_cases hn : (bscan (xs.map isO)).2 < 0
  · unfold factB at hf
    rw [if_pos hn] at hf
    simpa using hf
  · rw [if_neg hn] at h
    unfold rot at h
    simp at h
theorem row_le {xs : List Str} (R : Row xs) : flaws (xs.map isO) ≤ 4 := by
  have hf := (facts R.klen R.four).2.1
  unfold factC at hf
  simp only [Bool.and_eq_true, decide_eq_true_eq] at hf
  exact hf.1
theorem row_ck {xs : List Str} (R : Row xs) : ckB 0 (xs.map isO) = decide (flaws (xs.map isO) = 0) := by
  have hf := (facts R.klen R.four).2.1
  unfold factC at hf
  simp only [Bool.and_eq_true, beq_iff_eq] at hf
  exact hf.2
theorem onF_eq (xs : List Str) : onF xs (dep (xs.map isO)) = rot xs (upOf (xs.map isO)) Str.empty := rfl
theorem row_on {xs : List Str} (R : Row xs) (h : 0 < flaws (xs.map isO)) : (-1 : Int) ∈ dep (xs.map isO) ∧ (0 : Int) ∈ (dep (xs.map isO)).drop ((dep (xs.map isO)).idxOf (-1)) ∧ Row (onF xs (dep (xs.map isO))) ∧
    flaws ((onF xs (dep (xs.map isO))).map isO) + 1 = flaws (xs.map isO) ∧ back (onF xs (dep (xs.map isO))) = xs := by
  have hf := (facts R.klen R.four).2.2
  unfold factD at hf
  simp only [Bool.or_eq_true, Bool.and_eq_true, decide_eq_true_eq, beq_iff_eq, List.contains_iff_mem] at hf
  rcases hf with hf | ⟨⟨⟨⟨h1, h2⟩, h3⟩, h4⟩, h5⟩
  · omega
  rw [onF_eq]
  refine ⟨h1, h2, R.rot h3 _, ?_, ?_⟩
  · rw [kinds_rot]; exact h4
  · rw [back_eq, kinds_rot, h5, if_neg (by omega)]
    exact rot_rot (by rw [R.len]; omega)
end Mine
open PySem PySem.W PyProof.Rows PySem.Calls PyProof.V PySem.Spec
namespace Mine
set_option maxRecDepth 100000
set_option maxHeartbeats 4000000
def joined (xs : List Str) : Str := Txt.join (Str.ofString "") xs
theorem glue_fold (ys : List Str) : ∀ acc : Array Nat, (ys.foldl (fun acc p => acc ++ (Str.ofString "").cps ++ p.cps) acc).toList = acc.toList ++ (ys.map (·.cps.toList)).flatten := by
  induction ys with
  | nil => intro acc; simp
  | cons y r ih =>
    intro acc
    rw [List.foldl_cons, ih]
    have : (Str.ofString "").cps = #[] := by decide +kernel
    rw [this]
    simp
theorem join_codes (ys : List Str) : (Txt.join (Str.ofString "") ys).cps.toList = (ys.map (·.cps.toList)).flatten := by
  show ((ys.drop 1).foldl _ (ys.headD Str.empty).cps).toList = _
  rw [glue_fold]
  cases ys with
  | nil => rfl
  | cons y r => simp
theorem slice_codes {x : Str} {i j : Nat} (h : i ≤ j) (hj : j ≤ x.cps.toList.length) : (Txt.slice x (some (i : Int)) (some (j : Int))).cps.toList = (x.cps.toList.take j).drop i := by
  have h1 := slice_closes (x := x) (i := (i : Int)) (j := (j : Int)) ⟨by omega, by omega, by omega⟩
  have h2 := eq_of_beq h1
  rw [h2]
  rw [List.drop_take]
  simp only [Int.toNat_natCast]
  congr 1
  omega
theorem slice_rest {x : Str} {i : Nat} (h : i ≤ x.cps.toList.length) : (Txt.slice x (some (i : Int)) none).cps.toList = x.cps.toList.drop i := by
  have hl : x.length = x.cps.toList.length := Array.length_toList.symm
  rw [slice_from_eq (x := x) (i := (i : Int)) (b := (x.length : Int)) (by omega) (by omega) rfl]
  simp only [Int.toNat_natCast]
  rw [List.take_of_length_le]
  rw [List.length_drop]
  omega
def esc : Bool → List Nat → List (List Nat)
  | _, [] => []
  | true, c :: r => [92, c] :: esc false r
  | false, c :: r => if c = 92 then esc true r else [c] :: esc false r
def keep : Bool → List (List Nat) → List Nat
  | _, [] => []
  | b, t :: r => if t = [34] then keep (!b) r else (if b then [] else t) ++ keep b r
def inq : Bool → List (List Nat) → Bool
  | b, [] => b
  | b, t :: r => if t = [34] then inq (!b) r else inq b r
def flat (ys : List Str) : List Nat := (ys.map (·.cps.toList)).flatten
theorem flat_snoc (ys : List Str) (y : Str) : flat (ys ++ [y]) = flat ys ++ y.cps.toList := by simp [flat]
def Inv (x : Str) (S : SS) (i : Nat) (k : List Nat) : Bool → Prop
  | false => ∃ s0 : Nat, S.op = none ∧ S.st = s0 ∧ s0 ≤ i ∧ flat S.res ++ (x.cps.toList.take i).drop s0 = k
  | true => ∃ s0 o : Nat, S.op = some (o : Int) ∧ S.st = s0 ∧ s0 ≤ o ∧ o < i ∧ flat S.res ++ (x.cps.toList.take o).drop s0 = k
theorem take_snoc {l : List Nat} {i c : Nat} {r : List Nat} (h : l.drop i = c :: r) : i < l.length ∧ l.take (i + 1) = l.take i ++ [c] ∧ l.drop (i + 1) = r := by
  have h1 : i < l.length := by
    rcases Nat.lt_or_ge i l.length with h' | h'
    · exact h'
    · rw [List.drop_eq_nil_of_le h'] at h; cases h
  rw [List.drop_eq_getElem_cons h1] at h
  have h3 := List.cons.inj h
  exact ⟨h1, by rw [List.take_succ_eq_append_getElem h1, h3.1], h3.2⟩
theorem inv_plain {x : Str} {S : SS} {i c : Nat} {r k : List Nat} {b : Bool} (h : x.cps.toList.drop i = c :: r) (I : Inv x S i k b) : Inv x S (i + 1) (k ++ if b then [] else [c]) b := by
  obtain ⟨h1, h2, h3⟩ := take_snoc h
  cases b with
  | false =>
    obtain ⟨s0, a, b, d, e⟩ := I
    refine ⟨s0, a, b, by omega, ?_⟩
    rw [h2, List.drop_append_of_le_length (by rw [List.length_take]; omega), ← List.append_assoc, e]
    rfl
  | true =>
    obtain ⟨s0, o, a, b, d, e, f⟩ := I
    exact ⟨s0, o, a, b, d, by omega, by rw [f]; simp⟩
theorem inv_quote {x : Str} {S : SS} {i : Nat} {r k : List Nat} {b : Bool} (h : x.cps.toList.drop i = 34 :: r) (I : Inv x S i k b) : Inv x (sstep x S (i, [34])) (i + 1) k (!b) := by
  obtain ⟨h1, h2, h3⟩ := take_snoc h
  unfold sstep
  rw [if_pos rfl]
  cases b with
  | false =>
    obtain ⟨s0, a, b, d, e⟩ := I
    rw [a]
    exact ⟨s0, i, rfl, b, d, by omega, e⟩
  | true =>
    obtain ⟨s0, o, a, b, d, e, f⟩ := I
    rw [a]
    dsimp only
    refine ⟨i + 1, rfl, by simp, by omega, ?_⟩
    rw [List.drop_eq_nil_of_le (by rw [List.length_take]; omega), List.append_nil]
    dsimp only
    rw [b]
    by_cases hs : (s0 : Int) = (o : Int)
    · rw [if_pos hs]
      have hs' : s0 = o := by omega
      subst hs'
      rw [List.drop_eq_nil_of_le (by rw [List.length_take]; omega), List.append_nil] at f
      exact f
    · rw [if_neg hs, flat_snoc, slice_codes d (by omega)]
      exact f
theorem fold_inv (x : Str) : ∀ (n : Nat) (i : Nat) (S : SS) (k : List Nat) (b : Bool), x.cps.toList.length = i + n → Inv x S i k b → escEnd false (x.cps.toList.drop i) = false →
    Inv x ((escPairs i false (x.cps.toList.drop i)).foldl (sstep x) S) x.cps.toList.length (k ++ keep b (esc false (x.cps.toList.drop i))) (inq b (esc false (x.cps.toList.drop i))) := by
  intro n
  induction n using Nat.strongRecOn with
  | _ n ih =>
    intro i S k b hl I he
    cases hd : x.cps.toList.drop i with
    | nil =>
      have : n = 0 := by
        have := congrArg List.length hd
        rw [List.length_drop, List.length_nil] at this
        omega
      subst this
      simp only [escPairs, esc, keep, inq, List.foldl_nil, List.append_nil]
      rw [hl]
      exact I
    | cons c r =>
      rw [hd] at he
      obtain ⟨h1, h2, h3⟩ := take_snoc hd
      by_cases hc : c = 92
      · subst hc
        simp only [escEnd, if_pos] at he
        cases r with
        | nil => simp [escEnd] at he
        | cons c' r' =>
          simp only [escEnd] at he
          obtain ⟨g1, g2, g3⟩ := take_snoc h3
          have I2 := inv_plain h3 (inv_plain hd I)
          have := ih (n - 2) (by omega) (i + 1 + 1) S _ b (by omega) I2 (by rw [g3]; exact he)
          rw [g3] at this
          simp only [escPairs, esc, keep, inq, List.foldl_cons, if_pos, if_neg (show ([92, c'] : List Nat) ≠ [34] by simp)]
          rw [show sstep x S (i + 1, [92, c']) = S from if_neg (by simp)]
          cases b <;> simpa using this
      · simp only [escEnd, if_neg hc] at he
        simp only [escPairs, esc, if_neg hc, List.foldl_cons]
        by_cases hq : c = 34
        · subst hq
          have I2 := inv_quote hd I
          have := ih (n - 1) (by omega) (i + 1) _ k (!b) (by omega) I2 (by rw [h3]; exact he)
          rw [h3] at this
          simp only [keep, inq, if_pos]
          exact this
        · have hn : ([c] : List Nat) ≠ [34] := by simpa using hq
          have I2 := inv_plain hd I
          have := ih (n - 1) (by omega) (i + 1) S _ b (by omega) I2 (by rw [h3]; exact he)
          rw [h3] at this
          simp only [keep, inq, if_neg hn]
          rw [show sstep x S (i, [c]) = S from if_neg hn, ← List.append_assoc]
          exact this
theorem strip_codes {x : Str} (he : escEnd false x.cps.toList = false) (hq : inq false (esc false x.cps.toList) = false) : (stripS x).cps.toList = keep false (esc false x.cps.toList) := by
  have h := fold_inv x x.cps.toList.length 0 ⟨0, none, []⟩ [] false (by omega) ⟨0, rfl, rfl, Nat.le_refl _, rfl⟩ he
  rw [List.drop_zero, hq, List.nil_append] at h
  obtain ⟨s0, h1, h2, h3, h4⟩ := h
  have hl : x.length = x.cps.toList.length := Array.length_toList.symm
  have e : stripS x = Txt.join (Str.ofString "") (if (sfold x (escPairs 0 false x.cps.toList)).st < (x.length : Int) then (sfold x (escPairs 0 false x.cps.toList)).res ++ [Txt.slice x (some (sfold x (escPairs 0 false x.cps.toList)).st) none] else (sfold x (escPairs 0 false x.cps.toList)).res) := rfl
  rw [e, join_codes]
  change (sfold x (escPairs 0 false x.cps.toList)).st = s0 at h2
  change flat (sfold x (escPairs 0 false x.cps.toList)).res ++ _ = _ at h4
  rw [h2, ← h4, List.take_length]
  split
  · exact (flat_snoc _ _).trans (by rw [slice_rest h3])
  · rw [List.drop_eq_nil_of_le (by omega), List.append_nil]
    rfl
end Mine
open PySem PySem.W PyProof.Rows PySem.Calls PyProof.V PySem.Spec
namespace Mine
set_option maxRecDepth 100000
set_option maxHeartbeats 4000000
theorem escEnd_app : ∀ (a b : List Nat) (e : Bool), escEnd e (a ++ b) = escEnd (escEnd e a) b
  | [], b, e => rfl
  | c :: r, b, true => escEnd_app r b false
  | c :: r, b, false => by
    simp only [List.cons_append, escEnd]
    split
    · exact escEnd_app r b true
    · exact escEnd_app r b false
theorem esc_app : ∀ (a b : List Nat) (e : Bool), esc e (a ++ b) = esc e a ++ esc (escEnd e a) b
  | [], b, e => rfl
  | c :: r, b, true => by
    simp only [List.cons_append, escEnd, esc]
    rw [esc_app r b false]
  | c :: r, b, false => by
    simp only [List.cons_append, escEnd, esc]
    split
    · exact esc_app r b true
    · rw [esc_app r b false]; rfl
theorem inq_app : ∀ (s t : List (List Nat)) (b : Bool), inq b (s ++ t) = inq (inq b s) t
  | [], t, b => rfl
  | x :: r, t, b => by
    simp only [List.cons_append, inq]
    split
    · exact inq_app r t _
    · exact inq_app r t _
theorem keep_app : ∀ (s t : List (List Nat)) (b : Bool), keep b (s ++ t) = keep b s ++ keep (inq b s) t
  | [], t, b => rfl
  | x :: r, t, b => by
    simp only [List.cons_append, keep, inq]
    split
    · exact keep_app r t _
    · rw [keep_app r t, List.append_assoc]
def sp (l : List Nat) : List Nat := keep false (esc false l)
def Shut (l : List Nat) : Prop := escEnd false l = false ∧ inq false (esc false l) = false
theorem shut_flat : ∀ ls : List (List Nat), (∀ l ∈ ls, Shut l) → Shut ls.flatten ∧ sp ls.flatten = (ls.map sp).flatten
  | [], _ => ⟨⟨rfl, rfl⟩, rfl⟩
  | l :: r, h => by
    obtain ⟨⟨a, b⟩, c⟩ := shut_flat r fun x hx => h x (.tail _ hx)
    obtain ⟨d, e⟩ := h l (.head _)
    refine ⟨⟨?_, ?_⟩, ?_⟩
    · rw [List.flatten_cons, escEnd_app, d, a]
    · rw [List.flatten_cons, esc_app, d, inq_app, e, b]
    · unfold sp at c ⊢
      rw [List.flatten_cons, esc_app, d, keep_app, e, c]
      rfl
def ckL : Int → List Nat → Bool
  | o, [] => decide (o = 0)
  | o, c :: r => if c = 40 then ckL (o + 1) r else if c = 41 then (if o - 1 < 0 then false else ckL (o - 1) r) else ckL o r
theorem ckGo_plain : ∀ (l : List Nat) (i : Nat) (o : Int), (∀ c ∈ l, c ≠ 92) → ckGo o (escPairs i false l) = ckL o l
  | [], i, o, _ => rfl
  | c :: r, i, o, h => by
    have h1 := h c (.head _)
    simp only [escPairs, if_neg h1, ckGo, ckL, List.cons.injEq, and_true]
    rw [ckGo_plain r (i + 1) (o + 1) fun x hx => h x (.tail _ hx), ckGo_plain r (i + 1) (o - 1) fun x hx => h x (.tail _ hx), ckGo_plain r (i + 1) o fun x hx => h x (.tail _ hx)]
theorem ckL_skip : ∀ (l r : List Nat) (o : Int), (∀ c ∈ l, c ≠ 40 ∧ c ≠ 41) → ckL o (l ++ r) = ckL o r
  | [], r, o, _ => rfl
  | c :: l, r, o, h => by
    have h1 := h c (.head _)
    simp only [List.cons_append, ckL, if_neg h1.1, if_neg h1.2]
    exact ckL_skip l r o fun x hx => h x (.tail _ hx)
def Piece (x : Str) : Prop := Shut x.cps.toList ∧ (sp x.cps.toList).head? = some (if isO x then 40 else 41) ∧ (∀ c ∈ (sp x.cps.toList).tail, c ≠ 40 ∧ c ≠ 41) ∧ (∀ c ∈ sp x.cps.toList, c ≠ 92 ∧ c < 128) ∧ (∀ c ∈ x.cps.toList, c < 128)
theorem menu_pieces : ∀ x ∈ menu, Piece x := by
  unfold Piece Shut
  decide +kernel
theorem ck_piece {x : Str} (h : Piece x) (r : List Nat) (o : Int) : ckL o (sp x.cps.toList ++ r) = if isO x then ckL (o + 1) r else if o - 1 < 0 then false else ckL (o - 1) r := by
  obtain ⟨_, h1, h2, _, _⟩ := h
  generalize sp x.cps.toList = l at h1 h2
  cases l with
  | nil => cases h1
  | cons c l =>
    have hc : c = if isO x then 40 else 41 := by simpa using h1
    rw [List.tail_cons] at h2
    subst hc
    simp only [List.cons_append, ckL]
    rw [ckL_skip l r _ h2, ckL_skip l r _ h2, ckL_skip l r _ h2]
    cases isO x <;> simp
theorem ck_all : ∀ (xs : List Str) (o : Int), (∀ x ∈ xs, Piece x) → ckL o ((xs.map (·.cps.toList)).map sp).flatten = ckB o (xs.map isO)
  | [], o, _ => rfl
  | x :: r, o, h => by
    rw [List.map_cons, List.map_cons, List.flatten_cons, ck_piece (h x (.head _)), ck_all r _ fun y hy => h y (.tail _ hy), ck_all r _ fun y hy => h y (.tail _ hy), List.map_cons]
    rfl
theorem Row.pieces {xs : List Str} (R : Row xs) : ∀ x ∈ xs, Piece x := fun x hx => menu_pieces x (R.perm.mem_iff.mp hx)
theorem joined_codes (xs : List Str) : (joined xs).cps.toList = (xs.map (·.cps.toList)).flatten := join_codes xs
theorem Row.shut {xs : List Str} (R : Row xs) : Shut (joined xs).cps.toList ∧ (stripS (joined xs)).cps.toList = ((xs.map (·.cps.toList)).map sp).flatten := by
  have h := shut_flat (xs.map (·.cps.toList)) (by
    intro l hl
    obtain ⟨x, hx, rfl⟩ := List.mem_map.mp hl
    exact (R.pieces x hx).1)
  rw [← joined_codes] at h
  exact ⟨h.1, (strip_codes h.1.1 h.1.2).trans h.2⟩
theorem Row.stripped {xs : List Str} (R : Row xs) : ∀ c ∈ (stripS (joined xs)).cps.toList, c ≠ 92 ∧ c < 128 := by
  intro c hc
  rw [R.shut.2, List.mem_flatten] at hc
  obtain ⟨l, hl, hc⟩ := hc
  obtain ⟨y, hy, rfl⟩ := List.mem_map.mp hl
  obtain ⟨x, hx, rfl⟩ := List.mem_map.mp hy
  exact (R.pieces x hx).2.2.2.1 c hc
theorem row_check {xs : List Str} (R : Row xs) : checkS (joined xs) = decide (flaws (xs.map isO) = 0) := by
  unfold checkS
  rw [ckGo_plain _ _ _ fun c hc => (R.stripped c hc).1, R.shut.2, ck_all xs 0 R.pieces, row_ck R]
theorem escEnd_plain : ∀ l : List Nat, (∀ c ∈ l, c ≠ 92) → escEnd false l = false
  | [], _ => rfl
  | c :: r, h => by
    simp only [escEnd, if_neg (h c (.head _))]
    exact escEnd_plain r fun x hx => h x (.tail _ hx)
theorem flat_len (xs : List Str) : (xs.map (·.cps.toList)).flatten.length = (xs.map (·.length)).sum := by
  rw [List.length_flatten, List.map_map]
  rfl
theorem joined_text {xs : List Str} (R : Row xs) : (∀ c ∈ (joined xs).cps.toList, c < 128) ∧ (joined xs).length ≤ 64 ∧ 34 ∈ (joined xs).cps.toList ∧ escEnd false (joined xs).cps.toList = false ∧ (stripS (joined xs)).cps.all (· < 128) = true ∧ escEnd false (stripS (joined xs)).cps.toList = false := by
  refine ⟨?_, ?_, ?_, R.shut.1.1, ?_, escEnd_plain _ fun c hc => (R.stripped c hc).1⟩
  · intro c hc
    rw [joined_codes, List.mem_flatten] at hc
    obtain ⟨l, hl, hc⟩ := hc
    obtain ⟨x, hx, rfl⟩ := List.mem_map.mp hl
    exact (R.pieces x hx).2.2.2.2 c hc
  · have hl : (joined xs).length = (joined xs).cps.toList.length := Array.length_toList.symm
    rw [hl, joined_codes, flat_len, (R.perm.map (·.length)).sum_nat]
    decide +kernel
  · rw [joined_codes, List.mem_flatten]
    refine ⟨(Str.ofString "(\")\"").cps.toList, List.mem_map.mpr ⟨_, R.perm.mem_iff.mpr ?_, rfl⟩, ?_⟩
    · exact .tail _ (.tail _ (.head _))
    · decide +kernel
  · exact Array.all_eq_true_iff_forall_mem.mpr fun c hc => decide_eq_true (R.stripped c (Array.mem_toList_iff.mpr hc)).2
end Mine
open PySem PySem.W PyProof.Rows PySem.Calls PyProof.V PySem.Spec
namespace Mine
set_option maxRecDepth 100000
set_option maxHeartbeats 4000000
def sg (b : Bool) : Int := if b then 1 else -1
def tot : List Bool → Int
  | [] => 0
  | b :: r => sg b + tot r
theorem tot_snoc (ks : List Bool) (b : Bool) : tot (ks ++ [b]) = tot ks + sg b := by
  induction ks with
  | nil => simp [tot]
  | cons a r ih => simp only [List.cons_append, tot, ih]; omega
theorem depFrom_snoc (ks : List Bool) (b : Bool) : ∀ d, depFrom d (ks ++ [b]) = depFrom d ks ++ [d + tot ks + sg b] := by
  induction ks with
  | nil => intro d; cases b <;> simp [depFrom, tot, sg] <;> omega
  | cons a r ih => intro d; cases a <;> simp [depFrom, tot, ih, sg] <;> omega
theorem dep_snoc (ks : List Bool) (b : Bool) : dep (ks ++ [b]) = dep ks ++ [tot ks + sg b] := by
  unfold dep; rw [depFrom_snoc, Int.zero_add]
theorem dep_len (ks : List Bool) : ∀ d, (depFrom d ks).length = ks.length := by
  induction ks with
  | nil => intro d; rfl
  | cons a r ih => intro d; simp [depFrom, ih]
theorem tot_count (ks : List Bool) : tot ks = 2 * (ks.countP (fun x => x) : Int) - ks.length := by
  induction ks with
  | nil => rfl
  | cons a r ih =>
    cases a
    · rw [List.countP_cons_of_neg (by decide)]; simp only [tot, sg, List.length_cons, ih]; simp; omega
    · rw [List.countP_cons_of_pos (by decide)]; simp only [tot, sg, List.length_cons, ih]; simp; omega
theorem Row.tot {xs : List Str} (R : Row xs) : Mine.tot (xs.map isO) = 0 := by rw [tot_count, R.four, R.klen]; rfl
theorem qspan_app : ∀ (n : Nat) (r b : List Nat) (d : Nat), r.length = n → qspan r = some d → qspan (r ++ b) = some d := by
  intro n
  induction n using Nat.strongRecOn with
  | _ n ih =>
    intro r b d hn h
    subst hn
    match r with
    | [] => simp [qspan] at h
    | 34 :: r => simpa [qspan] using h
    | [92] => simp [qspan] at h
    | 92 :: c :: r =>
      simp only [List.cons_append, qspan] at h ⊢
      split at h
      · cases h
      · rename_i hc
        rw [if_neg hc]
        obtain ⟨d', hd', rfl⟩ := Option.map_eq_some_iff.mp h
        rw [ih r.length (by simp; omega) r b d' rfl hd']
        rfl
    | c :: r =>
      by_cases h1 : c = 34
      · subst h1; simpa [qspan] using h
      · by_cases h2 : c = 92
        · subst h2
          cases r with
          | nil => simp [qspan] at h
          | cons c' r =>
            simp only [List.cons_append, qspan] at h ⊢
            split at h
            · cases h
            · rename_i hc
              rw [if_neg hc]
              obtain ⟨d', hd', rfl⟩ := Option.map_eq_some_iff.mp h
              rw [ih r.length (by simp; omega) r b d' rfl hd']
              rfl
        · have e : ∀ l : List Nat, qspan (c :: l) = (qspan l).map (· + 1) := by
            intro l
            rw [qspan]
            all_goals (intros; simp_all)
          rw [e] at h
          rw [List.cons_append, e]
          obtain ⟨d', hd', rfl⟩ := Option.map_eq_some_iff.mp h
          rw [ih r.length (by simp) r b d' rfl hd']
          rfl
theorem segs_pre {u b v : List Nat} (hu : ∀ c ∈ u, c ≠ 34) (h : Segs b v) : Segs (u ++ b) (u ++ v) := by
  cases h with
  | last h => exact .last fun c hc => (List.mem_append.mp hc).elim (hu c) (h c)
  | @quote u' r d v' h1 h2 h3 =>
    rw [← List.append_assoc, ← List.append_assoc]
    exact .quote (fun c hc => (List.mem_append.mp hc).elim (hu c) (h1 c)) h2 h3
theorem segs_app {a v b v' : List Nat} (h : Segs a v) (h' : Segs b v') : Segs (a ++ b) (v ++ v') := by
  induction h with
  | last h => exact segs_pre h h'
  | @quote u r d v h1 h2 h3 ih =>
    rw [List.append_assoc, List.append_assoc, List.cons_append]
    refine .quote h1 (qspan_app _ r b d rfl h2) ?_
    rw [List.drop_append_of_le_length (qspan_le _ r d rfl h2).2]
    exact ih
theorem pdel_app (a b : List Nat) : pdel (a ++ b) = pdel a + pdel b := by
  unfold pdel cntB
  simp only [List.map_append, List.count_append]
  omega
theorem code_back {l : List Nat} (h : ∀ c ∈ l, c < 128) : (l.map fun c => (c.toUInt8).toNat) = l := by
  have : l.map (fun c => (c.toUInt8).toNat) = l.map id := List.map_congr_left fun c hc => by
    have := h c hc
    simp
    omega
  rw [this, List.map_id]
theorem natB_enc {x : Str} (h : ∀ c ∈ x.cps.toList, c < 128) : (natB (encB x)).toList = x.cps.toList := by
  unfold encB
  rw [Array.toList_map, Array.toList_map, List.map_map]
  exact code_back h
theorem menu_segs : ∀ x ∈ menu, ∃ v, Segs x.cps.toList v ∧ pdel v = sg (isO x) := by
  intro x hx
  have e : ∀ (y : Str) (l : List Nat), y.cps.toList = l → (∃ v, Segs l v ∧ pdel v = sg (isO y)) → ∃ v, Segs y.cps.toList v ∧ pdel v = sg (isO y) := fun y l h1 h2 => h1 ▸ h2
  simp only [menu, List.map_cons, List.map_nil, List.mem_cons, List.not_mem_nil, or_false] at hx
  rcases hx with rfl | rfl | rfl | rfl | rfl | rfl | rfl | rfl
  · exact e _ [40] (by decide +kernel) ⟨[40], .last (by decide), by decide +kernel⟩
  · exact e _ [41] (by decide +kernel) ⟨[41], .last (by decide), by decide +kernel⟩
  · exact e _ ([40] ++ 34 :: [41, 34]) (by decide +kernel) ⟨[40] ++ [], .quote (d := 2) (by decide) (by decide +kernel) (.last (by decide)), by decide +kernel⟩
  · exact e _ ([41] ++ 34 :: [40, 40, 34]) (by decide +kernel) ⟨[41] ++ [], .quote (d := 3) (by decide) (by decide +kernel) (.last (by decide)), by decide +kernel⟩
  · exact e _ ([40] ++ 34 :: [92, 34, 41, 34]) (by decide +kernel) ⟨[40] ++ [], .quote (d := 4) (by decide) (by decide +kernel) (.last (by decide)), by decide +kernel⟩
  · exact e _ [41, 97] (by decide +kernel) ⟨[41, 97], .last (by decide), by decide +kernel⟩
  · exact e _ [40, 98] (by decide +kernel) ⟨[40, 98], .last (by decide), by decide +kernel⟩
  · exact e _ [41, 32] (by decide +kernel) ⟨[41, 32], .last (by decide), by decide +kernel⟩
theorem piece_segs {x : Str} (h : x ∈ menu) : ∃ v, Segs (natB (encB x)).toList v ∧ pdel v = sg (isO x) := by
  rw [natB_enc (menu_pieces x h).2.2.2.2]
  exact menu_segs x h
theorem flat_segs : ∀ xs : List Str, (∀ x ∈ xs, x ∈ menu) → ∃ v, Segs (xs.map (·.cps.toList)).flatten v ∧ pdel v = Mine.tot (xs.map isO)
  | [], _ => ⟨[], .last (by decide), by decide +kernel⟩
  | x :: r, h => by
    obtain ⟨v, h1, h2⟩ := flat_segs r fun y hy => h y (.tail _ hy)
    obtain ⟨u, h3, h4⟩ := menu_segs x (h x (.head _))
    refine ⟨u ++ v, ?_, ?_⟩
    · rw [List.map_cons, List.flatten_cons]; exact segs_app h3 h1
    · rw [pdel_app, h4, h2]; rfl
theorem joined_segs {xs : List Str} (R : Row xs) : ∃ v, Segs (natB (encB (joined xs))).toList v ∧ pdel v = 0 := by
  rw [natB_enc (joined_text R).1, joined_codes, ← R.tot]
  exact flat_segs xs fun x hx => R.perm.mem_iff.mp hx
def kindsOf (xs : List Str) : List (Str × Bool) := List.zipWith (fun x d => (Txt.item x 0, decide (d ≤ 0))) xs (dep (xs.map isO))
theorem cnt_from : ∀ (xs : List Str) (d : Int), (∀ x ∈ xs, 0 < x.length) →
    (List.zipWith (fun x d => (Txt.item x 0, decide (d ≤ (0 : Int)))) xs (depFrom d (xs.map isO))).countP (fun p => p.1 == Str.ofString "(" && p.2) = flawsFrom d (xs.map isO)
  | [], _, _ => rfl
  | x :: r, d, h => by
    have h1 := head_eq x (h x (.head _))
    simp only [List.map_cons, depFrom, flawsFrom, List.zipWith_cons_cons, List.countP_cons, h1]
    rw [cnt_from r _ fun y hy => h y (.tail _ hy), Nat.add_comm]
    cases isO x <;> simp
theorem row_count {xs : List Str} (R : Row xs) : cntK (kindsOf xs) = flaws (xs.map isO) := by
  unfold cntK kindsOf dep
  rw [cnt_from xs 0 R.ne]
  rfl
end Mine
open PySem PySem.W PyProof.Rows PySem.Calls PyProof.V PySem.Spec
namespace Mine
set_option maxRecDepth 100000
set_option maxHeartbeats 4000000
theorem carried_strs : ∀ {vs : List Value} {xs : List Str}, StrsAre vs xs → CarriedAll vs (xs.map PyData.str)
  | _, _, .nil => .nil
  | _, _, .cons _ t r => .cons (.str _ t) (carried_strs r)
theorem lay_strs : ∀ xs : List Str, (∀ x ∈ xs, PyData.strOk x = true) → PyData.canLayAll0 (xs.map PyData.str) = true ∧ PyData.depthAll (xs.map PyData.str) = 0
  | [], _ => ⟨rfl, rfl⟩
  | x :: r, h => by
    obtain ⟨h1, h2⟩ := lay_strs r fun y hy => h y (.tail _ hy)
    have h3 := h x (.head _)
    simp [PyData.canLayAll0, PyData.canLay0, PyData.depthAll, PyData.depth, h1, h2, h3]
theorem shaped_strs {xs : List Str} (h : ∀ x ∈ xs, PyData.strOk x = true) : SeqAt.shaped (.list (xs.map PyData.str)) = true := by
  have := lay_strs xs h
  simp [SeqAt.shaped, PyData.canLay0, PyData.depth, this.1, this.2]
theorem noMix_strs : ∀ xs ys : List Str, SeqAt.noMixAll (xs.map PyData.str) (ys.map PyData.str) = true
  | [], [] => by simp [SeqAt.noMixAll]
  | [], _ :: _ => by simp [SeqAt.noMixAll]
  | _ :: _, [] => by simp [SeqAt.noMixAll]
  | _ :: r, _ :: q => by simp [SeqAt.noMixAll, SeqAt.noMix, noMix_strs r q]
theorem same_strs : ∀ xs ys : List Str, PySem.Spec.sameAll (xs.map PyData.str) (ys.map PyData.str) = decide (xs = ys)
  | [], [] => by simp [PySem.Spec.sameAll]
  | [], _ :: _ => by simp [PySem.Spec.sameAll]
  | _ :: _, [] => by simp [PySem.Spec.sameAll]
  | x :: r, y :: q => by
    simp only [List.map_cons, PySem.Spec.sameAll, PySem.Spec.same, same_strs r q]
    by_cases h : x = y <;> by_cases h' : r = q <;> simp [h, h']
theorem ne_strs {prog : Program} {w : World} {A : Around} {E : Value → Shared → Prop} {s : Shared} {Q : Value → Shared → Prop} {a b : Addr} {vs vs' : List Value} {n n' : Nat} {xs ys : List Str}
    (ha : s.heap.get? a = some (listOf vs.toArray n)) (hb : s.heap.get? b = some (listOf vs'.toArray n')) (hx : StrsAre vs xs) (hy : StrsAre vs' ys) (ox : ∀ x ∈ xs, PyData.strOk x = true) (oy : ∀ x ∈ ys, PyData.strOk x = true)
    (hu : A.units + 64 < cLine) (h : Q (.bool (!decide (xs = ys))) s) : wpAny (model prog w) A (compareOp .NotEq (.ref a) (.ref b)) Q E s :=
  ne_dataH_same (reads_newData ⟨_, ha, rfl, _, rfl⟩ (carried_strs hx)) (reads_newData ⟨_, hb, rfl, _, rfl⟩ (carried_strs hy)) (shaped_strs ox) (shaped_strs oy) hu (by simp only [SeqAt.noMix]; exact noMix_strs xs ys) (by simp only [PySem.Spec.same]; rw [same_strs]; exact h)
end Mine
open PySem PySem.W PyProof.Rows PySem.Calls PyProof.V PySem.Spec
namespace Mine
set_option maxRecDepth 100000
set_option maxHeartbeats 4000000
def JF (cR cD T : Addr) (tv : List Value) (i : Nat) (_tk : Nat) (g : Gens) (_m : Str → Option Value) (nx : List (Addr × Obj)) : Prop :=
  ∃ l vs nn xs oR oD vD, (l, listOf (List.toArray vs) nn) ∈ nx ∧ (cD, oD) ∈ nx ∧ (cR, oR) ∈ nx ∧ (T, ({ cls := .type "tuple", data := .seq tv.toArray } : Obj)) ∈ nx ∧ oR.data = .cell (some (.ref l)) ∧ oD.data = .cell vD ∧
    Row xs ∧ StrsAre vs xs ∧ (i ≤ 4 → flaws (xs.map isO) = 4 - i) ∧ @LT.lt Nat instLTNat cD l ∧ (∀ x ∈ g, x.bare = true)
theorem piece_asc {x : Str} (h : x ∈ menu) : (∀ c ∈ x.cps.toList, c < 128) ∧ x.length ≤ 8 := (by decide +kernel : ∀ x ∈ menu, (∀ c ∈ x.cps.toList, c < 128) ∧ x.length ≤ 8) x h
theorem enc_size (x : Str) : (encB x).size = x.length := by simp [encB, PySem.Str.length]
def JD (D : Addr) (rest : List (Addr × Obj)) (G : Gens) (n4 : Int) (xs : List Str) (i : Nat) (tk : Nat) (g : Gens) (m : Str → Option Value) (nx : List (Addr × Obj)) : Prop :=
  ∃ dv dn td t4, nx = (D, listOf (List.toArray dv) dn) :: rest ∧ g = G ∧ m (Str.ofString "beneath") = some (.int n4 t4) ∧ m (Str.ofString "depth") = some (.int (tot ((xs.take i).map isO)) td) ∧
    IntsAre dv (dep ((xs.take i).map isO)) ∧ ToksIn tk dv ∧ 1 ≤ tk
theorem encode_tk {prog : Program} {w : World} {A : Around} {E : Value → Shared → Prop} {s : Shared} {Q : Value → Shared → Prop} {x : Str} {t : Tok} (ha : ∀ c ∈ x.cps.toList, c < 128) (hz : x.length ≤ 1000) (h : ∀ t' k, s.toks ≤ k → Q (.bytes (encB x) t') { s with toks := k }) :
    wpAny (model prog w) A (call (.builtin "str.encode") [.str x t]) Q E s := wpAny_with_toks (Nat.le_refl _) (call_encode ha hz fun t' k hk => h t' k hk)
def JK (base : List (Addr × Obj)) (xs : List Str) (lo i : Nat) (tk : Nat) (ys : List Value) (nw : List (Addr × Obj)) : Prop :=
  (∀ p ∈ base, p ∈ nw) ∧ ys.length = i ∧ lo ≤ tk ∧ ∀ (j : Nat) (v : Value) (p : Str × Bool), ys[j]? = some v → (kindsOf xs)[j]? = some p → ∃ (a : Addr) (t' : Tok), v = .ref a ∧ (a, tupO p.1 t' p.2) ∈ nw ∧ 0 < t' ∧ t' < tk
theorem kindsOf_get {xs : List Str} {i : Nat} {p : Str × Bool} (h : (kindsOf xs)[i]? = some p) : p = (Txt.item (xs.getD i Str.empty) 0, decide ((dep (xs.map isO)).getD i 0 ≤ 0)) := by
  unfold kindsOf at h
  rw [List.getElem?_zipWith] at h
  cases h1 : xs[i]? with
  | none => rw [h1] at h; simp at h
  | some x =>
    cases h2 : (dep (xs.map isO))[i]? with
    | none => rw [h1, h2] at h; simp at h
    | some d =>
      rw [h1, h2] at h
      simp only [List.getD, h1, h2, Option.getD_some]
      simpa using h.symm
theorem kinds_len {xs : List Str} (R : Row xs) : (kindsOf xs).length = 8 := by
  unfold kindsOf dep
  rw [List.length_zipWith, dep_len, List.length_map, R.len]
  rfl
theorem kinds_ok {xs : List Str} (R : Row xs) {i : Nat} {p : Str × Bool} (h : (kindsOf xs)[i]? = some p) : PyData.strOk p.1 = true := by
  have hi : i < xs.length := by
    have := (List.getElem?_eq_some_iff.mp h).1
    rw [kinds_len R] at this
    rw [R.len]; exact this
  rw [kindsOf_get h]
  have e : xs.getD i Str.empty = xs[i] := by simp [List.getD, hi]
  dsimp only
  rw [e]
  exact (by decide +kernel : ∀ x ∈ menu, PyData.strOk (Txt.item x 0) = true) _ (R.perm.mem_iff.mp (List.getElem_mem hi))
theorem row_weight {xs : List Str} (R : Row xs) : (xs.map (·.length)).sum + xs.length ≤ 1048576 :=
  weigh_ok (fun y hy => Nat.le_trans (piece_asc (R.perm.mem_iff.mp hy)).2 (by decide)) (by rw [R.len]; decide)
theorem join_tk {prog : Program} {w : World} {A : Around} {E : Value → Shared → Prop} {s : Shared} {Q : Value → Shared → Prop} {x : Str} {t : Tok} {D : Addr} {items : Array Value} {ys : List Str} (hl : s.heap.IsList D items) (hi : StrsAre items.toList ys) (hsep : x.length ≤ 16) (hw : (ys.map (·.length)).sum + ys.length ≤ 1048576)
    (h : ∀ t' k, s.toks ≤ k → Q (.str (Txt.join x ys) t') { s with toks := k }) : wpAny (model prog w) A (call (.builtin "str.join") [.str x t, .ref D]) Q E s :=
  wpAny_with_toks (Nat.le_refl _) (join_listW hl hi hsep hw fun t' k hk => h t' k hk)
def JW (cR cD : Addr) (n : Nat) (m : Str → Option Value) (news : List (Addr × Obj)) : Prop :=
  ∃ l vs nn xs lb vb nb oR oD vD, (l, listOf (List.toArray vs) nn) ∈ news ∧ (lb, listOf (List.toArray vb) nb) ∈ news ∧ (cD, oD) ∈ news ∧ (cR, oR) ∈ news ∧ oR.data = .cell (some (.ref l)) ∧ oD.data = .cell vD ∧
    m (Str.ofString "below") = some (.ref lb) ∧ Row xs ∧ StrsAre vs xs ∧ StrsAre vb (back xs) ∧ @LT.lt Nat instLTNat cD l ∧ @LT.lt Nat instLTNat l lb ∧ n = 4 - flaws (xs.map isO)
end Mine
open PySem PySem.W PyProof.Rows PySem.Calls PyProof.V PySem.Spec
set_option maxRecDepth 100000
set_option maxHeartbeats 8000000
namespace Mine
local macro_rules | `(tactic| walk_at "call ref") => `(tactic| (k_here; refine Stop.out ?_))
local macro_rules | `(tactic| walk_at "execs cons") => `(tactic| (refine wpAny_execs_cons ?_))
local macro_rules | `(tactic| walk_at "exec While Compare") => `(tactic| (k_here; refine Stop.out ?_))
local macro_rules | `(tactic| walk_at "compareOp NotEq ref ref") => `(tactic| (k_here; refine Stop.out ?_))
local macro_rules | `(tactic| walk_at "exec For Name Tuple cons nil") => `(tactic| (k_here; refine Stop.out ?_))
local macro_rules | `(tactic| walk_at "pyIter ref") => `(tactic| (k_here; refine Stop.out ?_))
theorem tup_mem {h₀ h : Heap} {L T : Addr} {news : List (Addr × Obj)} {ob : Obj} (_N : News h₀ L h news) (hm : (T, ob) ∈ news) (is : List Int)
    (e : ∃ ts : List Tok, ts.length = is.length ∧ ob = { cls := .type "tuple", data := .seq (List.zipWith Value.int is ts).toArray }) :
    ∃ tv : List Value, (T, ({ cls := .type "tuple", data := .seq tv.toArray } : Obj)) ∈ news ∧ ∀ (i : Nat) (v : Value), tv[i]? = some v → ∃ (n : Int) (t : Tok), is[i]? = some n ∧ v = Value.int n t := by
  obtain ⟨ts, hl, rfl⟩ := e
  refine ⟨_, hm, fun i v hv => ?_⟩
  rw [List.getElem?_zipWith] at hv
  cases h1 : is[i]? with
  | none => rw [h1] at hv; simp at hv
  | some n =>
    cases h2 : ts[i]? with
    | none => rw [h1, h2] at hv; simp at hv
    | some t => rw [h1, h2] at hv; exact ⟨n, t, rfl, by simpa using hv.symm⟩
local macro_rules | `(tactic| walk_at "exec For Name Name cons nil") => `(tactic| (k_here; refine Stop.out ?_))
local macro_rules | `(tactic| walk_at "getMethod str") => `(tactic| (k_here; refine getMethod_builtin (typeIs_str _ _ _) F.plainAttrs_str F.slot_str_encode F.type_str_encode (fun a e => by cases e) ?_; (try dsimp only)))
local macro_rules | `(tactic| walk_at "call builtin:list.append") => `(tactic| (k_here; k_dflt (refine' append_K ?F ?N ?U ?_ ?z; (case F => k_asm); (case N => k_asm); (case U => k_upd); (case z => (rw [List.size_toArray]; exact le_line (by omega)))); intro _ _ _))
local macro_rules | `(tactic| walk_at "execs nil") => `(tactic| (refine wpAny_execs_nil ?_))
local macro_rules | `(tactic| walk_at "eval ListComp") => `(tactic| (k_here; refine Stop.out ?_))
local macro_rules | `(tactic| walk_at "exec Assign cons ListComp") => `(tactic| (k_here; refine Stop.out ?_))
local macro_rules | `(tactic| walk_at "call builtin:str.join") => `(tactic| (k_here; k_dflt (refine' join_tk ?L ?S ?x ?W ?_; (case L => kmk_list); (case S => assumption); (case x => decide); (case W => assumption)); intro _ _ _))
theorem eq_of_turn {j i k : Nat} (h : j < k + 1) (e : k = i) (hj : ¬ j < i) : j = i := by omega
theorem lt_mem {I a : Addr} {o : Obj} {news : List (Addr × Obj)} (h : ∀ q ∈ news, @LT.lt Nat instLTNat q.1 I) (m : List.Mem (a, o) news) : @LT.lt Nat instLTNat a I := h (a, o) m
theorem fr_val {h₀ h : Heap} {L : Addr} {f : Str → Option Value} {x : Str} {v v' : Value} (F : Fr h₀ L h (fun y => if y = x then some v else f y)) (e : v = v') : Fr h₀ L h (fun y => if y = x then some v' else f y) := e ▸ F
theorem wpAny_hold {α : Type} {M : Model} {A : Around} {E : Value → Shared → Prop} {s : Shared} {t : Sem α} {Q : α → Shared → Prop} (h : wpAny M A t (fun a s' => Stop (Q a s')) E s) : wpAny M A t Q E s := wpAny_mono h (fun _ _ x => x.out) fun _ _ x => x
theorem news_pick {h₀ h : Heap} {L : Addr} {t a b c d e f g : Addr × Obj} {nw : List (Addr × Obj)} (N : News h₀ L h (t :: a :: b :: c :: d :: e :: f :: g :: nw)) : News h₀ L h (e :: f :: g :: t :: nw) := fun p hp => by
  refine N p ?_
  simp only [List.mem_cons] at hp ⊢
  rcases hp with rfl | rfl | rfl | rfl | hp
  · exact Or.inr (Or.inr (Or.inr (Or.inr (Or.inr (Or.inl rfl)))))
  · exact Or.inr (Or.inr (Or.inr (Or.inr (Or.inr (Or.inr (Or.inl rfl))))))
  · exact Or.inr (Or.inr (Or.inr (Or.inr (Or.inr (Or.inr (Or.inr (Or.inl rfl)))))))
  · exact Or.inl rfl
  · exact Or.inr (Or.inr (Or.inr (Or.inr (Or.inr (Or.inr (Or.inr (Or.inr hp)))))))
theorem news_sub {h₀ h : Heap} {L : Addr} {old news : List (Addr × Obj)} (N : News h₀ L h old) (hs : ∀ p ∈ news, p ∈ old) : News h₀ L h news := fun p hp => N p (hs p hp)
theorem with_end {M : Model} {A : Around} {E : Value → Shared → Prop} {s s₁ : Shared} {t : Sem Flow} {Q : Flow → Shared → Prop} (_h : s₁.gens = #[])
    (e : ∀ (h : Heap) (g : Gens) (tk : Nat) (m : Str → Option Value), (∀ x ∈ g, x.bare = true) → Fr s₁.heap s₁.heap.objs.size h m → Q (.ret (.bool true)) { s₁ with heap := h, gens := g, toks := tk })
    (k : ∀ qk : Flow → Shared → Prop, (∀ (h : Heap) (g : Gens) (tk : Nat) (m : Str → Option Value), (∀ x ∈ g, x.bare = true) → Fr s₁.heap s₁.heap.objs.size h m → qk (.ret (.bool true)) { s₁ with heap := h, gens := g, toks := tk }) → wpAny M A t qk E s) : wpAny M A t Q E s := k Q e
theorem t1 : PySem.Challenge.rw_xo0011_01.Holds := hdK (by
  lge_go0
  k_drop
  all_goals (try k_fold)
  rename LGe.Mark => yM; clear yM
  rename _ = #[] => hg0
  refine with_end hg0 ?_ ?_
  · intro h g tk m hg F
    exact ⟨.inl ⟨_, _, _, rfl, fun _ => rfl, .bool true, by with_unfolding_all rfl, fun _ => ⟨List.nodup_nil, fun a ha => absurd ha List.not_mem_nil⟩⟩, .of_keep F.keep, rfl, hg⟩
  intro qk hend
  rename Ground _ _ _ _ _ _ _ _ _ => yG; clear yG
  rename LooseAre _ _ _ => yV; clear yV
  rename Flt.MathXP _ _ _ => yX; clear yX
  rename TopE _ _ _ _ => yE; clear yE
  rename TopW _ _ _ => yW; clear yW
  rename BMod _ _ _ _ _ => yB; clear yB
  try (rename Glob _ _ _ _ _ _ _ => yL; clear yL)
  rename List Int => ns0
  rename Reads _ _ _ _ => hx1; clear hx1
  rename Well _ _ _ _ => hx2; clear hx2
  rename ReadsAll _ _ _ _ => hx3; clear hx3
  rename ReadsAllW _ _ _ _ _ _ => hx4; clear hx4
  rename Dflts _ _ _ _ _ _ => hx5; clear hx5
  k_steps
  refine Stop.mk ?_
  rename News _ _ _ _ => hN
  rename Fr _ _ _ _ => hF
  rename Frag.In _ _ => hX
  rename Top _ _ _ _ _ _ => hT'
  rename Below _ _ _ _ => hB
  rename IntsAre _ _ => hI
  rename List Int => ns
  rename Heap.IsList _ _ _ => hL
  have hlen : ns.length ≤ 63 := by omega
  rename _ = #[] => hg0
  with_unfolding_all refine laid_c ⟨hB, hF, hX, hN, hT', rfl, ?_, ?_⟩ hL hI hlen ?_
  · with_unfolding_all decide
  · with_unfolding_all decide
  intro l1 vs1 xs1 n1 h1 tk1 F1 N1 lt1 S1 P1
  clear hN hF
  k_steps
  refine Stop.mk ?_
  rename News _ _ _ _ => hN
  rename Fr _ _ _ _ => hF
  have R1 : Row xs1 := ⟨P1⟩
  with_unfolding_all refine back_c ⟨hB, hF, hX, hN, hT', rfl, ?_, ?_⟩ (.head _) S1 R1.len R1.ne ?_
  · with_unfolding_all decide
  · with_unfolding_all decide
  intro l2 vs2 h2 tk2 F2 N2 lt2 S2
  clear hN hF
  k_steps
  refine Stop.mk ?_
  rename News _ _ _ _ => hN
  rename Fr _ _ _ _ => hF
  rename Shared => s1
  rename _ = Data.cell (some _) => hcell
  rename Obj => oR
  rename_i oD0 oR0 dD0 dR0 _ _ _
  have oDd : ∃ v, oD0.data = .cell v := ⟨_, dD0⟩
  obtain ⟨vD, hDd⟩ := oDd
  with_unfolding_all refine While_inv (JW (s1.heap.objs.size + 1) (s1.heap.objs.size + 1 + 1)) (n₀ := 4 - flaws (xs1.map isO)) hF hN ?_ ?_
  · exact ⟨l1, vs1, n1, xs1, l2, vs2, 0, oR, oD0, vD, .tail _ (.head _), .head _, .tail _ (.tail _ (.head _)), .tail _ (.tail _ (.tail _ (.head _))), hcell, hDd, by with_unfolding_all rfl, R1, S1, S2, lt1 _ (.head _), lt2 _ (.head _), rfl⟩
  · intro n m₁ news₁ h₁ tk₁ F N J
    obtain ⟨l, vs, nn, xs, lb, vb, nb, oR1, oD1, vD1, m1, m2, m3, m4, hcR, hcD, hbl, R, S, Sb, lt1, lt2, hn⟩ := J
    replace N := news_sub N (news := [(lb, listOf vb.toArray nb), (l, listOf vs.toArray nn), (s1.heap.objs.size + 1 + 1, oD1), (s1.heap.objs.size + 1, oR1)]) (by
      intro p hp
      simp only [List.mem_cons, List.not_mem_nil, or_false] at hp
      rcases hp with rfl | rfl | rfl | rfl <;> assumption)
    replace F := fr_ext0 F (ins rfl hbl)
    clear hF hN m1 m2 m3 m4
    k_steps
    refine Stop.mk ?_
    rename News _ _ _ _ => N2
    rename Fr _ _ _ _ => F2
    rename _ ∧ _ ∧ _ ∧ _ => lt3
    have N2b := (N2 _ (.head _)).1
    have N2a := (N2 _ (.tail _ (.head _))).1
    have okb : ∀ x ∈ back xs, PyData.strOk x = true := by
      by_cases e : back xs = []
      · rw [e]; intro x hx; cases hx
      · exact (row_back R e).1.strOk
    refine ne_strs N2a N2b (ys := []) Sb ?_ okb (fun x hx => nomatch hx) ?_ ?_
    · exact .nil
    · rw [units_deeper]; decide
    k_steps
    · refine Stop.mk ?_
      refine wpAny_For ?_ ?_
      · k_steps
        refine Stop.mk ?_
        rename News _ _ _ _ => N3
        rename Fr _ _ _ _ => F3
        have hz0 : back xs = [] := of_decide_eq_true (by assumption)
        have hfl := row_bottom R hz0
        rename _ ∧ _ ∧ _ ∧ _ ∧ _ => lt4
        rename Addr => T0
        have hTm := tup_mem N3 (.head _) [4, 3, 2, 1, 0] ⟨[_, _, _, _, _], rfl, rfl⟩
        obtain ⟨tv, hTm, hTi⟩ := hTm
        have hDT : @LT.lt Nat instLTNat (s1.heap.objs.size + 1 + 1) T0 := by omega
        with_unfolding_all refine forTupleH (vs := tv) rfl rfl rfl F3 N3 (JF (s1.heap.objs.size + 1) (s1.heap.objs.size + 1 + 1) T0 tv) ?_ ?_ ?_ ?_ ?_
        rotate_left 2
        · exact ⟨l, vs, nn, xs, oR1, oD1, vD1, .tail _ (.tail _ (.tail _ (.head _))), .tail _ (.tail _ (.tail _ (.tail _ (.head _)))), .tail _ (.tail _ (.tail _ (.tail _ (.tail _ (.head _))))), hTm, hcR, hcD, R, S, fun _ => hfl, lt1, by intro x hx; rw [hg0] at hx; simp at hx⟩
        rotate_right 2
        · rintro i tk g m nx ⟨_, _, _, _, _, _, _, _, _, _, h, _⟩; exact h
        · rintro i tk tk' g m nx _ h; exact h
        · clear hTm N3 F3 hcR hcD R S lt1 lt2 lt3 lt4 Sb okb hz0 hfl N2a N2b hbl hcell hDd S1 S2 P1 R1 dD0 dR0
          intro i v m₁ nx h tk tk₀ g I oI hv hle hI hoff hJ F N
          have hcDI : @LT.lt Nat instLTNat (s1.heap.objs.size + 1 + 1) I := hI _ (.tail _ (.tail _ (.tail _ (.tail _ (.head _)))))
          have hTI : @LT.lt Nat instLTNat T0 I := hI _ (.head _)
          obtain ⟨l, vs, nn, xs, oR, oD, vD, m1, m2, m3, m4, hcR, hcD, R, S, hfl, ltl, hbare⟩ := hJ
          have hIl : @Ne Nat I l := hoff _ m1
          have ob2 := hTi i v hv
          obtain ⟨n4, t4, hn4, hv4⟩ := ob2
          replace F := fr_val F hv4
          have hi4 : i ≤ 4 ∧ n4 = 4 - (i : Int) := by
            rcases i with _ | _ | _ | _ | _ | i <;> simp at hn4 <;> omega
          replace N := news_sub N (news := [(I, oI), (l, listOf vs.toArray nn), (s1.heap.objs.size + 1 + 1, oD), (s1.heap.objs.size + 1, oR), (T0, ({ cls := .type "tuple", data := .seq tv.toArray } : Obj))]) (by
            intro p hp
            simp only [List.mem_cons, List.not_mem_nil, or_false] at hp ⊢
            rcases hp with rfl | rfl | rfl | rfl | rfl
            · exact Or.inl rfl
            all_goals exact Or.inr (by assumption))
          clear hI hv hn4 hTi
          k_steps
          refine Stop.mk ?_
          refine wpAny_For ?_ ?_
          · k_steps
            refine Stop.mk ?_
            rename Addr => D
            rename _ = Data.cell (some (Value.ref D)) => hcD2
            rename News _ _ _ _ => N3
            rename Fr _ _ _ _ => F3
            rename _ ∧ _ ∧ _ ∧ _ ∧ _ => lD
            rename Obj => oD2
            have hks : ∀ x ∈ xs, x ∈ menu := fun x hx => R.perm.mem_iff.mp hx
            have hT00 := F3
            with_unfolding_all refine forListH rfl rfl rfl F3 N3 (l := l) (n := nn) (vs := vs) (JD D [(I, oI), (l, listOf vs.toArray nn), (s1.heap.objs.size + 1 + 1, oD2), (s1.heap.objs.size + 1, oR), (T0, ({ cls := .type "tuple", data := .seq tv.toArray } : Obj))] g n4 xs) ?_ ?_ ?_ ?_ ?_
            · rintro j tk g m nx ⟨_, _, _, _, rfl, _⟩; exact .tail _ (.tail _ (.head _))
            · rintro j tk tk' g m nx hk ⟨dv, dn, td, tq, e1, e2, e3, e4, e5, e6, e7⟩
              exact ⟨dv, dn, td, tq, e1, e2, e3, e4, e5, fun v hv => ⟨(e6 v hv).1, Nat.lt_of_lt_of_le (e6 v hv).2 hk⟩, Nat.le_trans e7 hk⟩
            · exact ⟨[], 0, _, _, rfl, rfl, by with_unfolding_all rfl, by with_unfolding_all rfl, .nil, (fun v hv => absurd hv List.not_mem_nil), Nat.succ_le_succ (Nat.zero_le _)⟩
            · clear N3 F3 hT00
              intro j v m₂ nx₂ h₂ tk₂ tk₃ g₂ I₂ oI₂ hv hle₂ hI₂ hoff₂ hJ F N
              obtain ⟨dv, dn, td, tq, rfl, rfl, hbn, hdp, hdv, hdt, htk⟩ := hJ
              have hDI : @LT.lt Nat instLTNat D I₂ := lt_mem hI₂ (List.Mem.head _)
              have hII : @LT.lt Nat instLTNat I I₂ := lt_mem hI₂ (List.Mem.tail _ (List.Mem.head _))
              have hlI : @LT.lt Nat instLTNat l I₂ := lt_mem hI₂ (List.Mem.tail _ (List.Mem.tail _ (List.Mem.head _)))
              have ob3 := StrsAre.item S j v hv
              obtain ⟨y, ty, hvy, hy⟩ := ob3
              replace F := fr_val F hvy
              have hjl : j < xs.length := (List.getElem?_eq_some_iff.mp hy).1
              have hyx : xs[j] = y := (List.getElem?_eq_some_iff.mp hy).2
              have hym : y ∈ menu := hks y (hyx ▸ List.getElem_mem hjl)
              have hsn : (xs.take (j + 1)).map isO = (xs.take j).map isO ++ [isO y] := by
                rw [List.take_succ_eq_append_getElem hjl, hyx, List.map_append, List.map_singleton]
              have ob4 := piece_segs hym
              obtain ⟨pv, hsg, hpd⟩ := ob4
              have hasc := piece_asc hym
              have hx8 := R.len
              have hdl : dv.length = j := by
                rw [hdv.length]; unfold dep; rw [dep_len, List.length_map, List.length_take]; omega
              replace F := fr_ext F (ins (ins rfl hdp) hbn)
              clear hI₂ hv hoff₂
              k_steps
              refine encode_tk hasc.1 (by omega) fun te ke hke => ?_
              k_steps
              refine Stop.mk ?_
              rename News _ _ _ _ => N5
              rename Fr _ _ _ _ => F5
              with_unfolding_all refine paren2_c ⟨hB, F5, hX, N5, hT', rfl, ?_, ?_⟩ (v := pv) (by rw [enc_size]; omega) hsg (by dsimp only at hke ⊢; omega) ?_
              · with_unfolding_all decide
              · with_unfolding_all decide
              intro t6 h6 k6 ht6 hk6 hs6 F6 N6
              clear F5 N5
              dsimp only at hke hs6
              rw [hpd]
              k_steps
              rename News _ _ _ _ => N7
              rename Fr _ _ _ _ => F7
              refine ⟨_, _, _, _, _, _, rfl, F7, N7, fun p hp => .tail _ hp, .head _, ?_, _, _, t6, tq, rfl, rfl, by with_unfolding_all rfl, ?_, ?_, ?_, ?_⟩
              · intro q hq
                simp only [List.mem_cons, List.not_mem_nil, or_false] at hq
                rcases hq with rfl | rfl | rfl | rfl | rfl | rfl <;> (dsimp only; refine neN ?_; omega)
              · rw [hsn, tot_snoc]
                with_unfolding_all rfl
              · rw [hsn, dep_snoc]
                rw [List.concat_eq_append]
                exact intsAre_append hdv (.cons _ _ .nil)
              · intro v hv
                rw [List.concat_eq_append] at hv
                rcases List.mem_append.mp hv with hv | hv
                · have := hdt v hv
                  exact ⟨this.1, by dsimp only; omega⟩
                · rw [List.mem_singleton.mp hv]
                  exact ⟨ht6, by show t6 < _; dsimp only; omega⟩
              · dsimp only
                omega
            · intro m₂ nx₂ h₂ tk₂ g₂ hJ F N
              obtain ⟨dv, dn, td, tq, rfl, rfl, hbn, hdp, hdv, hdt, htk⟩ := hJ
              rw [show vs.length = xs.length from S.len_eq, List.take_length] at hdp hdv
              replace F := fr_ext0 F (ins (ins rfl hdp) hbn)
              clear N3 F3 hT00
              k_steps
              refine Stop.mk ?_
              rename News _ _ _ _ => N3
              rename Fr _ _ _ _ => F3
              have hx8 := R.len
              have hdl : dv.length = 8 := by
                rw [hdv.length]; unfold dep; rw [dep_len, List.length_map]; exact hx8
              with_unfolding_all refine compRng (n := 8) F3 (JK [(D, listOf dv.toArray dn), (I, oI), (l, listOf vs.toArray nn), (s1.heap.objs.size + 1 + 1, oD2), (s1.heap.objs.size + 1, oR), (T0, ({ cls := .type "tuple", data := .seq tv.toArray } : Obj))] xs tk₂) ?_ rfl rfl rfl ?_ rfl ?_ rfl rfl rfl (by decide) ?_ ?_ ?_
              · rintro j tk tk' ys nw hk ⟨b1, b2, b3, b4⟩
                exact ⟨b1, b2, Nat.le_trans b3 hk, fun j v p hv hp => let ⟨a, t', c1, c2, c3, c4⟩ := b4 j v p hv hp; ⟨a, t', c1, c2, c3, Nat.lt_of_lt_of_le c4 hk⟩⟩
              · decide
              · decide
              · refine wpAny_with_toks (n := tk₂) (Nat.le_refl _) (wpAny_hold ?_)
                k_steps
                refine Stop.mk ?_
                intro h1k
                rename News _ _ _ _ => N4
                rename Fr _ _ _ _ => F4
                refine ⟨_, _, _, _, _, _, _, rfl, rfl, by assumption, F4, N4, ?_, rfl, h1k, fun j v p hv => by cases hv⟩
                intro p hp
                simp only [List.mem_cons, List.not_mem_nil, or_false] at hp ⊢
                rcases hp with rfl | rfl | rfl | rfl | rfl | rfl <;> simp
              · intro i ys nw t Ik oIk C oC Dk m₃ h tk tk₀ E' hik hJ htk₀ hoC hm₃ F N off hne
                obtain ⟨hbase, hyl, htk1, hel⟩ := hJ
                have b1 := hbase _ (.head _)
                have b2 := hbase _ (.tail _ (.tail _ (.head _)))
                have b3 := hbase _ (.tail _ (.tail _ (.tail _ (.head _))))
                have b4 := hbase _ (.tail _ (.tail _ (.tail _ (.tail _ (.head _)))))
                replace N := news_sub N (news := (D, listOf dv.toArray dn) :: (l, listOf vs.toArray nn) :: (s1.heap.objs.size + 1 + 1, oD2) :: (s1.heap.objs.size + 1, oR) :: (Ik, oIk) :: (C, oC) :: (Dk, LCg.lst ys) :: nw) (by
                  intro p hp
                  simp only [List.mem_cons] at hp ⊢
                  rcases hp with rfl | rfl | rfl | rfl | rfl | rfl | rfl | hp
                  · exact Or.inr (Or.inr (Or.inr b1))
                  · exact Or.inr (Or.inr (Or.inr b2))
                  · exact Or.inr (Or.inr (Or.inr b3))
                  · exact Or.inr (Or.inr (Or.inr b4))
                  · exact Or.inl rfl
                  · exact Or.inr (Or.inl rfl)
                  · exact Or.inr (Or.inr (Or.inl rfl))
                  · exact Or.inr (Or.inr (Or.inr hp)))
                have hgx : xs.getD ((i : Int).toNat) Str.empty = xs[i]'(by omega) := by simp [List.getD, (by omega : i < xs.length)]
                have hpos : (0 : Int) < (xs.getD ((i : Int).toNat) Str.empty).length := by
                  rw [hgx]
                  exact_mod_cast R.ne _ (List.getElem_mem _)
                refine wpAny_with_toks (Nat.le_refl _) (wpAny_hold ?_)
                k_steps
                refine Stop.mk ?_
                rename News _ _ _ _ => N5
                rename Fr _ _ _ _ => F5
                refine wpAny_with_toks (Nat.le_refl _) ?_
                with_unfolding_all refine le_c ⟨hB, F5, hX, N5, hT', rfl, ?_, ?_⟩ ?_
                · with_unfolding_all decide
                · with_unfolding_all decide
                intro h6 tk6 F6 N6 hle6
                clear F5 N5
                k_steps
                rename News _ _ _ _ => N7
                rename Fr _ _ _ _ => F7
                rename _ ∧ _ ∧ _ ∧ _ ∧ _ ∧ _ ∧ _ ∧ AllLt _ _ => l7
                rename Addr => T7
                refine Stop.mk fun _ => ⟨_, _, _, rfl, F7, news_pick N7, ⟨⟨?_, ?_, ?_⟩, off⟩, ?_⟩
                · exact Nat.ne_of_gt l7.2.2.2.2.1
                · exact Nat.ne_of_gt l7.2.2.2.2.2.1
                · exact Nat.ne_of_gt l7.2.2.2.2.2.2.1
                · refine ⟨fun p hp => .tail _ (hbase p hp), by rw [List.length_append, hyl]; rfl, ?_, ?_⟩
                  · exact Nat.le_trans (Nat.le_trans htk1 (Nat.le_of_lt htk₀)) (Nat.le_trans (Nat.le_add_right tk 3) hle6)
                  · intro j v p hv hp
                    by_cases hj : j < i
                    · rw [List.getElem?_append_left (by rw [hyl]; exact hj)] at hv
                      have ob5 := hel j v p hv hp
                      obtain ⟨a, t', c1, c2, c3, c4⟩ := ob5
                      exact ⟨a, t', c1, .tail _ c2, c3, Nat.lt_of_lt_of_le c4 (Nat.le_trans (Nat.le_of_lt htk₀) (Nat.le_trans (Nat.le_add_right tk 3) hle6))⟩
                    · have hji : j = i := by
                        have := (List.getElem?_eq_some_iff.mp hv).1
                        rw [List.length_append, List.length_singleton] at this
                        exact eq_of_turn this hyl hj
                      subst hji
                      rw [List.getElem?_append_right (Nat.le_of_eq hyl), hyl, Nat.sub_self] at hv
                      cases hv
                      rw [kindsOf_get hp]
                      refine ⟨T7, ?htok, rfl, ?hmem, ?hzero, ?hless⟩
                      case hmem =>
                        rw [show decide ((dep (xs.map isO)).getD j 0 ≤ 0) = (decide ((dep (xs.map isO)).getD j 0 ≤ 0) == true) by cases decide ((dep (xs.map isO)).getD j 0 ≤ 0) <;> rfl]
                        with_unfolding_all exact .head _
                      case hzero => exact Nat.succ_pos tk
                      case hless =>
                        dsimp only at hle6
                        exact Nat.lt_of_lt_of_le (Nat.lt_add_of_pos_right (by decide) : tk + 1 < tk + 1 + (1 + 1)) hle6
              · intro Dk h tk ys nw hJ F N off
                obtain ⟨hbase, hyl, htk1, hel⟩ := hJ
                have b0 := hbase _ (.head _)
                have b1 := hbase _ (.tail _ (.head _))
                have b2 := hbase _ (.tail _ (.tail _ (.head _)))
                have b3 := hbase _ (.tail _ (.tail _ (.tail _ (.head _))))
                have b4 := hbase _ (.tail _ (.tail _ (.tail _ (.tail _ (.head _)))))
                have b5 := hbase _ (.tail _ (.tail _ (.tail _ (.tail _ (.tail _ (.head _))))))
                replace N := news_sub N (news := (D, listOf dv.toArray dn) :: (I, oI) :: (l, listOf vs.toArray nn) :: (s1.heap.objs.size + 1 + 1, oD2) :: (s1.heap.objs.size + 1, oR) :: (T0, ({ cls := .type "tuple", data := .seq tv.toArray } : Obj)) :: (Dk, LCg.lst ys) :: nw) (by
                  intro p hp
                  simp only [List.mem_cons] at hp ⊢
                  rcases hp with rfl | rfl | rfl | rfl | rfl | rfl | rfl | hp
                  · exact Or.inr b0
                  · exact Or.inr b1
                  · exact Or.inr b2
                  · exact Or.inr b3
                  · exact Or.inr b4
                  · exact Or.inr b5
                  · exact Or.inl rfl
                  · exact Or.inr hp)
                clear F3 N3
                dsimp only
                k_steps
                refine Stop.mk ?_
                rename News _ _ _ _ => N5
                rename Fr _ _ _ _ => F5
                rename Addr => T5
                rename _ ∧ _ ∧ _ ∧ _ ∧ _ ∧ _ ∧ _ ∧ AllLt _ _ => l5
                have hl5 := l5.2.2.2.2.2.2.2
                refine wpAny_with_toks (Nat.le_refl _) ?_
                with_unfolding_all refine count_c ⟨hB, F5, hX, N5, hT', rfl, ?_, ?_⟩ ?_ ?_ (.tail _ (.tail _ (.tail _ (.tail _ (.tail _ (.tail _ (.tail _ (.head _)))))))) (.head _) (ps := kindsOf xs) ⟨?_, ?_⟩ ?_
                · with_unfolding_all decide
                · with_unfolding_all decide
                · with_unfolding_all decide
                · exact Nat.lt_of_lt_of_le (Nat.lt_of_lt_of_le Nat.zero_lt_one htk) htk1
                · rw [hyl, kinds_len R]
                · intro j v p hv hp
                  have ob6 := hel j v p hv hp
                  obtain ⟨a, t', c1, c2, c3, c4⟩ := ob6
                  refine ⟨a, t', c1, ?_, Nat.ne_of_lt (all_of hl5 _ c2), c3, fun e => absurd c4 (by rw [e]; exact Nat.lt_irrefl _), kinds_ok R hp⟩
                  exact .tail _ (.tail _ (.tail _ (.tail _ (.tail _ (.tail _ (.tail _ (.tail _ c2)))))))
                intro t6 h6 tk6 F6 N6 hle6
                rw [row_count R, hfl hi4.1, show ((4 - i : Nat) : Int) = n4 by have := hi4; omega]
                replace N6 := news_sub N6 (news := (D, listOf dv.toArray dn) :: (I, oI) :: (l, listOf vs.toArray nn) :: (s1.heap.objs.size + 1 + 1, oD2) :: (s1.heap.objs.size + 1, oR) :: (T0, ({ cls := .type "tuple", data := .seq tv.toArray } : Obj)) :: []) (by
                  intro p hp
                  simp only [List.mem_cons, List.not_mem_nil, or_false] at hp ⊢
                  rcases hp with rfl | rfl | rfl | rfl | rfl | rfl <;> simp)
                dsimp only at hle6
                clear F5 N5 off hbase hel hl5 l5 b0 b1 b2 b3 b4 b5
                have hW := row_weight R
                k_steps
                · exact absurd rfl (by assumption : n4 ≠ n4)
                refine Stop.mk ?_
                rename Nat => kq
                rename _ ≤ kq => hkq
                dsimp only at hkq
                have JT := joined_text R
                refine wpAny_with_toks (Nat.le_refl _) ?_
                with_unfolding_all refine check_c ⟨hB, F6, hX, N6, hT', rfl, ?_, ?_⟩ ?_ ?_ (x := joined xs) ?_ ?_ ?_ ?_ hbare ?_ ?_ ?_
                · with_unfolding_all decide
                · with_unfolding_all decide
                · with_unfolding_all decide
                · with_unfolding_all decide
                · exact Array.all_eq_true_iff_forall_mem.mpr fun c hc => decide_eq_true (JT.1 c (Array.mem_toList_iff.mpr hc))
                · exact JT.2.2.2.1
                · exact Nat.le_trans JT.2.1 (by decide)
                · exact JT.2.2.1
                · exact JT.2.2.2.2.1
                · exact JT.2.2.2.2.2
                intro h7 tk7 g7 hb7 F7 N7 hle7
                have hdec : decide (4 - i = 0) = (n4 == 0) := by
                  have := hi4
                  rw [Bool.eq_iff_iff]
                  simp only [decide_eq_true_eq, beq_iff_eq]
                  omega
                rw [row_check R, hfl hi4.1, hdec]
                dsimp only at hle7
                clear F6 N6
                k_steps
                · rename (_ != _) = true => hbad
                  simp at hbad
                have ob7 := joined_segs R
                obtain ⟨jv, hjs, hjp⟩ := ob7
                rename Nat => kj
                rename _ ≤ kj => hkj
                dsimp only at hkj
                refine encode_tk (x := joined xs) JT.1 (Nat.le_trans JT.2.1 (by decide)) fun te ke hke => ?_
                dsimp only at hke
                k_steps
                refine Stop.mk ?_
                rename News _ _ _ _ => N8
                rename Fr _ _ _ _ => F8
                with_unfolding_all refine paren1_c ⟨hB, F8, hX, N8, hT', rfl, ?_, ?_⟩ (v := jv) (by rw [enc_size]; exact Nat.le_trans JT.2.1 (by decide)) hjs (by dsimp only; omega) ?_
                · with_unfolding_all decide
                · with_unfolding_all decide
                intro t9 h9 k9 ht9 hk9 hs9 F9 N9
                rw [hjp]
                dsimp only at hs9
                clear F8 N8
                k_steps
                · refine Stop.mk ?_
                  have hfp : 0 < flaws (xs.map isO) := by
                    rw [hfl hi4.1]
                    have := hi4
                    omega
                  have ob8 := row_on R hfp
                  obtain ⟨o1, o2, o3, o4, o5⟩ := ob8
                  rw [hfl hi4.1] at o4
                  with_unfolding_all refine on_c ⟨hB, F9, hX, N9, hT', rfl, ?_, ?_⟩ ?_ ?_ (.tail _ (.tail _ (.head _))) S hx8 (.head _) hdv (by unfold dep; rw [dep_len, List.length_map]; exact hx8) o1 o2 ?_ ?_
                  · with_unfolding_all decide
                  · with_unfolding_all decide
                  · with_unfolding_all decide
                  · with_unfolding_all decide
                  · intro v hv
                    have := hdt v hv
                    exact ⟨this.1, by dsimp only; omega⟩
                  intro l10 vs10 h10 k10 n10 F10 N10 lt10 S10
                  clear F9 N9
                  have l10a : @LT.lt Nat instLTNat D l10 := lt10 _ (.head _)
                  have l10b : @LT.lt Nat instLTNat I l10 := lt10 _ (.tail _ (.head _))
                  have l10c : @LT.lt Nat instLTNat l l10 := lt10 _ (.tail _ (.tail _ (.head _)))
                  have l10d : @LT.lt Nat instLTNat (s1.heap.objs.size + 1 + 1) l10 := lt10 _ (.tail _ (.tail _ (.tail _ (.head _))))
                  have l10e : @LT.lt Nat instLTNat T0 l10 := lt10 _ (.tail _ (.tail _ (.tail _ (.tail _ (.tail _ (.head _))))))
                  k_steps
                  refine Stop.mk ?_
                  rename News _ _ _ _ => N11
                  rename Fr _ _ _ _ => F11
                  with_unfolding_all refine back_c ⟨hB, F11, hX, N11, hT', rfl, ?_, ?_⟩ (.head _) S10 o3.len o3.ne ?_
                  · with_unfolding_all decide
                  · with_unfolding_all decide
                  intro l12 vs12 h12 k12 F12 N12 lt12 S12
                  clear F11 N11
                  k_steps
                  refine Stop.mk ?_
                  rename News _ _ _ _ => N13
                  rename Fr _ _ _ _ => F13
                  rw [o5] at S12
                  refine ne_strs (N13 _ (.head _)).1 (N13 _ (.tail _ (.tail _ (.tail _ (.tail _ (.head _)))))).1 S12 S R.strOk R.strOk ?_ ?_
                  · rw [units_deeper]; decide
                  rw [show decide (xs = xs) = true from decide_eq_true rfl]
                  have l12a : @LT.lt Nat instLTNat l10 l12 := lt12 _ (.head _)
                  k_steps
                  rename News _ _ _ _ => N14
                  rename Fr _ _ _ _ => F14
                  rename _ = Data.cell (some (Value.ref l10)) => hcR14
                  rename Obj => oR14
                  refine ⟨_, _, _, _, _, [(l10, listOf vs10.toArray n10), (s1.heap.objs.size + 1 + 1, oD2), (s1.heap.objs.size + 1, oR14), (T0, ({ cls := .type "tuple", data := .seq tv.toArray } : Obj))], rfl, F14, N14, ?_, .tail _ (.tail _ (.tail _ (.head _))), ?_, l10, vs10, n10, _, oR14, oD2, _, .head _, .tail _ (.head _), .tail _ (.tail _ (.head _)), .tail _ (.tail _ (.tail _ (.head _))), hcR14, hcD2, o3, S10, ?_, l10d, hb7⟩
                  · intro p hp
                    simp only [List.mem_cons, List.not_mem_nil, or_false] at hp ⊢
                    rcases hp with rfl | rfl | rfl | rfl <;> simp
                  · intro q hq
                    simp only [List.mem_cons, List.not_mem_nil, or_false] at hq
                    rcases hq with rfl | rfl | rfl | rfl <;> (dsimp only; refine neN ?_; omega)
                  · intro h5
                    have := hi4
                    omega
                · refine ⟨_, _, _, _, _, [(l, listOf vs.toArray nn), (s1.heap.objs.size + 1 + 1, oD2), (s1.heap.objs.size + 1, oR), (T0, ({ cls := .type "tuple", data := .seq tv.toArray } : Obj))], rfl, F9, N9, ?_, .tail _ (.head _), ?_, l, vs, nn, xs, oR, oD2, _, .head _, .tail _ (.head _), .tail _ (.tail _ (.head _)), .tail _ (.tail _ (.tail _ (.head _))), hcR, hcD2, R, S, ?_, ltl, hb7⟩
                  · intro p hp
                    simp only [List.mem_cons, List.not_mem_nil, or_false] at hp ⊢
                    rcases hp with rfl | rfl | rfl | rfl <;> simp
                  · intro q hq
                    simp only [List.mem_cons, List.not_mem_nil, or_false] at hq
                    rcases hq with rfl | rfl | rfl | rfl <;> (dsimp only; refine neN ?_; omega)
                  · intro h5
                    have := hi4
                    omega
          · intro x; rfl
        · intro m₁ nx h tk g hJ F N
          obtain ⟨l, vs, nn, xs, oR, oD, vD, m1, m2, m3, m4, hcR, hcD, R, S, hfl, ltl, hbare⟩ := hJ
          k_steps
          exact hend _ _ _ _ hbare F
      · intro x; rfl
    · k_steps
      refine Stop.mk ?_
      rename News _ _ _ _ => N3
      rename Fr _ _ _ _ => F3
      rename _ = Data.cell (some (Value.ref lb)) => hcR3
      have hnz : back xs ≠ [] := of_decide_eq_false (by assumption)
      have Rb := row_back R hnz
      with_unfolding_all refine back_c ⟨hB, F3, hX, N3, hT', rfl, ?_, ?_⟩ (.tail _ (.head _)) Sb Rb.1.len Rb.1.ne ?_
      · with_unfolding_all decide
      · with_unfolding_all decide
      intro l5 vs5 h5 tk5 F5 N5 lt5 S5
      clear F3 N3
      k_steps
      rename News _ _ _ _ => N3
      rename Fr _ _ _ _ => F3
      refine WhileStep.intro F3 N3 (n' := 4 - flaws ((back xs).map isO)) ?_ ?_
      · have := row_le Rb.1
        have := Rb.2
        omega
      · exact ⟨lb, vb, nb, back xs, l5, vs5, 0, _, oD1, vD1, .tail _ (.tail _ (.head _)), .head _, .tail _ (.tail _ (.tail _ (.tail _ (.head _)))), .tail _ (.tail _ (.tail _ (.tail _ (.tail _ (.head _))))), hcR3, hcD, by with_unfolding_all rfl, Rb.1, Sb, S5, Nat.lt_trans lt1 lt2, lt5 _ (.tail _ (.head _)), rfl⟩)
end Mine
theorem PySem.Challenge.cw_xo0011_01_holds : PySem.Challenge.rw_xo0011_01.Holds := by
  exact Mine.t1
