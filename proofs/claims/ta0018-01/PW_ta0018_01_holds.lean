import PyProof.Rows.All
import Wide.All
import OpenK.AllK
import Wide.FinOn
import Wide.BytesRules
import Lean
import PySem.Challenge.RW_ta0018_01
section
open PySem PySem.W PyProof.Rows
set_option Elab.async false
namespace Mine
set_option maxRecDepth 100000 in
set_option maxHeartbeats 8000000 in
open_top hd for PySem.Challenge.rw_ta0018_01
end Mine
end
section
open PySem PySem.W PyProof.Rows
namespace Mine
/-- the letters of a number, the highest first -/
def apL (n : Nat) : List UInt8 := if n = 0 then [] else apL (n / 16) ++ [UInt8.ofNat (65 + n % 16)]
termination_by n
decreasing_by omega
theorem apL_zero : apL 0 = [] := by rw [apL]; rfl
theorem apL_pos {n : Nat} (h : n ≠ 0) : apL n = apL (n / 16) ++ [UInt8.ofNat (65 + n % 16)] := by rw [apL, if_neg h]
theorem apL_len : ∀ (k n : Nat), n < 16 ^ k → (apL n).length ≤ k := by
  intro k
  induction k with
  | zero =>
    intro n h
    have : n = 0 := by simpa using h
    subst this; rw [apL_zero]; simp
  | succ k ih =>
    intro n h
    by_cases h0 : n = 0
    · subst h0; rw [apL_zero]; simp
    · rw [apL_pos h0, List.length_append]
      have := ih (n / 16) (by rw [Nat.pow_succ] at h; omega)
      simpa using this
def IpI (n num : Int) (val : Array UInt8) : Prop := n.natAbs < 2 ^ 40 ∧ 0 ≤ num ∧ apL num.toNat ++ val.toList = apL n.natAbs
theorem ip_start {n : Int} (h : n.natAbs < 2 ^ 40) : IpI n (if n < 0 then -n else n) #[] := by
  have e : (if n < 0 then -n else n) = (n.natAbs : Int) := by split <;> omega
  rw [e]
  refine ⟨h, by omega, ?_⟩
  simp
theorem ip_size {n num : Int} {val : Array UInt8} (h : IpI n num val) : val.size ≤ 10 := by
  have h1 := congrArg List.length h.2.2
  have h2 := apL_len 10 n.natAbs (by have := h.1; omega)
  rw [List.length_append] at h1
  have h3 : val.toList.length = val.size := Array.length_toList
  omega
abbrev apTab : Array UInt8 := #[65, 66, 67, 68, 69, 70, 71, 72, 73, 74, 75, 76, 77, 78, 79, 80]
theorem ap_pick {m : Int} (h0 : 0 ≤ m) (h1 : m < 16) : KBy.picked apTab (some m) (some (m + 1)) = #[UInt8.ofNat (65 + m.toNat)] := by
  have : m = 0 ∨ m = 1 ∨ m = 2 ∨ m = 3 ∨ m = 4 ∨ m = 5 ∨ m = 6 ∨ m = 7 ∨ m = 8 ∨ m = 9 ∨ m = 10 ∨ m = 11 ∨ m = 12 ∨ m = 13 ∨ m = 14 ∨ m = 15 := by omega
  rcases this with h | h | h | h | h | h | h | h | h | h | h | h | h | h | h | h <;> subst h <;> decide +kernel
theorem ip_add {n num : Int} {val : Array UInt8} {a b : Option Int} (h : IpI n num val) : (KBy.picked apTab a b).size + val.size ≤ 16777216 := by
  have h1 := ip_size h
  have h2 := KBc.size_picked_le apTab a b
  have h3 : apTab.size = 16 := rfl
  omega
theorem ip_turn {n num : Int} {val : Array UInt8} (h : IpI n num val) (hn : num ≠ 0) : IpI n (num.fdiv 16) (KBy.picked apTab (some (num.fmod 16)) (some (num.fmod 16 + 1)) ++ val) := by
  obtain ⟨h0, h1, h2⟩ := h
  have e1 : num.fmod 16 = ((num.toNat % 16 : Nat) : Int) := by rw [Int.fmod_eq_emod_of_nonneg _ (by omega)]; omega
  have e2 : num.fdiv 16 = ((num.toNat / 16 : Nat) : Int) := by rw [Int.fdiv_eq_ediv_of_nonneg _ (by omega)]; omega
  refine ⟨h0, by omega, ?_⟩
  rw [ap_pick (by omega) (by omega), e1, e2, ← h2, apL_pos (n := num.toNat) (by omega), Int.toNat_natCast, Int.toNat_natCast]
  simp only [Array.toList_append, List.append_assoc]
theorem ip_less {num : Int} (h0 : 0 ≤ num) (hn : num ≠ 0) : (num.fdiv 16).toNat < num.toNat := by
  have e2 : num.fdiv 16 = ((num.toNat / 16 : Nat) : Int) := by rw [Int.fdiv_eq_ediv_of_nonneg _ (by omega)]; omega
  omega
theorem ip_end {n : Int} {num : Int} {val : Array UInt8} (h : IpI n num val) (hn : num = 0) : val = (apL n.natAbs).toArray := by
  have := h.2.2
  subst hn
  rw [show (0 : Int).toNat = 0 from rfl, apL_zero, List.nil_append] at this
  rw [← this]
section
open PySem PySem.Calls
variable {prog : Program} {w : World} {A : Around} {E : Value → Shared → Prop} {s : Shared} {value slice : PySem.Expr} {b : Array UInt8} {t : Tok} {h₀ : Heap} {L : Addr} {m : PySem.Str → Option Value} {news : List (Addr × Obj)} {l u : Value} {lo hi : Option Int} {Q : Value → Shared → Prop}
theorem my_slice (hF : Fr h₀ L s.heap m) (hN : News h₀ L s.heap news) (hl : IsPart l lo) (hu : IsPart u hi) (hz : b.size ≤ 16777216)
    (h : ∀ h' t' k, Fr h₀ L h' m → News h₀ L h' news → Q (.bytes (KBy.picked b lo hi) t') { s with heap := h', toks := k })
    (hs : subscripted slice false (.bytes b t) (.ref s.heap.objs.size) = operate [.ref s.heap.objs.size, .bytes b t] (getItem (.bytes b t) (.ref s.heap.objs.size)) := by with_unfolding_all rfl)
    (ht : ∀ r, letTemporaryGo value (.bytes b t) r = pure () := by intro _; with_unfolding_all rfl) :
    wpAny (model prog w) A (subscriptTail value slice (.bytes b t) (.ref s.heap.objs.size)) Q E { s with heap := s.heap.push { cls := .type "slice", data := .fields #[l, u, .none] } } :=
  KBc.slice_K hF hN rfl hl hu (by rw [KBw.ints_length]; exact hz) (fun h' t' k F N _ => h h' t' k F N) hs ht
end
end Mine
end
section
open PySem PySem.W PySem.Calls PyProof.Rows PyProof.V PySem.Spec
namespace Mine
/-- the end of a loop's turn: a next state c, its part of the ledger and its names as they now stand -/
def MyEnd {σ : Type} (h₀ : Heap) (L : Addr) (Var : σ → List (Addr × Obj)) (rest : List (Addr × Obj)) (ps : σ → List (PySem.Str × Value)) (x : PySem.Str) (stored : List PySem.Str) (m₀ : PySem.Str → Option Value) (bad : Obj → Bool) (J : σ → Prop) (own : List (Addr × Obj)) (s₁ s₂ : Shared) : Prop :=
  ∃ (c : σ) (h' : Heap) (tk : Nat) (m' : PySem.Str → Option Value) (news' : List (Addr × Obj)), s₂ = { s₁ with heap := h', toks := tk } ∧ Fr h₀ L h' m' ∧ News h₀ L h' news' ∧ (∀ p ∈ Var c, p ∈ news') ∧ (∀ p ∈ rest, p ∈ news') ∧ (∀ p ∈ own, p ∈ news') ∧
    (∀ p ∈ Var c, bad p.2 = false) ∧ (∀ p ∈ ps c, m' p.1 = some p.2) ∧ (∀ z, z ≠ x → (∀ p ∈ ps c, z ≠ p.1) → stored.contains z = false → m' z = m₀ z) ∧ J c
def MyPost {σ : Type} (h₀ : Heap) (L : Addr) (Var : σ → List (Addr × Obj)) (rest : List (Addr × Obj)) (ps : σ → List (PySem.Str × Value)) (x : PySem.Str) (stored : List PySem.Str) (m₀ : PySem.Str → Option Value) (bad : Obj → Bool) (J : σ → Prop) (own : List (Addr × Obj)) (s₁ : Shared) (Q : Flow → Shared → Prop) (f : Flow) (s₂ : Shared) : Prop :=
  match f with
  | .ret v => Q (.ret v) s₂
  | .brk => Q .next s₂
  | _ => MyEnd h₀ L Var rest ps x stored m₀ bad J own s₁ s₂
theorem my_end {σ : Type} {h₀ : Heap} {L : Addr} {Var : σ → List (Addr × Obj)} {rest : List (Addr × Obj)} {ps : σ → List (PySem.Str × Value)} {x : PySem.Str} {stored : List PySem.Str} {m₀ m' : PySem.Str → Option Value} {bad : Obj → Bool} {J : σ → Prop} {own news' : List (Addr × Obj)} {s : Shared} {h h' : Heap} {tk tk' : Nat} (c : σ)
    (F : Fr h₀ L h' m') (N : News h₀ L h' news') (h1 : ∀ p ∈ Var c, p ∈ news') (hr : ∀ p ∈ rest, p ∈ news') (h2 : ∀ p ∈ own, p ∈ news') (h3 : ∀ p ∈ Var c, bad p.2 = false) (h4 : ∀ p ∈ ps c, m' p.1 = some p.2)
    (h5 : ∀ z, z ≠ x → (∀ p ∈ ps c, z ≠ p.1) → stored.contains z = false → m' z = m₀ z) (h6 : J c) :
    MyEnd h₀ L Var rest ps x stored m₀ bad J own { s with heap := h, toks := tk } { s with heap := h', toks := tk' } := ⟨c, h', tk', m', news', rfl, F, N, h1, hr, h2, h3, h4, h5, h6⟩
section
variable {prog : Program} {w : World} {A : Around} {E : Value → Shared → Prop} {s : Shared} {env : Env} {h₀ : Heap} {x : PySem.Str} {body : List Stmt} {Q : Flow → Shared → Prop}
theorem my_walk {σ : Type} {I : Addr} {fp wr : List Addr} {n : Nat} {P : Nat → Value → Prop} {St : Nat → Heap → Prop} {m₀ : PySem.Str → Option Value} (Var : σ → List (Addr × Obj)) (rest : List (Addr × Obj)) (ps : σ → List (PySem.Str × Value)) (stored : List PySem.Str) (bad : Obj → Bool) (J : Nat → σ → Prop) (c₀ : σ)
    (W : Walks prog w A I fp wr n P St) (hLf : env.locals ∉ fp) (hwr : ∀ b ∈ wr, h₀.get? b = none) (hnw : ∀ p ∈ Var c₀ ++ rest, p.1 ∉ wr)
    (hbad : ∀ i h, St i h → ∀ b ∈ wr, ∃ o, h.get? b = some o ∧ bad o = true)
    (hfp : ∀ b ∈ fp, b ∈ wr ∨ (∃ o, h₀.get? b = some o) ∨ ∃ o, (b, o) ∈ rest)
    (hst : St 0 s.heap) (F : Fr h₀ env.locals s.heap m₀) (N : News h₀ env.locals s.heap (Var c₀ ++ rest)) (hk : ∀ p ∈ ps c₀, m₀ p.1 = some p.2) (hj : J 0 c₀)
    (turn : ∀ i v (c : σ) (u : PySem.Str → Option Value) h tk own, i < n → P i v → J i c → OwnOff own ((Var c ++ rest).map (·.1)) →
      Fr h₀ env.locals h (fun y => if y = x then some v else kstB (fun z => if stored.contains z then u z else m₀ z) (ps c) y) → News h₀ env.locals h (Var c ++ (rest ++ own)) →
      wpAny (model prog w) A (execs body env) (MyPost h₀ env.locals Var rest ps x stored m₀ bad (J (i + 1)) own { s with heap := h, toks := tk } Q) E { s with heap := h, toks := tk })
    (done : ∀ (c : σ) (u : PySem.Str → Option Value) h tk, J n c → Fr h₀ env.locals h (fun y => if y = x then u y else kstB (fun z => if stored.contains z then u z else m₀ z) (ps c) y) → News h₀ env.locals h (Var c ++ rest) → Q .next { s with heap := h, toks := tk }) :
    LoopAtV prog w A h₀ env x body Q E (.ref I) s := by
  have hrw : ∀ p ∈ rest, p.1 ∉ wr := fun p hp => hnw p (List.mem_append.mpr (.inr hp))
  let J' : Nat → (PySem.Str → Option Value) → List (Addr × Obj) → Prop := fun i m₁ nx => ∃ c : σ, nx = Var c ++ rest ∧ (∀ p ∈ ps c, m₁ p.1 = some p.2) ∧ (∀ z, z ≠ x → (∀ p ∈ ps c, z ≠ p.1) → stored.contains z = false → m₁ z = m₀ z) ∧ J i c
  refine ⟨I, fp, wr, n, P, St, m₀, Var c₀ ++ rest, J', rfl, W, hLf, hwr, hnw, hst, F, N, ⟨c₀, rfl, hk, fun _ _ _ _ => rfl, hj⟩, ?_, ?_⟩
  · rintro i v m₁ nx s₁ own ⟨hh', tk', rfl⟩ hin hP ⟨c, rfl, h1, h2, hJ⟩ hoff hown hget hall hst₁ F₁ N₁
    let own' := own.filter fun p => decide (p.1 ∈ wr)
    have hsub : ∀ p ∈ own', p ∈ own ∧ p.1 ∈ wr := fun p hp => by
      have := List.mem_filter.mp hp
      exact ⟨this.1, of_decide_eq_true this.2⟩
    have hsep : OwnOff own' ((Var c ++ rest).map (·.1)) := by
      intro p hp b hb' e
      obtain ⟨q, hq, rfl⟩ := List.mem_map.mp hb'
      exact hoff q hq (e ▸ (hsub p hp).2)
    have N₂ : News h₀ env.locals hh' (Var c ++ (rest ++ own')) := fun p hp => by
      rcases List.mem_append.mp hp with h | h
      · exact N₁ p (List.mem_append.mpr (.inr (List.mem_append.mpr (.inl h))))
      · rcases List.mem_append.mp h with h | h
        · exact N₁ p (List.mem_append.mpr (.inr (List.mem_append.mpr (.inr h))))
        · exact N₁ p (List.mem_append.mpr (.inl (hsub p h).1))
    refine wpAny_mono (turn i v c m₁ hh' tk' own' hin hP hJ hsep (kst_fr h1 h2 F₁) N₂) (fun f s₂ p => ?_) fun _ _ e => e
    have fin : MyEnd h₀ env.locals Var rest ps x stored m₀ bad (J (i + 1)) own' { s with heap := hh', toks := tk' } s₂ → LoopStepU h₀ env.locals wr own (J' (i + 1)) { s with heap := hh', toks := tk' } .next s₂ := by
      rintro ⟨c', h', tk, m', news', e, F', N', hn, hr, ho, hb', hps, hrest, hJ'⟩
      have hnr : ∀ p ∈ Var c' ++ rest, p ∈ news' := fun p hp => (List.mem_append.mp hp).elim (hn p) (hr p)
      refine ⟨rfl, h', tk, m', Var c' ++ rest, e, F', fun p hp => ?_, fun p hp hq => ?_, c', rfl, hps, hrest, hJ'⟩
      · rcases List.mem_append.mp hp with hp | hp
        · rcases hfp p.1 (hown p hp) with hq | ⟨o, hq⟩ | ⟨o, hq⟩
          · exact N' p (ho p (List.mem_filter.mpr ⟨hp, decide_eq_true hq⟩))
          · have := (N₁ p (List.mem_append.mpr (.inl hp))).2.2
            rw [hq] at this; cases this
          · have e1 := (N₁ _ (List.mem_append.mpr (.inr (List.mem_append.mpr (.inr hq))))).1
            have e2 := (N₁ p (List.mem_append.mpr (.inl hp))).1
            have e3 : p.2 = o := Option.some.inj (e2.symm.trans e1)
            have e4 : (p.1, o) = p := by rw [← e3]
            exact N' p (hr p (e4 ▸ hq))
        · exact N' p (hnr p hp)
      · rcases List.mem_append.mp hp with hp | hp
        · obtain ⟨o, ho1, ho2⟩ := hbad _ _ hst₁ p.1 hq
          have hm := hall p.1 (W.sub _ hq) (hwr _ hq) o ho1
          have e1 := (N' _ (ho _ (List.mem_filter.mpr ⟨hm, decide_eq_true hq⟩))).1
          have e2 := (N' _ (hn p hp)).1
          have e3 : o = p.2 := Option.some.inj (e1.symm.trans e2)
          have := hb' p hp
          rw [← e3, ho2] at this
          cases this
        · exact hrw p hp hq
    cases f with
    | ret v => exact .ret p
    | brk => exact .brk p
    | next => exact .next (fin p)
    | cont => exact .cont (fin p)
  · rintro h' tk m' nx F' N' _ ⟨c, rfl, h1, h2, hJ⟩
    exact done c m' h' tk hJ (kst_frOut h1 h2 F') N'

def badStr (o : Obj) : Bool := match o.cls with
  | .type "str_ascii_iterator" => true
  | .type "str_iterator" => true
  | _ => false
/-- a text's signs, one after another -/
theorem my_text {σ : Type} {xt : PySem.Str} {tx : Tok} {m₀ : PySem.Str → Option Value} (Var : σ → List (Addr × Obj)) (rest : List (Addr × Obj)) (ps : σ → List (PySem.Str × Value)) (stored : List PySem.Str) (J : List Nat → σ → Prop) (c₀ : σ)
    (hh : A.handled = none) (F : Fr h₀ env.locals s.heap m₀) (N : News h₀ env.locals s.heap (Var c₀ ++ rest)) (hk : ∀ p ∈ ps c₀, m₀ p.1 = some p.2) (hj : J [] c₀)
    (turn : ∀ pre (n : Nat) post t (c : σ) (u : PySem.Str → Option Value) h tk own, xt.cps.toList = pre ++ n :: post → J pre c → OwnOff own ((Var c ++ rest).map (·.1)) →
      Fr h₀ env.locals h (fun y => if y = x then some (.str ⟨#[n]⟩ t) else kstB (fun z => if stored.contains z then u z else m₀ z) (ps c) y) → News h₀ env.locals h (Var c ++ (rest ++ own)) →
      wpAny (model prog w) A (execs body env) (MyPost h₀ env.locals Var rest ps x stored m₀ badStr (J (pre ++ [n])) own { s with heap := h, toks := tk } Q) E { s with heap := h, toks := tk })
    (done : ∀ (c : σ) (u : PySem.Str → Option Value) h tk, J xt.cps.toList c → Fr h₀ env.locals h (fun y => if y = x then u y else kstB (fun z => if stored.contains z then u z else m₀ z) (ps c) y) → News h₀ env.locals h (Var c ++ rest) → Q .next { s with heap := h, toks := tk }) :
    wpAny (model prog w) A (pyIter (.str xt tx)) (fun it s₂ => LoopAtV prog w A h₀ env x body Q E it s₂) E s := by
  have go : ∀ (St : Nat → Heap → Prop) (o : Obj), Walks prog w A s.heap.objs.size [s.heap.objs.size] [s.heap.objs.size] xt.cps.size (SignAt xt) St → (∀ i h, St i h → ∃ o, h.get? s.heap.objs.size = some o ∧ badStr o = true) → St 0 (s.heap.push o) →
      LoopAtV prog w A h₀ env x body Q E (.ref s.heap.objs.size) { s with heap := s.heap.push o } := by
    intro St o W hB hst
    refine my_walk Var rest ps stored badStr (fun i c => J (xt.cps.toList.take i) c) c₀ W ?_ ?_ ?_ ?_ ?_ hst (F.push _) (fun p hp => ⟨Heap.get?_push_of_some _ (N p hp).1, (N p hp).2⟩) hk (by simpa using hj) ?_ ?_
    · intro hm
      exact absurd F.ns.lt ((List.mem_singleton.mp hm) ▸ Nat.lt_irrefl _)
    · intro b' hb'
      rw [List.mem_singleton.mp hb']
      exact next_is_new F
    · intro p hp hI
      exact absurd (Heap.lt_size (N p hp).1) ((List.mem_singleton.mp hI) ▸ Nat.lt_irrefl _)
    · intro i h hS b hb'
      rw [List.mem_singleton.mp hb']
      exact hB i h hS
    · intro b hb'
      exact .inl hb'
    · rintro i v c u h tk own hi ⟨n, t, hn, rfl⟩ hJ hoff F₁ N₁
      have hn' : xt.cps.toList[i]? = some n := by simpa using hn
      have hs : xt.cps.toList.take (i + 1) = xt.cps.toList.take i ++ [n] := by rw [List.take_add_one, hn']; rfl
      have e : xt.cps.toList = xt.cps.toList.take i ++ n :: xt.cps.toList.drop (i + 1) := by
        have ht := List.take_append_drop (i + 1) xt.cps.toList
        rw [hs, List.append_assoc] at ht
        exact ht.symm
      show wpAny _ _ _ (MyPost h₀ env.locals Var rest ps x stored m₀ badStr (J (xt.cps.toList.take (i + 1))) own _ Q) _ _
      rw [hs]
      exact turn _ n _ t c u h tk own e hJ hoff F₁ N₁
    · rintro c u h tk hJ F₁ N₁
      have hl : xt.cps.toList.take xt.cps.size = xt.cps.toList := List.take_of_length_le (by simp)
      rw [hl] at hJ
      exact done c u h tk hJ F₁ N₁
  cases ha : xt.cps.all (· < 128)
  · exact wpAny_pyIter_wide ha (go (fun i h => h.IsStrIter s.heap.objs.size "str_iterator" xt tx i) _ (Walks.strWide hh _ xt tx) (fun i h ⟨o, ho, hc, _⟩ => ⟨o, ho, by unfold badStr; rw [hc]; rfl⟩) ⟨_, Heap.get?_push_size _ rfl, rfl, rfl⟩)
  · exact wpAny_pyIter_ascii ha (go (fun i h => h.IsStrIter s.heap.objs.size "str_ascii_iterator" xt tx i) _ (Walks.strAscii hh _ xt tx) (fun i h ⟨o, ho, hc, _⟩ => ⟨o, ho, by unfold badStr; rw [hc]; rfl⟩) ⟨_, Heap.get?_push_size _ rfl, rfl, rfl⟩)
end
end Mine
end
section
open PySem PySem.W PySem.Calls PyProof.Rows PyProof.V PySem.Spec
namespace Mine
structure WsC where
  l : Addr
  vs : List Value
  k : Nat
  b : Int
  tb : Tok
  n : Int
  tn : Tok
  nt : Int
  tt : Tok
def wsPut (cnt : List Int) (b : Nat) : List Int := (fun c => c.set b (c.getD b 0 + 1)) (if cnt.length ≤ b then cnt ++ List.replicate (b + 1 - cnt.length) 0 else cnt)
def wsStep (st : List Int × Nat × Nat × Nat) (c : Nat) : List Int × Nat × Nat × Nat :=
  if c = 32 then (st.1, st.2.1 + 1, st.2.2.1 + 1, st.2.2.2) else (wsPut st.1 st.2.1, 0, st.2.2.1 + 1, st.2.2.2 + 1)
def wsAll (cs : List Nat) : List Int × Nat × Nat × Nat := cs.foldl wsStep ([], 0, 0, 0)
theorem wsAll_snoc (cs : List Nat) (c : Nat) : wsAll (cs ++ [c]) = wsStep (wsAll cs) c := by simp [wsAll]
def WsJ (pre : List Nat) (c : WsC) : Prop :=
  IntsAre c.vs (wsAll pre).1 ∧ c.b = (wsAll pre).2.1 ∧ c.n = (wsAll pre).2.2.1 ∧ c.nt = (wsAll pre).2.2.2
theorem wsPut_len (cnt : List Int) (b : Nat) : (wsPut cnt b).length ≤ max cnt.length (b + 1) := by
  unfold wsPut
  simp only [List.length_set]
  split
  · rw [List.length_append, List.length_replicate]; omega
  · omega
theorem snoc_ind {α : Type} {P : List α → Prop} (h0 : P []) (h1 : ∀ l a, P l → P (l ++ [a])) (l : List α) : P l := by
  have h : ∀ r : List α, P r.reverse := by
    intro r
    induction r with
    | nil => exact h0
    | cons a r ih => rw [List.reverse_cons]; exact h1 _ _ ih
  have := h l.reverse
  rwa [List.reverse_reverse] at this
theorem ws_bound (cs : List Nat) : (wsAll cs).1.length ≤ cs.length ∧ (wsAll cs).2.1 ≤ cs.length ∧ (wsAll cs).2.2.1 ≤ cs.length ∧ (wsAll cs).2.2.2 ≤ cs.length := by
  refine snoc_ind (P := fun cs => (wsAll cs).1.length ≤ cs.length ∧ (wsAll cs).2.1 ≤ cs.length ∧ (wsAll cs).2.2.1 ≤ cs.length ∧ (wsAll cs).2.2.2 ≤ cs.length) ?_ ?_ cs
  · simp [wsAll]
  · intro pre n ih
    rw [wsAll_snoc, List.length_append]
    unfold wsStep
    split
    · simp only [List.length_singleton]; omega
    · have := wsPut_len (wsAll pre).1 (wsAll pre).2.1
      simp only [List.length_singleton]; omega
end Mine
namespace Mine
theorem all_append {d : Addr} {a b : List (Addr × Obj)} (h1 : ∀ p ∈ a, p.1 ≠ d) (h2 : ∀ p ∈ b, p.1 ≠ d) : ∀ p ∈ a ++ b, p.1 ≠ d := fun p hp => (List.mem_append.mp hp).elim (h1 p) (h2 p)
theorem lt_of_allLt {d : Addr} {l : List (Addr × Obj)} (h : AllLt d l) : ∀ p ∈ l, p.1 < d := by
  induction l with
  | nil => intro p hp; cases hp
  | cons q r ih =>
    intro p hp
    rcases List.mem_cons.mp hp with e | hp
    · rw [e]; exact h.1
    · exact ih h.2 p hp
theorem ne_of_lts {d : Addr} {l : List (Addr × Obj)} (h : ∀ p ∈ l, p.1 < d) : ∀ p ∈ l, p.1 ≠ d := fun p hp => Nat.ne_of_lt (h p hp)
theorem flat_rep (k : Nat) : (List.replicate k [(0 : Int)]).flatten = List.replicate k 0 := by
  induction k with
  | zero => rfl
  | succ k ih => rw [List.replicate_succ, List.flatten_cons, ih]; rfl
theorem wsPut_a {cnt : List Int} {b : Nat} (h : cnt.length ≤ b) :
    (cnt ++ (List.replicate ((b : Int) - (cnt.length : Int) + 1).toNat [(0 : Int)]).flatten).set (b : Int).toNat ((cnt ++ (List.replicate ((b : Int) - (cnt.length : Int) + 1).toNat [(0 : Int)]).flatten).getD (b : Int).toNat 0 + 1) = wsPut cnt b := by
  have e : ((b : Int) - (cnt.length : Int) + 1).toNat = b + 1 - cnt.length := by omega
  have e2 : (b : Int).toNat = b := by omega
  rw [e, e2, flat_rep]
  simp only [wsPut, h, if_true]
theorem wsPut_b {cnt : List Int} {b : Nat} (h : ¬ cnt.length ≤ b) : cnt.set (b : Int).toNat (cnt.getD (b : Int).toNat 0 + 1) = wsPut cnt b := by
  have e2 : (b : Int).toNat = b := by omega
  rw [e2]
  simp only [wsPut, h, if_false]
end Mine
namespace Mine
abbrev wsNames (c : WsC) : List (PySem.Str × Value) := [(PySem.Str.ofString "count", .ref c.l), (PySem.Str.ofString "b", .int c.b c.tb), (PySem.Str.ofString "n", .int c.n c.tn), (PySem.Str.ofString "nt", .int c.nt c.tt)]
section
variable {prog : Program} {w : World} {A : Around} {E : Value → Shared → Prop} {s : Shared} {env : Env} {h₀ : Heap} {x : PySem.Str} {body : List Stmt} {Q : Flow → Shared → Prop}
theorem ws_loop {xt : PySem.Str} {tx : Tok} {m₀ : PySem.Str → Option Value} {rest : List (Addr × Obj)} {l : Addr} {tb tn tt : Tok}
    (hh : A.handled = none) (F : Fr h₀ env.locals s.heap m₀) (N : News h₀ env.locals s.heap ((l, W.listOf #[] 0) :: rest)) (hl : ∀ p ∈ rest, p.1 < l)
    (hk : ∀ p ∈ wsNames ⟨l, [], 0, 0, tb, 0, tn, 0, tt⟩, m₀ p.1 = some p.2)
    (turn : ∀ pre (n : Nat) post t (l : Addr) (vs : List Value) (k : Nat) (cnt : List Int) (b n' nt' : Nat) (tb tn tt : Tok) (u : PySem.Str → Option Value) h tk own, xt.cps.toList = pre ++ n :: post →
      wsAll pre = (cnt, b, n', nt') → IntsAre vs cnt → (∀ p ∈ rest, p.1 < l) → OwnOff own (l :: rest.map (·.1)) →
      Fr h₀ env.locals h (fun y => if y = x then some (.str ⟨#[n]⟩ t) else kstB (fun z => if ([] : List PySem.Str).contains z then u z else m₀ z) (wsNames ⟨l, vs, k, (b : Int), tb, (n' : Int), tn, (nt' : Int), tt⟩) y) →
      News h₀ env.locals h ((l, W.listOf vs.toArray k) :: (rest ++ own)) →
      wpAny (model prog w) A (execs body env) (MyPost h₀ env.locals (fun c : WsC => [(c.l, W.listOf c.vs.toArray c.k)]) rest wsNames x [] m₀ badStr (fun c => WsJ (pre ++ [n]) c ∧ ∀ p ∈ rest, p.1 < c.l) own { s with heap := h, toks := tk } Q) E { s with heap := h, toks := tk })
    (done : ∀ (l : Addr) (vs : List Value) (k : Nat) (cnt : List Int) (b n' nt' : Nat) (tb tn tt : Tok) (u : PySem.Str → Option Value) h tk, wsAll xt.cps.toList = (cnt, b, n', nt') → IntsAre vs cnt → (∀ p ∈ rest, p.1 < l) →
      Fr h₀ env.locals h (fun y => if y = x then u y else kstB (fun z => if ([] : List PySem.Str).contains z then u z else m₀ z) (wsNames ⟨l, vs, k, (b : Int), tb, (n' : Int), tn, (nt' : Int), tt⟩) y) → News h₀ env.locals h ((l, W.listOf vs.toArray k) :: rest) → Q .next { s with heap := h, toks := tk }) :
    wpAny (model prog w) A (pyIter (.str xt tx)) (fun it s₂ => LoopAtV prog w A h₀ env x body Q E it s₂) E s := by
  refine my_text (fun c : WsC => [(c.l, W.listOf c.vs.toArray c.k)]) rest wsNames [] (fun pre c => WsJ pre c ∧ ∀ p ∈ rest, p.1 < c.l) ⟨l, [], 0, 0, tb, 0, tn, 0, tt⟩ hh F N hk ⟨⟨.nil, rfl, rfl, rfl⟩, hl⟩ ?_ ?_
  · rintro pre n post t ⟨l, vs, k, b, tb, n', tn, nt', tt⟩ u h tk own hpre ⟨⟨hI, hb', hn, hnt⟩, hlt⟩ hoff F₁ N₁
    dsimp only at hI hb' hn hnt hlt hoff F₁ N₁
    generalize hst : wsAll pre = st at *
    obtain ⟨cnt, b₀, n₀, nt₀⟩ := st
    dsimp only at hI hb' hn hnt
    subst hb' hn hnt
    exact turn pre n post t l vs k cnt b₀ n₀ nt₀ tb tn tt u h tk own hpre hst hI hlt hoff F₁ N₁
  · rintro ⟨l, vs, k, b, tb, n', tn, nt', tt⟩ u h tk ⟨⟨hI, hb', hn, hnt⟩, hlt⟩ F₁ N₁
    dsimp only at hI hb' hn hnt hlt F₁ N₁
    generalize hst : wsAll xt.cps.toList = st at *
    obtain ⟨cnt, b₀, n₀, nt₀⟩ := st
    dsimp only at hI hb' hn hnt
    subst hb' hn hnt
    exact done l vs k cnt b₀ n₀ nt₀ tb tn tt u h tk rfl hI hlt F₁ N₁
theorem ws_end {m₀ m' : PySem.Str → Option Value} {L : Addr} {h h' : Heap} {tk tk' : Nat} {own rest news' : List (Addr × Obj)} {pre : List Nat} {n : Nat} {cnt : List Int} {b n' nt' : Nat} (cnt' : List Int) (b' n'' nt'' : Nat) {bI nI tI : Int}
    {l : Addr} {vs : List Value} {k : Nat} {tb tn tt : Tok} (hst : wsAll pre = (cnt, b, n', nt')) (he : wsStep (cnt, b, n', nt') n = (cnt', b', n'', nt'')) (F : Fr h₀ L h' m') (N : News h₀ L h' news') (hl : (l, W.listOf vs.toArray k) ∈ news') (hr : ∀ p ∈ rest, p ∈ news') (ho : ∀ p ∈ own, p ∈ news')
    (hlt : ∀ p ∈ rest, p.1 < l)
    (h4 : ∀ p ∈ wsNames ⟨l, vs, k, bI, tb, nI, tn, tI, tt⟩, m' p.1 = some p.2)
    (h5 : ∀ z, z ≠ x → (∀ p ∈ wsNames ⟨l, vs, k, bI, tb, nI, tn, tI, tt⟩, z ≠ p.1) → ([] : List PySem.Str).contains z = false → m' z = m₀ z)
    (hI : IntsAre vs cnt') (e1 : bI = b') (e2 : nI = n'') (e3 : tI = nt'') :
    MyEnd h₀ L (fun c : WsC => [(c.l, W.listOf c.vs.toArray c.k)]) rest wsNames x [] m₀ badStr (fun c => WsJ (pre ++ [n]) c ∧ ∀ p ∈ rest, p.1 < c.l) own { s with heap := h, toks := tk } { s with heap := h', toks := tk' } := by
  subst e1 e2 e3
  refine my_end (⟨l, vs, k, (b' : Int), tb, (n'' : Int), tn, (nt'' : Int), tt⟩ : WsC) F N (List.forall_mem_cons.mpr ⟨hl, List.forall_mem_nil _⟩) hr ho (List.forall_mem_cons.mpr ⟨rfl, List.forall_mem_nil _⟩) h4 h5 ⟨?_, hlt⟩
  unfold WsJ
  rw [wsAll_snoc, hst, he]
  exact ⟨hI, rfl, rfl, rfl⟩
end
end Mine
namespace Mine
abbrev tupO (vs : List Value) : Obj := { cls := .type "tuple", data := .seq vs.toArray }
/-- the objects of a Whitespace of a text -/
def WsObjs (w : World) (C : Addr) (x : PySem.Str) (xa : Addr) (nx : List (Addr × Obj)) : Prop :=
  ∃ (dx nm ct : Addr) (vs : List Value) (cnt : List Int) (b n nt : Nat) (v₁ v₅ : Value) (t₁ t₂ t₃ t₄ t₅ tb tn tt : Tok),
    nx = [(nm, tupO [.ref ct, .int (b : Int) tb]), (ct, tupO vs), (xa, instObj C dx), (dx, dictOf [{ hash := PyData.keyHash w.params (PySem.Str.ofString "raw"), key := .str (PySem.Str.ofString "raw") t₁, val := v₁ },
      { hash := PyData.keyHash w.params (PySem.Str.ofString "n"), key := .str (PySem.Str.ofString "n") t₂, val := .int (n : Int) tn }, { hash := PyData.keyHash w.params (PySem.Str.ofString "nt"), key := .str (PySem.Str.ofString "nt") t₃, val := .int (nt : Int) tt },
      { hash := PyData.keyHash w.params (PySem.Str.ofString "norm"), key := .str (PySem.Str.ofString "norm") t₄, val := .ref nm }, { hash := PyData.keyHash w.params (PySem.Str.ofString "is_simple"), key := .str (PySem.Str.ofString "is_simple") t₅, val := v₅ }] 5)] ∧
    IntsAre vs cnt ∧ wsAll x.cps.toList = (cnt, b, n, nt)
theorem news_of {h₀ h : Heap} {L : Addr} {a b : List (Addr × Obj)} (N : News h₀ L h a) (hs : ∀ p ∈ b, p ∈ a) : News h₀ L h b := fun p hp => N p (hs p hp)
end Mine
end
section
open PySem PySem.W PySem.Calls PyProof.Rows PyProof.V PySem.Spec
namespace Mine
section
variable {prog : Program} {w : World} {A : Around} {E : Value → Shared → Prop} {s : Shared} {h₀ : Heap} {L : Addr} {m : PySem.Str → Option Value} {news : List (Addr × Obj)} {Q : Value → Shared → Prop}
theorem tup_len {a : Addr} {vs : List Value} {ns : List Int} (N : News h₀ L s.heap news) (hm : (a, tupO vs) ∈ news) (hI : IntsAre vs ns) (hz : ns.length ≤ 100000) (h : Q (.int (ns.length : Nat) (s.toks + 1)) { s with toks := s.toks + 1 + 1 }) : wpAny (model prog w) A (call (.builtin "len") [.ref a]) Q E s := by
  have hl := hI.length
  refine PyProof.Rows.len_tuple (News.isTup N hm) ?_ ?_
  · rw [List.size_toArray, hl]; omega
  · rw [List.size_toArray, hl]; exact h
theorem tup_item {value slice : PySem.Expr} {a : Addr} {vs : List Value} {ns : List Int} {k : Int} {u : Tok} (N : News h₀ L s.heap news) (hm : (a, tupO vs) ∈ news) (hI : IntsAre vs ns) (hz : ns.length ≤ 100000) (h0 : 0 ≤ k) (h1 : k < ns.length)
    (h : ∀ t, Q (.int (ns.getD k.toNat 0) t) s)
    (hs : subscripted slice false (.ref a) (.int k u) = operate [.ref a, .int k u] (getItem (.ref a) (.int k u)) := by with_unfolding_all rfl) :
    wpAny (model prog w) A (subscriptTail value slice (.ref a) (.int k u)) Q E s := by
  have hl := hI.length
  have hk : k.toNat < ns.length := by omega
  obtain ⟨t, ht⟩ := hI.get k.toNat ns[k.toNat] (by simp [hk])
  have e : ns.getD k.toNat 0 = ns[k.toNat] := by simp [List.getD, hk]
  refine item_tupleT (News.isTup N hm) (by omega) (by omega) (j := k.toNat) ?_ ht (e ▸ h t) hs
  have h3 : ¬ k < 0 := by omega
  have h4 : k < (vs.length : Int) := by omega
  simp [seqIndex?, h3, h0, h4]
end
theorem fdiv_in {i ts : Int} (h0 : 0 ≤ i) (h1 : 1 ≤ ts) : 0 ≤ i.fdiv ts ∧ i.fdiv ts ≤ i := by
  rw [Int.fdiv_eq_ediv_of_nonneg _ (by omega)]
  exact ⟨Int.ediv_nonneg h0 (by omega), Int.ediv_le_self _ h0⟩
theorem bits_fdiv {i ts : Int} (h0 : 0 ≤ i) (h1 : 1 ≤ ts) (h2 : i < 2 ^ 60) : Builtin.Int.intBits (i.fdiv ts) ≤ 64 := by
  have := fdiv_in h0 h1
  exact intBits_le_64 (by omega) (by omega)
/-- the columns of the counted runs -/
def ilOf (cnt : List Int) (ts : Int) (pre : List Int) : Int := (pre.map fun i => Int.fdiv i ts * cnt.getD i.toNat 0).sum
theorem ilOf_snoc (cnt : List Int) (ts : Int) (pre : List Int) (i : Int) : ilOf cnt ts (pre ++ [i]) = ilOf cnt ts pre + Int.fdiv i ts * cnt.getD i.toNat 0 := by
  simp [ilOf]
end Mine
namespace Mine
theorem il_turn {cnt : List Int} {ts il i : Int} {pre : List Int} (h : il = ilOf cnt ts pre) : il + Int.fdiv i ts * cnt.getD i.toNat 0 = ilOf cnt ts (pre ++ [i]) := by rw [h, ilOf_snoc]
end Mine
namespace Mine
/-- what indent_level answers of a text of blanks and tabs -/
def wsLevel (cs : List Nat) (ts : Int) : Int := ((wsAll cs).2.1 : Int) + ts * (ilOf (wsAll cs).1 ts (rangeKs ts (((wsAll cs).1.length : Int) - ts).toNat) + ((wsAll cs).2.2.2 : Int))
theorem wsLevel_of {cs : List Nat} {ts il : Int} {cnt : List Int} {b n nt : Nat} (hst : wsAll cs = (cnt, b, n, nt)) (h : il = ilOf cnt ts (rangeKs ts ((cnt.length : Int) - ts).toNat)) : (b : Int) + ts * (il + (nt : Int)) = wsLevel cs ts := by
  unfold wsLevel
  rw [hst, h]
end Mine
end
section
open PySem PySem.W PySem.Calls PyProof.Rows PyProof.V PySem.Spec
namespace Mine
/-- the counts that the game's pairs give, the first one first -/
def turnsF : Nat → Nat → Nat → List Int
  | 0, _, _ => []
  | f + 1, g, s => if g = s then [] else (((g - 1) / s : Nat) : Int) :: turnsF f s ((g - 1) % s + 1)
def TuJ (T : List Int) (great small : Int) (turns : List Int) : Prop :=
  ∃ g s f : Nat, great = g ∧ small = s ∧ 1 ≤ s ∧ s ≤ g ∧ g ≤ 16 ∧ g ≤ f ∧ turns ++ turnsF f g s = T
def leadCodes (g : Nat) : List Nat := List.replicate (g - 1) 32 ++ [9] ++ (List.replicate (g - 1) 32 ++ [9]) ++ List.replicate g 32
/-- what is known of the pair that comes next -/
structure LeftMark (great small lf cn : Int) : Prop where
  one : 1 ≤ lf
  le : lf ≤ small
  lt : lf < great
  mod : Int.fmod (great - lf) small = 0
  div : Int.fdiv (great - lf) small = cn
theorem lead_level : ∀ g : Fin 17, ∀ s : Fin 17, 1 ≤ s.val → s.val < g.val → wsLevel (leadCodes g.val) (s.val : Int) = 3 * (g.val : Int) + 2 * (s.val : Int) - 2 * (((g.val - 1) % s.val + 1 : Nat) : Int) := by
  decide +kernel
end Mine
namespace Mine
structure TuC where
  gr : Int
  tg : Tok
  sm : Int
  ts : Tok
  vs : List Value
  k : Nat
abbrev tuNames (c : TuC) : List (PySem.Str × Value) := [(PySem.Str.ofString "great", .int c.gr c.tg), (PySem.Str.ofString "small", .int c.sm c.ts)]
abbrev tuStored : List PySem.Str := [PySem.Str.ofString "lead", PySem.Str.ofString "twice", PySem.Str.ofString "left"]
section
variable {prog : Program} {w : World} {A : Around} {E : Value → Shared → Prop} {s : Shared} {env : Env} {h₀ : Heap} {body : List Stmt} {Q : Flow → Shared → Prop}
theorem tu_while {test : PySem.Expr} {pos : Pos} {m₀ : PySem.Str → Option Value} {T : List Int} {l : Addr} {rest : List (Addr × Obj)} {great small : Int} {tg ts : Tok}
    (F : Fr h₀ env.locals s.heap m₀) (N : News h₀ env.locals s.heap ((l, W.listOf #[] 0) :: rest)) (hk : ∀ p ∈ tuNames ⟨great, tg, small, ts, [], 0⟩, m₀ p.1 = some p.2) (hT : TuJ T great small [])
    (turn : ∀ (g s' f : Nat) (tg ts : Tok) (vs : List Value) (k : Nat) (turns : List Int) (u : PySem.Str → Option Value) h tk, IntsAre vs turns → 1 ≤ s' → s' ≤ g → g ≤ 16 → g ≤ f → turns ++ turnsF f g s' = T →
      Fr h₀ env.locals h (kstB (fun z => if tuStored.contains z then u z else m₀ z) (tuNames ⟨(g : Int), tg, (s' : Int), ts, vs, k⟩)) → News h₀ env.locals h ((l, W.listOf vs.toArray k) :: rest) →
      wpAny (model prog w) A (isTrue test env (eval test env)) (fun b s₂ =>
        if b = true then wpAny (model prog w) A (execs body env) (KswPost h₀ env.locals s (fun c : TuC => (l, W.listOf c.vs.toArray c.k) :: rest) tuNames (fun _ => True) tuStored m₀ (fun c => ∃ turns, IntsAre c.vs turns ∧ TuJ T c.gr c.sm turns) (fun c => (c.gr + c.sm).toNat) Q ⟨(g : Int), tg, (s' : Int), ts, vs, k⟩) E s₂ else Q .next s₂) E { s with heap := h, toks := tk })
    (hE : PassesOwn (model prog w) A env E := by passes_own) :
    wpAny (model prog w) A (exec (.While test body [] pos) env) Q E s := by
  refine ksw_while (fun c : TuC => (l, W.listOf c.vs.toArray c.k) :: rest) tuNames (fun _ => True) tuStored (fun c => ∃ turns, IntsAre c.vs turns ∧ TuJ T c.gr c.sm turns) (fun c => (c.gr + c.sm).toNat) ⟨great, tg, small, ts, [], 0⟩ F N trivial hk ⟨[], .nil, hT⟩ ?_ hE
  rintro ⟨gr, tg, sm, ts, vs, k⟩ u h tk _ ⟨turns, hI, g, s', f, hg, hs, h1, h2, h3, h4, h5⟩ F₁ N₁
  dsimp only at hg hs hI F₁ N₁ ⊢
  subst hg hs
  exact turn g s' f tg ts vs k turns u h tk hI h1 h2 h3 h4 h5 F₁ N₁
theorem tu_end {m₀ m' : PySem.Str → Option Value} {L : Addr} {h' : Heap} {tk' : Nat} {rest news' : List (Addr × Obj)} {T turns' : List Int} {l : Addr} {c : TuC} {gr sm : Int} {tg ts : Tok} {vs : List Value} {k : Nat}
    (F : Fr h₀ L h' m') (N : News h₀ L h' news') (hl : (l, W.listOf vs.toArray k) ∈ news') (hr : ∀ p ∈ rest, p ∈ news')
    (hk : ∀ p ∈ tuNames ⟨gr, tg, sm, ts, vs, k⟩, m' p.1 = some p.2) (hm : ∀ z, (∀ p ∈ tuNames ⟨gr, tg, sm, ts, vs, k⟩, z ≠ p.1) → tuStored.contains z = false → m' z = m₀ z)
    (hI : IntsAre vs turns') (hT : TuJ T gr sm turns') (hμ : (gr + sm).toNat < (c.gr + c.sm).toNat) :
    KswEnd h₀ L s (fun c : TuC => (l, W.listOf c.vs.toArray c.k) :: rest) tuNames (fun _ => True) tuStored m₀ (fun c => ∃ turns, IntsAre c.vs turns ∧ TuJ T c.gr c.sm turns) (fun c => (c.gr + c.sm).toNat) c { s with heap := h', toks := tk' } :=
  ksw_end ⟨gr, tg, sm, ts, vs, k⟩ F N (List.forall_mem_cons.mpr ⟨hl, hr⟩) trivial hk hm ⟨turns', hI, hT⟩ hμ
end
end Mine
end
section
open PySem PySem.W PySem.Calls PyProof.Rows PyProof.V PySem.Spec
namespace Mine
theorem foldl_app (l : List (Array Nat)) (a : Array Nat) : (l.foldl (· ++ ·) a).toList = a.toList ++ (l.map Array.toList).flatten := by
  induction l generalizing a with
  | nil => simp
  | cons b r ih => rw [List.foldl_cons, ih]; simp
theorem mul_codes (x : PySem.Str) (n : Int) : (Txt.mul x n).cps.toList = (List.replicate n.toNat x.cps.toList).flatten := by
  unfold Txt.mul
  by_cases h1 : n < 1
  · have : n.toNat = 0 := by omega
    rw [if_pos h1, this]; rfl
  · rw [if_neg h1]
    by_cases h2 : (n == 1 || x.length == 0) = true
    · rw [if_pos h2]
      rcases Bool.or_eq_true_iff.mp h2 with h3 | h3
      · have : n = 1 := by simpa using h3
        subst this
        show x.cps.toList = (List.replicate 1 x.cps.toList).flatten
        simp
      · have h4 : x.cps.size = 0 := by simpa [PySem.Str.length] using h3
        have h5 : x.cps.toList = [] := by rw [← List.length_eq_zero_iff, Array.length_toList, h4]
        rw [h5]
        induction n.toNat with
        | zero => rfl
        | succ k ih => rw [List.replicate_succ, List.flatten_cons, ← ih]; rfl
    · rw [if_neg h2]
      show (List.foldl (· ++ ·) #[] (List.replicate n.toNat x.cps)).toList = _
      rw [foldl_app]
      simp
section
variable {prog : Program} {w : World} {A : Around} {E : Value → Shared → Prop} {s : Shared} {Q : Value → Shared → Prop} {x y : PySem.Str} {t u : Tok} {i : Int} {a b : List Nat}
theorem str_mul1 {c : Nat} (hx : x.cps.toList = [c]) (h0 : 0 ≤ i) (h1 : i ≤ 1000) (h : ∀ y t' k, y.cps.toList = List.replicate i.toNat c → Q (.str y t') { s with toks := k }) :
    wpAny (model prog w) A (binaryOp .Mult (.str x t) (.int i u)) Q E s := by
  have hl : x.length = 1 := by
    show x.cps.size = 1
    rw [← Array.length_toList, hx]; rfl
  refine SB.mul (mulOk_of 1 1000 (by omega) (by omega) (by omega) (by decide) (by decide)) fun t' k => h _ t' k ?_
  rw [mul_codes, hx]
  induction i.toNat with
  | zero => rfl
  | succ k ih => rw [List.replicate_succ, List.flatten_cons, ih]; rfl
theorem str_mul2 (hx : x.cps.toList = a) (hl : a.length ≤ 1000) (h : ∀ y t' k, y.cps.toList = a ++ a → Q (.str y t') { s with toks := k }) :
    wpAny (model prog w) A (binaryOp .Mult (.str x t) (.int 2 u)) Q E s := by
  have hl : x.length ≤ 1000 := by
    show x.cps.size ≤ 1000
    rw [← Array.length_toList, hx]; exact hl
  refine SB.mul (mulOk_of 1000 2 hl (by omega) (by omega) (by decide) (by decide)) fun t' k => h _ t' k ?_
  rw [mul_codes, hx]
  show (List.replicate 2 a).flatten = a ++ a
  simp
theorem str_add (hx : x.cps.toList = a) (hy : y.cps.toList = b) (hl : a.length + b.length ≤ 10000) (h : ∀ z t' k, z.cps.toList = a ++ b → Q (.str z t') { s with toks := k }) :
    wpAny (model prog w) A (binaryOp .Add (.str x t) (.str y u)) Q E s := by
  have hx1 : x.length = a.length := by
    show x.cps.size = _
    rw [← Array.length_toList, hx]
  have hy1 : y.length = b.length := by
    show y.cps.size = _
    rw [← Array.length_toList, hy]
  refine KXadd.add (K := a.length) (L := b.length) (by omega) (by omega) (by omega) fun t' k _ => h _ t' k ?_
  rw [PySem.Str.cps_append, Array.toList_append, hx, hy]
end
theorem lead_is {g : Nat} {l : List Nat} (h : l = ((List.replicate ((g : Int) - 1).toNat 32 ++ [9]) ++ (List.replicate ((g : Int) - 1).toNat 32 ++ [9])) ++ List.replicate ((g : Int).toNat) 32) : l = leadCodes g := by
  rw [h, show ((g : Int) - 1).toNat = g - 1 by omega, show ((g : Int)).toNat = g by omega]; rfl
theorem lead_only {g : Nat} : ∀ c ∈ leadCodes g, c = 32 ∨ c = 9 := by
  intro c hc
  simp only [leadCodes, List.mem_append, List.mem_replicate, List.mem_singleton] at hc
  rcases hc with ((⟨_, h⟩ | h) | (⟨_, h⟩ | h)) | ⟨_, h⟩ <;> simp [h]
theorem lead_len {g : Nat} (h : g ≤ 16) : (leadCodes g).length ≤ 1000 := by
  simp only [leadCodes, List.length_append, List.length_replicate, List.length_singleton]; omega
/-- the level of a lead, and what the next pair is -/
theorem left_mark {g s : Nat} (h1 : 1 ≤ s) (h2 : s < g) : LeftMark (g : Int) (s : Int) (((g - 1) % s + 1 : Nat) : Int) (((g - 1) / s : Nat) : Int) := by
  have hm := Nat.mod_lt (g - 1) h1
  have hd := Nat.div_add_mod (g - 1) s
  have e : (g : Int) - (((g - 1) % s + 1 : Nat) : Int) = (s : Int) * (((g - 1) / s : Nat) : Int) := by
    have : ((s * ((g - 1) / s) + (g - 1) % s : Nat) : Int) = ((g - 1 : Nat) : Int) := by rw [hd]
    rw [Int.natCast_add, Int.natCast_mul] at this
    omega
  refine ⟨by omega, by omega, by omega, ?_, ?_⟩
  · rw [e]; exact Int.mul_fmod_right _ _
  · rw [e]; exact Int.mul_fdiv_cancel_left _ (by omega)
theorem lead_lvl {g s : Nat} (h1 : 1 ≤ s) (h2 : s < g) (h3 : g ≤ 16) : wsLevel (leadCodes g) (s : Int) = 3 * (g : Int) + 2 * (s : Int) - 2 * (((g - 1) % s + 1 : Nat) : Int) :=
  lead_level ⟨g, by omega⟩ ⟨s, by omega⟩ h1 h2
section
variable {prog : Program} {w : World} {A : Around} {E : Value → Shared → Prop} {s : Shared} {Q : Value → Shared → Prop} {t u : Tok} {a great small lf cn : Int}
theorem mark_mod (M : LeftMark great small lf cn) (h1 : 1 ≤ small) (h : ∀ t k, Q (.int 0 t) { s with toks := k }) : wpAny (model prog w) A (binaryOp .Mod (.int (great - lf) t) (.int small u)) Q E s := by
  refine PyProof.Rows.mod_int (by omega) ?_
  rw [M.mod]
  exact h _ _
theorem mark_div (M : LeftMark great small lf cn) (h1 : 1 ≤ small) (h0 : small ≤ 1000) (h : ∀ t k, Q (.int cn t) { s with toks := k }) : wpAny (model prog w) A (binaryOp .FloorDiv (.int (great - lf) t) (.int small u)) Q E s := by
  refine PyProof.Rows.floordiv_int (by omega) ?_
  rw [M.div]
  exact h _ _
theorem half_mod (M : LeftMark great small lf cn) (h2 : a = 2 * lf) (h : ∀ t k, Q (.int 0 t) { s with toks := k }) : wpAny (model prog w) A (binaryOp .Mod (.int a t) (.int 2 u)) Q E s := by
  refine PyProof.Rows.mod_int (by omega) ?_
  rw [h2, Int.mul_fmod_right]
  exact h _ _
theorem half_div (M : LeftMark great small lf cn) (h2 : a = 2 * lf) (h : ∀ t k, Q (.int lf t) { s with toks := k }) : wpAny (model prog w) A (binaryOp .FloorDiv (.int a t) (.int 2 u)) Q E s := by
  refine PyProof.Rows.floordiv_int (by omega) ?_
  rw [h2, Int.mul_fdiv_cancel_left _ (by omega)]
  exact h _ _
end
end Mine
namespace Mine
theorem tu_turn {T turns : List Int} {g s f : Nat} {lf : Int} (h1 : 1 ≤ s) (h2 : s < g) (h3 : g ≤ 16) (h4 : g ≤ f) (h5 : turns ++ turnsF f g s = T) (hl : (((g - 1) % s + 1 : Nat) : Int) = lf) : TuJ T (s : Int) lf (turns ++ [(((g - 1) / s : Nat) : Int)]) := by
  have hm := Nat.mod_lt (g - 1) h1
  obtain ⟨f', rfl⟩ : ∃ f', f = f' + 1 := ⟨f - 1, by omega⟩
  refine ⟨s, (g - 1) % s + 1, f', rfl, hl.symm, by omega, by omega, by omega, by omega, ?_⟩
  rw [turnsF, if_neg (by omega)] at h5
  rw [List.append_assoc]
  exact h5
theorem tu_stop {T turns : List Int} {g s f : Nat} (h1 : 1 ≤ s) (h2 : s ≤ g) (h : ¬ s < g) (h4 : g ≤ f) (h5 : turns ++ turnsF f g s = T) : turns = T := by
  obtain ⟨f', rfl⟩ : ∃ f', f = f' + 1 := ⟨f - 1, by omega⟩
  rw [turnsF, if_pos (by omega), List.append_nil] at h5
  exact h5
theorem tu_len {T turns : List Int} {g s f : Nat} (h5 : turns ++ turnsF f g s = T) (hT : T.length ≤ 100) : turns.length ≤ 100 := by
  have := congrArg List.length h5
  rw [List.length_append] at this
  omega
end Mine
namespace Mine
theorem ints_snoc {vs : List Value} {ns : List Int} (h : IntsAre vs ns) (n : Int) (t : Tok) : IntsAre (vs ++ [.int n t]) (ns ++ [n]) := by
  induction h with
  | nil => exact .cons _ _ .nil
  | cons a b _ ih => exact .cons a b ih
end Mine
end
section
open PySem PySem.W PySem.Calls PyProof.Rows PyProof.V PySem.Spec
namespace Mine
def absSum (met : List Int) : Nat := (met.map Int.natAbs).sum
def mexFuel : Nat → List Int → Int → Int
  | 0, _, n => n
  | f + 1, met, n => if n ∈ met then mexFuel f met (n + 1) else n
def mexF (met : List Int) : Int := mexFuel (absSum met + 1) met 0
theorem mem_abs {met : List Int} {x : Int} (h : x ∈ met) : x.natAbs ≤ absSum met := by
  induction met with
  | nil => cases h
  | cons a r ih =>
    have e : absSum (a :: r) = a.natAbs + absSum r := by simp [absSum]
    rcases List.mem_cons.mp h with h | h
    · subst h; omega
    · have := ih h; omega
/-- the search for the least number that is not there -/
def MexJ (met : List Int) (worth : Int) : Prop := 0 ≤ worth ∧ ∃ f : Nat, worth.toNat + f = absSum met + 1 ∧ mexFuel f met worth = mexF met
theorem mex_start (met : List Int) : MexJ met 0 := ⟨by omega, absSum met + 1, by simp, rfl⟩
theorem mex_turn {met : List Int} {worth : Int} (h : MexJ met worth) (hm : worth ∈ met) : MexJ met (worth + 1) := by
  obtain ⟨h0, f, h1, h2⟩ := h
  have h3 := mem_abs hm
  obtain ⟨f', rfl⟩ : ∃ f', f = f' + 1 := ⟨f - 1, by omega⟩
  refine ⟨by omega, f', by omega, ?_⟩
  rw [mexFuel, if_pos hm] at h2
  exact h2
theorem mex_less {met : List Int} {worth : Int} (h : MexJ met worth) (hm : worth ∈ met) : absSum met + 1 - (worth + 1).toNat < absSum met + 1 - worth.toNat := by
  have h3 := mem_abs hm
  have := h.1
  omega
theorem mex_end {met : List Int} {worth : Int} (h : MexJ met worth) (hm : worth ∉ met) : worth = mexF met := by
  obtain ⟨h0, f, h1, h2⟩ := h
  rw [← h2]
  cases f with
  | zero => rfl
  | succ f => rw [mexFuel, if_neg hm]
def innerF : Nat → List Int × Int → List Int × Int
  | 0, st => st
  | k + 1, st => innerF k (st.1 ++ [mexF st.1], mexF st.1)
def playedF (T : List Int) : Int := T.foldr (fun c w => (innerF c.toNat ([w], w)).2) 0
theorem innerF_succ (k : Nat) (st : List Int × Int) : innerF (k + 1) st = ((innerF k st).1 ++ [mexF (innerF k st).1], mexF (innerF k st).1) := by
  induction k generalizing st with
  | zero => rfl
  | succ k ih => rw [innerF, ih]; rfl
theorem innerF_len (k : Nat) (st : List Int × Int) : (innerF k st).1.length = st.1.length + k := by
  induction k with
  | zero => rfl
  | succ k ih => rw [innerF_succ, List.length_append, ih]; rfl
theorem played_law : ∀ g : Fin 17, ∀ s : Fin 17, 1 ≤ s.val → s.val ≤ g.val → playedF (turnsF 16 g.val s.val) = Int.fdiv ((g.val : Int) * g.val - (s.val : Int) * s.val) ((g.val : Int) * s.val) := by
  decide +kernel
theorem turns_small : ∀ g : Fin 17, ∀ s : Fin 17, 1 ≤ s.val → s.val ≤ g.val → (turnsF 16 g.val s.val).length ≤ 20 ∧ (∀ c ∈ turnsF 16 g.val s.val, 0 ≤ c ∧ c ≤ 20) ∧ (-1 : Int) ∉ turnsF 16 g.val s.val := by
  decide +kernel
end Mine
end
section
open PySem PySem.W PySem.Calls PyProof.Rows PyProof.V PySem.Spec
namespace Mine
section
variable {prog : Program} {w : World} {A : Around} {E : Value → Shared → Prop} {s : Shared} {env : Env} {h₀ : Heap} {x : PySem.Str} {body : List Stmt} {Q : Flow → Shared → Prop}
def badRange (o : Obj) : Bool := match o.cls with
  | .type "range_iterator" => true
  | _ => false
def badRev (o : Obj) : Bool := match o.cls with
  | .type "list_reverseiterator" => true
  | _ => false
/-- a range by ones -/
theorem my_range {σ : Type} {r : Addr} {a₀ b₀ : Int} {t₀ u₀ v₀ : Tok} {n : Nat} {m₀ : PySem.Str → Option Value} (Var : σ → List (Addr × Obj)) (rest : List (Addr × Obj)) (ps : σ → List (PySem.Str × Value)) (stored : List PySem.Str) (J : Nat → σ → Prop) (c₀ : σ)
    (hh : A.handled = none) (hr : IsRange s.heap r a₀ b₀ 1 t₀ u₀ v₀) (hsmall : Builtin.Range.small a₀ b₀ 1 = true) (hn : Builtin.Range.rangeSize a₀ b₀ 1 = (n : Int))
    (F : Fr h₀ env.locals s.heap m₀) (N : News h₀ env.locals s.heap (Var c₀ ++ rest)) (hk : ∀ p ∈ ps c₀, m₀ p.1 = some p.2) (hj : J 0 c₀)
    (turn : ∀ (i : Nat) t (c : σ) (u : PySem.Str → Option Value) h tk own, i < n → J i c → OwnOff own ((Var c ++ rest).map (·.1)) →
      Fr h₀ env.locals h (fun y => if y = x then some (.int (a₀ + (i : Int)) t) else kstB (fun z => if stored.contains z then u z else m₀ z) (ps c) y) → News h₀ env.locals h (Var c ++ (rest ++ own)) →
      wpAny (model prog w) A (execs body env) (MyPost h₀ env.locals Var rest ps x stored m₀ badRange (J (i + 1)) own { s with heap := h, toks := tk } Q) E { s with heap := h, toks := tk })
    (done : ∀ (c : σ) (u : PySem.Str → Option Value) h tk, J n c → Fr h₀ env.locals h (fun y => if y = x then u y else kstB (fun z => if stored.contains z then u z else m₀ z) (ps c) y) → News h₀ env.locals h (Var c ++ rest) → Q .next { s with heap := h, toks := tk }) :
    wpAny (model prog w) A (pyIter (.ref r)) (fun it s₂ => LoopAtV prog w A h₀ env x body Q E it s₂) E s := by
  refine wpAny_pyIter_range hr hsmall ?_
  have W := Walks.range (prog := prog) (w := w) hh s.heap.objs.size a₀ 1 n
  refine my_walk Var rest ps stored badRange J c₀ W ?_ ?_ ?_ ?_ ?_ (by show IsRangeIter _ _ _ _ _; rw [hn]; simpa using Heap.get?_push_size _ rfl) (F.push _) (fun p hp => ⟨Heap.get?_push_of_some _ (N p hp).1, (N p hp).2⟩) hk hj ?_ done
  · intro hm
    exact absurd F.ns.lt ((List.mem_singleton.mp hm) ▸ Nat.lt_irrefl _)
  · intro b' hb'
    rw [List.mem_singleton.mp hb']
    exact next_is_new F
  · intro p hp hI
    exact absurd (Heap.lt_size (N p hp).1) ((List.mem_singleton.mp hI) ▸ Nat.lt_irrefl _)
  · intro i h hS b hb'
    rw [List.mem_singleton.mp hb']
    exact ⟨_, hS, rfl⟩
  · intro b hb'
    exact .inl hb'
  · rintro i v c u h tk own hi ⟨t, rfl⟩ hJ hoff F₁ N₁
    have e1 : a₀ + (i : Int) * 1 = a₀ + (i : Int) := by omega
    rw [e1] at F₁
    exact turn i t c u h tk own hi hJ hoff F₁ N₁
/-- a list of ints from behind, by the iterator that reversed has made -/
theorem my_rev {σ : Type} {l D : Addr} {vs : List Value} {ns : List Int} {k : Nat} {m₀ : PySem.Str → Option Value} (rest : List (Addr × Obj)) (ps : σ → List (PySem.Str × Value)) (stored : List PySem.Str) (J : List Int → σ → Prop) (c₀ : σ)
    (hh : A.handled = none) (hl : (l, W.listOf vs.toArray k) ∈ rest) (hI : IntsAre vs ns) (hD : ∀ p ∈ rest, p.1 ≠ D)
    (F : Fr h₀ env.locals s.heap m₀) (N : News h₀ env.locals s.heap ((D, revObj l ((vs.length : Int) - 1)) :: rest)) (hk : ∀ p ∈ ps c₀, m₀ p.1 = some p.2) (hj : J [] c₀)
    (turn : ∀ pre (n : Int) post t (c : σ) (u : PySem.Str → Option Value) h tk own, ns.reverse = pre ++ n :: post → J pre c → OwnOff own (rest.map (·.1)) →
      Fr h₀ env.locals h (fun y => if y = x then some (.int n t) else kstB (fun z => if stored.contains z then u z else m₀ z) (ps c) y) → News h₀ env.locals h (rest ++ own) →
      wpAny (model prog w) A (execs body env) (MyPost h₀ env.locals (fun _ : σ => []) rest ps x stored m₀ badRev (J (pre ++ [n])) own { s with heap := h, toks := tk } Q) E { s with heap := h, toks := tk })
    (done : ∀ (c : σ) (u : PySem.Str → Option Value) h tk, J ns.reverse c → Fr h₀ env.locals h (fun y => if y = x then u y else kstB (fun z => if stored.contains z then u z else m₀ z) (ps c) y) → News h₀ env.locals h rest → Q .next { s with heap := h, toks := tk }) :
    wpAny (model prog w) A (pyIter (.ref D)) (fun it s₂ => LoopAtV prog w A h₀ env x body Q E it s₂) E s := by
  have hIx := N _ (List.mem_cons_self ..)
  have hax := N _ (List.mem_cons_of_mem _ hl)
  have hls : s.heap.IsList l vs.toArray := ⟨_, hax.1, rfl, k, rfl⟩
  have hne : l ≠ D := hD _ hl
  have hit : s.heap.IsRevIter D l ((vs.length : Int) - 1) := ⟨_, hIx.1, rfl, rfl⟩
  refine wpAny_pyIter_revIter hit ?_
  have W := Walks.listRev (prog := prog) (w := w) hh D l hne vs.toArray
  have hlen : vs.toArray.size = ns.length := by simp [hI.length]
  have hlen2 := hI.length
  rw [hlen] at W
  refine my_walk (fun _ : σ => []) rest ps stored badRev (fun i c => J (ns.reverse.take i) c) c₀ W ?_ ?_ ?_ ?_ ?_ ⟨Nat.zero_le _, ?_, hls⟩ F (fun p hp => N p (List.mem_cons_of_mem _ hp)) hk (by simpa using hj) ?_ ?_
  · intro hmm
    rcases List.mem_cons.mp hmm with e | hmm
    · exact hIx.2.1 e.symm
    · exact hax.2.1 (List.mem_singleton.mp hmm).symm
  · intro b hb
    rw [List.mem_singleton.mp hb]
    exact hIx.2.2
  · intro p hp hI'
    exact hD p hp (List.mem_singleton.mp hI')
  · rintro i h ⟨_, ⟨o, ho, hc, _⟩, _⟩ b hb
    rw [List.mem_singleton.mp hb]
    exact ⟨o, ho, by unfold badRev; rw [hc]; rfl⟩
  · intro b hb
    rcases List.mem_cons.mp hb with e | hb
    · exact .inl (e ▸ List.mem_singleton.mpr rfl)
    · exact .inr (.inr ⟨_, (List.mem_singleton.mp hb) ▸ hl⟩)
  · have e : (ns.length : Int) - 1 - ((0 : Nat) : Int) = (vs.length : Int) - 1 := by omega
    rw [e]
    exact hit
  · rintro i v c u h tk own hi hP hJ hoff F₁ N₁
    have hx : ns.reverse[i]? = some (ns.reverse[i]'(by simp; exact hi)) := List.getElem?_eq_getElem (by simp; exact hi)
    have hx2 : ns[ns.length - 1 - i]? = some (ns.reverse[i]'(by simp; exact hi)) := by rw [← List.getElem?_reverse hi]; exact hx
    obtain ⟨t, ht⟩ := hI.get _ _ hx2
    have hv : v = .int (ns.reverse[i]'(by simp; exact hi)) t := by
      have hP' : vs[ns.length - 1 - i]? = some v := by simpa using hP
      rw [ht] at hP'
      exact (Option.some.inj hP').symm
    subst hv
    have hs : ns.reverse.take (i + 1) = ns.reverse.take i ++ [ns.reverse[i]'(by simp; exact hi)] := by rw [List.take_add_one, hx]; rfl
    have e : ns.reverse = ns.reverse.take i ++ (ns.reverse[i]'(by simp; exact hi)) :: ns.reverse.drop (i + 1) := by
      have ht := List.take_append_drop (i + 1) ns.reverse
      rw [hs, List.append_assoc] at ht
      exact ht.symm
    show wpAny _ _ _ (MyPost h₀ env.locals (fun _ : σ => []) rest ps x stored m₀ badRev (J (ns.reverse.take (i + 1))) own _ Q) _ _
    rw [hs]
    exact turn _ _ _ t c u h tk own e hJ hoff F₁ N₁
  · rintro c u h tk hJ F₁ N₁
    have hl9 : ns.reverse.take ns.length = ns.reverse := List.take_of_length_le (by simp)
    rw [hl9] at hJ
    exact done c u h tk hJ F₁ N₁
end
end Mine
end
section
open PySem PySem.W PySem.Calls PyProof.Rows PyProof.V PySem.Spec
namespace Mine
structure WoC where
  w : Int
  t : Tok
abbrev woNames (c : WoC) : List (PySem.Str × Value) := [(PySem.Str.ofString "worth", .int c.w c.t)]
structure MeC where
  w : Int
  t : Tok
  vs : List Value
  k : Nat
abbrev meNames (c : MeC) : List (PySem.Str × Value) := [(PySem.Str.ofString "worth", .int c.w c.t)]
abbrev woStored : List PySem.Str := [PySem.Str.ofString "met", PySem.Str.ofString "turn"]
def goF (pre : List Int) : Int := pre.foldl (fun w c => (innerF c.toNat ([w], w)).2) 0
theorem goF_snoc (pre : List Int) (n : Int) : goF (pre ++ [n]) = (innerF n.toNat ([goF pre], goF pre)).2 := by simp [goF]
theorem goF_rev (T : List Int) : goF T.reverse = playedF T := by simp [goF, playedF, List.foldl_reverse]
section
variable {prog : Program} {w : World} {A : Around} {E : Value → Shared → Prop} {s : Shared} {env : Env} {h₀ : Heap} {x : PySem.Str} {body : List Stmt} {Q : Flow → Shared → Prop}
theorem pl_outer {l D : Addr} {vs : List Value} {T : List Int} {k : Nat} {t₀ : Tok} {m₀ : PySem.Str → Option Value} {rest : List (Addr × Obj)}
    (hh : A.handled = none) (hl : (l, W.listOf vs.toArray k) ∈ rest) (hI : IntsAre vs T) (hD : ∀ p ∈ rest, p.1 ≠ D) (hT : ∀ c ∈ T, 0 ≤ c ∧ c ≤ 20)
    (F : Fr h₀ env.locals s.heap m₀) (N : News h₀ env.locals s.heap ((D, revObj l ((vs.length : Int) - 1)) :: rest)) (hk : ∀ p ∈ woNames ⟨0, t₀⟩, m₀ p.1 = some p.2)
    (turn : ∀ (w₁ : Int) (n : Int) t tw (u : PySem.Str → Option Value) h tk own pre, goF pre = w₁ → 0 ≤ n → n ≤ 20 → OwnOff own (rest.map (·.1)) →
      Fr h₀ env.locals h (fun y => if y = x then some (.int n t) else kstB (fun z => if woStored.contains z then u z else m₀ z) (woNames ⟨w₁, tw⟩) y) → News h₀ env.locals h (rest ++ own) →
      wpAny (model prog w) A (execs body env) (MyPost h₀ env.locals (fun _ : WoC => []) rest woNames x woStored m₀ badRev (fun c => goF (pre ++ [n]) = c.w) own { s with heap := h, toks := tk } Q) E { s with heap := h, toks := tk })
    (done : ∀ tw (u : PySem.Str → Option Value) h tk, Fr h₀ env.locals h (fun y => if y = x then u y else kstB (fun z => if woStored.contains z then u z else m₀ z) (woNames ⟨playedF T, tw⟩) y) → News h₀ env.locals h rest → Q .next { s with heap := h, toks := tk }) :
    wpAny (model prog w) A (pyIter (.ref D)) (fun it s₂ => LoopAtV prog w A h₀ env x body Q E it s₂) E s := by
  refine my_rev rest woNames woStored (fun pre c => goF pre = c.w) ⟨0, t₀⟩ hh hl hI hD F N hk rfl ?_ ?_
  · rintro pre n post t ⟨w₁, tw⟩ u h tk own hpre hJ hoff F₁ N₁
    have hn : n ∈ T := by
      have : n ∈ T.reverse := by rw [hpre]; simp
      exact List.mem_reverse.mp this
    exact turn w₁ n t tw u h tk own pre hJ (hT n hn).1 (hT n hn).2 hoff F₁ N₁
  · rintro ⟨w₁, tw⟩ u h tk hJ F₁ N₁
    rw [goF_rev] at hJ
    dsimp only at hJ
    subst hJ
    exact done tw u h tk F₁ N₁
theorem pl_inner {lm r : Addr} {w₀ : Int} {tw : Tok} {v₀ : Value} {k₀ : Nat} {n : Int} {t₀ u₀ v₁ : Tok} {m₀ : PySem.Str → Option Value} {rest : List (Addr × Obj)}
    (hh : A.handled = none) (h0 : 0 ≤ n) (h1 : n ≤ 20) (hr : IsRange s.heap r 0 n 1 t₀ u₀ v₁) (F : Fr h₀ env.locals s.heap m₀) (N : News h₀ env.locals s.heap ((lm, W.listOf [v₀].toArray k₀) :: rest)) (hI : IntsAre [v₀] [w₀]) (hk : ∀ p ∈ meNames ⟨w₀, tw, [v₀], k₀⟩, m₀ p.1 = some p.2)
    (turn : ∀ (i : Nat) t (w₁ : Int) t₁ (vs : List Value) (k : Nat) (met : List Int) (u : PySem.Str → Option Value) h tk own, (i : Int) < n → IntsAre vs met → met.length ≤ 40 → innerF i ([w₀], w₀) = (met, w₁) → OwnOff own (lm :: rest.map (·.1)) →
      Fr h₀ env.locals h (fun y => if y = x then some (.int (0 + (i : Int)) t) else kstB (fun z => if ([] : List PySem.Str).contains z then u z else m₀ z) (meNames ⟨w₁, t₁, vs, k⟩) y) → News h₀ env.locals h ((lm, W.listOf vs.toArray k) :: (rest ++ own)) →
      wpAny (model prog w) A (execs body env) (MyPost h₀ env.locals (fun c : MeC => [(lm, W.listOf c.vs.toArray c.k)]) rest meNames x [] m₀ badRange (fun c => ∃ met, IntsAre c.vs met ∧ innerF (i + 1) ([w₀], w₀) = (met, c.w)) own { s with heap := h, toks := tk } Q) E { s with heap := h, toks := tk })
    (done : ∀ t₁ (vs : List Value) (k : Nat) (u : PySem.Str → Option Value) h tk, Fr h₀ env.locals h (fun y => if y = x then u y else kstB (fun z => if ([] : List PySem.Str).contains z then u z else m₀ z) (meNames ⟨(innerF n.toNat ([w₀], w₀)).2, t₁, vs, k⟩) y) → News h₀ env.locals h ((lm, W.listOf vs.toArray k) :: rest) → Q .next { s with heap := h, toks := tk }) :
    wpAny (model prog w) A (pyIter (.ref r)) (fun it s₂ => LoopAtV prog w A h₀ env x body Q E it s₂) E s := by
  have hcases : n = 0 ∨ n = 1 ∨ n = 2 ∨ n = 3 ∨ n = 4 ∨ n = 5 ∨ n = 6 ∨ n = 7 ∨ n = 8 ∨ n = 9 ∨ n = 10 ∨ n = 11 ∨ n = 12 ∨ n = 13 ∨ n = 14 ∨ n = 15 ∨ n = 16 ∨ n = 17 ∨ n = 18 ∨ n = 19 ∨ n = 20 := by omega
  have hsm : Builtin.Range.small 0 n 1 = true ∧ Builtin.Range.rangeSize 0 n 1 = (n.toNat : Int) := by
    rcases hcases with h | h | h | h | h | h | h | h | h | h | h | h | h | h | h | h | h | h | h | h | h <;> subst h <;> decide +kernel
  refine my_range (fun c : MeC => [(lm, W.listOf c.vs.toArray c.k)]) rest meNames [] (fun i c => ∃ met, IntsAre c.vs met ∧ innerF i ([w₀], w₀) = (met, c.w)) ⟨w₀, tw, [v₀], k₀⟩ hh hr hsm.1 hsm.2 F N hk ⟨[w₀], hI, rfl⟩ ?_ ?_
  · rintro i t ⟨w₁, t₁, vs, k⟩ u h tk own hi ⟨met, hI', hJ⟩ hoff F₁ N₁
    have hl := innerF_len i ([w₀], w₀)
    rw [hJ] at hl
    simp only [List.length_singleton] at hl
    exact turn i t w₁ t₁ vs k met u h tk own (by omega) hI' (by omega) hJ hoff F₁ N₁
  · rintro ⟨w₁, t₁, vs, k⟩ u h tk ⟨met, hI', hJ⟩ F₁ N₁
    have e : w₁ = (innerF n.toNat ([w₀], w₀)).2 := by rw [hJ]
    subst e
    exact done t₁ vs k u h tk F₁ N₁
theorem pl_while {test : PySem.Expr} {pos : Pos} {m₀ : PySem.Str → Option Value} {met : List Int} {news : List (Addr × Obj)} {t₀ : Tok}
    (F : Fr h₀ env.locals s.heap m₀) (N : News h₀ env.locals s.heap news) (hk : ∀ p ∈ woNames ⟨0, t₀⟩, m₀ p.1 = some p.2)
    (turn : ∀ (w₁ : Int) (t : Tok) (u : PySem.Str → Option Value) h tk, MexJ met w₁ →
      Fr h₀ env.locals h (kstB (fun z => if ([] : List PySem.Str).contains z then u z else m₀ z) (woNames ⟨w₁, t⟩)) → News h₀ env.locals h news →
      wpAny (model prog w) A (isTrue test env (eval test env)) (fun b s₂ =>
        if b = true then wpAny (model prog w) A (execs body env) (KswPost h₀ env.locals s (fun _ : WoC => news) woNames (fun _ => True) [] m₀ (fun c => MexJ met c.w) (fun c => absSum met + 1 - c.w.toNat) Q ⟨w₁, t⟩) E s₂ else Q .next s₂) E { s with heap := h, toks := tk })
    (hE : PassesOwn (model prog w) A env E := by passes_own) :
    wpAny (model prog w) A (exec (.While test body [] pos) env) Q E s := by
  refine ksw_while (fun _ : WoC => news) woNames (fun _ => True) [] (fun c => MexJ met c.w) (fun c => absSum met + 1 - c.w.toNat) ⟨0, t₀⟩ F N trivial hk (mex_start met) ?_ hE
  rintro ⟨w₁, t⟩ u h tk _ hJ F₁ N₁
  exact turn w₁ t u h tk hJ F₁ N₁
end
end Mine
namespace Mine
section
variable {prog : Program} {w : World} {A : Around} {E : Value → Shared → Prop} {s : Shared} {h₀ : Heap} {L : Addr} {news : List (Addr × Obj)} {Q : Value → Shared → Prop}
theorem in_ints {l : Addr} {vs : List Value} {ns : List Int} {n : Nat} {k : Int} {t : Tok} (N : News h₀ L s.heap news) (hm : (l, W.listOf vs.toArray n) ∈ news) (hI : IntsAre vs ns) (h : Q (.bool (decide (k ∈ ns))) s) : wpAny (model prog w) A (compareOp .In (.int k t) (.ref l)) Q E s := by
  refine in_list_ints (News.isList N hm) hI ?_
  have e : ns.any (· == k) = decide (k ∈ ns) := by
    rw [Bool.eq_iff_iff]
    simp
  rw [e]
  exact h
end
end Mine
end
section
open PySem PySem.W PySem.Calls PyProof.Rows PyProof.V PySem.Spec
namespace Mine
/-- the word of a symbol -/
def word2 (k : Nat) : Array UInt8 := #[UInt8.ofNat (65 + k / 16), UInt8.ofNat (65 + k % 16)]
inductive WordsAre : List Value → List Nat → Prop
  | nil : WordsAre [] []
  | cons (k : Nat) (t : Tok) {vs : List Value} {ks : List Nat} : WordsAre vs ks → WordsAre (.bytes (word2 k) t :: vs) (k :: ks)
theorem WordsAre.length {vs : List Value} {ks : List Nat} (h : WordsAre vs ks) : vs.length = ks.length := by
  induction h with
  | nil => rfl
  | cons k t _ ih => simp [ih]
theorem WordsAre.snoc {vs : List Value} {ks : List Nat} (h : WordsAre vs ks) (k : Nat) (t : Tok) : WordsAre (vs ++ [.bytes (word2 k) t]) (ks ++ [k]) := by
  induction h with
  | nil => exact .cons _ _ .nil
  | cons a b _ ih => exact .cons a b ih
/-- a number's symbols, the lowest first -/
def symsR : Nat → Nat → List Nat
  | 0, m => [m]
  | f + 1, m => if m < 256 then [m] else (m % 256) :: symsR f (m / 256)
theorem symsR_lt : ∀ (f m : Nat), m < 256 ^ (f + 1) → ∀ k ∈ symsR f m, k < 256 := by
  intro f
  induction f with
  | zero => intro m h k hk; simp [symsR] at hk; subst hk; simpa using h
  | succ f ih =>
    intro m h k hk
    rw [symsR] at hk
    split at hk
    · simp at hk; omega
    · rcases List.mem_cons.mp hk with e | hk
      · omega
      · exact ih (m / 256) (by rw [Nat.pow_succ] at h; omega) k hk
end Mine
end
section
open PySem PySem.W PySem.Calls PyProof.Rows PyProof.V PySem.Spec
namespace Mine
section
variable {prog : Program} {w : World} {A : Around} {E : Value → Shared → Prop} {s : Shared} {env : Env} {h₀ : Heap} {x : PySem.Str} {body : List Stmt} {Q : Flow → Shared → Prop}
def badList (o : Obj) : Bool := match o.cls with
  | .type "list_iterator" => true
  | _ => false
def badTup (o : Obj) : Bool := match o.cls with
  | .type "tuple_iterator" => true
  | _ => false
/-- a list of the ledger, item by item -/
theorem my_list {σ : Type} {l : Addr} {vs : List Value} {k : Nat} {m₀ : PySem.Str → Option Value} (Var : σ → List (Addr × Obj)) (rest : List (Addr × Obj)) (ps : σ → List (PySem.Str × Value)) (stored : List PySem.Str) (J : Nat → σ → Prop) (c₀ : σ)
    (hh : A.handled = none) (hl : (l, W.listOf vs.toArray k) ∈ rest)
    (F : Fr h₀ env.locals s.heap m₀) (N : News h₀ env.locals s.heap (Var c₀ ++ rest)) (hk : ∀ p ∈ ps c₀, m₀ p.1 = some p.2) (hj : J 0 c₀)
    (turn : ∀ (i : Nat) v (c : σ) (u : PySem.Str → Option Value) h tk own, vs[i]? = some v → J i c → OwnOff own ((Var c ++ rest).map (·.1)) →
      Fr h₀ env.locals h (fun y => if y = x then some v else kstB (fun z => if stored.contains z then u z else m₀ z) (ps c) y) → News h₀ env.locals h (Var c ++ (rest ++ own)) →
      wpAny (model prog w) A (execs body env) (MyPost h₀ env.locals Var rest ps x stored m₀ badList (J (i + 1)) own { s with heap := h, toks := tk } Q) E { s with heap := h, toks := tk })
    (done : ∀ (c : σ) (u : PySem.Str → Option Value) h tk, J vs.length c → Fr h₀ env.locals h (fun y => if y = x then u y else kstB (fun z => if stored.contains z then u z else m₀ z) (ps c) y) → News h₀ env.locals h (Var c ++ rest) → Q .next { s with heap := h, toks := tk }) :
    wpAny (model prog w) A (pyIter (.ref l)) (fun it s₂ => LoopAtV prog w A h₀ env x body Q E it s₂) E s := by
  have hax := N _ (List.mem_append.mpr (.inr hl))
  have hls : s.heap.IsList l vs.toArray := ⟨_, hax.1, rfl, k, rfl⟩
  have hlt := Heap.lt_size hax.1
  have hne : l ≠ s.heap.objs.size := Nat.ne_of_lt hlt
  refine wpAny_pyIter_list hls ?_
  have W := Walks.list (prog := prog) (w := w) hh s.heap.objs.size l hne vs.toArray
  rw [List.size_toArray] at W
  refine my_walk Var rest ps stored badList J c₀ W ?_ ?_ ?_ ?_ ?_ ⟨⟨_, Heap.get?_push_size _ rfl, rfl, rfl⟩, hls.at fun o e => Heap.get?_push_of_some _ e⟩ (F.push _) (fun p hp => ⟨Heap.get?_push_of_some _ (N p hp).1, (N p hp).2⟩) hk hj ?_ done
  · intro hm
    rcases List.mem_cons.mp hm with e | hm
    · exact absurd F.ns.lt (e ▸ Nat.lt_irrefl _)
    · exact hax.2.1 (List.mem_singleton.mp hm).symm
  · intro b hb
    rw [List.mem_singleton.mp hb]
    exact next_is_new F
  · intro p hp hI
    exact absurd (Heap.lt_size (N p hp).1) ((List.mem_singleton.mp hI) ▸ Nat.lt_irrefl _)
  · rintro i h ⟨⟨o, ho, hc, _⟩, _⟩ b hb
    rw [List.mem_singleton.mp hb]
    exact ⟨o, ho, by unfold badList; rw [hc]; rfl⟩
  · intro b hb
    rcases List.mem_cons.mp hb with e | hb
    · exact .inl (e ▸ List.mem_singleton.mpr rfl)
    · exact .inr (.inr ⟨_, (List.mem_singleton.mp hb) ▸ hl⟩)
  · rintro i v c u h tk own hi hP hJ hoff F₁ N₁
    exact turn i v c u h tk own (by simpa using hP) hJ hoff F₁ N₁
/-- a tuple of the ledger, item by item -/
theorem my_tup {σ : Type} {l : Addr} {vs : List Value} {m₀ : PySem.Str → Option Value} (Var : σ → List (Addr × Obj)) (rest : List (Addr × Obj)) (ps : σ → List (PySem.Str × Value)) (stored : List PySem.Str) (J : Nat → σ → Prop) (c₀ : σ)
    (hh : A.handled = none) (hl : (l, tupO vs) ∈ rest)
    (F : Fr h₀ env.locals s.heap m₀) (N : News h₀ env.locals s.heap (Var c₀ ++ rest)) (hk : ∀ p ∈ ps c₀, m₀ p.1 = some p.2) (hj : J 0 c₀)
    (turn : ∀ (i : Nat) v (c : σ) (u : PySem.Str → Option Value) h tk own, vs[i]? = some v → J i c → OwnOff own ((Var c ++ rest).map (·.1)) →
      Fr h₀ env.locals h (fun y => if y = x then some v else kstB (fun z => if stored.contains z then u z else m₀ z) (ps c) y) → News h₀ env.locals h (Var c ++ (rest ++ own)) →
      wpAny (model prog w) A (execs body env) (MyPost h₀ env.locals Var rest ps x stored m₀ badTup (J (i + 1)) own { s with heap := h, toks := tk } Q) E { s with heap := h, toks := tk })
    (done : ∀ (c : σ) (u : PySem.Str → Option Value) h tk, J vs.length c → Fr h₀ env.locals h (fun y => if y = x then u y else kstB (fun z => if stored.contains z then u z else m₀ z) (ps c) y) → News h₀ env.locals h (Var c ++ rest) → Q .next { s with heap := h, toks := tk }) :
    wpAny (model prog w) A (pyIter (.ref l)) (fun it s₂ => LoopAtV prog w A h₀ env x body Q E it s₂) E s := by
  have hax := N _ (List.mem_append.mpr (.inr hl))
  have hls : s.heap.IsTuple l vs.toArray := ⟨_, hax.1, rfl, 0, rfl⟩
  have hlt := Heap.lt_size hax.1
  have hne : l ≠ s.heap.objs.size := Nat.ne_of_lt hlt
  refine wpAny_pyIter_tuple hls ?_
  have W := Walks.tuple (prog := prog) (w := w) hh s.heap.objs.size l hne vs.toArray
  rw [List.size_toArray] at W
  refine my_walk Var rest ps stored badTup J c₀ W ?_ ?_ ?_ ?_ ?_ ⟨⟨_, Heap.get?_push_size _ rfl, rfl, rfl⟩, ⟨_, Heap.get?_push_of_some _ hax.1, rfl, 0, rfl⟩⟩ (F.push _) (fun p hp => ⟨Heap.get?_push_of_some _ (N p hp).1, (N p hp).2⟩) hk hj ?_ done
  · intro hm
    rcases List.mem_cons.mp hm with e | hm
    · exact absurd F.ns.lt (e ▸ Nat.lt_irrefl _)
    · exact hax.2.1 (List.mem_singleton.mp hm).symm
  · intro b hb
    rw [List.mem_singleton.mp hb]
    exact next_is_new F
  · intro p hp hI
    exact absurd (Heap.lt_size (N p hp).1) ((List.mem_singleton.mp hI) ▸ Nat.lt_irrefl _)
  · rintro i h ⟨⟨o, ho, hc, _⟩, _⟩ b hb
    rw [List.mem_singleton.mp hb]
    exact ⟨o, ho, by unfold badTup; rw [hc]; rfl⟩
  · intro b hb
    rcases List.mem_cons.mp hb with e | hb
    · exact .inl (e ▸ List.mem_singleton.mpr rfl)
    · exact .inr (.inr ⟨_, (List.mem_singleton.mp hb) ▸ hl⟩)
  · rintro i v c u h tk own hi hP hJ hoff F₁ N₁
    exact turn i v c u h tk own (by simpa using hP) hJ hoff F₁ N₁
end
end Mine
end
section
open PySem PySem.W PySem.Calls PyProof.Rows PyProof.V PySem.Spec
namespace Mine
section
variable {prog : Program} {w : World} {A : Around} {E : Value → Shared → Prop} {s : Shared} {h₀ : Heap} {L : Addr} {m : PySem.Str → Option Value} {news : List (Addr × Obj)} {Q : Value → Shared → Prop} {t u : Tok} {n : Nat} {b : Int}
theorem nat_div (k : Nat) (hk : b = (k : Int)) (h0 : 0 < k) (h1 : k ≤ 65536) (h : ∀ t k', Q (.int ((n / k : Nat) : Int) t) { s with toks := k' }) : wpAny (model prog w) A (binaryOp .FloorDiv (.int (n : Int) t) (.int b u)) Q E s := by
  subst hk
  refine PyProof.Rows.floordiv_int (by omega) ?_ (hp := Or.inl (PyProof.noPylong_small (by omega)))
  have e : Int.fdiv (n : Int) (k : Int) = ((n / k : Nat) : Int) := by
    rw [Int.fdiv_eq_ediv_of_nonneg _ (by omega)]; rfl
  rw [e]
  exact h _ _
theorem nat_mod (k : Nat) (hk : b = (k : Int)) (h0 : 0 < k) (h : ∀ t k', Q (.int ((n % k : Nat) : Int) t) { s with toks := k' }) : wpAny (model prog w) A (binaryOp .Mod (.int (n : Int) t) (.int b u)) Q E s := by
  subst hk
  refine PyProof.Rows.mod_int (by omega) ?_
  have e : Int.fmod (n : Int) (k : Int) = ((n % k : Nat) : Int) := by
    rw [Int.fmod_eq_emod_of_nonneg _ (by omega)]; rfl
  rw [e]
  exact h _ _
theorem bytes_word {l : Addr} {n : Nat} {k : Nat} {ta tb : Tok} (F : Fr h₀ L s.heap m) (N : News h₀ L s.heap news) (hm : (l, W.listOf [.int (65 + ((k / 16 : Nat) : Int)) ta, .int (65 + ((k % 16 : Nat) : Int)) tb].toArray n) ∈ news) (hk : k < 256) (hh : A.handled = none)
    (h : ∀ t h' k', Fr h₀ L h' m → News h₀ L h' news → Q (.bytes (word2 k) t) { s with heap := h', toks := k' }) : wpAny (model prog w) A (call (.type "bytes") [.ref l]) Q E s := by
  refine bytes_K F N (News.isList N hm) (.cons _ _ (.cons _ _ .nil)) ?_ (by rw [sizeLine_eq]; simp) hh fun h' t k' F' N' _ => ?_
  · intro x hx
    simp only [List.mem_cons, List.not_mem_nil, or_false] at hx
    rcases hx with rfl | rfl <;> omega
  · have e : ([65 + ((k / 16 : Nat) : Int), 65 + ((k % 16 : Nat) : Int)].map fun n => n.toNat.toUInt8).toArray = word2 k := by
      have e1 : (65 + ((k / 16 : Nat) : Int)).toNat = 65 + k / 16 := by omega
      have e2 : (65 + ((k % 16 : Nat) : Int)).toNat = 65 + k % 16 := by omega
      simp only [List.map_cons, List.map_nil, e1, e2]
      rfl
    rw [e]
    exact h _ _ _ F' N'
end
def dueL (n : Nat) : Nat → List Nat
  | 0 => []
  | 1 => [n % 256]
  | 2 => [n % 256] ++ (if 256 ≤ n then [n / 256 % 256] else [])
  | _ => [n % 256] ++ (if 256 ≤ n then [n / 256 % 256] else []) ++ (if 65536 ≤ n then [n / 65536 % 256] else [])
theorem due_all {n : Nat} (h : n < 2 ^ 24) : dueL n 3 = symsR 2 n := by
  unfold dueL symsR symsR symsR
  by_cases h1 : n < 256
  · rw [if_pos h1, if_neg (by omega), if_neg (by omega)]
    simp only [List.append_nil]
    rw [Nat.mod_eq_of_lt h1]
  · rw [if_neg h1, if_pos (by omega)]
    by_cases h2 : n / 256 < 256
    · rw [if_pos h2, if_neg (by omega), Nat.mod_eq_of_lt h2]; rfl
    · rw [if_neg h2, if_pos (by omega)]
      have e : n / 65536 % 256 = n / 256 / 256 := by omega
      rw [e]; rfl
structure DuC where
  vs : List Value
  k : Nat
abbrev duStored : List PySem.Str := [PySem.Str.ofString "symbol"]
section
variable {prog : Program} {w : World} {A : Around} {E : Value → Shared → Prop} {s : Shared} {env : Env} {h₀ : Heap} {x : PySem.Str} {body : List Stmt} {Q : Flow → Shared → Prop}
theorem due_loop {l d : Addr} {n : Nat} {t₁ t₂ t₃ : Tok} {m₀ : PySem.Str → Option Value} {rest : List (Addr × Obj)}
    (hh : A.handled = none) (F : Fr h₀ env.locals s.heap m₀) (N : News h₀ env.locals s.heap ((d, tupO [.int 1 t₁, .int 256 t₂, .int 65536 t₃]) :: (l, W.listOf #[] 0) :: rest))
    (turn : ∀ (i : Nat) (sh : Nat) t (vs : List Value) (k : Nat) (u : PySem.Str → Option Value) h tk own, (i = 0 ∧ sh = 1 ∨ i = 1 ∧ sh = 256 ∨ i = 2 ∧ sh = 65536) → vs.length ≤ 10 → WordsAre vs (dueL n i) → OwnOff own (l :: d :: rest.map (·.1)) →
      Fr h₀ env.locals h (fun y => if y = x then some (.int (sh : Int) t) else if duStored.contains y then u y else m₀ y) → News h₀ env.locals h ((l, W.listOf vs.toArray k) :: ((d, tupO [.int 1 t₁, .int 256 t₂, .int 65536 t₃]) :: rest ++ own)) →
      wpAny (model prog w) A (execs body env) (MyPost h₀ env.locals (fun c : DuC => [(l, W.listOf c.vs.toArray c.k)]) ((d, tupO [.int 1 t₁, .int 256 t₂, .int 65536 t₃]) :: rest) (fun _ => []) x duStored m₀ badTup (fun c => WordsAre c.vs (dueL n (i + 1))) own { s with heap := h, toks := tk } Q) E { s with heap := h, toks := tk })
    (done : ∀ (vs : List Value) (k : Nat) (u : PySem.Str → Option Value) h tk, WordsAre vs (dueL n 3) → Fr h₀ env.locals h (fun y => if y = x then u y else if duStored.contains y then u y else m₀ y) → News h₀ env.locals h ((l, W.listOf vs.toArray k) :: (d, tupO [.int 1 t₁, .int 256 t₂, .int 65536 t₃]) :: rest) → Q .next { s with heap := h, toks := tk }) :
    wpAny (model prog w) A (pyIter (.ref d)) (fun it s₂ => LoopAtV prog w A h₀ env x body Q E it s₂) E s := by
  refine my_tup (vs := [.int 1 t₁, .int 256 t₂, .int 65536 t₃]) (fun c : DuC => [(l, W.listOf c.vs.toArray c.k)]) ((d, tupO [.int 1 t₁, .int 256 t₂, .int 65536 t₃]) :: rest) (fun _ => []) duStored (fun i c => WordsAre c.vs (dueL n i)) ⟨[], 0⟩ hh (.head _) F ?_ (List.forall_mem_nil _) .nil ?_ ?_
  · intro p hp
    refine N p ?_
    rcases List.mem_cons.mp hp with h | h
    · exact h ▸ .tail _ (.head _)
    · rcases List.mem_cons.mp h with h | h
      · exact h ▸ .head _
      · exact .tail _ (.tail _ h)
  · rintro i v ⟨vs, k⟩ u h tk own hv hJ hoff F₁ N₁
    have hlen : vs.length ≤ 10 := by
      have := WordsAre.length hJ
      have h3 : ∀ j, (dueL n j).length ≤ 3 := by
        intro j
        unfold dueL
        split <;> simp only [List.length_append, List.length_nil, List.length_singleton] <;> (repeat' split) <;> simp
      have := h3 i
      dsimp only at *
      omega
    match i, hv with
    | 0, hv =>
      simp only [List.getElem?_cons_zero, Option.some.injEq] at hv
      subst hv
      exact turn 0 1 t₁ vs k u h tk own (by simp) hlen hJ hoff F₁ N₁
    | 1, hv =>
      simp only [List.getElem?_cons_succ, List.getElem?_cons_zero, Option.some.injEq] at hv
      subst hv
      exact turn 1 256 t₂ vs k u h tk own (by simp) hlen hJ hoff F₁ N₁
    | 2, hv =>
      simp only [List.getElem?_cons_succ, List.getElem?_cons_zero, Option.some.injEq] at hv
      subst hv
      exact turn 2 65536 t₃ vs k u h tk own (by simp) hlen hJ hoff F₁ N₁
    | i + 3, hv => simp at hv
  · rintro ⟨vs, k⟩ u h tk hJ F₁ N₁
    exact done vs k u h tk hJ F₁ N₁
end
end Mine
namespace Mine
theorem due_yes {n i sh : Nat} (h : i = 0 ∧ sh = 1 ∨ i = 1 ∧ sh = 256 ∨ i = 2 ∧ sh = 65536) (hs : i = 0 ∨ sh ≤ n) : dueL n (i + 1) = dueL n i ++ [n / sh % 256] := by
  rcases h with ⟨rfl, rfl⟩ | ⟨rfl, rfl⟩ | ⟨rfl, rfl⟩
  · simp [dueL]
  · have : 256 ≤ n := by omega
    simp [dueL, this]
  · have : 65536 ≤ n := by omega
    have h2 : 256 ≤ n := by omega
    simp [dueL, this, h2]
theorem due_no {n i sh : Nat} (h : i = 1 ∧ sh = 256 ∨ i = 2 ∧ sh = 65536) (hs : ¬ sh ≤ n) : dueL n (i + 1) = dueL n i := by
  rcases h with ⟨rfl, rfl⟩ | ⟨rfl, rfl⟩
  · simp [dueL, hs]
  · by_cases h2 : 256 ≤ n <;> simp [dueL, hs, h2]
end Mine
end
section
open PySem PySem.W PySem.Calls PyProof.Rows PyProof.V PySem.Spec
namespace Mine
theorem last2 {b : Array UInt8} {xs : List UInt8} {x y : UInt8} (h : b.toList = xs ++ [x, y]) : KBy.picked b (some (-2)) none = #[x, y] := by
  have hs : b.size = xs.length + 2 := by rw [← Array.length_toList, h]; simp
  rw [KBc.picked_eq]
  have e : clipAt b.size (-2) = xs.length := by
    unfold clipAt
    rw [hs]
    simp only [show ((-2 : Int) < 0) from by decide, if_true]
    omega
  rw [hs] at e
  simp only [Option.elim, hs, e, h]
  simp
theorem word2_is (k : Nat) : word2 k = #[UInt8.ofNat (65 + k / 16), UInt8.ofNat (65 + k % 16)] := rfl
theorem ap_two {m : Nat} (h : 16 ≤ m) : apL m = apL (m / 256) ++ [UInt8.ofNat (65 + m / 16 % 16), UInt8.ofNat (65 + m % 16)] := by
  rw [apL_pos (n := m) (by omega), apL_pos (n := m / 16) (by omega), show m / 16 / 16 = m / 256 by omega]
  simp
theorem kept_high {m : Nat} (h : 256 ≤ m) : KBy.picked (apL m).toArray (some (-2)) none = word2 (m % 256) := by
  rw [last2 (xs := apL (m / 256)) (x := UInt8.ofNat (65 + m / 16 % 16)) (y := UInt8.ofNat (65 + m % 16)) (by rw [← ap_two (by omega)]), word2_is]
  rw [show m % 256 / 16 = m / 16 % 16 by omega, show m % 256 % 16 = m % 16 by omega]
theorem kept_low {m : Nat} (h : m < 256) : KBy.picked (#[65, 65] ++ (apL m).toArray) (some (-2)) none = word2 m := by
  by_cases h16 : 16 ≤ m
  · rw [last2 (xs := [65, 65]) (x := UInt8.ofNat (65 + m / 16 % 16)) (y := UInt8.ofNat (65 + m % 16)) ?_, word2_is, show m / 16 % 16 = m / 16 by omega]
    rw [Array.toList_append, ap_two h16, show m / 256 = 0 by omega, apL_zero]; rfl
  · by_cases h0 : m = 0
    · subst h0
      rw [apL_zero]
      exact last2 (xs := []) (x := 65) (y := 65) rfl
    · rw [last2 (xs := [65]) (x := 65) (y := UInt8.ofNat (65 + m % 16)) ?_, word2_is, show m / 16 = 0 by omega]
      · rfl
      · rw [Array.toList_append, apL_pos h0, show m / 16 = 0 by omega, apL_zero]; rfl
section
variable {prog : Program} {w : World} {A : Around} {E : Value → Shared → Prop} {s : Shared} {value slice : PySem.Expr} {t : Tok} {h₀ : Heap} {L : Addr} {mm : PySem.Str → Option Value} {news : List (Addr × Obj)} {l u : Value} {Q : Value → Shared → Prop} {m : Nat}
theorem slice_high (hF : Fr h₀ L s.heap mm) (hN : News h₀ L s.heap news) (hl : IsPart l (some (-2))) (hu : IsPart u none) (h1 : 256 ≤ m) (h2 : m < 2 ^ 24)
    (h : ∀ h' t' k, Fr h₀ L h' mm → News h₀ L h' news → Q (.bytes (word2 (m % 256)) t') { s with heap := h', toks := k })
    (hs : subscripted slice false (.bytes (apL (-(m : Int)).natAbs).toArray t) (.ref s.heap.objs.size) = operate [.ref s.heap.objs.size, .bytes (apL (-(m : Int)).natAbs).toArray t] (getItem (.bytes (apL (-(m : Int)).natAbs).toArray t) (.ref s.heap.objs.size)) := by with_unfolding_all rfl)
    (ht : ∀ r, letTemporaryGo value (.bytes (apL (-(m : Int)).natAbs).toArray t) r = pure () := by intro _; with_unfolding_all rfl) :
    wpAny (model prog w) A (subscriptTail value slice (.bytes (apL (-(m : Int)).natAbs).toArray t) (.ref s.heap.objs.size)) Q E { s with heap := s.heap.push { cls := .type "slice", data := .fields #[l, u, .none] } } := by
  have hz : (-(m : Int)).natAbs = m := by omega
  refine my_slice hF hN hl hu ?_ ?_ hs ht
  · have := apL_len 6 (-(m : Int)).natAbs (by omega)
    rw [List.size_toArray]; omega
  · rw [hz, kept_high h1]; exact h
theorem slice_low (hF : Fr h₀ L s.heap mm) (hN : News h₀ L s.heap news) (hl : IsPart l (some (-2))) (hu : IsPart u none) (h1 : m < 256)
    (h : ∀ h' t' k, Fr h₀ L h' mm → News h₀ L h' news → Q (.bytes (word2 m) t') { s with heap := h', toks := k })
    (hs : subscripted slice false (.bytes (#[65, 65] ++ (apL ((m : Int)).natAbs).toArray) t) (.ref s.heap.objs.size) = operate [.ref s.heap.objs.size, .bytes (#[65, 65] ++ (apL ((m : Int)).natAbs).toArray) t] (getItem (.bytes (#[65, 65] ++ (apL ((m : Int)).natAbs).toArray) t) (.ref s.heap.objs.size)) := by with_unfolding_all rfl)
    (ht : ∀ r, letTemporaryGo value (.bytes (#[65, 65] ++ (apL ((m : Int)).natAbs).toArray) t) r = pure () := by intro _; with_unfolding_all rfl) :
    wpAny (model prog w) A (subscriptTail value slice (.bytes (#[65, 65] ++ (apL ((m : Int)).natAbs).toArray) t) (.ref s.heap.objs.size)) Q E { s with heap := s.heap.push { cls := .type "slice", data := .fields #[l, u, .none] } } := by
  have hz : ((m : Int)).natAbs = m := by omega
  refine my_slice hF hN hl hu ?_ ?_ hs ht
  · have := apL_len 6 ((m : Int)).natAbs (by omega)
    have e : (apL ((m : Int)).natAbs).toArray.size = (apL ((m : Int)).natAbs).length := List.size_toArray
    rw [Array.size_append, e]
    show 2 + _ ≤ _
    omega
  · rw [hz, kept_low h1]; exact h
theorem add_AA {z : Int} {t u : Tok} (hz : z.natAbs < 2 ^ 24) (h : ∀ t' k, Q (.bytes (#[65, 65] ++ (apL z.natAbs).toArray) t') { s with toks := k }) : wpAny (model prog w) A (binaryOp .Add (.bytes #[65, 65] t) (.bytes (apL z.natAbs).toArray u)) Q E s := by
  refine KBy.add_bytes ?_ h
  have := apL_len 6 z.natAbs (by omega)
  have e : (apL z.natAbs).toArray.size = (apL z.natAbs).length := List.size_toArray
  rw [e]
  show 2 + _ ≤ _
  omega
theorem words_len {a : Addr} {vs : List Value} {n : Nat} (N : News h₀ L s.heap news) (hm : (a, W.listOf vs.toArray n) ∈ news) (hz : vs.length ≤ 100) (h : ∀ t k, Q (.int (vs.length : Nat) t) { s with toks := k }) : wpAny (model prog w) A (call (.builtin "len") [.ref a]) Q E s := by
  refine KM.len_K (n := vs.length) N hm (by simp) (by omega) (h _ _)
end
structure KeC where
  num : Int
  t : Tok
  vs : List Value
  k : Nat
abbrev keNames (c : KeC) : List (PySem.Str × Value) := [(PySem.Str.ofString "number", .int c.num c.t)]
def KeJ (T : List Nat) (c : KeC) : Prop := ∃ (done : List Nat) (f m : Nat), WordsAre c.vs done ∧ c.num = m ∧ done.length + f = 2 ∧ m < 256 ^ (f + 1) ∧ done ++ symsR f m = T
section
variable {prog : Program} {w : World} {A : Around} {E : Value → Shared → Prop} {s : Shared} {env : Env} {h₀ : Heap} {body : List Stmt} {Q : Flow → Shared → Prop}
theorem ke_while {test : PySem.Expr} {pos : Pos} {m₀ : PySem.Str → Option Value} {T : List Nat} {l : Addr} {rest : List (Addr × Obj)} {n : Nat} {t₀ : Tok}
    (F : Fr h₀ env.locals s.heap m₀) (N : News h₀ env.locals s.heap ((l, W.listOf #[] 0) :: rest)) (hk : ∀ p ∈ keNames ⟨(n : Int), t₀, [], 0⟩, m₀ p.1 = some p.2) (hn : n < 2 ^ 24) (hT : symsR 2 n = T)
    (turn : ∀ (m f : Nat) (t : Tok) (vs : List Value) (k : Nat) (dn : List Nat) (u : PySem.Str → Option Value) h tk, WordsAre vs dn → dn.length + f = 2 → m < 256 ^ (f + 1) → m < 2 ^ 24 → dn ++ symsR f m = T →
      Fr h₀ env.locals h (kstB (fun z => if ([] : List PySem.Str).contains z then u z else m₀ z) (keNames ⟨(m : Int), t, vs, k⟩)) → News h₀ env.locals h ((l, W.listOf vs.toArray k) :: rest) →
      wpAny (model prog w) A (isTrue test env (eval test env)) (fun b s₂ =>
        if b = true then wpAny (model prog w) A (execs body env) (KswPost h₀ env.locals s (fun c : KeC => (l, W.listOf c.vs.toArray c.k) :: rest) keNames (fun _ => True) [] m₀ (KeJ T) (fun c => c.num.toNat) Q ⟨(m : Int), t, vs, k⟩) E s₂ else Q .next s₂) E { s with heap := h, toks := tk })
    (hE : PassesOwn (model prog w) A env E := by passes_own) :
    wpAny (model prog w) A (exec (.While test body [] pos) env) Q E s := by
  refine ksw_while (fun c : KeC => (l, W.listOf c.vs.toArray c.k) :: rest) keNames (fun _ => True) [] (KeJ T) (fun c => c.num.toNat) ⟨(n : Int), t₀, [], 0⟩ F N trivial hk ⟨[], 2, n, .nil, rfl, rfl, by omega, hT⟩ ?_ hE
  rintro ⟨num, t, vs, k⟩ u h tk _ ⟨dn, f, m, hW, hm, h1, h2, h3⟩ F₁ N₁
  dsimp only at hm hW F₁ N₁ ⊢
  subst hm
  have h4 : m < 2 ^ 24 := by
    have : f = 0 ∨ f = 1 ∨ f = 2 := by omega
    rcases this with rfl | rfl | rfl <;> omega
  exact turn m f t vs k dn u h tk hW h1 h2 h4 h3 F₁ N₁
end
theorem ke_turn {T : List Nat} {vs : List Value} {k f m : Nat} {dn : List Nat} {t t' : Tok} (hW : WordsAre vs dn) (h1 : dn.length + f = 2) (h2 : m < 256 ^ (f + 1)) (h3 : dn ++ symsR f m = T) (hm : 256 ≤ m) :
    KeJ T ⟨((m / 256 : Nat) : Int), t', vs ++ [.bytes (word2 (m % 256)) t], k⟩ := by
  obtain ⟨f', rfl⟩ : ∃ f', f = f' + 1 := by
    cases f with
    | zero => simp at h2; omega
    | succ f => exact ⟨f, rfl⟩
  refine ⟨dn ++ [m % 256], f', m / 256, hW.snoc _ _, rfl, by simp; omega, by rw [Nat.pow_succ] at h2; omega, ?_⟩
  rw [symsR, if_neg (by omega)] at h3
  rw [List.append_assoc]
  exact h3
theorem ke_stop {T : List Nat} {f m : Nat} {dn : List Nat} (h3 : dn ++ symsR f m = T) (hm : m < 256) : dn ++ [m] = T := by
  cases f with
  | zero => exact h3
  | succ f => rw [symsR, if_pos hm] at h3; exact h3
end Mine
end
section
open PySem PySem.W PySem.Calls PyProof.Rows PyProof.Rows.LCg PyProof.V PySem.Spec
set_option maxHeartbeats 2000000
namespace Mine
section
variable {prog : Program} {w : World} {A : Around} {E : Value → Shared → Prop} {s : Shared} {h₀ : Heap} {L : Addr} {m : PySem.Str → Option Value} {env : Env}
/-- the turns of a list comprehension over pairs, by an invariant J of what is gathered and of the ledger -/
theorem cp_core {elt iter : PySem.Expr} {x x₂ : PySem.Str} {px px₂ tp : Pos} {tk} {scope : Scope} {cl : List (PySem.Str × Addr)} {pos : Pos} {I : Addr} {fp : List Addr} {n : Nat} {P : Nat → Value → Prop} {St : Nat → Heap → Prop} {news : List (Addr × Obj)}
    (J : Nat → List Value → List (Addr × Obj) → Prop) {RR : Value → Addr → Result → Shared → Prop}
    (W : Walks prog w A I fp [I] n P St) (hsz : n ≤ sizeLine) (hh : A.handled = none)
    (hown : ∀ i (s : Shared) (T : Addr) (Q : Unit → Shared → Prop) (E : Value → Shared → Prop), St i s.heap → Q () s → wpAny (model prog w) A (letOwnedTupleGo (.Tuple [.Name x px, .Name x₂ px₂] tk tp) (.ref I) (.ref T)) Q E s)
    (hIo : ∀ i h, St i h → ∃ o, h.get? I = some o)
    (hfp : ∀ b ∈ fp, b = I ∨ (∃ o, h₀.get? b = some o) ∨ ∃ o, ∀ i ys nx, J i ys nx → (b, o) ∈ nx)
    (hcell : ∀ y ∈ scope.names, y.2 ≠ .cell) (hkind : scope.kind = .function) (hx : scope.names.lookup x = some .local) (hx₂ : scope.names.lookup x₂ = some .local) (hxx : x ≠ x₂)
    (hst : St 0 s.heap) (hlt : ∀ b ∈ fp, b < s.heap.objs.size) (F : Fr h₀ L s.heap m) (N : News h₀ L s.heap news) (hIL : L ≠ I) (hI₀ : h₀.get? I = none) (off : ∀ p ∈ news, p.1 ≠ I) (hj : J 0 [] news)
    (turn : ∀ i v ys nx, i < n → P i v → ys.length = i → J i ys nx → ∃ t v₁ v₂, v = .ref t ∧ (t, tupO [v₁, v₂]) ∈ nx ∧
      ∀ oI C oC D m₂ h tk (E' : Value → Shared → Prop), NsObj oC m₂ → m₂ x = some v₁ → m₂ x₂ = some v₂ → Fr h₀ L h m → News h₀ L h ((I, oI) :: (C, oC) :: (D, lst ys) :: nx) → Off3 I C D nx → ((@Ne Nat I C) ∧ (@Ne Nat I D) ∧ (@Ne Nat C D)) →
        wpAny (model prog w) A (eval elt (compEnvC scope cl C env)) (CompEnd h₀ L m { s with heap := h, toks := tk } I oI C oC D (lst ys) (fun _ => True) (fun y nx' => J (i + 1) (ys ++ [y]) nx')) E' { s with heap := h, toks := tk })
    (done : ∀ D C h tk m' ys nx, J n ys nx → ys.length = n → Fr h₀ L h m → News h₀ L h ((D, lst ys) :: nx) → h.Ns C m' → h₀.get? C = none → h₀.get? D = none → C ≠ L → D ≠ L → C ≠ D → (∀ p ∈ nx, p.1 ≠ C ∧ p.1 ≠ D) → RR (.ref D) C (.ok .next) { s with heap := h, toks := tk }) :
    wpAny (model prog w) A (newList []) (fun acc s₃ => wpAny (model prog w) A (newFunctionEnv scope env.globals cl [] env.qual none .none (some env)) (fun cenv s₄ =>
      codeAny (model prog w) A (.compStart (.ListComp elt [⟨.Tuple [.Name x px, .Name x₂ px₂] tk tp, iter, [], 0⟩] scope pos) 0 (.ref I) acc { cenv with scope := relabel scope env }) (RR acc cenv.locals) s₄) E s₃) E s := by
  refine wpAny_newObj_type (wpAny_newFunctionEnv hcell (by intro y hy; simp at hy) (fun h₁ hns₁ hsb₁ => ?_) hkind)
  dsimp only at hns₁ hsb₁ ⊢
  have hIf : I ∈ fp := W.sub I (List.mem_singleton.mpr rfl)
  -- the two new objects: the list that gathers, the block's names
  obtain ⟨D, hD⟩ : ∃ D, D = s.heap.objs.size := ⟨_, rfl⟩
  generalize hH : s.heap.push { cls := .type "list", dict := none, data := .seq ([] : List Value).toArray } = H at hns₁ hsb₁ ⊢
  obtain ⟨C, hC⟩ : ∃ C, C = H.objs.size := ⟨_, rfl⟩
  have hCD : C = D + 1 := by rw [hC, ← hH, Heap.size_push, hD]
  have young : ∀ b o, s.heap.get? b = some o → b ≠ D ∧ b ≠ C := fun b o e => by
    have := Heap.lt_size e
    have h1 : @LT.lt Nat _ b D := by rw [hD]; exact this
    exact ⟨Nat.ne_of_lt h1, Nat.ne_of_lt (by rw [hCD]; omega)⟩
  have none₀ : ∀ b, (∀ o, s.heap.get? b ≠ some o) → h₀.get? b = none := fun b hb => by
    cases e : h₀.get? b with
    | none => rfl
    | some o => exact absurd (F.keep b o e) (hb o)
  have hD₀ : h₀.get? D = none := none₀ D fun o e => (young D o e).1 rfl
  have hC₀ : h₀.get? C = none := none₀ C fun o e => (young C o e).2 rfl
  obtain ⟨oL, hoL⟩ : ∃ o, s.heap.get? L = some o := let ⟨o, _, _, e, _⟩ := F.ns; ⟨o, e⟩
  obtain ⟨oI₀, hoI₀⟩ := hIo _ _ hst
  have hDL : D ≠ L := Ne.symm (young L _ hoL).1
  have hCL : C ≠ L := Ne.symm (young L _ hoL).2
  have hID : I ≠ D := (young I _ hoI₀).1
  have hIC : I ≠ C := (young I _ hoI₀).2
  have hDC : D ≠ C := by rw [hCD]; exact Nat.ne_of_lt (Nat.lt_succ_self _)
  have hDf : D ∉ fp := fun hm => Nat.lt_irrefl D (by have := hlt D hm; rw [← hD] at this; exact this)
  have hCf : C ∉ fp := fun hm => by have := hlt C hm; rw [← hD, hCD] at this; exact Nat.lt_irrefl D (Nat.lt_of_succ_lt this)
  rw [← hC] at hns₁ hsb₁ ⊢
  have kept₁ : ∀ b o, s.heap.get? b = some o → h₁.get? b = some o := fun b o e => hsb₁.extBut b o (young b o e).2 (Heap.get?_push_of_some _ (hH ▸ Heap.get?_push_of_some _ e))
  have accD : h₁.get? D = some (lst []) := hsb₁.extBut _ _ hDC (Heap.get?_push_of_some _ (by rw [hD]; exact hH ▸ Heap.get?_push_size _ rfl))
  -- the loop
  have loop : ∀ s₃ : Shared, s₃ = { s with heap := h₁, toks := s.toks + ([] : List (PySem.Str × Value)).length } →
      codeAny (model prog w) A (.compLoop (.ListComp elt [⟨.Tuple [.Name x px, .Name x₂ px₂] tk tp, iter, [], 0⟩] scope pos) 0 (.ref I) (.ref D) (compEnvC scope cl C env)) (RR (.ref D) C) s₃ := by
    rintro s₃ rfl
    refine LCp.codeAny_compLoop_pair (fun k s' => ∃ h' tk i ys m' nx, s' = { s with heap := h', toks := tk } ∧ i ≤ n ∧ k = n + 1 - i ∧ ys.length = i ∧ St i h' ∧ Fr h₀ L h' m ∧ h'.Ns C m' ∧ News h₀ L h' ((D, lst ys) :: nx) ∧ (∀ p ∈ nx, p.1 ≠ I ∧ p.1 ≠ C ∧ p.1 ≠ D) ∧ J i ys nx) ?_ (n + 1)
      ⟨h₁, _, 0, [], _, news, rfl, Nat.zero_le _, rfl, rfl, W.frame _ _ _ hst fun b _ o e => kept₁ b o e, F.keeps kept₁, hns₁, ?_, ?_, hj⟩
    · rintro k s' ⟨h', tk', i, ys, m', nx, rfl, hi, rfl, hyl, hst', F', hn', N', off', hJ⟩
      by_cases hin : i < n
      · refine W.item i _ _ _ hin hst' fun v h₂ tk₂ hPv hst₂ hk₂ => ?_
        obtain ⟨t, v₁, v₂, rfl, hmt, go⟩ := turn i v ys nx hin hPv hyl hJ
        have N₂ : News h₀ L h₂ ((D, lst ys) :: nx) := news_but N' hk₂ fun p hp => by
          rcases List.mem_cons.mp hp with rfl | hp
          · exact Ne.symm hID
          · exact (off' p hp).1
        have ht : IsTup h₂ t [v₁, v₂].toArray := ⟨_, (N₂ _ (List.mem_cons_of_mem _ hmt)).1, rfl, 0, rfl⟩
        refine hown _ _ _ _ _ hst₂ ?_
        refine assign_Tuple_tuple hh ht rfl rfl fun h₅ he => ?_
        have he' : ∀ b o, h₂.get? b = some o → h₅.get? b = some o := fun b o e => he b o (Nat.ne_of_lt (Heap.lt_size e)) e
        have nC : h₅.Ns C m' := (hn'.at' fun o e => hk₂ _ o (by simpa using Ne.symm hIC) e).at' fun o e => he' _ o e
        refine assignInOrder_cons (wpAny_assign_Name (wpAny_storeName_local (lookup_relabel_local hx) nC (fun h₆ hn₆ hs₆ => ?_) (by simp [compEnvC, relabel, hkind])))
        refine assignInOrder_cons (wpAny_assign_Name (wpAny_storeName_local (lookup_relabel_local hx₂) hn₆ (fun h₃ hn₃ hs₃ => ?_) (by simp [compEnvC, relabel, hkind])))
        refine assignInOrder_nil ?_
        have kept₃ : ∀ b o, b ≠ C → h₂.get? b = some o → h₃.get? b = some o := fun b o hb e => hs₃.extBut b o hb (hs₆.extBut b o hb (he' b o e))
        have hst₃ : St (i + 1) h₃ := W.frame _ _ _ hst₂ fun b hb o e => kept₃ b o (fun q => hCf (q ▸ hb)) e
        obtain ⟨oI, heI⟩ := hIo _ _ hst₃
        obtain ⟨oC, heC, hoC⟩ := ns_obj hn₃
        have F₃ : Fr h₀ L h₃ m := (((fr_but F' hk₂ hIL hI₀).keeps he').change hs₆ hCL hC₀).change hs₃ hCL hC₀
        have N₃ : News h₀ L h₃ ((I, oI) :: (C, oC) :: (D, lst ys) :: nx) := by
          refine fun p hp => ?_
          simp only [List.mem_cons] at hp
          rcases hp with rfl | rfl | rfl | hp
          · exact ⟨heI, Ne.symm hIL, hI₀⟩
          · exact ⟨heC, hCL, hC₀⟩
          · exact ⟨kept₃ _ _ hDC (N₂ _ (.head _)).1, hDL, hD₀⟩
          · exact ⟨kept₃ _ _ (off' p hp).2.1 (N₂ p (.tail _ hp)).1, (N₂ p (.tail _ hp)).2⟩
        refine wpAny_mono (go oI C oC D _ h₃ _ _ hoC (by simp [hxx]) (by simp) F₃ N₃ (Off3.of off') ⟨hIC, hID, Ne.symm hDC⟩) (fun y s₄ h₄ => ?_) fun _ _ e => e
        obtain ⟨h₄, tk₄, nx₄, rfl, F₄, N₄, off₄, -, J₄⟩ := h₄
        have off₄' := off₄.mem
        have zI := (N₄ (I, oI) (.head _)).1
        have zC := (N₄ (C, oC) (.tail _ (.head _))).1
        have zD := (N₄ (D, lst ys) (.tail _ (.tail _ (.head _)))).1
        have hst₄ : St (i + 1) h₄ := W.frame _ _ _ hst₃ fun b hb o e => by
          rcases hfp b hb with rfl | ⟨o', e'⟩ | ⟨o', hJo⟩
          · have : o = oI := Option.some.inj (e.symm.trans heI)
            exact this ▸ zI
          · have : o = o' := Option.some.inj (e.symm.trans (F₃.keep b o' e'))
            exact this ▸ F₄.keep b o' e'
          · have : o = o' := Option.some.inj (e.symm.trans (N₃ _ (.tail _ (.tail _ (.tail _ (hJo _ _ _ hJ))))).1)
            exact this ▸ (N₄ _ (.tail _ (.tail _ (.tail _ (hJo _ _ _ J₄))))).1
        refine append_at (hsz := by show ys.toArray.size ≤ sizeLine; rw [List.size_toArray, hyl]; exact Nat.le_trans hi hsz) zD fun h₇ hs₇ hD₇ => ?_
        refine ⟨n + 1 - (i + 1), by omega, h₇, tk₄, i + 1, ys ++ [y], _, nx₄, rfl, hin, rfl, by rw [List.length_append, List.length_singleton, hyl], W.frame _ _ _ hst₄ fun b hb o e => hs₇.extBut b o (fun q => hDf (q ▸ hb)) e, F₄.change hs₇ hDL hD₀,
          (hoC.ns zC).sameBut hs₇ (Ne.symm hDC), fun p hp => ?_, off₄', J₄⟩
        rcases List.mem_cons.mp hp with rfl | hp
        · exact ⟨hD₇.trans (congrArg some (lst_snoc ys y)), hDL, hD₀⟩
        · exact ⟨hs₇.extBut _ _ (off₄' p hp).2.2 (N₄ p (.tail _ (.tail _ (.tail _ hp)))).1, (N₄ p (.tail _ (.tail _ (.tail _ hp)))).2⟩
      · have hin' : i = n := by omega
        subst hin'
        refine W.done _ _ _ hst' fun h₂ tk₂ hk₂ => ?_
        refine done D C h₂ tk₂ _ ys nx hJ hyl (fr_but F' hk₂ hIL hI₀) (news_but N' hk₂ fun p hp => ?_) (hn'.at' fun o e => hk₂ _ o (by simpa using Ne.symm hIC) e) hC₀ hD₀ hCL hDL (Ne.symm hDC) fun p hp => (off' p hp).2
        rcases List.mem_cons.mp hp with rfl | hp
        · exact Ne.symm hID
        · exact (off' p hp).1
    · intro p hp
      rcases List.mem_cons.mp hp with rfl | hp
      · exact ⟨accD, hDL, hD₀⟩
      · exact ⟨kept₁ _ _ (N p hp).1, (N p hp).2⟩
    · exact fun p hp => ⟨off p hp, (young _ _ (N p hp).1).2, (young _ _ (N p hp).1).1⟩
  have hst₁ : St 0 h₁ := W.frame _ _ _ hst fun b _ o e => kept₁ b o e
  rw [← hD]
  exact codeAny_compStart_list (loop _ rfl) (W.self 0 _ _ _ hst₁ (loop _ rfl))
end
end Mine
end
section
open PySem PySem.W PySem.Calls PyProof.Rows PyProof.Rows.LCg PyProof.V PySem.Spec
set_option maxHeartbeats 2000000
namespace Mine
section
variable {prog : Program} {w : World} {A : Around} {E : Value → Shared → Prop} {s : Shared} {h₀ : Heap} {L : Addr} {m : PySem.Str → Option Value} {env : Env}
theorem own_tupiter {elts : List PySem.Expr} {x1} {pos : Pos} {I l T : Addr} {i : Nat} {Q : Unit → Shared → Prop} (hit : s.heap.IsTupleIter I l i) (hQ : Q () s) :
    wpAny (model prog w) A (letOwnedTupleGo (.Tuple elts x1 pos) (.ref I) (.ref T)) Q E s := by
  obtain ⟨o, ho, hc, hd⟩ := hit
  unfold letOwnedTupleGo
  refine wpAny_bind (wpAny_load ho ?_)
  rw [hc, hd]
  show wpAny _ A (if (["enumerate", "zip", "dict_itemiterator", "dict_reverseitemiterator", "odict_iterator", "itertools.zip_longest", "itertools.pairwise"].contains "tuple_iterator" && _) = true then _ else _) Q E s
  rw [show (["enumerate", "zip", "dict_itemiterator", "dict_reverseitemiterator", "odict_iterator", "itertools.zip_longest", "itertools.pairwise"].contains "tuple_iterator") = false from by decide, Bool.false_and, if_neg (by decide)]
  exact wpAny_pure hQ
theorem cp_assign_tup {elt iter : PySem.Expr} {x x₂ y : PySem.Str} {px px₂ tp py : Pos} {tk} {scope : Scope} {cl : List (PySem.Str × Addr)} {pos spos : Pos} {Q : Flow → Shared → Prop} (F₀ : Fr h₀ L s.heap m) (hLe : env.locals = L)
    (hsw : swapsWith (.ListComp elt [⟨.Tuple [.Name x px, .Name x₂ px₂] tk tp, iter, [], 0⟩] scope pos) (some (.Name y py)) spos.line env = pure true)
    (hclos : closureFor scope env = pure cl) (hcell : ∀ z ∈ scope.names, z.2 ≠ .cell) (hkind : scope.kind = .function)
    (hnames : ∀ z ∈ scope.names, z.2 = .local → scope.names.lookup z.1 = some .local) (hx : scope.names.lookup x = some .local) (hx₂ : scope.names.lookup x₂ = some .local) (hxx : x ≠ x₂)
    (hy : env.kindOf y = some .local) (hp : (env.scope.kind == .class || (env.scope.kind == .module && env.locals != env.globals)) = false)
    (h : wpAny (model prog w) A (eval iter env) (fun xv s₁ => ∃ (ax : Addr) (vs : List Value) (news : List (Addr × Obj)) (J : Nat → List Value → List (Addr × Obj) → Prop), xv = .ref ax ∧ A.handled = none ∧ Fr h₀ L s₁.heap m ∧ News h₀ L s₁.heap news ∧ (ax, tupO vs) ∈ news ∧ vs.length ≤ sizeLine ∧ J 0 [] news ∧ (∀ i ys nx, J i ys nx → (ax, tupO vs) ∈ nx) ∧
      (∀ i v ys nx, vs[i]? = some v → ys.length = i → J i ys nx → ∃ t v₁ v₂, v = .ref t ∧ (t, tupO [v₁, v₂]) ∈ nx ∧
        ∀ I oI C oC D m₂ h tk (E' : Value → Shared → Prop), NsObj oC m₂ → m₂ x = some v₁ → m₂ x₂ = some v₂ → Fr h₀ L h m → News h₀ L h ((I, oI) :: (C, oC) :: (D, lst ys) :: nx) → Off3 I C D nx → ((@Ne Nat I C) ∧ (@Ne Nat I D) ∧ (@Ne Nat C D)) →
          wpAny (model prog w) A (eval elt (compEnvC scope cl C env)) (CompEnd h₀ L m { s₁ with heap := h, toks := tk } I oI C oC D (lst ys) (fun _ => True) (fun y nx' => J (i + 1) (ys ++ [y]) nx')) E' { s₁ with heap := h, toks := tk }) ∧
      ∀ D h tk ys nx, J vs.length ys nx → ys.length = vs.length → Fr h₀ L h (fun z => if z = y then some (.ref D) else m z) → News h₀ L h ((D, lst ys) :: nx) → (∀ p ∈ nx, p.1 ≠ D) → Q .next { s₁ with heap := h, toks := tk }) E s)
    (hs : ∀ x, foldedSetIterable iter env x = pure x := by intro _; rfl) :
    wpAny (model prog w) A (exec (.Assign [.Name y py] (.ListComp elt [⟨.Tuple [.Name x px, .Name x₂ px₂] tk tp, iter, [], 0⟩] scope pos) spos) env) Q E s := by
  subst hLe
  rw [exec_Assign_Name_used _ _ _ _ hsw]
  refine wpAny_bind (wpAny_standAt (wpAny_bind ?_))
  show wpAny _ A (do let _ ← comprehension (.ListComp elt [⟨.Tuple [.Name x px, .Name x₂ px₂] tk tp, iter, [], 0⟩] scope pos) scope env _ (newList []) false (eval iter env) (some (assign (.Name y py) env))) _ _ s
  refine wpAny_bind (wpAny_mono (wpAny_comprehension_free (use := some (assign (.Name y py) env)) (Q := fun _ s' => Q .next s') rfl hs hclos hkind hnames
    (wpAny_mono h (fun xv s₁ h₁ => ?_) fun _ _ e => e)) (fun _ s' hq => wpAny_pure (wpAny_pure hq)) fun _ _ e => e)
  obtain ⟨ax, vs, news, J, rfl, hh, F, N, hm, hsz, hj, hJm, turn, fin⟩ := h₁
  have hax := N _ hm
  have hls : s₁.heap.IsTuple ax vs.toArray := ⟨_, hax.1, rfl, 0, rfl⟩
  have hlt : ax < s₁.heap.objs.size := Heap.lt_size hax.1
  refine wpAny_pyIter_tuple hls ?_
  have up : ∀ b o, s₁.heap.get? b = some o → (s₁.heap.push { cls := .type "tuple_iterator", data := .fields #[.ref ax, .int 0 0] }).get? b = some o := fun b o e => Heap.get?_push_of_some _ e
  have W := Walks.tuple (prog := prog) (w := w) hh s₁.heap.objs.size ax (Nat.ne_of_lt hlt) vs.toArray
  rw [List.size_toArray] at W
  refine cp_core (s := { s₁ with heap := s₁.heap.push _ }) J W hsz hh (fun i s' T Q' E' st hq => own_tupiter st.1 hq) (fun i h st => by obtain ⟨o, e, _⟩ := st.1; exact ⟨o, e⟩) ?_ hcell hkind hx hx₂ hxx ⟨⟨_, Heap.get?_push_size _ rfl, rfl, rfl⟩, ⟨_, up _ _ hax.1, rfl, 0, rfl⟩⟩ ?_
    (F.keeps up) (fun p hp => ⟨up _ _ (N p hp).1, (N p hp).2⟩) (Nat.ne_of_lt F.ns.lt) (next_is_new F) (fun p hp => Nat.ne_of_lt (Heap.lt_size (N p hp).1)) hj ?_ ?_
  · intro b hb
    rcases List.mem_cons.mp hb with rfl | hb
    · exact .inl rfl
    · exact .inr (.inr ⟨_, fun i ys nx hJ => (List.mem_singleton.mp hb) ▸ hJm i ys nx hJ⟩)
  · intro b hb
    show b < (s₁.heap.push _).objs.size
    rw [Heap.size_push]
    rcases List.mem_cons.mp hb with rfl | hb
    · exact Nat.lt_succ_self _
    · rw [List.mem_singleton.mp hb]; exact Nat.lt_succ_of_lt hlt
  · intro i v ys nx hi hv hyl hJ
    obtain ⟨t, v₁, v₂, e, hmt, go⟩ := turn i v ys nx (by simpa using hv) hyl hJ
    exact ⟨t, v₁, v₂, e, hmt, fun oI C oC D m₂ h tk E' => go _ oI C oC D m₂ h tk E'⟩
  · intro D C h' tk m' ys nx hJ hyl F' N' hn hC₀ hD₀ hCL hDL hCD offC
    show wpAny _ A (assign (.Name y py) env (.ref D)) _ _ _
    refine wpAny_assign_Name (wpAny_storeName_local hy F'.ns (fun h₂ hn₂ hs₂ => ?_) hp)
    have hL₀ : h₀.get? env.locals = none := Heap.get?_none_of_le F'.above
    have F₂ : Fr h₀ env.locals h₂ (fun z => if z = y then some (.ref D) else m z) := ⟨hn₂, fun b o e => hs₂.extBut b o (fun q => by rw [q, hL₀] at e; cases e) (F'.keep b o e), F'.above⟩
    refine ⟨m', hn.sameBut hs₂ hCL, fun h'' hs'' => fin D h'' _ ys nx hJ hyl (F₂.change hs'' hCL hC₀) (fun p hp => ?_) fun p hp => (offC p hp).2⟩
    have z : h₂.get? p.1 = some p.2 := hs₂.extBut _ _ (N' p hp).2.1 (N' p hp).1
    refine ⟨hs''.extBut _ _ ?_ z, (N' p hp).2⟩
    rcases List.mem_cons.mp hp with rfl | hp
    · exact Ne.symm hCD
    · exact (offC p hp).1
end
end Mine
end
section
open PySem PySem.W PySem.Calls PyProof.Rows PyProof.Rows.LCg PyProof.V PySem.Spec
namespace Mine
def SymJ (led : List (Addr × Obj)) (i : Nat) (ys : List Value) (nx : List (Addr × Obj)) : Prop := nx = led ∧ ∃ ns : List Int, IntsAre ys ns ∧ ns.length = i ∧ ∀ n ∈ ns, 0 ≤ n ∧ n < 256
theorem sym_next {led : List (Addr × Obj)} {i : Nat} {ys : List Value} {ns : List Int} {t : Tok} {a : Int} (h : IntsAre ys ns) (hl : ns.length = i) (h9 : ∀ n ∈ ns, 0 ≤ n ∧ n < 256) : SymJ led (i + 1) (ys ++ [.int (Int.fmod a 256) t]) led := by
  refine ⟨rfl, ns ++ [Int.fmod a 256], ints_snoc h _ _, by simp [hl], fun n hn => ?_⟩
  rcases List.mem_append.mp hn with hn | hn
  · exact h9 n hn
  · rw [List.mem_singleton.mp hn, Int.fmod_eq_emod_of_nonneg _ (by omega)]
    omega
theorem ints_of {zs : List Value} (h : ∀ v ∈ zs, ∃ n t, v = .int n t) : ∃ ms, IntsAre zs ms := by
  induction zs with
  | nil => exact ⟨[], .nil⟩
  | cons a r ih =>
    obtain ⟨n, t, rfl⟩ := h a (.head _)
    obtain ⟨ms, hm⟩ := ih fun v hv => h v (.tail _ hv)
    exact ⟨n :: ms, .cons _ _ hm⟩
theorem ints_all {vs : List Value} {ns : List Int} (h : IntsAre vs ns) : ∀ v ∈ vs, ∃ n t, v = .int n t := by
  induction h with
  | nil => intro v hv; cases hv
  | cons n t _ ih =>
    intro v hv
    rcases List.mem_cons.mp hv with rfl | hv
    · exact ⟨_, _, rfl⟩
    · exact ih v hv
theorem pick_mem {vs : List Value} {lo hi st : Option Int} : ∀ v ∈ (slicePick vs.toArray lo hi st).toList, v ∈ vs := by
  intro v hv
  unfold slicePick at hv
  simp at hv
  try grind
section
variable {prog : Program} {w : World} {A : Around} {E : Value → Shared → Prop} {s : Shared} {h₀ : Heap} {L : Addr} {m : PySem.Str → Option Value} {news : List (Addr × Obj)} {Q : Value → Shared → Prop}
theorem slice3_ints {value slice : PySem.Expr} {l : Addr} {vs : List Value} {ns : List Int} {vl vu vk : Value} {lo hi st : Option Int} {ops : List Value} (F : Fr h₀ L s.heap m) (N : News h₀ L s.heap news) (hl : s.heap.IsList l vs.toArray) (hi' : IntsAre vs ns) (pl : IsPart vl lo) (pu : IsPart vu hi) (pk : IsPart vk st) (h0 : st ≠ some 0)
    (h : ∀ D zs ms h', IntsAre zs ms → Fr h₀ L h' m → News h₀ L h' ((D, W.listOf zs.toArray 0) :: news) → (∀ p ∈ news, p.1 < D) → Q (.ref D) { s with heap := h' })
    (hs : subscripted slice false (.ref l) (.ref s.heap.objs.size) = operate ops (getItem (.ref l) (.ref s.heap.objs.size))) (ht : ∀ r, letTemporaryGo value (.ref l) r = pure ()) (hz : vs.length ≤ 1000) :
    wpAny (model prog w) A (subscriptTail value slice (.ref l) (.ref s.heap.objs.size)) Q E { s with heap := s.heap.push { cls := .type "slice", data := .fields #[vl, vu, vk] } } := by
  obtain ⟨ms, hm⟩ := ints_of (zs := (slicePick vs.toArray lo hi st).toList) fun v hv => ints_all hi' v (pick_mem v hv)
  exact kmk_slice3_lit F N hl pl pu pk h0 rfl (fun D h' F' N' lt => h D _ ms h' hm F' N' lt) hs ht (by rw [List.size_toArray, sizeLine_eq]; omega)
end
end Mine
end
section
open PySem PySem.W PySem.Calls PyProof.Rows PyProof.Rows.LCg PyProof.V PySem.Spec PySem.SeqAt
namespace Mine
def wVal (k : Nat) (i : Nat) : Int := if i = 0 then ((65 + k / 16 : Nat) : Int) else ((65 + k % 16 : Nat) : Int)
theorem word_at {k : Nat} (hk : k < 256) (i : Nat) (v : Value) (h : ∃ (c : UInt8) (u : Tok), (word2 k)[i]? = some c ∧ v = .int (c.toNat : Int) u) : ∃ t, v = .int (wVal k i) t := by
  obtain ⟨c, u, hc, rfl⟩ := h
  refine ⟨u, ?_⟩
  have e : ((c.toNat : Nat) : Int) = wVal k i := by
    match i, hc with
    | 0, hc =>
      have : c = UInt8.ofNat (65 + k / 16) := by simpa [word2] using hc.symm
      subst this
      show ((UInt8.ofNat (65 + k / 16)).toNat : Int) = ((65 + k / 16 : Nat) : Int)
      rw [UInt8.toNat_ofNat']
      omega
    | 1, hc =>
      have : c = UInt8.ofNat (65 + k % 16) := by simpa [word2] using hc.symm
      subst this
      show ((UInt8.ofNat (65 + k % 16)).toNat : Int) = ((65 + k % 16 : Nat) : Int)
      rw [UInt8.toNat_ofNat']
      omega
    | i + 2, hc => simp [word2] at hc
  rw [e]
section
variable {prog : Program} {w : World} {A : Around} {E : Value → Shared → Prop} {s : Shared} {h₀ : Heap} {L : Addr} {m : PySem.Str → Option Value} {news : List (Addr × Obj)} {Q : Value → Shared → Prop} {k : Nat} {t : Tok}
theorem max_word (hh : A.handled = none) (hk : k < 256) (F : Fr h₀ L s.heap m) (N : News h₀ L s.heap news)
    (h : ∀ t h' tk, Fr h₀ L h' m → News h₀ L h' news → Q (.int ((65 + max (k / 16) (k % 16) : Nat) : Int) t) { s with heap := h', toks := tk }) : wpAny (model prog w) A (call (.builtin "max") [.bytes (word2 k) t]) Q E s := by
  refine call_max_walk (KBw.pyIter_bytes ?_)
  refine ⟨s.heap.objs.size, _, _, _, _, _, _, rfl, KBw.walks (A := A.in1) hh _ (word2 k) t, ⟨_, Heap.get?_push_size _ rfl, rfl, rfl⟩, ?_, by show 0 < 2; decide, CmpOf.ints_gt (wVal k) (word_at hk), fun v h' tk hP hk' => ?_⟩
  · intro b hb
    rw [List.mem_singleton.mp hb]
    show _ < (s.heap.push _).objs.size
    rw [Heap.size_push]
    exact Nat.lt_succ_self _
  · obtain ⟨t', rfl⟩ := word_at hk _ v hP
    have e : wVal k (argBest (fun i j => decide (wVal k i > wVal k j)) (Array.size (word2 k) - 1)) = ((65 + max (k / 16) (k % 16) : Nat) : Int) := by
      show wVal k (argBest (fun i j => decide (wVal k i > wVal k j)) 1) = _
      obtain ⟨h1, h2⟩ := argBest_gt (wVal k) 1
      have a0 := h2 0 (by omega)
      have a1 := h2 1 (by omega)
      generalize argBest (fun i j => decide (wVal k i > wVal k j)) 1 = bb at *
      have : bb = 0 ∨ bb = 1 := by omega
      rcases this with rfl | rfl
      · simp only [wVal, if_true, Nat.one_ne_zero, if_false] at a0 a1 ⊢
        omega
      · simp only [wVal, if_true, Nat.one_ne_zero, if_false] at a0 a1 ⊢
        omega
    rw [e]
    have kept : ∀ b o, s.heap.get? b = some o → h'.get? b = some o := fun b o e => hk' b o (by intro hm; rw [List.mem_singleton.mp hm] at e; exact Nat.lt_irrefl _ (Heap.lt_size e)) (Heap.get?_push_of_some _ e)
    exact h t' h' tk (F.keeps kept) (N.grown kept)
theorem min_word (hh : A.handled = none) (hk : k < 256) (F : Fr h₀ L s.heap m) (N : News h₀ L s.heap news)
    (h : ∀ t h' tk, Fr h₀ L h' m → News h₀ L h' news → Q (.int ((65 + min (k / 16) (k % 16) : Nat) : Int) t) { s with heap := h', toks := tk }) : wpAny (model prog w) A (call (.builtin "min") [.bytes (word2 k) t]) Q E s := by
  refine call_min_walk (KBw.pyIter_bytes ?_)
  refine ⟨s.heap.objs.size, _, _, _, _, _, _, rfl, KBw.walks (A := A.in1) hh _ (word2 k) t, ⟨_, Heap.get?_push_size _ rfl, rfl, rfl⟩, ?_, by show 0 < 2; decide, CmpOf.ints_lt (wVal k) (word_at hk), fun v h' tk hP hk' => ?_⟩
  · intro b hb
    rw [List.mem_singleton.mp hb]
    show _ < (s.heap.push _).objs.size
    rw [Heap.size_push]
    exact Nat.lt_succ_self _
  · obtain ⟨t', rfl⟩ := word_at hk _ v hP
    have e : wVal k (argBest (fun i j => decide (wVal k i < wVal k j)) (Array.size (word2 k) - 1)) = ((65 + min (k / 16) (k % 16) : Nat) : Int) := by
      show wVal k (argBest (fun i j => decide (wVal k i < wVal k j)) 1) = _
      obtain ⟨h1, h2⟩ := argBest_lt (wVal k) 1
      have a0 := h2 0 (by omega)
      have a1 := h2 1 (by omega)
      generalize argBest (fun i j => decide (wVal k i < wVal k j)) 1 = bb at *
      have : bb = 0 ∨ bb = 1 := by omega
      rcases this with rfl | rfl
      · simp only [wVal, if_true, Nat.one_ne_zero, if_false] at a0 a1 ⊢
        omega
      · simp only [wVal, if_true, Nat.one_ne_zero, if_false] at a0 a1 ⊢
        omega
    rw [e]
    have kept : ∀ b o, s.heap.get? b = some o → h'.get? b = some o := fun b o e => hk' b o (by intro hm; rw [List.mem_singleton.mp hm] at e; exact Nat.lt_irrefl _ (Heap.lt_size e)) (Heap.get?_push_of_some _ e)
    exact h t' h' tk (F.keeps kept) (N.grown kept)
theorem eqAt_bytes {A : Around} {s : Shared} (b : Array UInt8) (t u : Tok) : EqAt A s (.bytes b t) (.bytes b u) true := fun prog w E Q h => by
  unfold eqBool
  refine wpAny_holding ?_
  refine wpAny_ite_split (fun _ => wpAny_bind (wpAny_rule (wpAny_pure h))) (fun _ => ?_)
  refine wpAny_bind ?_
  show wpAny _ _ (compareOp .Eq (.bytes b t) (.bytes b u)) _ _ s
  refine PySem.W.eq_bytes ?_
  rw [beq_self_eq_true]
  exact wpAny_truthy_bool h
theorem WordsAre.at {vs vs' : List Value} {ks : List Nat} (h : WordsAre vs ks) (h' : WordsAre vs' ks) : ∀ j (h1 : j < vs.length) (h2 : j < vs'.length), ∃ b t u, vs[j] = .bytes b t ∧ vs'[j] = .bytes b u := by
  induction h generalizing vs' with
  | nil => intro j h1; simp at h1
  | cons k t _ ih =>
    cases h' with
    | cons _ u h'' =>
      intro j h1 h2
      cases j with
      | zero => exact ⟨_, _, _, rfl, rfl⟩
      | succ j => exact ih h'' j (by simpa using h1) (by simpa using h2)
theorem ne_words {a b : Addr} {vs vs' : List Value} {ks : List Nat} {n n' : Nat} (N : News h₀ L s.heap news) (ha : (a, W.listOf vs.toArray n) ∈ news) (hb : (b, W.listOf vs'.toArray n') ∈ news) (h1 : WordsAre vs ks) (h2 : WordsAre vs' ks) (hu : A.units < cLine) (h : Q (.bool false) s) :
    wpAny (model prog w) A (compareOp .NotEq (.ref a) (.ref b)) Q E s := by
  have l1 := h1.length
  have l2 := h2.length
  refine RcNeAt.lists (e := fun _ => true) (News.isList N ha) (News.isList N hb) (by simp; omega) hu (fun j j1 j2 => ?_) prog w E Q ?_
  · obtain ⟨b', t, u, e1, e2⟩ := h1.at h2 j (by simpa using j1) (by simpa using j2)
    simp only [List.getElem_toArray, e1, e2]
    exact eqAt_bytes b' t u
  · have e : (!((List.range vs.toArray.size).all fun _ => true)) = false := by simp
    rw [e]; exact h
end
end Mine
end
section
open PySem PySem.W PySem.Calls PyProof.Rows PyProof.Rows.LCg PyProof.V PySem.Spec
namespace Mine
theorem three_of {led nx : List (Addr × Obj)} {ys : List Value} (h : SymJ led 3 ys nx) : nx = led ∧ ∃ (a b c : Int) (ta tb tc : Tok), ys = [.int a ta, .int b tb, .int c tc] ∧ (0 ≤ a ∧ a < 256) ∧ (0 ≤ b ∧ b < 256) ∧ (0 ≤ c ∧ c < 256) := by
  obtain ⟨rfl, ns, hI, hl, h9⟩ := h
  refine ⟨rfl, ?_⟩
  cases hI with
  | nil => simp at hl
  | cons a ta hI =>
    cases hI with
    | nil => simp at hl
    | cons b tb hI =>
      cases hI with
      | nil => simp at hl
      | cons c tc hI =>
        cases hI with
        | nil => exact ⟨a, b, c, ta, tb, tc, rfl, h9 a (by simp), h9 b (by simp), h9 c (by simp)⟩
        | cons d td hI => simp at hl
def totF (ks : List Nat) : Int := ks.foldl (fun a k => Builtin.bitXor a (Int.fdiv (((max (k / 16) (k % 16) + 1 : Nat) : Int) * ((max (k / 16) (k % 16) + 1 : Nat) : Int) - ((min (k / 16) (k % 16) + 1 : Nat) : Int) * ((min (k / 16) (k % 16) + 1 : Nat) : Int)) (((max (k / 16) (k % 16) + 1 : Nat) : Int) * ((min (k / 16) (k % 16) + 1 : Nat) : Int)))) 0
end Mine
end
section
open PySem PySem.W PySem.Calls PyProof.Rows PyProof.Rows.LCg PyProof.V PySem.Spec
namespace Mine
structure Pair (k : Nat) (g s worth : Int) (T : List Int) : Prop where
  kk : k < 256
  mx : ((65 + max (k / 16) (k % 16) : Nat) : Int) = g + 64
  mn : ((65 + min (k / 16) (k % 16) : Nat) : Int) = s + 64
  s1 : 1 ≤ s
  sg : s ≤ g
  g16 : g ≤ 16
  tu : TuJ T g s []
  len : T.length ≤ 100
  small : ∀ c ∈ T, 0 ≤ c ∧ c ≤ 20
  no1 : (-1 : Int) ∉ T
  pl : playedF T = worth
  wd : Int.fdiv (g * g - s * s) (g * s) = worth
  w0 : 0 ≤ worth
  w15 : worth ≤ 15
  b0 : g * s ≠ 0
  ab : (g * g - s * s).natAbs ≤ 256
  bb : (g * s).natAbs ≤ 256
theorem pair_nums : ∀ g : Fin 17, ∀ s : Fin 17, 1 ≤ s.val → s.val ≤ g.val → 0 ≤ Int.fdiv ((g.val : Int) * g.val - (s.val : Int) * s.val) ((g.val : Int) * s.val) ∧ Int.fdiv ((g.val : Int) * g.val - (s.val : Int) * s.val) ((g.val : Int) * s.val) ≤ 15 ∧ (g.val : Int) * s.val ≠ 0 ∧ ((g.val : Int) * g.val - (s.val : Int) * s.val).natAbs ≤ 256 ∧ ((g.val : Int) * s.val).natAbs ≤ 256 := by
  decide +kernel
theorem pair_of {k : Nat} (hk : k < 256) : ∃ g s worth T, Pair k g s worth T := by
  have hg : max (k / 16) (k % 16) + 1 < 17 := by omega
  have hs : min (k / 16) (k % 16) + 1 < 17 := by omega
  have h1 : 1 ≤ min (k / 16) (k % 16) + 1 := by omega
  have h2 : min (k / 16) (k % 16) + 1 ≤ max (k / 16) (k % 16) + 1 := by omega
  obtain ⟨a1, a2, a3, a4, a5⟩ := pair_nums ⟨_, hg⟩ ⟨_, hs⟩ h1 h2
  obtain ⟨b1, b2, b3⟩ := turns_small ⟨_, hg⟩ ⟨_, hs⟩ h1 h2
  have c := played_law ⟨_, hg⟩ ⟨_, hs⟩ h1 h2
  refine ⟨((max (k / 16) (k % 16) + 1 : Nat) : Int), ((min (k / 16) (k % 16) + 1 : Nat) : Int), _, _, ⟨hk, by omega, by omega, by omega, by omega, by omega, ⟨_, _, 16, rfl, rfl, h1, h2, by omega, by omega, rfl⟩, Nat.le_trans b1 (by decide), b2, b3, c, rfl, a1, a2, a3, a4, a5⟩⟩
theorem xor_small : ∀ a b : Fin 16, 0 ≤ Builtin.bitXor (a.val : Int) (b.val : Int) ∧ Builtin.bitXor (a.val : Int) (b.val : Int) ≤ 15 := by
  decide +kernel
section
variable {prog : Program} {w : World} {A : Around} {E : Value → Shared → Prop} {s : Shared} {h₀ : Heap} {L : Addr} {m : PySem.Str → Option Value} {news : List (Addr × Obj)} {Q : Value → Shared → Prop} {t u : Tok} {k : Nat} {g sm worth : Int} {T : List Int}
theorem pair_max (P : Pair k g sm worth T) (hh : A.handled = none) (F : Fr h₀ L s.heap m) (N : News h₀ L s.heap news)
    (h : ∀ t h' tk, Fr h₀ L h' m → News h₀ L h' news → Q (.int (g + 64) t) { s with heap := h', toks := tk }) : wpAny (model prog w) A (call (.builtin "max") [.bytes (word2 k) t]) Q E s :=
  max_word hh P.kk F N fun t h' tk F' N' => P.mx ▸ h t h' tk F' N'
theorem pair_min (P : Pair k g sm worth T) (hh : A.handled = none) (F : Fr h₀ L s.heap m) (N : News h₀ L s.heap news)
    (h : ∀ t h' tk, Fr h₀ L h' m → News h₀ L h' news → Q (.int (sm + 64) t) { s with heap := h', toks := tk }) : wpAny (model prog w) A (call (.builtin "min") [.bytes (word2 k) t]) Q E s :=
  min_word hh P.kk F N fun t h' tk F' N' => P.mn ▸ h t h' tk F' N'
theorem sub_64 (h : ∀ t k, Q (.int g t) { s with toks := k }) : wpAny (model prog w) A (binaryOp .Sub (.int (g + 64) t) (.int 64 u)) Q E s := by
  refine PyProof.Rows.sub_int ?_
  rw [show g + 64 - 64 = g by omega]
  exact h _ _
theorem mul_small {a b : Int} (h1 : -100 ≤ a) (h2 : a ≤ 100) (h : ∀ t k, Q (.int (a * b) t) { s with toks := k }) : wpAny (model prog w) A (binaryOp .Mult (.int a t) (.int b u)) Q E s :=
  PyProof.Rows.mul_int (h _ _) (IntMulOk.of_left (intBits_le_64 (by omega) (by omega)))
theorem pair_div (P : Pair k g sm worth T) (h : ∀ t k, Q (.int worth t) { s with toks := k }) : wpAny (model prog w) A (binaryOp .FloorDiv (.int (g * g - sm * sm) t) (.int (g * sm) u)) Q E s := by
  have h1 := P.ab
  have h2 := P.bb
  refine PyProof.Rows.floordiv_int P.b0 ?_ (hp := Or.inl (PyProof.noPylong_small (by omega)))
  rw [P.wd]
  exact h _ _
theorem in_no1 {l : Addr} {vs : List Value} {n : Nat} {z : Int} (P : Pair k g sm worth T) (hz : z = -1) (N : News h₀ L s.heap news) (hm : (l, W.listOf vs.toArray n) ∈ news) (hI : IntsAre vs T) (h : Q (.bool false) s) : wpAny (model prog w) A (compareOp .In (.int z t) (.ref l)) Q E s := by
  refine in_ints N hm hI ?_
  rw [hz, decide_eq_false P.no1]
  exact h
theorem ne_same {a : Int} (h : Q (.bool false) s) : wpAny (model prog w) A (compareOp .NotEq (.int a t) (.int a u)) Q E s := by
  refine PyProof.Rows.ne_int ?_
  rw [show (a != a) = false by simp]
  exact h
theorem pair_xor {a b : Int} (a0 : 0 ≤ a) (a1 : a ≤ 15) (b0 : 0 ≤ b) (b1 : b ≤ 15) (h : ∀ r t k, 0 ≤ r → r ≤ 15 → Q (.int r t) { s with toks := k }) : wpAny (model prog w) A (binaryOp .BitXor (.int a t) (.int b u)) Q E s := by
  refine PyProof.Rows.xor_int ?_
  obtain ⟨n, rfl⟩ := Int.eq_ofNat_of_zero_le a0
  obtain ⟨m, rfl⟩ := Int.eq_ofNat_of_zero_le b0
  obtain ⟨h1, h2⟩ := xor_small ⟨n, by omega⟩ ⟨m, by omega⟩
  exact h _ _ _ h1 h2
theorem num_add {a b : Int} {n : Nat} (e : a + b = (n : Int)) (h : ∀ t k, Q (.int (n : Int) t) { s with toks := k }) : wpAny (model prog w) A (binaryOp .Add (.int a t) (.int b u)) Q E s := by
  refine PyProof.Rows.add_int ?_
  rw [e]; exact h _ _
theorem bytes_one {l : Addr} {n : Nat} {z : Nat} {ta : Tok} (F : Fr h₀ L s.heap m) (N : News h₀ L s.heap news) (hm : (l, W.listOf [.int (65 + ((z : Nat) : Int)) ta].toArray n) ∈ news) (h0 : z ≠ 0) (hk : z < 16) (hh : A.handled = none)
    (h : ∀ t h' k', Fr h₀ L h' m → News h₀ L h' news → Q (.bytes (apL z).toArray t) { s with heap := h', toks := k' }) : wpAny (model prog w) A (call (.type "bytes") [.ref l]) Q E s := by
  refine bytes_K F N (News.isList N hm) (.cons _ _ .nil) ?_ (by rw [sizeLine_eq]; simp) hh fun h' t k' F' N' _ => ?_
  · intro x hx
    simp only [List.mem_cons, List.not_mem_nil, or_false] at hx
    rcases hx with rfl; omega
  · have e : ([65 + ((z : Nat) : Int)].map fun n => n.toNat.toUInt8).toArray = (apL z).toArray := by
      have e1 : (65 + (z : Int)).toNat = 65 + z := by omega
      rw [apL_pos h0, show z / 16 = 0 by omega, apL_zero, show z % 16 = z by omega]
      simp only [List.map_cons, List.map_nil, e1]
      rfl
    rw [e]
    exact h _ _ _ F' N'
end
structure ToC where
  total : Int
  t : Tok
abbrev toNames (c : ToC) : List (PySem.Str × Value) := [(PySem.Str.ofString "total", .int c.total c.t)]
abbrev toStored : List PySem.Str := [PySem.Str.ofString "great", PySem.Str.ofString "small", PySem.Str.ofString "turns", PySem.Str.ofString "worth"]
theorem WordsAre.get {vs : List Value} {ks : List Nat} (h : WordsAre vs ks) (h9 : ∀ k ∈ ks, k < 256) {i : Nat} {v : Value} (hv : vs[i]? = some v) : ∃ k t, v = .bytes (word2 k) t ∧ k < 256 := by
  induction h generalizing i with
  | nil => simp at hv
  | cons k t _ ih =>
    cases i with
    | zero =>
      simp only [List.getElem?_cons_zero, Option.some.injEq] at hv
      exact ⟨k, t, hv.symm, h9 k (.head _)⟩
    | succ i => exact ih (fun k hk => h9 k (.tail _ hk)) (by simpa using hv)
section
variable {prog : Program} {w : World} {A : Around} {E : Value → Shared → Prop} {s : Shared} {env : Env} {h₀ : Heap} {x : PySem.Str} {body : List Stmt} {Q : Flow → Shared → Prop}
theorem to_loop {l : Addr} {vs : List Value} {kk : Nat} {ks : List Nat} {t₀ : Tok} {m₀ : PySem.Str → Option Value} {rest : List (Addr × Obj)}
    (hh : A.handled = none) (hW : WordsAre vs ks) (h9 : ∀ k ∈ ks, k < 256) (hl : (l, W.listOf vs.toArray kk) ∈ rest) (F : Fr h₀ env.locals s.heap m₀) (N : News h₀ env.locals s.heap rest) (hk : ∀ p ∈ toNames ⟨0, t₀⟩, m₀ p.1 = some p.2)
    (turn : ∀ (k : Nat) (t : Tok) (g sm worth : Int) (T : List Int) (total : Int) (tt : Tok) (u : PySem.Str → Option Value) h tk own, Pair k g sm worth T → 0 ≤ total → total ≤ 15 → OwnOff own (rest.map (·.1)) →
      Fr h₀ env.locals h (fun y => if y = x then some (.bytes (word2 k) t) else kstB (fun z => if toStored.contains z then u z else m₀ z) (toNames ⟨total, tt⟩) y) → News h₀ env.locals h (rest ++ own) →
      wpAny (model prog w) A (execs body env) (MyPost h₀ env.locals (fun _ : ToC => []) rest toNames x toStored m₀ badList (fun c => 0 ≤ c.total ∧ c.total ≤ 15) own { s with heap := h, toks := tk } Q) E { s with heap := h, toks := tk })
    (done : ∀ (total : Int) (tt : Tok) (u : PySem.Str → Option Value) h tk, 0 ≤ total → total ≤ 15 → Fr h₀ env.locals h (fun y => if y = x then u y else kstB (fun z => if toStored.contains z then u z else m₀ z) (toNames ⟨total, tt⟩) y) → News h₀ env.locals h rest → Q .next { s with heap := h, toks := tk }) :
    wpAny (model prog w) A (pyIter (.ref l)) (fun it s₂ => LoopAtV prog w A h₀ env x body Q E it s₂) E s := by
  refine my_list (fun _ : ToC => []) rest toNames toStored (fun _ c => 0 ≤ c.total ∧ c.total ≤ 15) ⟨0, t₀⟩ hh hl F N hk ⟨Int.le_refl 0, show (0 : Int) ≤ 15 by decide⟩ ?_ ?_
  · rintro i v ⟨total, tt⟩ u h tk own hv ⟨h0, h1⟩ hoff F₁ N₁
    obtain ⟨k, t, rfl, hk9⟩ := hW.get h9 hv
    obtain ⟨g, sm, worth, T, P⟩ := pair_of hk9
    exact turn k t g sm worth T total tt u h tk own P h0 h1 hoff F₁ N₁
  · rintro ⟨total, tt⟩ u h tk ⟨h0, h1⟩ F₁ N₁
    exact done total tt u h tk h0 h1 F₁ N₁
end
end Mine
end
section
open PySem PySem.W PySem.Calls PyProof.Rows PyProof.V PySem.Spec
namespace Mine
/-- what a call hands back: the value, and the objects that it leaves, from any caller's frame; r: the room that it wants -/
def Ctr (r : Nat) (w : World) (mean : ExcName → Option Value) (mg mb : PySem.Str → Option Value) (news : List (Addr × Obj)) (c : Sem Value) (R : Value → List (Addr × Obj) → Prop) : Prop :=
  ∀ (dp un : Nat) (gd : Option (List Code)) (cn : PySem.Str) (cs : Scope) (a : Addr) (ccd : Value) (cl : List (PySem.Str × Addr)) (outer : List Env) (A₀ : Around) (base h₀ : Heap) (L : Addr) (m : PySem.Str → Option Value) (s : Shared) (Q E : Value → Shared → Prop),
    Below A₀ base outer h₀ → Fr h₀ L s.heap m → (hd.heap_39 w.params).In h₀ → News h₀ L s.heap news → Top hd.view_39 (looseW hd.view_39 [PySem.Str.ofString "Whitespace"]) mean mg mb h₀ → cs.kind = .function →
    dp + r < recursionLimit → un + 20 * r < cLine →
    (∀ (v : Value) (nx : List (Addr × Obj)) (h' : Heap) (tk' : Nat), R v nx → Fr h₀ L h' m → News h₀ L h' (nx ++ news) → (∀ p ∈ news, ∀ q ∈ nx, @LT.lt Nat _ p.1 q.1) → Q v { s with heap := h', toks := tk' }) →
    wpAny (model PySem.Challenge.rw_ta0018_01.row.prog w) (ktrTop dp un gd cn cs L a ccd cl outer) c Q E s
theorem use_ctr {r : Nat} {w : World} {mean : ExcName → Option Value} {mg mb : PySem.Str → Option Value} {news : List (Addr × Obj)} {c : Sem Value} {R : Value → List (Addr × Obj) → Prop} (C : Ctr r w mean mg mb news c R)
    {A : Around} {dp un : Nat} {gd : Option (List Code)} {cn : PySem.Str} {cs : Scope} {a : Addr} {ccd : Value} {cl : List (PySem.Str × Addr)} {outer : List Env} {A₀ : Around} {base h₀ : Heap} {L : Addr} {m : PySem.Str → Option Value} {s : Shared} {Q E : Value → Shared → Prop}
    (hA : A = ktrTop dp un gd cn cs L a ccd cl outer)
    (h1 : Below A₀ base outer h₀) (h2 : Fr h₀ L s.heap m) (h3 : (hd.heap_39 w.params).In h₀) (h4 : News h₀ L s.heap news) (h5 : Top hd.view_39 (looseW hd.view_39 [PySem.Str.ofString "Whitespace"]) mean mg mb h₀) (h6 : cs.kind = .function)
    (h7 : dp + r < recursionLimit) (h8 : un + 20 * r < cLine)
    (h : ∀ (v : Value) (nx : List (Addr × Obj)) (h' : Heap) (tk' : Nat), R v nx → Fr h₀ L h' m → News h₀ L h' (nx ++ news) → (∀ p ∈ news, ∀ q ∈ nx, @LT.lt Nat _ p.1 q.1) → Q v { s with heap := h', toks := tk' }) :
    wpAny (model PySem.Challenge.rw_ta0018_01.row.prog w) A c Q E s := by
  subst hA
  exact C dp un gd cn cs a ccd cl outer A₀ base h₀ L m s Q E h1 h2 h3 h4 h5 h6 h7 h8 h
theorem use_ctr0 {r : Nat} {w : World} {mean : ExcName → Option Value} {mg mb : PySem.Str → Option Value} {news : List (Addr × Obj)} {c : Sem Value} {X : Value} (C : Ctr r w mean mg mb news c (fun v nx => nx = [] ∧ v = X))
    {A : Around} {dp un : Nat} {gd : Option (List Code)} {cn : PySem.Str} {cs : Scope} {a : Addr} {ccd : Value} {cl : List (PySem.Str × Addr)} {outer : List Env} {A₀ : Around} {base h₀ : Heap} {L : Addr} {m : PySem.Str → Option Value} {s : Shared} {Q E : Value → Shared → Prop}
    (hA : A = ktrTop dp un gd cn cs L a ccd cl outer)
    (h1 : Below A₀ base outer h₀) (h2 : Fr h₀ L s.heap m) (h3 : (hd.heap_39 w.params).In h₀) (h4 : News h₀ L s.heap news) (h5 : Top hd.view_39 (looseW hd.view_39 [PySem.Str.ofString "Whitespace"]) mean mg mb h₀) (h6 : cs.kind = .function)
    (h7 : dp + r < recursionLimit) (h8 : un + 20 * r < cLine)
    (h : ∀ (h' : Heap) (tk' : Nat), Fr h₀ L h' m → News h₀ L h' news → Q X { s with heap := h', toks := tk' }) :
    wpAny (model PySem.Challenge.rw_ta0018_01.row.prog w) A c Q E s := by
  refine use_ctr C hA h1 h2 h3 h4 h5 h6 h7 h8 ?_
  rintro v nx h' tk' ⟨rfl, rfl⟩ F N _
  exact h h' tk' F N
theorem use_ctrT {r : Nat} {w : World} {mean : ExcName → Option Value} {mg mb : PySem.Str → Option Value} {news : List (Addr × Obj)} {c : Sem Value} {X : Tok → Value} (C : Ctr r w mean mg mb news c (fun v nx => nx = [] ∧ ∃ t, v = X t))
    {A : Around} {dp un : Nat} {gd : Option (List Code)} {cn : PySem.Str} {cs : Scope} {a : Addr} {ccd : Value} {cl : List (PySem.Str × Addr)} {outer : List Env} {A₀ : Around} {base h₀ : Heap} {L : Addr} {m : PySem.Str → Option Value} {s : Shared} {Q E : Value → Shared → Prop}
    (hA : A = ktrTop dp un gd cn cs L a ccd cl outer)
    (h1 : Below A₀ base outer h₀) (h2 : Fr h₀ L s.heap m) (h3 : (hd.heap_39 w.params).In h₀) (h4 : News h₀ L s.heap news) (h5 : Top hd.view_39 (looseW hd.view_39 [PySem.Str.ofString "Whitespace"]) mean mg mb h₀) (h6 : cs.kind = .function)
    (h7 : dp + r < recursionLimit) (h8 : un + 20 * r < cLine)
    (h : ∀ (t : Tok) (h' : Heap) (tk' : Nat), Fr h₀ L h' m → News h₀ L h' news → Q (X t) { s with heap := h', toks := tk' }) :
    wpAny (model PySem.Challenge.rw_ta0018_01.row.prog w) A c Q E s := by
  refine use_ctr C hA h1 h2 h3 h4 h5 h6 h7 h8 ?_
  rintro v nx h' tk' ⟨rfl, t, rfl⟩ F N _
  exact h t h' tk' F N
end Mine
end
section
open PySem PySem.W PyProof.Rows
namespace Mine
section
local macro_rules | `(tactic| walk_at "subscriptTail") => `(tactic| (k_here; (with_reducible show wpAny _ _ (subscriptTail _ (Expr.Slice _ _ none _) (Value.bytes _ _) (Value.ref _)) _ _ _); (with_reducible rename Fr _ _ _ _ => F'); (with_reducible rename News _ _ _ _ => N'); (refine my_slice (s := ⟨_, _, _, _, _⟩) F' N' (by constructor) (by constructor) (by first | decide | omega) ?_); intro h' t' k F' N'))
local macro_rules | `(tactic| walk_at "binaryOp Add bytes bytes") => `(tactic| (refine KBy.add_bytes (ip_add (by assumption)) ?_; intro _ _))
set_option maxRecDepth 100000 in
set_option maxHeartbeats 8000000 in
theorem c_int2ap (w : World) (mean : ExcName → Option Value) (mg mb : Str → Option Value) (news : List (Addr × Obj)) (n : Int) (t : Tok) (hn : n.natAbs < 2 ^ 40) :
    Ctr 10 w mean mg mb news (call (.ref 94) [.int n t]) (fun v nx => nx = [] ∧ ∃ t, v = .bytes (apL n.natAbs).toArray t) := by
  unfold Ctr
  k_fill
  intros; rename_i hret
  refine wpAny_call ?_
  k_dflt cell_enter
  k_with "exec While Name cons nil" => k_while (fun (_ : List Int) num val => IpI n num val) (fun (_ : List Int) num _ => num.toNat) "num" "val"
  k_with "state" => first | exact ip_start (by assumption) | exact ip_turn (by assumption) (by assumption)
  k_with "measure" => exact ip_less (And.left (And.right (by assumption))) (by assumption)
  k_steps
  all_goals ((have e := ip_end (by assumption) (by assumption)); subst e; exact hret _ [] _ _ ⟨rfl, _, rfl⟩ (by k_asm) (by k_asm) (by intro _ _ _ hq; cases hq))
end
set_option maxRecDepth 100000 in
set_option maxHeartbeats 8000000 in
theorem c_isterm (w : World) (mean : ExcName → Option Value) (mg mb : Str → Option Value) (news : List (Addr × Obj)) (n : Int) (t : Tok) :
    Ctr 10 w mean mg mb news (call (.ref 101) [.int n t]) (fun v nx => nx = [] ∧ v = .bool (decide (n < 256))) := by
  unfold Ctr
  k_fill
  intros; rename_i hret
  refine wpAny_call ?_
  k_dflt cell_enter
  k_steps
  all_goals exact hret _ [] _ _ ⟨rfl, rfl⟩ (by k_asm) (by k_asm) (by intro _ _ _ hq; cases hq)
set_option maxRecDepth 100000 in
set_option maxHeartbeats 8000000 in
theorem c_isnonterm (w : World) (mean : ExcName → Option Value) (mg mb : Str → Option Value) (news : List (Addr × Obj)) (n : Int) (t : Tok) :
    Ctr 10 w mean mg mb news (call (.ref 108) [.int n t]) (fun v nx => nx = [] ∧ v = .bool (decide (256 ≤ n))) := by
  unfold Ctr
  k_fill
  intros; rename_i hret
  refine wpAny_call ?_
  k_dflt cell_enter
  k_steps
  all_goals exact hret _ [] _ _ ⟨rfl, rfl⟩ (by k_asm) (by k_asm) (by intro _ _ _ hq; cases hq)
set_option maxRecDepth 100000 in
set_option maxHeartbeats 8000000 in
theorem c_iseof (w : World) (mean : ExcName → Option Value) (mg mb : Str → Option Value) (news : List (Addr × Obj)) (n : Int) (t : Tok) :
    Ctr 10 w mean mg mb news (call (.ref 115) [.int n t]) (fun v nx => nx = [] ∧ v = .bool (decide (n = 0))) := by
  unfold Ctr
  k_fill
  intros; rename_i hret
  refine wpAny_call ?_
  k_dflt cell_enter
  k_steps
  all_goals exact hret _ [] _ _ ⟨rfl, rfl⟩ (by k_asm) (by k_asm) (by intro _ _ _ hq; cases hq)
end Mine
end
section
open PySem PySem.W PyProof.Rows
namespace Mine
local macro_rules | `(tactic| k_all) => `(tactic| exact all_append (by assumption) (OwnOff.ne (by assumption) (by k_memK)))
local macro_rules | `(tactic| walk_at "call type:tuple") => `(tactic| (k_here; (with_reducible show wpAny _ _ (call (Value.type _) [Value.ref _]) _ _ _); k_dflt (refine' kde_tupleOf ?k1 ?k2 ?k3 ?k4 ?k5 ?_; (case k1 => k_asm); (case k2 => k_asm); (case k3 => exact News.isList (by k_asm) (by k_mem)); (case k4 => (simp only [List.size_toArray]; omega)); (case k5 => exact rfl); k_whole); intro D' h' F' N' l1; (try k_lt l1); (try k_sweep)))
set_option maxRecDepth 100000 in
set_option maxHeartbeats 8000000 in
theorem c_ws (w : World) (mean : ExcName → Option Value) (mg mb : Str → Option Value) (news : List (Addr × Obj)) (x : Str) (t : Tok) (hx : ∀ c ∈ x.cps.toList, c = 32 ∨ c = 9) (hlen : x.cps.toList.length ≤ 1000) :
    Ctr 10 w mean mg mb news (call (.ref 83) [.str x t]) (fun v nx => ∃ xa, v = .ref xa ∧ WsObjs w 83 x xa nx) := by
  unfold Ctr
  k_fill
  intros; rename_i hret
  k_dflt (refine' call_cls ?k1 ?k2 ?k3 ?k4 ?k5 ?k6 ?_; (case k1 => k_asm); (case k2 => k_asm); (case k3 => k_asm); (case k4 => k_is); (case k5 => k_is); (case k6 => k_is); k_whole; intro x' d' h' F' N' l1 l2; (try k_lt l1); (try k_lt2 l2); (try k_sweep))
  k_dflt cell_enter
  repeat' ((fail_if_success (with_reducible show wpAny _ _ (pyIter _) _ _ _)); (first | (k_unfold; (try dsimp only)) | (k_end; wrow_close) | walk1 | (dsimp only; walk1) | (leave1; walk_say "STEP leave1"; try dsimp only) | fail "no step"))
  (with_reducible rename Fr _ _ _ _ => lF')
  (with_reducible rename News _ _ _ _ => lN')
  with_unfolding_all refine' ws_loop (by exact rfl) lF' lN' (lt_of_allLt (by assumption)) ?kk ?_ ?_
  case kk => kst_all
  all_goals (try clear lF' lN')
  · intro pre n post tn l vs k cnt b₀ n₀ nt₀ tb tn₁ tt u h tk own hpre hst hI hlt hoff F₁ N₁
    have hsz := ws_bound pre
    have hl9 : pre.length < 1000 := by rw [hpre, List.length_append, List.length_cons] at hlen; omega
    have hlenI := hI.length
    rw [hst] at hsz
    dsimp only at hsz F₁
    simp only [wsNames, kstB, List.contains_nil, Bool.false_eq_true, if_false] at F₁
    have hrest : ∀ p ∈ news, p.1 ≠ l := fun p hp => Nat.ne_of_lt (hlt p (by simp [hp]))
    have hlt1 := allLt_of hlt
    simp only [AllLt] at hlt1
    simp only [List.map_cons] at hoff
    rcases hx n (by rw [hpre]; simp) with rfl | rfl
    · k_steps
      dsimp only [MyPost]
      refine' ws_end cnt (b₀ + 1) (n₀ + 1) nt₀ hst rfl (by k_asm) (by k_asm) ?hl ?hr ?ho ?hlt ?h4 ?h5 ?hI ?e1 ?e2 ?e3
      case hl => k_mem
      case h4 => (dsimp only [wsNames]; refine List.forall_mem_cons.mpr ⟨by with_unfolding_all rfl, ?_⟩; refine List.forall_mem_cons.mpr ⟨by with_unfolding_all rfl, ?_⟩; refine List.forall_mem_cons.mpr ⟨by with_unfolding_all rfl, ?_⟩; refine List.forall_mem_cons.mpr ⟨by with_unfolding_all rfl, ?_⟩; exact List.forall_mem_nil _)
      case h5 => (dsimp only [wsNames]; kst_same)
      case hlt => exact hlt
      case hI => exact hI
      case e1 => omega
      case e2 => omega
      case e3 => omega
      case hr => intro p hp; simp only [List.mem_cons, List.mem_append] at hp ⊢; simp only [hp, true_or, or_true]
      case ho => intro p hp; simp only [List.mem_cons, List.mem_append]; simp only [hp, or_true]
    · k_steps
      all_goals dsimp only [MyPost]
      · refine' ws_end (wsPut cnt b₀) 0 (n₀ + 1) (nt₀ + 1) hst rfl (by k_asm) (by k_asm) ?hl ?hr ?ho ?hlt ?h4 ?h5 ?hI ?e1 ?e2 ?e3
        case hl => k_mem
        case h4 => (dsimp only [wsNames]; refine List.forall_mem_cons.mpr ⟨by with_unfolding_all rfl, ?_⟩; refine List.forall_mem_cons.mpr ⟨by with_unfolding_all rfl, ?_⟩; refine List.forall_mem_cons.mpr ⟨by with_unfolding_all rfl, ?_⟩; refine List.forall_mem_cons.mpr ⟨by with_unfolding_all rfl, ?_⟩; exact List.forall_mem_nil _)
        case h5 => (dsimp only [wsNames]; kst_same)
        case hlt => exact fun p hp => lt_of_allLt (And.right (And.right (And.right (by assumption)))) p (List.mem_append.mpr (.inl hp))
        case hI => rw [← wsPut_a (by omega)]; assumption
        case e1 => rfl
        case e2 => omega
        case e3 => omega
        case hr => intro p hp; simp only [List.mem_cons, List.mem_append] at hp ⊢; simp only [hp, true_or, or_true]
        case ho => intro p hp; simp only [List.mem_cons, List.mem_append]; simp only [hp, or_true]
      · refine' ws_end (wsPut cnt b₀) 0 (n₀ + 1) (nt₀ + 1) hst rfl (by k_asm) (by k_asm) ?hl ?hr ?ho ?hlt ?h4 ?h5 ?hI ?e1 ?e2 ?e3
        case hl => k_mem
        case h4 => (dsimp only [wsNames]; refine List.forall_mem_cons.mpr ⟨by with_unfolding_all rfl, ?_⟩; refine List.forall_mem_cons.mpr ⟨by with_unfolding_all rfl, ?_⟩; refine List.forall_mem_cons.mpr ⟨by with_unfolding_all rfl, ?_⟩; refine List.forall_mem_cons.mpr ⟨by with_unfolding_all rfl, ?_⟩; exact List.forall_mem_nil _)
        case h5 => (dsimp only [wsNames]; kst_same)
        case hlt => exact hlt
        case hI => rw [← wsPut_b (by omega)]; assumption
        case e1 => rfl
        case e2 => omega
        case e3 => omega
        case hr => intro p hp; simp only [List.mem_cons, List.mem_append] at hp ⊢; simp only [hp, true_or, or_true]
        case ho => intro p hp; simp only [List.mem_cons, List.mem_append]; simp only [hp, or_true]
  · intro l vs k cnt b₀ n₀ nt₀ tb tn₁ tt u h tk hst hI hlt F₁ N₁
    have hsz := ws_bound x.cps.toList
    have hlenI := hI.length
    rw [hst] at hsz
    dsimp only at hsz F₁
    simp only [wsNames, kstB, List.contains_nil, Bool.false_eq_true, if_false] at F₁
    have hrest : ∀ p ∈ news, p.1 ≠ l := fun p hp => Nat.ne_of_lt (hlt p (by simp [hp]))
    have hlt1 := allLt_of hlt
    simp only [AllLt] at hlt1
    k_steps
    (rename News _ _ _ _ => kN9)
    refine' hret _ [(_, _), (_, _), (_, _), (_, _)] _ _ ⟨_, rfl, _, _, _, vs, cnt, b₀, n₀, nt₀, _, _, _, _, _, _, _, _, _, _, rfl, hI, hst⟩ (by k_asm) (news_of kN9 ?hm) ?hl
    case hm => exact List.forall_mem_cons.mpr ⟨by k_mem, List.forall_mem_cons.mpr ⟨by k_mem, List.forall_mem_cons.mpr ⟨by k_mem, List.forall_mem_cons.mpr ⟨by k_mem, fun p hp => .tail _ (.tail _ (.tail _ (.tail _ (.tail _ (.tail _ hp)))))⟩⟩⟩⟩
    case hl =>
      intro p hp
      have h9 : @LT.lt Nat _ p.1 d' := by apply_assumption; exact hp
      simp only [List.mem_cons, List.not_mem_nil, or_false]
      rintro q (rfl | rfl | rfl | rfl) <;> (refine ltN ?_; dsimp only; omega)
end Mine
end
section
open PySem PySem.W PyProof.Rows
namespace Mine
local macro_rules | `(tactic| walk_at "call builtin:len") => `(tactic| (k_here; (with_reducible show wpAny _ _ (call (Value.builtin "len") [Value.ref _]) _ _ _); (with_unfolding_all refine tup_len (by k_asm) (by k_mem) (by assumption) (by omega) ?_)))
local macro_rules | `(tactic| walk_at "subscriptTail") => `(tactic| (k_here; (with_reducible show wpAny _ _ (subscriptTail _ _ (Value.ref _) (Value.int _ _)) _ _ _); (with_unfolding_all refine tup_item (by k_asm) (by k_mem) (by assumption) (by omega) (by omega) (by omega) ?_); intro _))
local macro_rules | `(tactic| walk_at "binaryOp Mult int int") => `(tactic| first | refine P.mul_int ?_ (PySem.IntMulOk.of_left (bits_fdiv (by omega) (by omega) (by omega))) | refine P.mul_int ?_ (PySem.IntMulOk.of_left (intBits_le_64 (by omega) (by omega))))
set_option maxRecDepth 100000 in
set_option maxHeartbeats 8000000 in
theorem c_indent (w : World) (mean : ExcName → Option Value) (mg mb : Str → Option Value) (news nw : List (Addr × Obj)) (x : Str) (xa : Addr) (ts : Int) (t : Tok) (hW : WsObjs w 83 x xa nw) (hs : ∀ p ∈ nw, p ∈ news)
    (h1 : 1 ≤ ts) (h2 : ts ≤ 16) (hlen : x.cps.toList.length ≤ 1000) :
    Ctr 10 w mean mg mb news (call (.ref 52) [.ref xa, .int ts t]) (fun v nx => nx = [] ∧ ∃ t, v = .int (wsLevel x.cps.toList ts) t) := by
  unfold Ctr
  k_fill
  intros; rename_i hret
  obtain ⟨dx, nm, ct, vs, cnt, b, n, nt, v₁, v₅, t₁, t₂, t₃, t₄, t₅, tb, tn, tt, rfl, hI, hst⟩ := hW
  have hsz := ws_bound x.cps.toList
  have hlenI := hI.length
  rw [hst] at hsz
  dsimp only at hsz
  have hm1 := hs _ (.head _)
  have hm2 := hs _ (.tail _ (.head _))
  have hm3 := hs _ (.tail _ (.tail _ (.head _)))
  have hm4 := hs _ (.tail _ (.tail _ (.tail _ (.head _))))
  clear hs
  refine wpAny_call ?_
  k_dflt cell_enter
  k_with "pyIter ref" => k_state (fun pre il => il = ilOf cnt ts pre) "il"
  k_with "state" => first | exact rfl | exact il_turn (by assumption)
  k_steps
  all_goals (rw [wsLevel_of hst (by assumption)]; exact hret _ [] _ _ ⟨rfl, _, rfl⟩ (by k_asm) (by k_asm) (by intro _ _ _ hq; cases hq))
end Mine
end
section
open PySem PySem.W PyProof.Rows
namespace Mine
theorem c_ws_lead (w : World) (mean : ExcName → Option Value) (mg mb : Str → Option Value) (news : List (Addr × Obj)) (x : Str) (t : Tok) (g : Nat)
    (hy : x.cps.toList = ((List.replicate ((g : Int) - 1).toNat 32 ++ [9]) ++ (List.replicate ((g : Int) - 1).toNat 32 ++ [9])) ++ List.replicate ((g : Int).toNat) 32) (hg : g ≤ 16) :
    Ctr 10 w mean mg mb news (call (.ref 83) [.str x t]) (fun v nx => ∃ xa, v = .ref xa ∧ WsObjs w 83 x xa nx) :=
  c_ws w mean mg mb news x t (by rw [lead_is hy]; exact lead_only) (by rw [lead_is hy]; exact lead_len hg)
theorem c_indent_lead (w : World) (mean : ExcName → Option Value) (mg mb : Str → Option Value) (news nw : List (Addr × Obj)) (x : Str) (xa : Addr) (g s : Nat) (t : Tok) (lvl : Int)
    (hy : x.cps.toList = ((List.replicate ((g : Int) - 1).toNat 32 ++ [9]) ++ (List.replicate ((g : Int) - 1).toNat 32 ++ [9])) ++ List.replicate ((g : Int).toNat) 32) (hW : WsObjs w 83 x xa nw) (hs : ∀ p ∈ nw, p ∈ news)
    (hl : wsLevel (leadCodes g) (s : Int) = lvl) (h1 : 1 ≤ s) (h2 : s ≤ 16) (h3 : g ≤ 16) :
    Ctr 10 w mean mg mb news (call (.ref 52) [.ref xa, .int (s : Int) t]) (fun v nx => nx = [] ∧ ∃ t, v = .int lvl t) := by
  have := c_indent w mean mg mb news nw x xa (s : Int) t hW hs (by omega) (by omega) (by rw [lead_is hy]; exact lead_len h3)
  rw [lead_is hy, hl] at this
  exact this
local macro_rules | `(tactic| walk_at "call ref") => `(tactic| (k_here; (with_reducible show wpAny _ _ (call (Value.ref 115) [Value.int _ _]) _ _ _); k_dflt (refine' use_ctr0 (c_iseof _ _ _ _ _ _ _) ?kA ?k1 ?k2 ?k3 ?k4 ?k5 ?k6 ?k7 ?k8 ?_; (case kA => exact rfl); (case k1 => k_asm); (case k2 => k_asm); (case k3 => k_asm); (case k4 => k_asm); (case k5 => k_asm); (case k6 => first | exact rfl | assumption); (case k7 => ktr_room); (case k8 => ktr_units)); k_whole; intro h' tk' F' N'; (try k_sweep)))
local macro_rules | `(tactic| walk_at "call ref") => `(tactic| (k_here; (with_reducible show wpAny _ _ (call (Value.ref 83) [Value.str _ _]) _ _ _); k_dflt (refine' use_ctr (c_ws_lead _ _ _ _ _ _ _ _ (by assumption) (by omega)) ?kA ?k1 ?k2 ?k3 ?k4 ?k5 ?k6 ?k7 ?k8 ?_; (case kA => exact rfl); (case k1 => k_asm); (case k2 => k_asm); (case k3 => k_asm); (case k4 => k_asm); (case k5 => k_asm); (case k6 => first | exact rfl | assumption); (case k7 => ktr_room); (case k8 => ktr_units)); k_whole; (intro v nx h' tk' hR F' N' _); (try k_sweep); (obtain ⟨xa, hv, hW⟩ := hR); subst hv; (have hW' := hW); (obtain ⟨dx, nm, ct, vs, cnt, b, n, nt, v₁, v₅, t₁, t₂, t₃, t₄, t₅, tb, tn, tt, hnx, hI, hst⟩ := hW); clear hI hst; subst hnx; (simp only [List.cons_append, List.nil_append] at N')))
local macro_rules | `(tactic| walk_at "call ref") => `(tactic| (k_here; (with_reducible show wpAny _ _ (call (Value.ref 52) [Value.ref _, Value.int _ _]) _ _ _); k_dflt (refine' use_ctrT (c_indent_lead _ _ _ _ _ _ _ _ _ _ _ _ (by assumption) (by assumption) ?hs (by assumption) (by omega) (by omega) (by omega)) ?kA ?k1 ?k2 ?k3 ?k4 ?k5 ?k6 ?k7 ?k8 ?_; (case kA => exact rfl); (case k1 => k_asm); (case k2 => k_asm); (case k3 => k_asm); (case k4 => k_asm); (case hs => exact List.forall_mem_cons.mpr ⟨by k_mem, List.forall_mem_cons.mpr ⟨by k_mem, List.forall_mem_cons.mpr ⟨by k_mem, List.forall_mem_cons.mpr ⟨by k_mem, List.forall_mem_nil _⟩⟩⟩⟩); (case k5 => k_asm); (case k6 => first | exact rfl | assumption); (case k7 => ktr_room); (case k8 => ktr_units)); k_whole; (intro t' h' tk' F' N'); (replace N' := news_of N' (fun p hp => .tail _ (.tail _ (.tail _ (.tail _ hp))))); (try k_sweep)))
local macro_rules | `(tactic| walk_at "binaryOp Mult str int") => `(tactic| ((first | (refine str_mul2 (by first | assumption | decide) (by simp only [List.length_append, List.length_replicate, List.length_singleton]; omega) ?_) | (refine str_mul1 (c := 32) (by decide) (by omega) (by omega) ?_)); intro y t' k hy))
local macro_rules | `(tactic| walk_at "binaryOp Add str str") => `(tactic| (refine str_add (by first | assumption | (exact (by decide : (PySem.Str.ofString "\t").cps.toList = [9]))) (by first | assumption | (exact (by decide : (PySem.Str.ofString "\t").cps.toList = [9]))) (by simp only [List.length_append, List.length_replicate, List.length_singleton]; omega) ?_; intro y t' k hy))
local macro_rules | `(tactic| walk_at "binaryOp Mod int int") => `(tactic| ((first | refine half_mod (by assumption) (by omega) ?_ | refine mark_mod (by assumption) (by omega) ?_); intro _ _))
local macro_rules | `(tactic| walk_at "binaryOp FloorDiv int int") => `(tactic| ((first | refine half_div (by assumption) (by omega) ?_ | refine mark_div (by assumption) (by omega) (by omega) ?_); intro _ _))
local macro_rules | `(tactic| k_all) => `(tactic| first | exact ne_of_lts (by assumption) | exact ne_of_lts (lt_of_allLt (by assumption)))
local macro_rules | `(tactic| walk_at "call builtin:list.append") => `(tactic| (k_here; k_dflt (refine' append_K ?k1 ?k2 ?k3 ?_ ?z; (case k1 => k_asm); (case k2 => k_asm); (case k3 => k_upd); (case z => (simp only [List.size_toArray]; rw [sizeLine_eq]; omega)); k_whole); intro h' F' N'; (try k_sweep); (simp only [List.push_toArray] at N')))
set_option maxRecDepth 100000 in
set_option maxHeartbeats 8000000 in
theorem c_turns (w : World) (mean : ExcName → Option Value) (mg mb : Str → Option Value) (news : List (Addr × Obj)) (great small : Int) (tg ts : Tok) (T : List Int) (hT : TuJ T great small []) (hT9 : T.length ≤ 100) :
    Ctr 20 w mean mg mb news (call (.ref 136) [.int great tg, .int small ts]) (fun v nx => ∃ (l : Addr) (vs : List Value) (k : Nat), v = .ref l ∧ nx = [(l, W.listOf vs.toArray k)] ∧ IntsAre vs T) := by
  unfold Ctr
  k_fill
  intros; rename_i hret
  refine wpAny_call ?_
  k_dflt cell_enter
  repeat' ((fail_if_success (with_reducible show wpAny _ _ (exec (Stmt.While _ _ _ _) _) _ _ _)); (first | (k_unfold; (try dsimp only)) | (k_end; wrow_close) | walk1 | (dsimp only; walk1) | (leave1; walk_say "STEP leave1"; try dsimp only) | fail "no step"))
  (with_reducible rename Fr _ _ _ _ => lF')
  (with_reducible rename News _ _ _ _ => lN')
  with_unfolding_all refine' tu_while lF' lN' ?kk hT ?_
  case kk => (dsimp only [tuNames]; refine List.forall_mem_cons.mpr ⟨by with_unfolding_all rfl, ?_⟩; refine List.forall_mem_cons.mpr ⟨by with_unfolding_all rfl, ?_⟩; exact List.forall_mem_nil _)
  clear lF' lN'
  intro g s' f tg ts vs k turns u h tk hI h1 h2 h3 h4 h5 F₁ N₁
  simp only [tuNames, kstB] at F₁
  have hln := tu_len h5 hT9
  have hln2 := hI.length
  by_cases hgs : s' < g
  · have M := left_mark h1 hgs
    have hlv := lead_lvl h1 hgs h3
    generalize hlf : (((g - 1) % s' + 1 : Nat) : Int) = lf at M hlv
    have hl1 := M.one
    have hl2 := M.le
    have hl3 := M.lt
    k_steps
    all_goals (try (exfalso; omega))
    all_goals (try dsimp only [KswPost])
    refine' tu_end (by k_asm) (by k_asm) ?hl ?hr ?hk ?hm ?hI ?hT ?hμ
    case hl => k_mem
    case hk => (dsimp only [tuNames]; refine List.forall_mem_cons.mpr ⟨by with_unfolding_all rfl, ?_⟩; refine List.forall_mem_cons.mpr ⟨by with_unfolding_all rfl, ?_⟩; exact List.forall_mem_nil _)
    case hI => exact ints_snoc hI _ _
    case hT => exact tu_turn h1 hgs h3 h4 h5 hlf
    case hμ => (dsimp only; omega)
    case hr => exact fun p hp => .tail _ hp
    case hm => (dsimp only [tuNames]; ksw_same)
  · k_steps
    have hTT := tu_stop h1 h2 hgs h4 h5
    subst hTT
    exact hret _ [(_, _)] _ _ ⟨_, vs, k, rfl, rfl, hI⟩ (by k_asm) (by k_asm) (by intro p hp q hq; rw [List.mem_singleton.mp hq]; apply_assumption; exact hp)
end Mine
end
section
open PySem PySem.W PyProof.Rows
namespace Mine
local macro_rules | `(tactic| walk_at "call type:reversed") => `(tactic| (k_here; (with_reducible show wpAny _ _ (call (Value.type _) [Value.ref _]) _ _ _); (with_reducible rename News _ _ _ _ => nF'); (refine krv_reversed (by k_asm) nF' (News.isList nF' (by k_mem)) ?_); intro D' h' F' N' l1; (try k_sweep)))
local macro_rules | `(tactic| walk_at "compareOp In int ref") => `(tactic| (k_here; (with_reducible show wpAny _ _ (compareOp CmpOp.In (Value.int _ _) (Value.ref _)) _ _ _); (with_reducible rename News _ _ _ _ => nF'); (with_unfolding_all refine in_ints nF' (by k_mem) (by with_reducible assumption) ?_)))
local macro_rules | `(tactic| walk_at "call builtin:list.append") => `(tactic| (k_here; k_dflt (refine' append_K ?k1 ?k2 ?k3 ?_ ?z; (case k1 => k_asm); (case k2 => k_asm); (case k3 => k_upd); (case z => (simp only [List.size_toArray]; rw [sizeLine_eq]; omega)); k_whole); intro h' F' N'; (try k_sweep); (simp only [List.push_toArray] at N')))
local macro_rules | `(tactic| k_all) => `(tactic| exact all_append (ne_of_lts (by assumption)) (OwnOff.ne (by assumption) (List.Mem.head _)))
set_option maxRecDepth 100000 in
set_option maxHeartbeats 8000000 in
theorem c_played (w : World) (mean : ExcName → Option Value) (mg mb : Str → Option Value) (news : List (Addr × Obj)) (l : Addr) (vs : List Value) (k : Nat) (T : List Int) (hl : (l, W.listOf vs.toArray k) ∈ news) (hI : IntsAre vs T) (hT : ∀ c ∈ T, 0 ≤ c ∧ c ≤ 20) :
    Ctr 10 w mean mg mb news (call (.ref 143) [.ref l]) (fun v nx => nx = [] ∧ ∃ t, v = .int (playedF T) t) := by
  unfold Ctr
  k_fill
  intros; rename_i hret
  refine wpAny_call ?_
  k_dflt cell_enter
  repeat' ((fail_if_success (with_reducible show wpAny _ _ (pyIter _) _ _ _)); (first | (k_unfold; (try dsimp only)) | (k_end; wrow_close) | walk1 | (dsimp only; walk1) | (leave1; walk_say "STEP leave1"; try dsimp only) | fail "no step"))
  (with_reducible rename Fr _ _ _ _ => lF')
  (with_reducible rename News _ _ _ _ => lN')
  with_unfolding_all refine' pl_outer (by exact rfl) hl hI (ne_of_lts (by assumption)) hT lF' lN' ?kk ?_ ?_
  case kk => (dsimp only [woNames]; refine List.forall_mem_cons.mpr ⟨by with_unfolding_all rfl, ?_⟩; exact List.forall_mem_nil _)
  all_goals clear lF' lN'
  · intro w₁ n t tw u h tk own pre hpre hn0 hn1 hoff F₁ N₁
    simp only [woNames, kstB] at F₁
    repeat' ((fail_if_success (with_reducible show wpAny _ _ (pyIter _) _ _ _)); (first | (k_unfold; (try dsimp only)) | (k_end; wrow_close) | walk1 | (dsimp only; walk1) | (leave1; walk_say "STEP leave1"; try dsimp only) | fail "no step"))
    (with_reducible rename Fr _ _ _ _ => lF')
    (with_reducible rename News _ _ _ _ => lN')
    with_unfolding_all refine' pl_inner (by exact rfl) hn0 hn1 (by assumption) lF' lN' (.cons _ _ .nil) ?kk ?_ ?_
    case kk => (dsimp only [meNames]; refine List.forall_mem_cons.mpr ⟨by with_unfolding_all rfl, ?_⟩; exact List.forall_mem_nil _)
    all_goals clear lF' lN'
    · intro i t w₂ t₁ vs₂ k₂ met u h tk own₂ hi hI₂ hlm hinn hoff₂ F₁ N₁
      simp only [meNames, kstB, List.contains_nil, Bool.false_eq_true, if_false] at F₁
      have hln2 := hI₂.length
      repeat' ((fail_if_success (with_reducible show wpAny _ _ (exec (Stmt.While _ _ _ _) _) _ _ _)); (first | (k_unfold; (try dsimp only)) | (k_end; wrow_close) | walk1 | (dsimp only; walk1) | (leave1; walk_say "STEP leave1"; try dsimp only) | fail "no step"))
      (with_reducible rename Fr _ _ _ _ => lF')
      (with_reducible rename News _ _ _ _ => lN')
      with_unfolding_all refine' pl_while (met := met) lF' lN' ?kk ?_
      case kk => (dsimp only [woNames]; refine List.forall_mem_cons.mpr ⟨by with_unfolding_all rfl, ?_⟩; exact List.forall_mem_nil _)
      clear lF' lN'
      intro w₃ t₃ u₃ h₃ tk₃ hJ F₁ N₁
      simp only [woNames, kstB, List.contains_nil, Bool.false_eq_true, if_false] at F₁
      k_steps
      · refine' ksw_end (⟨_, _⟩ : WoC) (by k_asm) (by k_asm) (fun p hp => hp) trivial ?hk ?hm (mex_turn hJ (by assumption)) (mex_less hJ (by assumption))
        case hk => (dsimp only [woNames]; refine List.forall_mem_cons.mpr ⟨by with_unfolding_all rfl, ?_⟩; exact List.forall_mem_nil _)
        case hm => (dsimp only [woNames]; ksw_same)
      · dsimp only [MyPost]
        refine' my_end (⟨_, _, _, _⟩ : MeC) (by k_asm) (by k_asm) (List.forall_mem_cons.mpr ⟨by k_mem, List.forall_mem_nil _⟩) (fun p hp => .tail _ (List.mem_append_left _ hp)) (fun p hp => .tail _ (List.mem_append_right _ hp)) (List.forall_mem_cons.mpr ⟨rfl, List.forall_mem_nil _⟩) ?hk ?hm ?hj
        case hk => (dsimp only [meNames]; refine List.forall_mem_cons.mpr ⟨by with_unfolding_all rfl, ?_⟩; exact List.forall_mem_nil _)
        case hm => (dsimp only [meNames]; kst_same)
        case hj => exact ⟨met ++ [w₃], ints_snoc hI₂ _ _, by rw [innerF_succ, hinn, ← mex_end hJ (by assumption)]⟩
    · intro t₁ vs₂ k₂ u h tk F₁ N₁
      simp only [meNames, kstB, List.contains_nil, Bool.false_eq_true, if_false] at F₁
      k_steps
      dsimp only [MyPost]
      refine' my_end (⟨_, _⟩ : WoC) (by k_asm) (by k_asm) (List.forall_mem_nil _) (fun p hp => .tail _ (List.mem_append_left _ hp)) (fun p hp => .tail _ (List.mem_append_right _ hp)) (List.forall_mem_nil _) ?hk ?hm ?hj
      case hk => (dsimp only [woNames]; refine List.forall_mem_cons.mpr ⟨by with_unfolding_all rfl, ?_⟩; exact List.forall_mem_nil _)
      case hm => (dsimp only [woNames, woStored]; kst_same)
      case hj => (dsimp only; rw [goF_snoc, hpre])
  · intro tw u h tk F₁ N₁
    simp only [woNames, kstB] at F₁
    k_steps
    exact hret _ [] _ _ ⟨rfl, _, rfl⟩ (by k_asm) (by k_asm) (by intro _ _ _ hq; cases hq)
end Mine
end
section
open PySem PySem.W PyProof.Rows
namespace Mine
local macro_rules | `(tactic| walk_at "exec For Name Tuple cons nil") => `(tactic| (k_here; (with_reducible rename Fr _ _ _ _ => lF'); (with_unfolding_all refine' For_invVF lF' ?k1 ?k2 ?_; (case k1 => exact rfl); (case k2 => exact rfl); k_whole)))
local macro_rules | `(tactic| walk_at "binaryOp FloorDiv int int") => `(tactic| ((first | refine nat_div 16 rfl (by decide) (by decide) ?_ | refine nat_div 256 rfl (by decide) (by decide) ?_ | refine nat_div 65536 rfl (by decide) (by decide) ?_ | refine nat_div 1 rfl (by decide) (by decide) ?_); intro _ _))
local macro_rules | `(tactic| walk_at "binaryOp Mod int int") => `(tactic| ((first | refine nat_mod 16 rfl (by decide) ?_ | refine nat_mod 256 rfl (by decide) ?_); intro _ _))
local macro_rules | `(tactic| walk_at "call type:bytes") => `(tactic| (k_here; (with_reducible show wpAny _ _ (call (Value.type "bytes") [Value.ref _]) _ _ _); (with_reducible rename News _ _ _ _ => nF'); (with_unfolding_all refine bytes_word (by k_asm) nF' (by k_mem) (by omega) (by exact rfl) ?_); intro t' h' k' F' N'; (try k_sweep)))
local macro_rules | `(tactic| walk_at "call builtin:list.append") => `(tactic| (k_here; k_dflt (refine' append_K ?k1 ?k2 ?k3 ?_ ?z; (case k1 => k_asm); (case k2 => k_asm); (case k3 => k_upd); (case z => (simp only [List.size_toArray]; rw [sizeLine_eq]; omega)); k_whole); intro h' F' N'; (try k_sweep); (simp only [List.push_toArray] at N')))
local macro_rules | `(tactic| k_all) => `(tactic| exact all_append (ne_of_lts (by assumption)) (OwnOff.ne (by assumption) (List.Mem.head _)))
set_option maxRecDepth 100000 in
set_option maxHeartbeats 8000000 in
theorem c_due (w : World) (mean : ExcName → Option Value) (mg mb : Str → Option Value) (news : List (Addr × Obj)) (n : Nat) (t : Tok) (hn : n < 2 ^ 24) :
    Ctr 10 w mean mg mb news (call (.ref 129) [.int (n : Int) t]) (fun v nx => ∃ (l : Addr) (vs : List Value) (k : Nat), v = .ref l ∧ nx = [(l, W.listOf vs.toArray k)] ∧ WordsAre vs (symsR 2 n)) := by
  unfold Ctr
  k_fill
  intros; rename_i hret
  refine wpAny_call ?_
  k_dflt cell_enter
  repeat' ((fail_if_success (with_reducible show wpAny _ _ (pyIter _) _ _ _)); (first | (k_unfold; (try dsimp only)) | (k_end; wrow_close) | walk1 | (dsimp only; walk1) | (leave1; walk_say "STEP leave1"; try dsimp only) | fail "no step"))
  (with_reducible rename News _ _ _ _ => lN')
  with_unfolding_all refine' due_loop (n := n) (by exact rfl) (by assumption) lN' ?_ ?_
  all_goals clear lN'
  · intro i sh t vs k u h tk own hi hlen hW hoff F₁ N₁
    rcases hi with ⟨rfl, rfl⟩ | ⟨rfl, rfl⟩ | ⟨rfl, rfl⟩
    · rw [show ((1 : Nat) : Int) = 1 from rfl] at F₁
      k_steps
      all_goals dsimp only [MyPost]
      · skip
        refine' my_end (⟨_, _⟩ : DuC) (by k_asm) (by k_asm) (List.forall_mem_cons.mpr ⟨by k_mem, List.forall_mem_nil _⟩) (fun p hp => by simp only [List.mem_cons, List.mem_append] at hp ⊢; rcases hp with hp | hp <;> simp only [hp, true_or, or_true]) (fun p hp => by simp only [List.mem_cons, List.mem_append]; simp only [hp, or_true]) (List.forall_mem_cons.mpr ⟨rfl, List.forall_mem_nil _⟩) (List.forall_mem_nil _) ?hm0 ?hj0
        case hm0 => (dsimp only [duStored]; kst_same)
        case hj0 => (dsimp only; rw [due_yes (sh := 1) (by simp) (by omega)]; exact hW.snoc _ _)
    · rw [show ((256 : Nat) : Int) = 256 from rfl] at F₁
      k_steps
      all_goals dsimp only [MyPost]
      · skip
        refine' my_end (⟨_, _⟩ : DuC) (by k_asm) (by k_asm) (List.forall_mem_cons.mpr ⟨by k_mem, List.forall_mem_nil _⟩) (fun p hp => by simp only [List.mem_cons, List.mem_append] at hp ⊢; rcases hp with hp | hp <;> simp only [hp, true_or, or_true]) (fun p hp => by simp only [List.mem_cons, List.mem_append]; simp only [hp, or_true]) (List.forall_mem_cons.mpr ⟨rfl, List.forall_mem_nil _⟩) (List.forall_mem_nil _) ?hm1 ?hj1
        case hm1 => (dsimp only [duStored]; kst_same)
        case hj1 => (dsimp only; rw [due_yes (sh := 256) (by simp) (by omega)]; exact hW.snoc _ _)
      · skip
        refine' my_end (⟨_, _⟩ : DuC) (by k_asm) (by k_asm) (List.forall_mem_cons.mpr ⟨by k_mem, List.forall_mem_nil _⟩) (fun p hp => by simp only [List.mem_cons, List.mem_append] at hp ⊢; rcases hp with hp | hp <;> simp only [hp, true_or, or_true]) (fun p hp => by simp only [List.mem_cons, List.mem_append]; simp only [hp, or_true]) (List.forall_mem_cons.mpr ⟨rfl, List.forall_mem_nil _⟩) (List.forall_mem_nil _) ?hm2 ?hj2
        case hm2 => (dsimp only [duStored]; kst_same)
        case hj2 => (dsimp only; rw [due_no (sh := 256) (by simp) (by omega)]; exact hW)
    · rw [show ((65536 : Nat) : Int) = 65536 from rfl] at F₁
      k_steps
      all_goals dsimp only [MyPost]
      · skip
        refine' my_end (⟨_, _⟩ : DuC) (by k_asm) (by k_asm) (List.forall_mem_cons.mpr ⟨by k_mem, List.forall_mem_nil _⟩) (fun p hp => by simp only [List.mem_cons, List.mem_append] at hp ⊢; rcases hp with hp | hp <;> simp only [hp, true_or, or_true]) (fun p hp => by simp only [List.mem_cons, List.mem_append]; simp only [hp, or_true]) (List.forall_mem_cons.mpr ⟨rfl, List.forall_mem_nil _⟩) (List.forall_mem_nil _) ?hm3 ?hj3
        case hm3 => (dsimp only [duStored]; kst_same)
        case hj3 => (dsimp only; rw [due_yes (sh := 65536) (by simp) (by omega)]; exact hW.snoc _ _)
      · skip
        refine' my_end (⟨_, _⟩ : DuC) (by k_asm) (by k_asm) (List.forall_mem_cons.mpr ⟨by k_mem, List.forall_mem_nil _⟩) (fun p hp => by simp only [List.mem_cons, List.mem_append] at hp ⊢; rcases hp with hp | hp <;> simp only [hp, true_or, or_true]) (fun p hp => by simp only [List.mem_cons, List.mem_append]; simp only [hp, or_true]) (List.forall_mem_cons.mpr ⟨rfl, List.forall_mem_nil _⟩) (List.forall_mem_nil _) ?hm4 ?hj4
        case hm4 => (dsimp only [duStored]; kst_same)
        case hj4 => (dsimp only; rw [due_no (sh := 65536) (by simp) (by omega)]; exact hW)
  · intro vs k u h tk hW F₁ N₁
    rw [due_all hn] at hW
    k_steps
    (rename News _ _ _ _ => kN9)
    exact hret _ [(_, _)] _ _ ⟨_, vs, k, rfl, rfl, hW⟩ (by k_asm) (news_of kN9 (List.forall_mem_cons.mpr ⟨.head _, fun p hp => .tail _ (.tail _ hp)⟩)) (by intro p hp q hq; rw [List.mem_singleton.mp hq]; apply_assumption; exact hp)
end Mine
end
section
open PySem PySem.W PyProof.Rows
namespace Mine
local macro_rules | `(tactic| walk_at "call ref") => `(tactic| (k_here; (with_reducible show wpAny _ _ (call (Value.ref 108) [Value.int _ _]) _ _ _); k_dflt (refine' use_ctr0 (c_isnonterm _ _ _ _ _ _ _) ?kA ?k1 ?k2 ?k3 ?k4 ?k5 ?k6 ?k7 ?k8 ?_; (case kA => exact rfl); (case k1 => k_asm); (case k2 => k_asm); (case k3 => k_asm); (case k4 => k_asm); (case k5 => k_asm); (case k6 => first | exact rfl | assumption); (case k7 => ktr_room); (case k8 => ktr_units)); k_whole; intro h' tk' F' N'; (try k_sweep)))
local macro_rules | `(tactic| walk_at "call ref") => `(tactic| (k_here; (with_reducible show wpAny _ _ (call (Value.ref 94) [Value.int _ _]) _ _ _); k_dflt (refine' use_ctrT (c_int2ap _ _ _ _ _ _ _ (by omega)) ?kA ?k1 ?k2 ?k3 ?k4 ?k5 ?k6 ?k7 ?k8 ?_; (case kA => exact rfl); (case k1 => k_asm); (case k2 => k_asm); (case k3 => k_asm); (case k4 => k_asm); (case k5 => k_asm); (case k6 => first | exact rfl | assumption); (case k7 => ktr_room); (case k8 => ktr_units)); k_whole; intro t' h' tk' F' N'; (try k_sweep)))
local macro_rules | `(tactic| walk_at "binaryOp FloorDiv int int") => `(tactic| ((first | refine nat_div 16 rfl (by decide) (by decide) ?_ | refine nat_div 256 rfl (by decide) (by decide) ?_ | refine nat_div 65536 rfl (by decide) (by decide) ?_ | refine nat_div 1 rfl (by decide) (by decide) ?_); intro _ _))
local macro_rules | `(tactic| walk_at "call builtin:len") => `(tactic| (k_here; (with_reducible show wpAny _ _ (call (Value.builtin "len") [Value.ref _]) _ _ _); (with_reducible rename News _ _ _ _ => nF'); (with_unfolding_all refine words_len nF' (by k_mem) (by omega) ?_); intro _ _))
local macro_rules | `(tactic| walk_at "subscriptTail") => `(tactic| (k_here; (with_reducible show wpAny _ _ (subscriptTail _ (Expr.Slice _ _ none _) (Value.bytes _ _) (Value.ref _)) _ _ _); (with_reducible rename Fr _ _ _ _ => F'); (with_reducible rename News _ _ _ _ => N'); (first | refine slice_low (s := ⟨_, _, _, _, _⟩) F' N' (by constructor) (by constructor) (by omega) ?_ | refine slice_high (s := ⟨_, _, _, _, _⟩) F' N' (by constructor) (by constructor) (by omega) (by omega) ?_); intro h' t' k F' N'))
local macro_rules | `(tactic| walk_at "binaryOp Add bytes bytes") => `(tactic| (refine add_AA (by omega) ?_; intro _ _))
local macro_rules | `(tactic| walk_at "call builtin:list.append") => `(tactic| (k_here; k_dflt (refine' append_K ?k1 ?k2 ?k3 ?_ ?z; (case k1 => k_asm); (case k2 => k_asm); (case k3 => k_upd); (case z => (simp only [List.size_toArray]; rw [sizeLine_eq]; omega)); k_whole); intro h' F' N'; (try k_sweep); (simp only [List.push_toArray] at N')))
local macro_rules | `(tactic| k_all) => `(tactic| first | exact ne_of_lts (by assumption) | exact ne_of_lts (lt_of_allLt (by assumption)))
set_option maxRecDepth 100000 in
set_option maxHeartbeats 8000000 in
theorem c_kept (w : World) (mean : ExcName → Option Value) (mg mb : Str → Option Value) (news : List (Addr × Obj)) (n : Nat) (t : Tok) (hn : n < 2 ^ 24) :
    Ctr 20 w mean mg mb news (call (.ref 122) [.int (n : Int) t]) (fun v nx => ∃ (l : Addr) (vs : List Value) (k : Nat), v = .ref l ∧ nx = [(l, W.listOf vs.toArray k)] ∧ WordsAre vs (symsR 2 n)) := by
  unfold Ctr
  k_fill
  intros; rename_i hret
  refine wpAny_call ?_
  k_dflt cell_enter
  repeat' ((fail_if_success (with_reducible show wpAny _ _ (exec (Stmt.While _ _ _ _) _) _ _ _)); (first | (k_unfold; (try dsimp only)) | (k_end; wrow_close) | walk1 | (dsimp only; walk1) | (leave1; walk_say "STEP leave1"; try dsimp only) | fail "no step"))
  (with_reducible rename Fr _ _ _ _ => lF')
  (with_reducible rename News _ _ _ _ => lN')
  with_unfolding_all refine' ke_while lF' lN' ?kk hn rfl ?_
  case kk => (dsimp only [keNames]; refine List.forall_mem_cons.mpr ⟨by with_unfolding_all rfl, ?_⟩; exact List.forall_mem_nil _)
  clear lF' lN'
  intro m f t vs k dn u h tk hW h1 h2 h4 h3 F₁ N₁
  simp only [keNames, kstB, List.contains_nil, Bool.false_eq_true, if_false] at F₁
  have hln := hW.length
  by_cases hm : 256 ≤ m
  · k_steps
    refine' ksw_end (⟨_, _, _, _⟩ : KeC) (by k_asm) (by k_asm) ?hn trivial ?hk ?hm (ke_turn hW h1 h2 h3 hm) ?hμ
    case hn => exact List.forall_mem_cons.mpr ⟨by k_mem, fun p hp => .tail _ hp⟩
    case hk => (dsimp only [keNames]; refine List.forall_mem_cons.mpr ⟨by with_unfolding_all rfl, ?_⟩; exact List.forall_mem_nil _)
    case hm => (dsimp only [keNames]; ksw_same)
    case hμ => (dsimp only; omega)
  · k_steps
    have e := ke_stop h3 (by omega)
    refine' hret _ [(_, _)] _ _ ⟨_, _, _, rfl, rfl, ?hW⟩ (by k_asm) ?hN ?hl
    case hN => (rename News _ _ _ _ => kN9; exact kN9)
    case hW => exact e ▸ hW.snoc m _
    case hl => (intro p hp q hq; rw [List.mem_singleton.mp hq]; apply_assumption; exact hp)
end Mine
end
section
open PySem PySem.W PyProof.Rows
namespace Mine
theorem c_istermneg (w : World) (mean : ExcName → Option Value) (mg mb : Str → Option Value) (news : List (Addr × Obj)) (n : Nat) (t : Tok) :
    Ctr 10 w mean mg mb news (call (.ref 101) [.int (-(n : Int)) t]) (fun v nx => nx = [] ∧ v = .bool true) := by
  have h := c_isterm w mean mg mb news (-(n : Int)) t
  rw [decide_eq_true (by omega)] at h
  exact h
theorem c_playedP (w : World) (mean : ExcName → Option Value) (mg mb : Str → Option Value) (news : List (Addr × Obj)) (l : Addr) (vs : List Value) (k : Nat) (kp : Nat) (g sm worth : Int) (T : List Int) (P : Pair kp g sm worth T) (hl : (l, W.listOf vs.toArray k) ∈ news) (hI : IntsAre vs T) :
    Ctr 10 w mean mg mb news (call (.ref 143) [.ref l]) (fun v nx => nx = [] ∧ ∃ t, v = .int worth t) := by
  have h := c_played w mean mg mb news l vs k T hl hI P.small
  rw [P.pl] at h
  exact h
end Mine
end
section
open PySem PySem.W PyProof.Rows
namespace Mine
local macro_rules | `(tactic| walk_at "subscriptTail Name Slice ref ref") => `(tactic| (k_here; (with_reducible show wpAny _ _ (subscriptTail _ (PySem.Expr.Slice _ _ (some _) _) (Value.ref _) (Value.ref _)) _ _ _); k_dflt (refine' slice3_ints ?F ?N ?l ?i ?p ?q ?k ?o ?_ ?s ?t ?z; (case F => k_asm); (case N => k_asm); (case l => kmk_list); (case i => l_ints); (case p => kmk_part); (case q => kmk_part); (case k => kmk_part); (case o => decide); (case s => with_unfolding_all rfl); (case t => kmk_pure); (case z => omega)); intro D' zs' ms' h' hZ' F' N' l1; (try k_lt l1); (try k_sweep)))
local macro_rules | `(tactic| walk_at "call ref") => `(tactic| (k_here; (with_reducible show wpAny _ _ (call (Value.ref 101) [Value.int _ _]) _ _ _); k_dflt (refine' use_ctr0 (c_isterm _ _ _ _ _ _ _) ?kA ?k1 ?k2 ?k3 ?k4 ?k5 ?k6 ?k7 ?k8 ?_; (case kA => exact rfl); (case k1 => k_asm); (case k2 => k_asm); (case k3 => k_asm); (case k4 => k_asm); (case k5 => k_asm); (case k6 => first | exact rfl | assumption); (case k7 => ktr_room); (case k8 => ktr_units)); k_whole; intro h' tk' F' N'; (try k_sweep)))
local macro_rules | `(tactic| walk_at "call ref") => `(tactic| (k_here; (with_reducible show wpAny _ _ (call (Value.ref 101) [Value.int (-_) _]) _ _ _); k_dflt (refine' use_ctr0 (c_istermneg _ _ _ _ _ _ _) ?kA ?k1 ?k2 ?k3 ?k4 ?k5 ?k6 ?k7 ?k8 ?_; (case kA => exact rfl); (case k1 => k_asm); (case k2 => k_asm); (case k3 => k_asm); (case k4 => k_asm); (case k5 => k_asm); (case k6 => first | exact rfl | assumption); (case k7 => ktr_room); (case k8 => ktr_units)); k_whole; intro h' tk' F' N'; (try k_sweep)))
local macro_rules | `(tactic| walk_at "call ref") => `(tactic| (k_here; (with_reducible show wpAny _ _ (call (Value.ref 122) [Value.int _ _]) _ _ _); k_dflt (refine' use_ctr (c_kept _ _ _ _ _ _ _ (by assumption)) ?kA ?k1 ?k2 ?k3 ?k4 ?k5 ?k6 ?k7 ?k8 ?_; (case kA => exact rfl); (case k1 => k_asm); (case k2 => k_asm); (case k3 => k_asm); (case k4 => k_asm); (case k5 => k_asm); (case k6 => first | exact rfl | assumption); (case k7 => ktr_room); (case k8 => ktr_units)); k_whole; (intro v nx h' tk' hR F' N' hfr); (try k_sweep); (obtain ⟨lk, vsk, kk, hv, hnx, hWk⟩ := hR); subst hv; subst hnx; (simp only [List.cons_append, List.nil_append] at N')))
local macro_rules | `(tactic| walk_at "call ref") => `(tactic| (k_here; (with_reducible show wpAny _ _ (call (Value.ref 129) [Value.int _ _]) _ _ _); k_dflt (refine' use_ctr (c_due _ _ _ _ _ _ _ (by assumption)) ?kA ?k1 ?k2 ?k3 ?k4 ?k5 ?k6 ?k7 ?k8 ?_; (case kA => exact rfl); (case k1 => k_asm); (case k2 => k_asm); (case k3 => k_asm); (case k4 => k_asm); (case k5 => k_asm); (case k6 => first | exact rfl | assumption); (case k7 => ktr_room); (case k8 => ktr_units)); k_whole; (intro v nx h' tk' hR F' N' hfr); (try k_sweep); (obtain ⟨ld, vsd, kd, hv, hnx, hWd⟩ := hR); subst hv; subst hnx; (simp only [List.cons_append, List.nil_append] at N')))
local macro_rules | `(tactic| walk_at "compareOp NotEq ref ref") => `(tactic| (k_here; (with_reducible show wpAny _ _ (compareOp CmpOp.NotEq (Value.ref _) (Value.ref _)) _ _ _); (with_reducible rename News _ _ _ _ => nF'); (with_unfolding_all refine ne_words nF' (by k_mem) (by k_mem) (by with_reducible assumption) (by with_reducible assumption) (by ktr_units) ?_)))
local macro_rules | `(tactic| walk_at "binaryOp Add int int") => `(tactic| (k_here; (with_reducible show wpAny _ _ (binaryOp Operator.Add (Value.int (_ + _) _) (Value.int _ _)) _ _ _); (k_dflt (refine num_add (by assumption) ?_)); intro _ _))
local macro_rules | `(tactic| walk_at "exec For Name Name cons nil") => `(tactic| (k_here; (with_reducible rename Fr _ _ _ _ => lF'); (with_unfolding_all refine' For_invVF lF' ?k1 ?k2 ?_; (case k1 => exact rfl); (case k2 => exact rfl); k_whole)))
local macro_rules | `(tactic| walk_at "call builtin:max") => `(tactic| (k_here; (with_reducible show wpAny _ _ (call (Value.builtin _) [Value.bytes (word2 _) _]) _ _ _); (with_reducible rename News _ _ _ _ => nF'); (k_dflt (refine pair_max (by with_reducible assumption) (by exact rfl) (by k_asm) nF' ?_)); intro t' h' k' F' N'; (try k_sweep)))
local macro_rules | `(tactic| walk_at "call builtin:min") => `(tactic| (k_here; (with_reducible show wpAny _ _ (call (Value.builtin _) [Value.bytes (word2 _) _]) _ _ _); (with_reducible rename News _ _ _ _ => nF'); (k_dflt (refine pair_min (by with_reducible assumption) (by exact rfl) (by k_asm) nF' ?_)); intro t' h' k' F' N'; (try k_sweep)))
local macro_rules | `(tactic| walk_at "binaryOp Sub int int") => `(tactic| (k_here; (with_reducible show wpAny _ _ (binaryOp Operator.Sub (Value.int (_ + 64) _) (Value.int _ _)) _ _ _); (refine sub_64 ?_); intro _ _))
local macro_rules | `(tactic| walk_at "binaryOp Mult int int") => `(tactic| (k_here; (refine mul_small (by omega) (by omega) ?_); intro _ _))
local macro_rules | `(tactic| walk_at "binaryOp FloorDiv int int") => `(tactic| (k_here; (refine pair_div (by with_reducible assumption) ?_); intro _ _))
local macro_rules | `(tactic| walk_at "compareOp In int ref") => `(tactic| (k_here; (with_reducible show wpAny _ _ (compareOp CmpOp.In (Value.int _ _) (Value.ref _)) _ _ _); (with_reducible rename News _ _ _ _ => nF'); (with_unfolding_all refine in_no1 (by with_reducible assumption) (by rfl) nF' (by k_mem) (by with_reducible assumption) ?_)))
local macro_rules | `(tactic| walk_at "compareOp NotEq int int") => `(tactic| (k_here; (with_reducible refine ne_same ?_)))
local macro_rules | `(tactic| walk_at "binaryOp BitXor int int") => `(tactic| (k_here; (refine pair_xor (by with_reducible assumption) (by with_reducible assumption) (by with_reducible assumption) (by with_reducible assumption) ?_); (intro r9 _ _ hr0 hr15)))
local macro_rules | `(tactic| walk_at "call ref") => `(tactic| (k_here; (with_reducible show wpAny _ _ (call (Value.ref 136) [Value.int _ _, Value.int _ _]) _ _ _); k_dflt (refine' use_ctr (c_turns _ _ _ _ _ _ _ _ _ _ (Pair.tu (by with_reducible assumption)) (Pair.len (by with_reducible assumption))) ?kA ?k1 ?k2 ?k3 ?k4 ?k5 ?k6 ?k7 ?k8 ?_; (case kA => exact rfl); (case k1 => k_asm); (case k2 => k_asm); (case k3 => k_asm); (case k4 => k_asm); (case k5 => k_asm); (case k6 => first | exact rfl | assumption); (case k7 => ktr_room); (case k8 => ktr_units)); k_whole; (intro v nx h' tk' hR F' N' hfr); (try k_sweep); (obtain ⟨lt, vst, kt, hv, hnx, hIt⟩ := hR); subst hv; subst hnx; (simp only [List.cons_append, List.nil_append] at N')))
local macro_rules | `(tactic| walk_at "call ref") => `(tactic| (k_here; (with_reducible show wpAny _ _ (call (Value.ref 143) [Value.ref _]) _ _ _); k_dflt (refine' use_ctrT (c_playedP _ _ _ _ _ _ _ _ _ _ _ _ _ (by with_reducible assumption) ?hs (by with_reducible assumption)) ?kA ?k1 ?k2 ?k3 ?k4 ?k5 ?k6 ?k7 ?k8 ?_; (case kA => exact rfl); (case k1 => k_asm); (case k2 => k_asm); (case k3 => k_asm); (case k4 => k_asm); (case hs => k_mem); (case k5 => k_asm); (case k6 => first | exact rfl | assumption); (case k7 => ktr_room); (case k8 => ktr_units)); k_whole; (intro t' h' tk' F' N'); (try k_sweep)))
local macro_rules | `(tactic| walk_at "call ref") => `(tactic| (k_here; (with_reducible show wpAny _ _ (call (Value.ref 115) [Value.int _ _]) _ _ _); k_dflt (refine' use_ctr0 (c_iseof _ _ _ _ _ _ _) ?kA ?k1 ?k2 ?k3 ?k4 ?k5 ?k6 ?k7 ?k8 ?_; (case kA => exact rfl); (case k1 => k_asm); (case k2 => k_asm); (case k3 => k_asm); (case k4 => k_asm); (case k5 => k_asm); (case k6 => first | exact rfl | assumption); (case k7 => ktr_room); (case k8 => ktr_units)); k_whole; intro h' tk' F' N'; (try k_sweep)))
local macro_rules | `(tactic| walk_at "call ref") => `(tactic| (k_here; (with_reducible show wpAny _ _ (call (Value.ref 94) [Value.int _ _]) _ _ _); k_dflt (refine' use_ctrT (c_int2ap _ _ _ _ _ _ _ (by omega)) ?kA ?k1 ?k2 ?k3 ?k4 ?k5 ?k6 ?k7 ?k8 ?_; (case kA => exact rfl); (case k1 => k_asm); (case k2 => k_asm); (case k3 => k_asm); (case k4 => k_asm); (case k5 => k_asm); (case k6 => first | exact rfl | assumption); (case k7 => ktr_room); (case k8 => ktr_units)); k_whole; intro t' h' tk' F' N'; (try k_sweep)))
local macro_rules | `(tactic| walk_at "call type:bytes") => `(tactic| (k_here; (with_reducible show wpAny _ _ (call (Value.type "bytes") [Value.ref _]) _ _ _); (with_reducible rename News _ _ _ _ => nF'); (with_unfolding_all refine bytes_one (by k_asm) nF' (by k_mem) (by with_reducible assumption) (by omega) (by exact rfl) ?_); intro t' h' k' F' N'; (try k_sweep)))
theorem news_drop {h₀ : Heap} {L : Addr} {h : Heap} {p : Addr × Obj} {news : List (Addr × Obj)} (N : News h₀ L h (p :: news)) : News h₀ L h news := fun q hq => N q (.tail _ hq)
local macro_rules | `(tactic| walk_at "binaryOp Mod int int") => `(tactic| (k_here; (with_reducible rename News _ _ _ _ => nM'); (replace nM' := news_drop nM'); (refine PyProof.Rows.mod_int (by decide) ?_)))
set_option maxRecDepth 100000 in
set_option maxHeartbeats 8000000 in
theorem lawX : PySem.Challenge.rw_ta0018_01.Holds := hd (by
  k_go0
  (rename IntsAre _ _ => hI9)
  have hvl9 := hI9.length
  (all_goals try k_fold)
  walk1
  k_dflt (refine cp_assign_tup (F₀ := by k_asm) (by rfl) (by with_unfolding_all rfl) (by with_unfolding_all rfl) (by decide) (by rfl) (by decide) (by rfl) (by rfl) (by decide) (by rfl) (by rfl) ?_)
  repeat' ((fail_if_success (with_reducible show Exists _)); (first | (k_unfold; (try dsimp only)) | (k_end; wrow_close) | walk1 | (dsimp only; walk1) | (leave1; walk_say "STEP leave1"; try dsimp only) | fail "no step"))
  refine ⟨_, _, _, SymJ _, rfl, by exact rfl, by k_asm, by k_asm, by k_mem, (by rw [sizeLine_eq]; simp), ⟨rfl, [], .nil, rfl, fun _ h => nomatch h⟩, (fun i ys nx h => by rw [h.1]; k_mem), ?_, ?_⟩
  · rintro i v ys nx hv hyl ⟨rfl, ns, hns, hnl, hn9⟩
    match i, hv with
    | 0, hv =>
      simp only [List.getElem?_cons_zero, List.getElem?_cons_succ, Option.some.injEq] at hv
      subst hv
      refine ⟨_, _, _, rfl, by k_mem, ?_⟩
      intro I' oI' C' oC' D' m' h' tk' E' hC' hx' hy' F' N' off' ne'
      (try simp only [LCg.Off3, and_true] at off')
      k_steps
      exact sym_next hns hnl hn9
    | 1, hv =>
      simp only [List.getElem?_cons_zero, List.getElem?_cons_succ, Option.some.injEq] at hv
      subst hv
      refine ⟨_, _, _, rfl, by k_mem, ?_⟩
      intro I' oI' C' oC' D' m' h' tk' E' hC' hx' hy' F' N' off' ne'
      (try simp only [LCg.Off3, and_true] at off')
      k_steps
      exact sym_next hns hnl hn9
    | 2, hv =>
      simp only [List.getElem?_cons_zero, List.getElem?_cons_succ, Option.some.injEq] at hv
      subst hv
      refine ⟨_, _, _, rfl, by k_mem, ?_⟩
      intro I' oI' C' oC' D' m' h' tk' E' hC' hx' hy' F' N' off' ne'
      (try simp only [LCg.Off3, and_true] at off')
      k_steps
      exact sym_next hns hnl hn9
    | i + 3, hv => simp at hv
  · intro D' h' tk' ys nx hJ hyl F' N' hD'
    obtain ⟨rfl, a, b, c, ta, tb, tc, rfl, ha, hb, hc⟩ := three_of hJ
    obtain ⟨n, hn9⟩ : ∃ n : Nat, a * 65536 + b * 256 + c = (n : Int) := ⟨(a * 65536 + b * 256 + c).toNat, by omega⟩
    have hn24 : n < 2 ^ 24 := by omega
    repeat' ((fail_if_success (with_reducible show wpAny _ _ (exec (Stmt.If _ _ _ _) _) _ _ _)); (first | (k_unfold; (try dsimp only)) | (k_end; wrow_close) | walk1 | (dsimp only; walk1) | (leave1; walk_say "STEP leave1"; try dsimp only) | fail "no step"))
    repeat' ((fail_if_success (with_reducible show wpAny _ _ (pyIter _) _ _ _)); (first | (k_unfold; (try dsimp only)) | (k_end; wrow_close) | walk1 | (dsimp only; walk1) | (leave1; walk_say "STEP leave1"; try dsimp only) | fail "no step"))
    (with_reducible rename Fr _ _ _ _ => lF')
    (with_reducible rename News _ _ _ _ => lN')
    with_unfolding_all refine' to_loop (by exact rfl) ?hW ?h9 ?hl lF' lN' ?kk ?_ ?_
    case hl => k_mem
    case hW => assumption
    case h9 => exact symsR_lt 2 n (by omega)
    case kk => (dsimp only [toNames]; refine List.forall_mem_cons.mpr ⟨by with_unfolding_all rfl, ?_⟩; exact List.forall_mem_nil _)
    all_goals clear lF' lN'
    · intro k t g sm worth T total tt u h tk own P ht0 ht1 hoff F₁ N₁
      simp only [kstB] at F₁
      have hs1 := P.s1
      have hsg := P.sg
      have hg16 := P.g16
      have hw0 := P.w0
      have hw15 := P.w15
      k_steps
      all_goals dsimp only [MyPost]
      refine' my_end (⟨_, _⟩ : ToC) (by k_asm) (by k_asm) (List.forall_mem_nil _) (fun p hp => .tail _ (List.mem_append_left _ hp)) (fun p hp => by simp only [List.mem_cons]; simp only [hp, or_true]) (List.forall_mem_nil _) ?hkE ?hmE ?hjE
      case hkE => (dsimp only [toNames]; refine List.forall_mem_cons.mpr ⟨by with_unfolding_all rfl, ?_⟩; exact List.forall_mem_nil _)
      case hmE => (dsimp only [toNames, toStored]; kst_same)
      case hjE => exact ⟨by assumption, by assumption⟩
    · intro total tt u h tk ht0 ht1 F₁ N₁
      simp only [kstB] at F₁
      obtain ⟨z, rfl⟩ := Int.eq_ofNat_of_zero_le ht0
      by_cases hz : z = 0
      · subst hz
        rw [show ((0 : Nat) : Int) = 0 from rfl] at F₁
        k_steps
      · k_steps)
end Mine
end
open PySem PySem.W PyProof.Rows
theorem PySem.Challenge.cw_ta0018_01_holds : PySem.Challenge.rw_ta0018_01.Holds :=
  Mine.lawX
