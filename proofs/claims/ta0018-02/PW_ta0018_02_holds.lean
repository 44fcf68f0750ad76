import PyProof.Rows.All
import Wide.All
import OpenK.AllK
import Wide.FinOn
import Wide.BytesRules
import Lean
import PySem.Challenge.RW_ta0018_02
set_option Elab.async false
section
open PySem PySem.W PyProof.Rows
namespace Mine
set_option maxRecDepth 100000 in
set_option maxHeartbeats 8000000 in
open_top hd for PySem.Challenge.rw_ta0018_02
end Mine
end
section
open PySem PySem.W PyProof.Rows
namespace Mine
/-- the letters of a number, the highest first -/
def apL (n : Nat) : List UInt8 := if n = 0 then [] else apL (n / 16) ++ [UInt8.ofNat (65 + n % 16)]
termination_by n
decreasing_by omega
theorem apL_zero : apL 0 = [] := by rw [apL]; rfl
theorem apL_pos {n : Nat} (h : n ≠ 0) : apL n = apL (n / 16) ++ [UInt8.ofNat (65 + n % 16)] := by rw [apL, if_neg h]
theorem apL_len : ∀ (k n : Nat), n < 16 ^ k → (apL n).length ≤ k := by
  intro k
  induction k with
  | zero =>
    intro n h
    have : n = 0 := by simpa using h
    subst this; rw [apL_zero]; simp
  | succ k ih =>
    intro n h
    by_cases h0 : n = 0
    · subst h0; rw [apL_zero]; simp
    · rw [apL_pos h0, List.length_append]
      have := ih (n / 16) (by rw [Nat.pow_succ] at h; omega)
      simpa using this
def IpI (n num : Int) (val : Array UInt8) : Prop := n.natAbs < 2 ^ 40 ∧ 0 ≤ num ∧ apL num.toNat ++ val.toList = apL n.natAbs
theorem ip_start {n : Int} (h : n.natAbs < 2 ^ 40) : IpI n (if n < 0 then -n else n) #[] := by
  have e : (if n < 0 then -n else n) = (n.natAbs : Int) := by split <;> omega
  rw [e]
  refine ⟨h, by omega, ?_⟩
  simp
theorem ip_size {n num : Int} {val : Array UInt8} (h : IpI n num val) : val.size ≤ 10 := by
  have h1 := congrArg List.length h.2.2
  have h2 := apL_len 10 n.natAbs (by have := h.1; omega)
  rw [List.length_append] at h1
  have h3 : val.toList.length = val.size := Array.length_toList
  omega
abbrev apTab : Array UInt8 := #[65, 66, 67, 68, 69, 70, 71, 72, 73, 74, 75, 76, 77, 78, 79, 80]
theorem ap_pickF : ∀ k : Fin 16, KBy.picked apTab (some (k.val : Int)) (some ((k.val : Int) + 1)) = #[UInt8.ofNat (65 + k.val)] := by decide +kernel
theorem ap_pick {m : Int} (h0 : 0 ≤ m) (h1 : m < 16) : KBy.picked apTab (some m) (some (m + 1)) = #[UInt8.ofNat (65 + m.toNat)] := by
  have h := ap_pickF ⟨m.toNat, by omega⟩
  rw [show (((⟨m.toNat, by omega⟩ : Fin 16).val : Nat) : Int) = m from Int.toNat_of_nonneg h0] at h
  exact h
theorem ip_add {n num : Int} {val : Array UInt8} {a b : Option Int} (h : IpI n num val) : (KBy.picked apTab a b).size + val.size ≤ 16777216 := by
  have h1 := ip_size h
  have h2 := KBc.size_picked_le apTab a b
  have h3 : apTab.size = 16 := rfl
  omega
theorem ip_turn {n num : Int} {val : Array UInt8} (h : IpI n num val) (hn : num ≠ 0) : IpI n (num.fdiv 16) (KBy.picked apTab (some (num.fmod 16)) (some (num.fmod 16 + 1)) ++ val) := by
  obtain ⟨h0, h1, h2⟩ := h
  have e1 : num.fmod 16 = ((num.toNat % 16 : Nat) : Int) := by rw [Int.fmod_eq_emod_of_nonneg _ (by omega)]; omega
  have e2 : num.fdiv 16 = ((num.toNat / 16 : Nat) : Int) := by rw [Int.fdiv_eq_ediv_of_nonneg _ (by omega)]; omega
  refine ⟨h0, by omega, ?_⟩
  rw [ap_pick (by omega) (by omega), e1, e2, ← h2, apL_pos (n := num.toNat) (by omega), Int.toNat_natCast, Int.toNat_natCast]
  simp only [Array.toList_append, List.append_assoc]
theorem ip_less {num : Int} (h0 : 0 ≤ num) (hn : num ≠ 0) : (num.fdiv 16).toNat < num.toNat := by
  have e2 : num.fdiv 16 = ((num.toNat / 16 : Nat) : Int) := by rw [Int.fdiv_eq_ediv_of_nonneg _ (by omega)]; omega
  omega
theorem ip_end {n : Int} {num : Int} {val : Array UInt8} (h : IpI n num val) (hn : num = 0) : val = (apL n.natAbs).toArray := by
  have := h.2.2
  subst hn
  rw [show (0 : Int).toNat = 0 from rfl, apL_zero, List.nil_append] at this
  rw [← this]
section
open PySem PySem.Calls
variable {prog : Program} {w : World} {A : Around} {E : Value → Shared → Prop} {s : Shared} {value slice : PySem.Expr} {b : Array UInt8} {t : Tok} {h₀ : Heap} {L : Addr} {m : PySem.Str → Option Value} {news : List (Addr × Obj)} {l u : Value} {lo hi : Option Int} {Q : Value → Shared → Prop}
theorem my_slice (hF : Fr h₀ L s.heap m) (hN : News h₀ L s.heap news) (hl : IsPart l lo) (hu : IsPart u hi) (hz : b.size ≤ 16777216)
    (h : ∀ h' t' k, Fr h₀ L h' m → News h₀ L h' news → Q (.bytes (KBy.picked b lo hi) t') { s with heap := h', toks := k })
    (hs : subscripted slice false (.bytes b t) (.ref s.heap.objs.size) = operate [.ref s.heap.objs.size, .bytes b t] (getItem (.bytes b t) (.ref s.heap.objs.size)) := by with_unfolding_all rfl)
    (ht : ∀ r, letTemporaryGo value (.bytes b t) r = pure () := by intro _; with_unfolding_all rfl) :
    wpAny (model prog w) A (subscriptTail value slice (.bytes b t) (.ref s.heap.objs.size)) Q E { s with heap := s.heap.push { cls := .type "slice", data := .fields #[l, u, .none] } } :=
  KBc.slice_K hF hN rfl hl hu (by rw [KBw.ints_length]; exact hz) (fun h' t' k F N _ => h h' t' k F N) hs ht
end
end Mine
end
section
open PySem PySem.W PySem.Calls PyProof.Rows PyProof.V PySem.Spec
namespace Mine
/-- the end of a loop's turn: a next state c, its part of the ledger and its names as they now stand -/
def MyEnd {σ : Type} (h₀ : Heap) (L : Addr) (Var : σ → List (Addr × Obj)) (rest : List (Addr × Obj)) (ps : σ → List (PySem.Str × Value)) (x : PySem.Str) (stored : List PySem.Str) (m₀ : PySem.Str → Option Value) (bad : Obj → Bool) (J : σ → Prop) (own : List (Addr × Obj)) (s₁ s₂ : Shared) : Prop :=
  ∃ (c : σ) (h' : Heap) (tk : Nat) (m' : PySem.Str → Option Value) (news' : List (Addr × Obj)), s₂ = { s₁ with heap := h', toks := tk } ∧ Fr h₀ L h' m' ∧ News h₀ L h' news' ∧ (∀ p ∈ Var c, p ∈ news') ∧ (∀ p ∈ rest, p ∈ news') ∧ (∀ p ∈ own, p ∈ news') ∧
    (∀ p ∈ Var c, bad p.2 = false) ∧ (∀ p ∈ ps c, m' p.1 = some p.2) ∧ (∀ z, z ≠ x → (∀ p ∈ ps c, z ≠ p.1) → stored.contains z = false → m' z = m₀ z) ∧ J c
def MyPost {σ : Type} (h₀ : Heap) (L : Addr) (Var : σ → List (Addr × Obj)) (rest : List (Addr × Obj)) (ps : σ → List (PySem.Str × Value)) (x : PySem.Str) (stored : List PySem.Str) (m₀ : PySem.Str → Option Value) (bad : Obj → Bool) (J : σ → Prop) (own : List (Addr × Obj)) (s₁ : Shared) (Q : Flow → Shared → Prop) (f : Flow) (s₂ : Shared) : Prop :=
  match f with
  | .ret v => Q (.ret v) s₂
  | .brk => Q .next s₂
  | _ => MyEnd h₀ L Var rest ps x stored m₀ bad J own s₁ s₂
theorem my_end {σ : Type} {h₀ : Heap} {L : Addr} {Var : σ → List (Addr × Obj)} {rest : List (Addr × Obj)} {ps : σ → List (PySem.Str × Value)} {x : PySem.Str} {stored : List PySem.Str} {m₀ m' : PySem.Str → Option Value} {bad : Obj → Bool} {J : σ → Prop} {own news' : List (Addr × Obj)} {s : Shared} {h h' : Heap} {tk tk' : Nat} (c : σ)
    (F : Fr h₀ L h' m') (N : News h₀ L h' news') (h1 : ∀ p ∈ Var c, p ∈ news') (hr : ∀ p ∈ rest, p ∈ news') (h2 : ∀ p ∈ own, p ∈ news') (h3 : ∀ p ∈ Var c, bad p.2 = false) (h4 : ∀ p ∈ ps c, m' p.1 = some p.2)
    (h5 : ∀ z, z ≠ x → (∀ p ∈ ps c, z ≠ p.1) → stored.contains z = false → m' z = m₀ z) (h6 : J c) :
    MyEnd h₀ L Var rest ps x stored m₀ bad J own { s with heap := h, toks := tk } { s with heap := h', toks := tk' } := ⟨c, h', tk', m', news', rfl, F, N, h1, hr, h2, h3, h4, h5, h6⟩
section
variable {prog : Program} {w : World} {A : Around} {E : Value → Shared → Prop} {s : Shared} {env : Env} {h₀ : Heap} {x : PySem.Str} {body : List Stmt} {Q : Flow → Shared → Prop}
theorem my_walk {σ : Type} {I : Addr} {fp wr : List Addr} {n : Nat} {P : Nat → Value → Prop} {St : Nat → Heap → Prop} {m₀ : PySem.Str → Option Value} (Var : σ → List (Addr × Obj)) (rest : List (Addr × Obj)) (ps : σ → List (PySem.Str × Value)) (stored : List PySem.Str) (bad : Obj → Bool) (J : Nat → σ → Prop) (c₀ : σ)
    (W : Walks prog w A I fp wr n P St) (hLf : env.locals ∉ fp) (hwr : ∀ b ∈ wr, h₀.get? b = none) (hnw : ∀ p ∈ Var c₀ ++ rest, p.1 ∉ wr)
    (hbad : ∀ i h, St i h → ∀ b ∈ wr, ∃ o, h.get? b = some o ∧ bad o = true)
    (hfp : ∀ b ∈ fp, b ∈ wr ∨ (∃ o, h₀.get? b = some o) ∨ ∃ o, (b, o) ∈ rest)
    (hst : St 0 s.heap) (F : Fr h₀ env.locals s.heap m₀) (N : News h₀ env.locals s.heap (Var c₀ ++ rest)) (hk : ∀ p ∈ ps c₀, m₀ p.1 = some p.2) (hj : J 0 c₀)
    (turn : ∀ i v (c : σ) (u : PySem.Str → Option Value) h tk own, i < n → P i v → J i c → OwnOff own ((Var c ++ rest).map (·.1)) →
      Fr h₀ env.locals h (fun y => if y = x then some v else kstB (fun z => if stored.contains z then u z else m₀ z) (ps c) y) → News h₀ env.locals h (Var c ++ (rest ++ own)) →
      wpAny (model prog w) A (execs body env) (MyPost h₀ env.locals Var rest ps x stored m₀ bad (J (i + 1)) own { s with heap := h, toks := tk } Q) E { s with heap := h, toks := tk })
    (done : ∀ (c : σ) (u : PySem.Str → Option Value) h tk, J n c → Fr h₀ env.locals h (fun y => if y = x then u y else kstB (fun z => if stored.contains z then u z else m₀ z) (ps c) y) → News h₀ env.locals h (Var c ++ rest) → Q .next { s with heap := h, toks := tk }) :
    LoopAtV prog w A h₀ env x body Q E (.ref I) s := by
  have hrw : ∀ p ∈ rest, p.1 ∉ wr := fun p hp => hnw p (List.mem_append.mpr (.inr hp))
  let J' : Nat → (PySem.Str → Option Value) → List (Addr × Obj) → Prop := fun i m₁ nx => ∃ c : σ, nx = Var c ++ rest ∧ (∀ p ∈ ps c, m₁ p.1 = some p.2) ∧ (∀ z, z ≠ x → (∀ p ∈ ps c, z ≠ p.1) → stored.contains z = false → m₁ z = m₀ z) ∧ J i c
  refine ⟨I, fp, wr, n, P, St, m₀, Var c₀ ++ rest, J', rfl, W, hLf, hwr, hnw, hst, F, N, ⟨c₀, rfl, hk, fun _ _ _ _ => rfl, hj⟩, ?_, ?_⟩
  · rintro i v m₁ nx s₁ own ⟨hh', tk', rfl⟩ hin hP ⟨c, rfl, h1, h2, hJ⟩ hoff hown hget hall hst₁ F₁ N₁
    let own' := own.filter fun p => decide (p.1 ∈ wr)
    have hsub : ∀ p ∈ own', p ∈ own ∧ p.1 ∈ wr := fun p hp => by
      have := List.mem_filter.mp hp
      exact ⟨this.1, of_decide_eq_true this.2⟩
    have hsep : OwnOff own' ((Var c ++ rest).map (·.1)) := by
      intro p hp b hb' e
      obtain ⟨q, hq, rfl⟩ := List.mem_map.mp hb'
      exact hoff q hq (e ▸ (hsub p hp).2)
    have N₂ : News h₀ env.locals hh' (Var c ++ (rest ++ own')) := fun p hp => by
      rcases List.mem_append.mp hp with h | h
      · exact N₁ p (List.mem_append.mpr (.inr (List.mem_append.mpr (.inl h))))
      · rcases List.mem_append.mp h with h | h
        · exact N₁ p (List.mem_append.mpr (.inr (List.mem_append.mpr (.inr h))))
        · exact N₁ p (List.mem_append.mpr (.inl (hsub p h).1))
    refine wpAny_mono (turn i v c m₁ hh' tk' own' hin hP hJ hsep (kst_fr h1 h2 F₁) N₂) (fun f s₂ p => ?_) fun _ _ e => e
    have fin : MyEnd h₀ env.locals Var rest ps x stored m₀ bad (J (i + 1)) own' { s with heap := hh', toks := tk' } s₂ → LoopStepU h₀ env.locals wr own (J' (i + 1)) { s with heap := hh', toks := tk' } .next s₂ := by
      rintro ⟨c', h', tk, m', news', e, F', N', hn, hr, ho, hb', hps, hrest, hJ'⟩
      have hnr : ∀ p ∈ Var c' ++ rest, p ∈ news' := fun p hp => (List.mem_append.mp hp).elim (hn p) (hr p)
      refine ⟨rfl, h', tk, m', Var c' ++ rest, e, F', fun p hp => ?_, fun p hp hq => ?_, c', rfl, hps, hrest, hJ'⟩
      · rcases List.mem_append.mp hp with hp | hp
        · rcases hfp p.1 (hown p hp) with hq | ⟨o, hq⟩ | ⟨o, hq⟩
          · exact N' p (ho p (List.mem_filter.mpr ⟨hp, decide_eq_true hq⟩))
          · have := (N₁ p (List.mem_append.mpr (.inl hp))).2.2
            rw [hq] at this; cases this
          · have e1 := (N₁ _ (List.mem_append.mpr (.inr (List.mem_append.mpr (.inr hq))))).1
            have e2 := (N₁ p (List.mem_append.mpr (.inl hp))).1
            have e3 : p.2 = o := Option.some.inj (e2.symm.trans e1)
            have e4 : (p.1, o) = p := by rw [← e3]
            exact N' p (hr p (e4 ▸ hq))
        · exact N' p (hnr p hp)
      · rcases List.mem_append.mp hp with hp | hp
        · obtain ⟨o, ho1, ho2⟩ := hbad _ _ hst₁ p.1 hq
          have hm := hall p.1 (W.sub _ hq) (hwr _ hq) o ho1
          have e1 := (N' _ (ho _ (List.mem_filter.mpr ⟨hm, decide_eq_true hq⟩))).1
          have e2 := (N' _ (hn p hp)).1
          have e3 : o = p.2 := Option.some.inj (e1.symm.trans e2)
          have := hb' p hp
          rw [← e3, ho2] at this
          cases this
        · exact hrw p hp hq
    cases f with
    | ret v => exact .ret p
    | brk => exact .brk p
    | next => exact .next (fin p)
    | cont => exact .cont (fin p)
  · rintro h' tk m' nx F' N' _ ⟨c, rfl, h1, h2, hJ⟩
    exact done c m' h' tk hJ (kst_frOut h1 h2 F') N'

def badStr (o : Obj) : Bool := match o.cls with
  | .type "str_ascii_iterator" => true
  | .type "str_iterator" => true
  | _ => false
/-- a text's signs, one after another -/
theorem my_text {σ : Type} {xt : PySem.Str} {tx : Tok} {m₀ : PySem.Str → Option Value} (Var : σ → List (Addr × Obj)) (rest : List (Addr × Obj)) (ps : σ → List (PySem.Str × Value)) (stored : List PySem.Str) (J : List Nat → σ → Prop) (c₀ : σ)
    (hh : A.handled = none) (F : Fr h₀ env.locals s.heap m₀) (N : News h₀ env.locals s.heap (Var c₀ ++ rest)) (hk : ∀ p ∈ ps c₀, m₀ p.1 = some p.2) (hj : J [] c₀)
    (turn : ∀ pre (n : Nat) post t (c : σ) (u : PySem.Str → Option Value) h tk own, xt.cps.toList = pre ++ n :: post → J pre c → OwnOff own ((Var c ++ rest).map (·.1)) →
      Fr h₀ env.locals h (fun y => if y = x then some (.str ⟨#[n]⟩ t) else kstB (fun z => if stored.contains z then u z else m₀ z) (ps c) y) → News h₀ env.locals h (Var c ++ (rest ++ own)) →
      wpAny (model prog w) A (execs body env) (MyPost h₀ env.locals Var rest ps x stored m₀ badStr (J (pre ++ [n])) own { s with heap := h, toks := tk } Q) E { s with heap := h, toks := tk })
    (done : ∀ (c : σ) (u : PySem.Str → Option Value) h tk, J xt.cps.toList c → Fr h₀ env.locals h (fun y => if y = x then u y else kstB (fun z => if stored.contains z then u z else m₀ z) (ps c) y) → News h₀ env.locals h (Var c ++ rest) → Q .next { s with heap := h, toks := tk }) :
    wpAny (model prog w) A (pyIter (.str xt tx)) (fun it s₂ => LoopAtV prog w A h₀ env x body Q E it s₂) E s := by
  have go : ∀ (St : Nat → Heap → Prop) (o : Obj), Walks prog w A s.heap.objs.size [s.heap.objs.size] [s.heap.objs.size] xt.cps.size (SignAt xt) St → (∀ i h, St i h → ∃ o, h.get? s.heap.objs.size = some o ∧ badStr o = true) → St 0 (s.heap.push o) →
      LoopAtV prog w A h₀ env x body Q E (.ref s.heap.objs.size) { s with heap := s.heap.push o } := by
    intro St o W hB hst
    refine my_walk Var rest ps stored badStr (fun i c => J (xt.cps.toList.take i) c) c₀ W ?_ ?_ ?_ ?_ ?_ hst (F.push _) (fun p hp => ⟨Heap.get?_push_of_some _ (N p hp).1, (N p hp).2⟩) hk (by simpa using hj) ?_ ?_
    · intro hm
      exact absurd F.ns.lt ((List.mem_singleton.mp hm) ▸ Nat.lt_irrefl _)
    · intro b' hb'
      rw [List.mem_singleton.mp hb']
      exact next_is_new F
    · intro p hp hI
      exact absurd (Heap.lt_size (N p hp).1) ((List.mem_singleton.mp hI) ▸ Nat.lt_irrefl _)
    · intro i h hS b hb'
      rw [List.mem_singleton.mp hb']
      exact hB i h hS
    · intro b hb'
      exact .inl hb'
    · rintro i v c u h tk own hi ⟨n, t, hn, rfl⟩ hJ hoff F₁ N₁
      have hn' : xt.cps.toList[i]? = some n := by simpa using hn
      have hs : xt.cps.toList.take (i + 1) = xt.cps.toList.take i ++ [n] := by rw [List.take_add_one, hn']; rfl
      have e : xt.cps.toList = xt.cps.toList.take i ++ n :: xt.cps.toList.drop (i + 1) := by
        have ht := List.take_append_drop (i + 1) xt.cps.toList
        rw [hs, List.append_assoc] at ht
        exact ht.symm
      show wpAny _ _ _ (MyPost h₀ env.locals Var rest ps x stored m₀ badStr (J (xt.cps.toList.take (i + 1))) own _ Q) _ _
      rw [hs]
      exact turn _ n _ t c u h tk own e hJ hoff F₁ N₁
    · rintro c u h tk hJ F₁ N₁
      have hl : xt.cps.toList.take xt.cps.size = xt.cps.toList := List.take_of_length_le (by simp)
      rw [hl] at hJ
      exact done c u h tk hJ F₁ N₁
  cases ha : xt.cps.all (· < 128)
  · exact wpAny_pyIter_wide ha (go (fun i h => h.IsStrIter s.heap.objs.size "str_iterator" xt tx i) _ (Walks.strWide hh _ xt tx) (fun i h ⟨o, ho, hc, _⟩ => ⟨o, ho, by unfold badStr; rw [hc]; rfl⟩) ⟨_, Heap.get?_push_size _ rfl, rfl, rfl⟩)
  · exact wpAny_pyIter_ascii ha (go (fun i h => h.IsStrIter s.heap.objs.size "str_ascii_iterator" xt tx i) _ (Walks.strAscii hh _ xt tx) (fun i h ⟨o, ho, hc, _⟩ => ⟨o, ho, by unfold badStr; rw [hc]; rfl⟩) ⟨_, Heap.get?_push_size _ rfl, rfl, rfl⟩)
end
end Mine
end
section
open PySem PySem.W PySem.Calls PyProof.Rows PyProof.V PySem.Spec
namespace Mine
structure WsC where
  l : Addr
  vs : List Value
  k : Nat
  b : Int
  tb : Tok
  n : Int
  tn : Tok
  nt : Int
  tt : Tok
def wsPut (cnt : List Int) (b : Nat) : List Int := (fun c => c.set b (c.getD b 0 + 1)) (if cnt.length ≤ b then cnt ++ List.replicate (b + 1 - cnt.length) 0 else cnt)
def wsStep (st : List Int × Nat × Nat × Nat) (c : Nat) : List Int × Nat × Nat × Nat :=
  if c = 32 then (st.1, st.2.1 + 1, st.2.2.1 + 1, st.2.2.2) else (wsPut st.1 st.2.1, 0, st.2.2.1 + 1, st.2.2.2 + 1)
def wsAll (cs : List Nat) : List Int × Nat × Nat × Nat := cs.foldl wsStep ([], 0, 0, 0)
theorem wsAll_snoc (cs : List Nat) (c : Nat) : wsAll (cs ++ [c]) = wsStep (wsAll cs) c := by simp [wsAll]
def WsJ (pre : List Nat) (c : WsC) : Prop :=
  IntsAre c.vs (wsAll pre).1 ∧ c.b = (wsAll pre).2.1 ∧ c.n = (wsAll pre).2.2.1 ∧ c.nt = (wsAll pre).2.2.2
theorem wsPut_len (cnt : List Int) (b : Nat) : (wsPut cnt b).length ≤ max cnt.length (b + 1) := by
  unfold wsPut
  simp only [List.length_set]
  split
  · rw [List.length_append, List.length_replicate]; omega
  · omega
theorem snoc_ind {α : Type} {P : List α → Prop} (h0 : P []) (h1 : ∀ l a, P l → P (l ++ [a])) (l : List α) : P l := by
  have h : ∀ r : List α, P r.reverse := by
    intro r
    induction r with
    | nil => exact h0
    | cons a r ih => rw [List.reverse_cons]; exact h1 _ _ ih
  have := h l.reverse
  rwa [List.reverse_reverse] at this
theorem ws_bound (cs : List Nat) : (wsAll cs).1.length ≤ cs.length ∧ (wsAll cs).2.1 ≤ cs.length ∧ (wsAll cs).2.2.1 ≤ cs.length ∧ (wsAll cs).2.2.2 ≤ cs.length := by
  refine snoc_ind (P := fun cs => (wsAll cs).1.length ≤ cs.length ∧ (wsAll cs).2.1 ≤ cs.length ∧ (wsAll cs).2.2.1 ≤ cs.length ∧ (wsAll cs).2.2.2 ≤ cs.length) ?_ ?_ cs
  · simp [wsAll]
  · intro pre n ih
    rw [wsAll_snoc, List.length_append]
    unfold wsStep
    split
    · simp only [List.length_singleton]; omega
    · have := wsPut_len (wsAll pre).1 (wsAll pre).2.1
      simp only [List.length_singleton]; omega
end Mine
namespace Mine
theorem all_append {d : Addr} {a b : List (Addr × Obj)} (h1 : ∀ p ∈ a, p.1 ≠ d) (h2 : ∀ p ∈ b, p.1 ≠ d) : ∀ p ∈ a ++ b, p.1 ≠ d := fun p hp => (List.mem_append.mp hp).elim (h1 p) (h2 p)
theorem lt_of_allLt {d : Addr} {l : List (Addr × Obj)} (h : AllLt d l) : ∀ p ∈ l, p.1 < d := by
  induction l with
  | nil => intro p hp; cases hp
  | cons q r ih =>
    intro p hp
    rcases List.mem_cons.mp hp with e | hp
    · rw [e]; exact h.1
    · exact ih h.2 p hp
theorem flat_rep (k : Nat) : (List.replicate k [(0 : Int)]).flatten = List.replicate k 0 := by
  induction k with
  | zero => rfl
  | succ k ih => rw [List.replicate_succ, List.flatten_cons, ih]; rfl
theorem wsPut_a {cnt : List Int} {b : Nat} (h : cnt.length ≤ b) :
    (cnt ++ (List.replicate ((b : Int) - (cnt.length : Int) + 1).toNat [(0 : Int)]).flatten).set (b : Int).toNat ((cnt ++ (List.replicate ((b : Int) - (cnt.length : Int) + 1).toNat [(0 : Int)]).flatten).getD (b : Int).toNat 0 + 1) = wsPut cnt b := by
  have e : ((b : Int) - (cnt.length : Int) + 1).toNat = b + 1 - cnt.length := by omega
  have e2 : (b : Int).toNat = b := by omega
  rw [e, e2, flat_rep]
  simp only [wsPut, h, if_true]
theorem wsPut_b {cnt : List Int} {b : Nat} (h : ¬ cnt.length ≤ b) : cnt.set (b : Int).toNat (cnt.getD (b : Int).toNat 0 + 1) = wsPut cnt b := by
  have e2 : (b : Int).toNat = b := by omega
  rw [e2]
  simp only [wsPut, h, if_false]
end Mine
namespace Mine
abbrev wsNames (c : WsC) : List (PySem.Str × Value) := [(PySem.Str.ofString "count", .ref c.l), (PySem.Str.ofString "b", .int c.b c.tb), (PySem.Str.ofString "n", .int c.n c.tn), (PySem.Str.ofString "nt", .int c.nt c.tt)]
section
variable {prog : Program} {w : World} {A : Around} {E : Value → Shared → Prop} {s : Shared} {env : Env} {h₀ : Heap} {x : PySem.Str} {body : List Stmt} {Q : Flow → Shared → Prop}
theorem ws_loop {xt : PySem.Str} {tx : Tok} {m₀ : PySem.Str → Option Value} {rest : List (Addr × Obj)} {l : Addr} {tb tn tt : Tok}
    (hh : A.handled = none) (F : Fr h₀ env.locals s.heap m₀) (N : News h₀ env.locals s.heap ((l, W.listOf #[] 0) :: rest)) (hl : ∀ p ∈ rest, p.1 < l)
    (hk : ∀ p ∈ wsNames ⟨l, [], 0, 0, tb, 0, tn, 0, tt⟩, m₀ p.1 = some p.2)
    (turn : ∀ pre (n : Nat) post t (l : Addr) (vs : List Value) (k : Nat) (cnt : List Int) (b n' nt' : Nat) (tb tn tt : Tok) (u : PySem.Str → Option Value) h tk own, xt.cps.toList = pre ++ n :: post →
      wsAll pre = (cnt, b, n', nt') → IntsAre vs cnt → (∀ p ∈ rest, p.1 < l) → OwnOff own (l :: rest.map (·.1)) →
      Fr h₀ env.locals h (fun y => if y = x then some (.str ⟨#[n]⟩ t) else kstB (fun z => if ([] : List PySem.Str).contains z then u z else m₀ z) (wsNames ⟨l, vs, k, (b : Int), tb, (n' : Int), tn, (nt' : Int), tt⟩) y) →
      News h₀ env.locals h ((l, W.listOf vs.toArray k) :: (rest ++ own)) →
      wpAny (model prog w) A (execs body env) (MyPost h₀ env.locals (fun c : WsC => [(c.l, W.listOf c.vs.toArray c.k)]) rest wsNames x [] m₀ badStr (fun c => WsJ (pre ++ [n]) c ∧ ∀ p ∈ rest, p.1 < c.l) own { s with heap := h, toks := tk } Q) E { s with heap := h, toks := tk })
    (done : ∀ (l : Addr) (vs : List Value) (k : Nat) (cnt : List Int) (b n' nt' : Nat) (tb tn tt : Tok) (u : PySem.Str → Option Value) h tk, wsAll xt.cps.toList = (cnt, b, n', nt') → IntsAre vs cnt → (∀ p ∈ rest, p.1 < l) →
      Fr h₀ env.locals h (fun y => if y = x then u y else kstB (fun z => if ([] : List PySem.Str).contains z then u z else m₀ z) (wsNames ⟨l, vs, k, (b : Int), tb, (n' : Int), tn, (nt' : Int), tt⟩) y) → News h₀ env.locals h ((l, W.listOf vs.toArray k) :: rest) → Q .next { s with heap := h, toks := tk }) :
    wpAny (model prog w) A (pyIter (.str xt tx)) (fun it s₂ => LoopAtV prog w A h₀ env x body Q E it s₂) E s := by
  refine my_text (fun c : WsC => [(c.l, W.listOf c.vs.toArray c.k)]) rest wsNames [] (fun pre c => WsJ pre c ∧ ∀ p ∈ rest, p.1 < c.l) ⟨l, [], 0, 0, tb, 0, tn, 0, tt⟩ hh F N hk ⟨⟨.nil, rfl, rfl, rfl⟩, hl⟩ ?_ ?_
  · rintro pre n post t ⟨l, vs, k, b, tb, n', tn, nt', tt⟩ u h tk own hpre ⟨⟨hI, hb', hn, hnt⟩, hlt⟩ hoff F₁ N₁
    dsimp only at hI hb' hn hnt hlt hoff F₁ N₁
    generalize hst : wsAll pre = st at *
    obtain ⟨cnt, b₀, n₀, nt₀⟩ := st
    dsimp only at hI hb' hn hnt
    subst hb' hn hnt
    exact turn pre n post t l vs k cnt b₀ n₀ nt₀ tb tn tt u h tk own hpre hst hI hlt hoff F₁ N₁
  · rintro ⟨l, vs, k, b, tb, n', tn, nt', tt⟩ u h tk ⟨⟨hI, hb', hn, hnt⟩, hlt⟩ F₁ N₁
    dsimp only at hI hb' hn hnt hlt F₁ N₁
    generalize hst : wsAll xt.cps.toList = st at *
    obtain ⟨cnt, b₀, n₀, nt₀⟩ := st
    dsimp only at hI hb' hn hnt
    subst hb' hn hnt
    exact done l vs k cnt b₀ n₀ nt₀ tb tn tt u h tk rfl hI hlt F₁ N₁
theorem ws_end {m₀ m' : PySem.Str → Option Value} {L : Addr} {h h' : Heap} {tk tk' : Nat} {own rest news' : List (Addr × Obj)} {pre : List Nat} {n : Nat} {cnt : List Int} {b n' nt' : Nat} (cnt' : List Int) (b' n'' nt'' : Nat) {bI nI tI : Int}
    {l : Addr} {vs : List Value} {k : Nat} {tb tn tt : Tok} (hst : wsAll pre = (cnt, b, n', nt')) (he : wsStep (cnt, b, n', nt') n = (cnt', b', n'', nt'')) (F : Fr h₀ L h' m') (N : News h₀ L h' news') (hl : (l, W.listOf vs.toArray k) ∈ news') (hr : ∀ p ∈ rest, p ∈ news') (ho : ∀ p ∈ own, p ∈ news')
    (hlt : ∀ p ∈ rest, p.1 < l)
    (h4 : ∀ p ∈ wsNames ⟨l, vs, k, bI, tb, nI, tn, tI, tt⟩, m' p.1 = some p.2)
    (h5 : ∀ z, z ≠ x → (∀ p ∈ wsNames ⟨l, vs, k, bI, tb, nI, tn, tI, tt⟩, z ≠ p.1) → ([] : List PySem.Str).contains z = false → m' z = m₀ z)
    (hI : IntsAre vs cnt') (e1 : bI = b') (e2 : nI = n'') (e3 : tI = nt'') :
    MyEnd h₀ L (fun c : WsC => [(c.l, W.listOf c.vs.toArray c.k)]) rest wsNames x [] m₀ badStr (fun c => WsJ (pre ++ [n]) c ∧ ∀ p ∈ rest, p.1 < c.l) own { s with heap := h, toks := tk } { s with heap := h', toks := tk' } := by
  subst e1 e2 e3
  refine my_end (⟨l, vs, k, (b' : Int), tb, (n'' : Int), tn, (nt'' : Int), tt⟩ : WsC) F N (List.forall_mem_cons.mpr ⟨hl, List.forall_mem_nil _⟩) hr ho (List.forall_mem_cons.mpr ⟨rfl, List.forall_mem_nil _⟩) h4 h5 ⟨?_, hlt⟩
  unfold WsJ
  rw [wsAll_snoc, hst, he]
  exact ⟨hI, rfl, rfl, rfl⟩
end
end Mine
namespace Mine
abbrev tupO (vs : List Value) : Obj := { cls := .type "tuple", data := .seq vs.toArray }
/-- the objects of a Whitespace of a text -/
def WsObjs (w : World) (C : Addr) (x : PySem.Str) (xa : Addr) (nx : List (Addr × Obj)) : Prop :=
  ∃ (dx nm ct : Addr) (vs : List Value) (cnt : List Int) (b n nt : Nat) (v₁ v₅ : Value) (t₁ t₂ t₃ t₄ t₅ tb tn tt : Tok),
    nx = [(nm, tupO [.ref ct, .int (b : Int) tb]), (ct, tupO vs), (xa, instObj C dx), (dx, dictOf [{ hash := PyData.keyHash w.params (PySem.Str.ofString "raw"), key := .str (PySem.Str.ofString "raw") t₁, val := v₁ },
      { hash := PyData.keyHash w.params (PySem.Str.ofString "n"), key := .str (PySem.Str.ofString "n") t₂, val := .int (n : Int) tn }, { hash := PyData.keyHash w.params (PySem.Str.ofString "nt"), key := .str (PySem.Str.ofString "nt") t₃, val := .int (nt : Int) tt },
      { hash := PyData.keyHash w.params (PySem.Str.ofString "norm"), key := .str (PySem.Str.ofString "norm") t₄, val := .ref nm }, { hash := PyData.keyHash w.params (PySem.Str.ofString "is_simple"), key := .str (PySem.Str.ofString "is_simple") t₅, val := v₅ }] 5)] ∧
    IntsAre vs cnt ∧ wsAll x.cps.toList = (cnt, b, n, nt)
theorem news_of {h₀ h : Heap} {L : Addr} {a b : List (Addr × Obj)} (N : News h₀ L h a) (hs : ∀ p ∈ b, p ∈ a) : News h₀ L h b := fun p hp => N p (hs p hp)
end Mine
end
section
open PySem PySem.W PySem.Calls PyProof.Rows PyProof.V PySem.Spec
namespace Mine
section
variable {prog : Program} {w : World} {A : Around} {E : Value → Shared → Prop} {s : Shared} {h₀ : Heap} {L : Addr} {m : PySem.Str → Option Value} {news : List (Addr × Obj)} {Q : Value → Shared → Prop}
theorem tup_len {a : Addr} {vs : List Value} {ns : List Int} (N : News h₀ L s.heap news) (hm : (a, tupO vs) ∈ news) (hI : IntsAre vs ns) (hz : ns.length ≤ 100000) (h : Q (.int (ns.length : Nat) (s.toks + 1)) { s with toks := s.toks + 1 + 1 }) : wpAny (model prog w) A (call (.builtin "len") [.ref a]) Q E s := by
  have hl := hI.length
  refine PyProof.Rows.len_tuple (News.isTup N hm) ?_ ?_
  · rw [List.size_toArray, hl]; omega
  · rw [List.size_toArray, hl]; exact h
theorem tup_item {value slice : PySem.Expr} {a : Addr} {vs : List Value} {ns : List Int} {k : Int} {u : Tok} (N : News h₀ L s.heap news) (hm : (a, tupO vs) ∈ news) (hI : IntsAre vs ns) (hz : ns.length ≤ 100000) (h0 : 0 ≤ k) (h1 : k < ns.length)
    (h : ∀ t, Q (.int (ns.getD k.toNat 0) t) s)
    (hs : subscripted slice false (.ref a) (.int k u) = operate [.ref a, .int k u] (getItem (.ref a) (.int k u)) := by with_unfolding_all rfl) :
    wpAny (model prog w) A (subscriptTail value slice (.ref a) (.int k u)) Q E s := by
  have hl := hI.length
  have hk : k.toNat < ns.length := by omega
  obtain ⟨t, ht⟩ := hI.get k.toNat ns[k.toNat] (by simp [hk])
  have e : ns.getD k.toNat 0 = ns[k.toNat] := by simp [List.getD, hk]
  refine item_tupleT (News.isTup N hm) (by omega) (by omega) (j := k.toNat) ?_ ht (e ▸ h t) hs
  have h3 : ¬ k < 0 := by omega
  have h4 : k < (vs.length : Int) := by omega
  simp [seqIndex?, h3, h0, h4]
end
theorem fdiv_in {i ts : Int} (h0 : 0 ≤ i) (h1 : 1 ≤ ts) : 0 ≤ i.fdiv ts ∧ i.fdiv ts ≤ i := by
  rw [Int.fdiv_eq_ediv_of_nonneg _ (by omega)]
  exact ⟨Int.ediv_nonneg h0 (by omega), Int.ediv_le_self _ h0⟩
theorem bits_fdiv {i ts : Int} (h0 : 0 ≤ i) (h1 : 1 ≤ ts) (h2 : i < 2 ^ 60) : Builtin.Int.intBits (i.fdiv ts) ≤ 64 := by
  have := fdiv_in h0 h1
  exact intBits_le_64 (by omega) (by omega)
/-- the columns of the counted runs -/
def ilOf (cnt : List Int) (ts : Int) (pre : List Int) : Int := (pre.map fun i => Int.fdiv i ts * cnt.getD i.toNat 0).sum
theorem ilOf_snoc (cnt : List Int) (ts : Int) (pre : List Int) (i : Int) : ilOf cnt ts (pre ++ [i]) = ilOf cnt ts pre + Int.fdiv i ts * cnt.getD i.toNat 0 := by
  simp [ilOf]
end Mine
namespace Mine
theorem il_turn {cnt : List Int} {ts il i : Int} {pre : List Int} (h : il = ilOf cnt ts pre) : il + Int.fdiv i ts * cnt.getD i.toNat 0 = ilOf cnt ts (pre ++ [i]) := by rw [h, ilOf_snoc]
end Mine
namespace Mine
/-- what indent_level answers of a text of blanks and tabs -/
def wsLevel (cs : List Nat) (ts : Int) : Int := ((wsAll cs).2.1 : Int) + ts * (ilOf (wsAll cs).1 ts (rangeKs ts (((wsAll cs).1.length : Int) - ts).toNat) + ((wsAll cs).2.2.2 : Int))
theorem wsLevel_of {cs : List Nat} {ts il : Int} {cnt : List Int} {b n nt : Nat} (hst : wsAll cs = (cnt, b, n, nt)) (h : il = ilOf cnt ts (rangeKs ts ((cnt.length : Int) - ts).toNat)) : (b : Int) + ts * (il + (nt : Int)) = wsLevel cs ts := by
  unfold wsLevel
  rw [hst, h]
end Mine
end
section
open PySem PySem.W PySem.Calls PyProof.Rows PyProof.V PySem.Spec
namespace Mine
theorem foldl_app (l : List (Array Nat)) (a : Array Nat) : (l.foldl (· ++ ·) a).toList = a.toList ++ (l.map Array.toList).flatten := by
  induction l generalizing a with
  | nil => simp
  | cons b r ih => rw [List.foldl_cons, ih]; simp
theorem mul_codes (x : PySem.Str) (n : Int) : (Txt.mul x n).cps.toList = (List.replicate n.toNat x.cps.toList).flatten := by
  unfold Txt.mul
  by_cases h1 : n < 1
  · have : n.toNat = 0 := by omega
    rw [if_pos h1, this]; rfl
  · rw [if_neg h1]
    by_cases h2 : (n == 1 || x.length == 0) = true
    · rw [if_pos h2]
      rcases Bool.or_eq_true_iff.mp h2 with h3 | h3
      · have : n = 1 := by simpa using h3
        subst this
        show x.cps.toList = (List.replicate 1 x.cps.toList).flatten
        simp
      · have h4 : x.cps.size = 0 := by simpa [PySem.Str.length] using h3
        have h5 : x.cps.toList = [] := by rw [← List.length_eq_zero_iff, Array.length_toList, h4]
        rw [h5]
        induction n.toNat with
        | zero => rfl
        | succ k ih => rw [List.replicate_succ, List.flatten_cons, ← ih]; rfl
    · rw [if_neg h2]
      show (List.foldl (· ++ ·) #[] (List.replicate n.toNat x.cps)).toList = _
      rw [foldl_app]
      simp
section
variable {prog : Program} {w : World} {A : Around} {E : Value → Shared → Prop} {s : Shared} {Q : Value → Shared → Prop} {x y : PySem.Str} {t u : Tok} {i : Int} {a b : List Nat}
theorem str_mul1 {c : Nat} (hx : x.cps.toList = [c]) (h0 : 0 ≤ i) (h1 : i ≤ 1000) (h : ∀ y t' k, y.cps.toList = List.replicate i.toNat c → Q (.str y t') { s with toks := k }) :
    wpAny (model prog w) A (binaryOp .Mult (.str x t) (.int i u)) Q E s := by
  have hl : x.length = 1 := by
    show x.cps.size = 1
    rw [← Array.length_toList, hx]; rfl
  refine SB.mul (mulOk_of 1 1000 (by omega) (by omega) (by omega) (by decide) (by decide)) fun t' k => h _ t' k ?_
  rw [mul_codes, hx]
  induction i.toNat with
  | zero => rfl
  | succ k ih => rw [List.replicate_succ, List.flatten_cons, ih]; rfl
theorem str_add (hx : x.cps.toList = a) (hy : y.cps.toList = b) (hl : a.length + b.length ≤ 10000) (h : ∀ z t' k, z.cps.toList = a ++ b → Q (.str z t') { s with toks := k }) :
    wpAny (model prog w) A (binaryOp .Add (.str x t) (.str y u)) Q E s := by
  have hx1 : x.length = a.length := by
    show x.cps.size = _
    rw [← Array.length_toList, hx]
  have hy1 : y.length = b.length := by
    show y.cps.size = _
    rw [← Array.length_toList, hy]
  refine KXadd.add (K := a.length) (L := b.length) (by omega) (by omega) (by omega) fun t' k _ => h _ t' k ?_
  rw [PySem.Str.cps_append, Array.toList_append, hx, hy]
end
section
variable {prog : Program} {w : World} {A : Around} {E : Value → Shared → Prop} {s : Shared} {Q : Value → Shared → Prop} {t u : Tok} {a great small lf cn : Int}
end
end Mine
namespace Mine
end Mine
namespace Mine
theorem ints_snoc {vs : List Value} {ns : List Int} (h : IntsAre vs ns) (n : Int) (t : Tok) : IntsAre (vs ++ [.int n t]) (ns ++ [n]) := by
  induction h with
  | nil => exact .cons _ _ .nil
  | cons a b _ ih => exact .cons a b ih
end Mine
end
section
open PySem PySem.W PySem.Calls PyProof.Rows PyProof.V PySem.Spec
namespace Mine
/-- the word of a symbol -/
def word2 (k : Nat) : Array UInt8 := #[UInt8.ofNat (65 + k / 16), UInt8.ofNat (65 + k % 16)]
end Mine
end
section
open PySem PySem.W PySem.Calls PyProof.Rows PyProof.V PySem.Spec
namespace Mine
section
variable {prog : Program} {w : World} {A : Around} {E : Value → Shared → Prop} {s : Shared} {h₀ : Heap} {L : Addr} {m : PySem.Str → Option Value} {news : List (Addr × Obj)} {Q : Value → Shared → Prop} {t u : Tok} {n : Nat} {b : Int}
theorem nat_div (k : Nat) (hk : b = (k : Int)) (h0 : 0 < k) (h1 : k ≤ 65536) (h : ∀ t k', Q (.int ((n / k : Nat) : Int) t) { s with toks := k' }) : wpAny (model prog w) A (binaryOp .FloorDiv (.int (n : Int) t) (.int b u)) Q E s := by
  subst hk
  refine PyProof.Rows.floordiv_int (by omega) ?_ (hp := Or.inl (PyProof.noPylong_small (by omega)))
  have e : Int.fdiv (n : Int) (k : Int) = ((n / k : Nat) : Int) := by
    rw [Int.fdiv_eq_ediv_of_nonneg _ (by omega)]; rfl
  rw [e]
  exact h _ _
theorem bytes_word {l : Addr} {n : Nat} {k : Nat} {ta tb : Tok} (F : Fr h₀ L s.heap m) (N : News h₀ L s.heap news) (hm : (l, W.listOf [.int (65 + ((k / 16 : Nat) : Int)) ta, .int (65 + ((k % 16 : Nat) : Int)) tb].toArray n) ∈ news) (hk : k < 256) (hh : A.handled = none)
    (h : ∀ t h' k', Fr h₀ L h' m → News h₀ L h' news → Q (.bytes (word2 k) t) { s with heap := h', toks := k' }) : wpAny (model prog w) A (call (.type "bytes") [.ref l]) Q E s := by
  refine bytes_K F N (News.isList N hm) (.cons _ _ (.cons _ _ .nil)) ?_ (by rw [sizeLine_eq]; simp) hh fun h' t k' F' N' _ => ?_
  · intro x hx
    simp only [List.mem_cons, List.not_mem_nil, or_false] at hx
    rcases hx with rfl | rfl <;> omega
  · have e : ([65 + ((k / 16 : Nat) : Int), 65 + ((k % 16 : Nat) : Int)].map fun n => n.toNat.toUInt8).toArray = word2 k := by
      have e1 : (65 + ((k / 16 : Nat) : Int)).toNat = 65 + k / 16 := by omega
      have e2 : (65 + ((k % 16 : Nat) : Int)).toNat = 65 + k % 16 := by omega
      simp only [List.map_cons, List.map_nil, e1, e2]
      rfl
    rw [e]
    exact h _ _ _ F' N'
end
section
variable {prog : Program} {w : World} {A : Around} {E : Value → Shared → Prop} {s : Shared} {env : Env} {h₀ : Heap} {x : PySem.Str} {body : List Stmt} {Q : Flow → Shared → Prop}
end
end Mine
namespace Mine
end Mine
end
section
open PySem PySem.W PySem.Calls PyProof.Rows PyProof.V PySem.Spec
namespace Mine
theorem ap_two {m : Nat} (h : 16 ≤ m) : apL m = apL (m / 256) ++ [UInt8.ofNat (65 + m / 16 % 16), UInt8.ofNat (65 + m % 16)] := by
  rw [apL_pos (n := m) (by omega), apL_pos (n := m / 16) (by omega), show m / 16 / 16 = m / 256 by omega]
  simp
section
variable {prog : Program} {w : World} {A : Around} {E : Value → Shared → Prop} {s : Shared} {value slice : PySem.Expr} {t : Tok} {h₀ : Heap} {L : Addr} {mm : PySem.Str → Option Value} {news : List (Addr × Obj)} {l u : Value} {Q : Value → Shared → Prop} {m : Nat}
end
section
variable {prog : Program} {w : World} {A : Around} {E : Value → Shared → Prop} {s : Shared} {env : Env} {h₀ : Heap} {body : List Stmt} {Q : Flow → Shared → Prop}
end
end Mine
end
section
open PySem PySem.W PySem.Calls PyProof.Rows PyProof.Rows.LCg PyProof.V PySem.Spec
set_option maxHeartbeats 2000000
namespace Mine
section
variable {prog : Program} {w : World} {A : Around} {E : Value → Shared → Prop} {s : Shared} {h₀ : Heap} {L : Addr} {m : PySem.Str → Option Value} {env : Env}
/-- the turns of a list comprehension over pairs, by an invariant J of what is gathered and of the ledger -/
theorem cp_core {elt iter : PySem.Expr} {x x₂ : PySem.Str} {px px₂ tp : Pos} {tk} {scope : Scope} {cl : List (PySem.Str × Addr)} {pos : Pos} {I : Addr} {fp : List Addr} {n : Nat} {P : Nat → Value → Prop} {St : Nat → Heap → Prop} {news : List (Addr × Obj)}
    (J : Nat → List Value → List (Addr × Obj) → Prop) {RR : Value → Addr → Result → Shared → Prop}
    (W : Walks prog w A I fp [I] n P St) (hsz : n ≤ sizeLine) (hh : A.handled = none)
    (hown : ∀ i (s : Shared) (T : Addr) (Q : Unit → Shared → Prop) (E : Value → Shared → Prop), St i s.heap → Q () s → wpAny (model prog w) A (letOwnedTupleGo (.Tuple [.Name x px, .Name x₂ px₂] tk tp) (.ref I) (.ref T)) Q E s)
    (hIo : ∀ i h, St i h → ∃ o, h.get? I = some o)
    (hfp : ∀ b ∈ fp, b = I ∨ (∃ o, h₀.get? b = some o) ∨ ∃ o, ∀ i ys nx, J i ys nx → (b, o) ∈ nx)
    (hcell : ∀ y ∈ scope.names, y.2 ≠ .cell) (hkind : scope.kind = .function) (hx : scope.names.lookup x = some .local) (hx₂ : scope.names.lookup x₂ = some .local) (hxx : x ≠ x₂)
    (hst : St 0 s.heap) (hlt : ∀ b ∈ fp, b < s.heap.objs.size) (F : Fr h₀ L s.heap m) (N : News h₀ L s.heap news) (hIL : L ≠ I) (hI₀ : h₀.get? I = none) (off : ∀ p ∈ news, p.1 ≠ I) (hj : J 0 [] news)
    (turn : ∀ i v ys nx, i < n → P i v → ys.length = i → J i ys nx → ∃ t v₁ v₂, v = .ref t ∧ (t, tupO [v₁, v₂]) ∈ nx ∧
      ∀ oI C oC D m₂ h tk (E' : Value → Shared → Prop), NsObj oC m₂ → m₂ x = some v₁ → m₂ x₂ = some v₂ → Fr h₀ L h m → News h₀ L h ((I, oI) :: (C, oC) :: (D, lst ys) :: nx) → Off3 I C D nx → ((@Ne Nat I C) ∧ (@Ne Nat I D) ∧ (@Ne Nat C D)) →
        wpAny (model prog w) A (eval elt (compEnvC scope cl C env)) (CompEnd h₀ L m { s with heap := h, toks := tk } I oI C oC D (lst ys) (fun _ => True) (fun y nx' => J (i + 1) (ys ++ [y]) nx')) E' { s with heap := h, toks := tk })
    (done : ∀ D C h tk m' ys nx, J n ys nx → ys.length = n → Fr h₀ L h m → News h₀ L h ((D, lst ys) :: nx) → h.Ns C m' → h₀.get? C = none → h₀.get? D = none → C ≠ L → D ≠ L → C ≠ D → (∀ p ∈ nx, p.1 ≠ C ∧ p.1 ≠ D) → RR (.ref D) C (.ok .next) { s with heap := h, toks := tk }) :
    wpAny (model prog w) A (newList []) (fun acc s₃ => wpAny (model prog w) A (newFunctionEnv scope env.globals cl [] env.qual none .none (some env)) (fun cenv s₄ =>
      codeAny (model prog w) A (.compStart (.ListComp elt [⟨.Tuple [.Name x px, .Name x₂ px₂] tk tp, iter, [], 0⟩] scope pos) 0 (.ref I) acc { cenv with scope := relabel scope env }) (RR acc cenv.locals) s₄) E s₃) E s := by
  refine wpAny_newObj_type (wpAny_newFunctionEnv hcell (by intro y hy; simp at hy) (fun h₁ hns₁ hsb₁ => ?_) hkind)
  dsimp only at hns₁ hsb₁ ⊢
  have hIf : I ∈ fp := W.sub I (List.mem_singleton.mpr rfl)
  -- the two new objects: the list that gathers, the block's names
  obtain ⟨D, hD⟩ : ∃ D, D = s.heap.objs.size := ⟨_, rfl⟩
  generalize hH : s.heap.push { cls := .type "list", dict := none, data := .seq ([] : List Value).toArray } = H at hns₁ hsb₁ ⊢
  obtain ⟨C, hC⟩ : ∃ C, C = H.objs.size := ⟨_, rfl⟩
  have hCD : C = D + 1 := by rw [hC, ← hH, Heap.size_push, hD]
  have young : ∀ b o, s.heap.get? b = some o → b ≠ D ∧ b ≠ C := fun b o e => by
    have := Heap.lt_size e
    have h1 : @LT.lt Nat _ b D := by rw [hD]; exact this
    exact ⟨Nat.ne_of_lt h1, Nat.ne_of_lt (by rw [hCD]; omega)⟩
  have none₀ : ∀ b, (∀ o, s.heap.get? b ≠ some o) → h₀.get? b = none := fun b hb => by
    cases e : h₀.get? b with
    | none => rfl
    | some o => exact absurd (F.keep b o e) (hb o)
  have hD₀ : h₀.get? D = none := none₀ D fun o e => (young D o e).1 rfl
  have hC₀ : h₀.get? C = none := none₀ C fun o e => (young C o e).2 rfl
  obtain ⟨oL, hoL⟩ : ∃ o, s.heap.get? L = some o := let ⟨o, _, _, e, _⟩ := F.ns; ⟨o, e⟩
  obtain ⟨oI₀, hoI₀⟩ := hIo _ _ hst
  have hDL : D ≠ L := Ne.symm (young L _ hoL).1
  have hCL : C ≠ L := Ne.symm (young L _ hoL).2
  have hID : I ≠ D := (young I _ hoI₀).1
  have hIC : I ≠ C := (young I _ hoI₀).2
  have hDC : D ≠ C := by rw [hCD]; exact Nat.ne_of_lt (Nat.lt_succ_self _)
  have hDf : D ∉ fp := fun hm => Nat.lt_irrefl D (by have := hlt D hm; rw [← hD] at this; exact this)
  have hCf : C ∉ fp := fun hm => by have := hlt C hm; rw [← hD, hCD] at this; exact Nat.lt_irrefl D (Nat.lt_of_succ_lt this)
  rw [← hC] at hns₁ hsb₁ ⊢
  have kept₁ : ∀ b o, s.heap.get? b = some o → h₁.get? b = some o := fun b o e => hsb₁.extBut b o (young b o e).2 (Heap.get?_push_of_some _ (hH ▸ Heap.get?_push_of_some _ e))
  have accD : h₁.get? D = some (lst []) := hsb₁.extBut _ _ hDC (Heap.get?_push_of_some _ (by rw [hD]; exact hH ▸ Heap.get?_push_size _ rfl))
  -- the loop
  have loop : ∀ s₃ : Shared, s₃ = { s with heap := h₁, toks := s.toks + ([] : List (PySem.Str × Value)).length } →
      codeAny (model prog w) A (.compLoop (.ListComp elt [⟨.Tuple [.Name x px, .Name x₂ px₂] tk tp, iter, [], 0⟩] scope pos) 0 (.ref I) (.ref D) (compEnvC scope cl C env)) (RR (.ref D) C) s₃ := by
    rintro s₃ rfl
    refine LCp.codeAny_compLoop_pair (fun k s' => ∃ h' tk i ys m' nx, s' = { s with heap := h', toks := tk } ∧ i ≤ n ∧ k = n + 1 - i ∧ ys.length = i ∧ St i h' ∧ Fr h₀ L h' m ∧ h'.Ns C m' ∧ News h₀ L h' ((D, lst ys) :: nx) ∧ (∀ p ∈ nx, p.1 ≠ I ∧ p.1 ≠ C ∧ p.1 ≠ D) ∧ J i ys nx) ?_ (n + 1)
      ⟨h₁, _, 0, [], _, news, rfl, Nat.zero_le _, rfl, rfl, W.frame _ _ _ hst fun b _ o e => kept₁ b o e, F.keeps kept₁, hns₁, ?_, ?_, hj⟩
    · rintro k s' ⟨h', tk', i, ys, m', nx, rfl, hi, rfl, hyl, hst', F', hn', N', off', hJ⟩
      by_cases hin : i < n
      · refine W.item i _ _ _ hin hst' fun v h₂ tk₂ hPv hst₂ hk₂ => ?_
        obtain ⟨t, v₁, v₂, rfl, hmt, go⟩ := turn i v ys nx hin hPv hyl hJ
        have N₂ : News h₀ L h₂ ((D, lst ys) :: nx) := news_but N' hk₂ fun p hp => by
          rcases List.mem_cons.mp hp with rfl | hp
          · exact Ne.symm hID
          · exact (off' p hp).1
        have ht : IsTup h₂ t [v₁, v₂].toArray := ⟨_, (N₂ _ (List.mem_cons_of_mem _ hmt)).1, rfl, 0, rfl⟩
        refine hown _ _ _ _ _ hst₂ ?_
        refine assign_Tuple_tuple hh ht rfl rfl fun h₅ he => ?_
        have he' : ∀ b o, h₂.get? b = some o → h₅.get? b = some o := fun b o e => he b o (Nat.ne_of_lt (Heap.lt_size e)) e
        have nC : h₅.Ns C m' := (hn'.at' fun o e => hk₂ _ o (by simpa using Ne.symm hIC) e).at' fun o e => he' _ o e
        refine assignInOrder_cons (wpAny_assign_Name (wpAny_storeName_local (lookup_relabel_local hx) nC (fun h₆ hn₆ hs₆ => ?_) (by simp [compEnvC, relabel, hkind])))
        refine assignInOrder_cons (wpAny_assign_Name (wpAny_storeName_local (lookup_relabel_local hx₂) hn₆ (fun h₃ hn₃ hs₃ => ?_) (by simp [compEnvC, relabel, hkind])))
        refine assignInOrder_nil ?_
        have kept₃ : ∀ b o, b ≠ C → h₂.get? b = some o → h₃.get? b = some o := fun b o hb e => hs₃.extBut b o hb (hs₆.extBut b o hb (he' b o e))
        have hst₃ : St (i + 1) h₃ := W.frame _ _ _ hst₂ fun b hb o e => kept₃ b o (fun q => hCf (q ▸ hb)) e
        obtain ⟨oI, heI⟩ := hIo _ _ hst₃
        obtain ⟨oC, heC, hoC⟩ := ns_obj hn₃
        have F₃ : Fr h₀ L h₃ m := (((fr_but F' hk₂ hIL hI₀).keeps he').change hs₆ hCL hC₀).change hs₃ hCL hC₀
        have N₃ : News h₀ L h₃ ((I, oI) :: (C, oC) :: (D, lst ys) :: nx) := by
          refine fun p hp => ?_
          simp only [List.mem_cons] at hp
          rcases hp with rfl | rfl | rfl | hp
          · exact ⟨heI, Ne.symm hIL, hI₀⟩
          · exact ⟨heC, hCL, hC₀⟩
          · exact ⟨kept₃ _ _ hDC (N₂ _ (.head _)).1, hDL, hD₀⟩
          · exact ⟨kept₃ _ _ (off' p hp).2.1 (N₂ p (.tail _ hp)).1, (N₂ p (.tail _ hp)).2⟩
        refine wpAny_mono (go oI C oC D _ h₃ _ _ hoC (by simp [hxx]) (by simp) F₃ N₃ (Off3.of off') ⟨hIC, hID, Ne.symm hDC⟩) (fun y s₄ h₄ => ?_) fun _ _ e => e
        obtain ⟨h₄, tk₄, nx₄, rfl, F₄, N₄, off₄, -, J₄⟩ := h₄
        have off₄' := off₄.mem
        have zI := (N₄ (I, oI) (.head _)).1
        have zC := (N₄ (C, oC) (.tail _ (.head _))).1
        have zD := (N₄ (D, lst ys) (.tail _ (.tail _ (.head _)))).1
        have hst₄ : St (i + 1) h₄ := W.frame _ _ _ hst₃ fun b hb o e => by
          rcases hfp b hb with rfl | ⟨o', e'⟩ | ⟨o', hJo⟩
          · have : o = oI := Option.some.inj (e.symm.trans heI)
            exact this ▸ zI
          · have : o = o' := Option.some.inj (e.symm.trans (F₃.keep b o' e'))
            exact this ▸ F₄.keep b o' e'
          · have : o = o' := Option.some.inj (e.symm.trans (N₃ _ (.tail _ (.tail _ (.tail _ (hJo _ _ _ hJ))))).1)
            exact this ▸ (N₄ _ (.tail _ (.tail _ (.tail _ (hJo _ _ _ J₄))))).1
        refine append_at (hsz := by show ys.toArray.size ≤ sizeLine; rw [List.size_toArray, hyl]; exact Nat.le_trans hi hsz) zD fun h₇ hs₇ hD₇ => ?_
        refine ⟨n + 1 - (i + 1), by omega, h₇, tk₄, i + 1, ys ++ [y], _, nx₄, rfl, hin, rfl, by rw [List.length_append, List.length_singleton, hyl], W.frame _ _ _ hst₄ fun b hb o e => hs₇.extBut b o (fun q => hDf (q ▸ hb)) e, F₄.change hs₇ hDL hD₀,
          (hoC.ns zC).sameBut hs₇ (Ne.symm hDC), fun p hp => ?_, off₄', J₄⟩
        rcases List.mem_cons.mp hp with rfl | hp
        · exact ⟨hD₇.trans (congrArg some (lst_snoc ys y)), hDL, hD₀⟩
        · exact ⟨hs₇.extBut _ _ (off₄' p hp).2.2 (N₄ p (.tail _ (.tail _ (.tail _ hp)))).1, (N₄ p (.tail _ (.tail _ (.tail _ hp)))).2⟩
      · have hin' : i = n := by omega
        subst hin'
        refine W.done _ _ _ hst' fun h₂ tk₂ hk₂ => ?_
        refine done D C h₂ tk₂ _ ys nx hJ hyl (fr_but F' hk₂ hIL hI₀) (news_but N' hk₂ fun p hp => ?_) (hn'.at' fun o e => hk₂ _ o (by simpa using Ne.symm hIC) e) hC₀ hD₀ hCL hDL (Ne.symm hDC) fun p hp => (off' p hp).2
        rcases List.mem_cons.mp hp with rfl | hp
        · exact Ne.symm hID
        · exact (off' p hp).1
    · intro p hp
      rcases List.mem_cons.mp hp with rfl | hp
      · exact ⟨accD, hDL, hD₀⟩
      · exact ⟨kept₁ _ _ (N p hp).1, (N p hp).2⟩
    · exact fun p hp => ⟨off p hp, (young _ _ (N p hp).1).2, (young _ _ (N p hp).1).1⟩
  have hst₁ : St 0 h₁ := W.frame _ _ _ hst fun b _ o e => kept₁ b o e
  rw [← hD]
  exact codeAny_compStart_list (loop _ rfl) (W.self 0 _ _ _ hst₁ (loop _ rfl))
end
end Mine
end
section
open PySem PySem.W PySem.Calls PyProof.Rows PyProof.Rows.LCg PyProof.V PySem.Spec
namespace Mine
theorem ints_of {zs : List Value} (h : ∀ v ∈ zs, ∃ n t, v = .int n t) : ∃ ms, IntsAre zs ms := by
  induction zs with
  | nil => exact ⟨[], .nil⟩
  | cons a r ih =>
    obtain ⟨n, t, rfl⟩ := h a (.head _)
    obtain ⟨ms, hm⟩ := ih fun v hv => h v (.tail _ hv)
    exact ⟨n :: ms, .cons _ _ hm⟩
theorem ints_all {vs : List Value} {ns : List Int} (h : IntsAre vs ns) : ∀ v ∈ vs, ∃ n t, v = .int n t := by
  induction h with
  | nil => intro v hv; cases hv
  | cons n t _ ih =>
    intro v hv
    rcases List.mem_cons.mp hv with rfl | hv
    · exact ⟨_, _, rfl⟩
    · exact ih v hv
theorem pick_mem {vs : List Value} {lo hi st : Option Int} : ∀ v ∈ (slicePick vs.toArray lo hi st).toList, v ∈ vs := by
  intro v hv
  unfold slicePick at hv
  simp at hv
  try grind
section
variable {prog : Program} {w : World} {A : Around} {E : Value → Shared → Prop} {s : Shared} {h₀ : Heap} {L : Addr} {m : PySem.Str → Option Value} {news : List (Addr × Obj)} {Q : Value → Shared → Prop}
theorem slice3_ints {value slice : PySem.Expr} {l : Addr} {vs : List Value} {ns : List Int} {vl vu vk : Value} {lo hi st : Option Int} {ops : List Value} (F : Fr h₀ L s.heap m) (N : News h₀ L s.heap news) (hl : s.heap.IsList l vs.toArray) (hi' : IntsAre vs ns) (pl : IsPart vl lo) (pu : IsPart vu hi) (pk : IsPart vk st) (h0 : st ≠ some 0)
    (h : ∀ D zs ms h', IntsAre zs ms → Fr h₀ L h' m → News h₀ L h' ((D, W.listOf zs.toArray 0) :: news) → (∀ p ∈ news, p.1 < D) → Q (.ref D) { s with heap := h' })
    (hs : subscripted slice false (.ref l) (.ref s.heap.objs.size) = operate ops (getItem (.ref l) (.ref s.heap.objs.size))) (ht : ∀ r, letTemporaryGo value (.ref l) r = pure ()) (hz : vs.length ≤ 1000) :
    wpAny (model prog w) A (subscriptTail value slice (.ref l) (.ref s.heap.objs.size)) Q E { s with heap := s.heap.push { cls := .type "slice", data := .fields #[vl, vu, vk] } } := by
  obtain ⟨ms, hm⟩ := ints_of (zs := (slicePick vs.toArray lo hi st).toList) fun v hv => ints_all hi' v (pick_mem v hv)
  exact kmk_slice3_lit F N hl pl pu pk h0 rfl (fun D h' F' N' lt => h D _ ms h' hm F' N' lt) hs ht (by rw [List.size_toArray, sizeLine_eq]; omega)
end
end Mine
end
section
open PySem PySem.W PySem.Calls PyProof.Rows PyProof.Rows.LCg PyProof.V PySem.Spec
namespace Mine
section
variable {prog : Program} {w : World} {A : Around} {E : Value → Shared → Prop} {s : Shared} {h₀ : Heap} {L : Addr} {m : PySem.Str → Option Value} {news : List (Addr × Obj)} {Q : Value → Shared → Prop} {t u : Tok} {k : Nat} {g sm worth : Int} {T : List Int}
theorem ne_same {a : Int} (h : Q (.bool false) s) : wpAny (model prog w) A (compareOp .NotEq (.int a t) (.int a u)) Q E s := by
  refine PyProof.Rows.ne_int ?_
  rw [show (a != a) = false by simp]
  exact h
end
section
variable {prog : Program} {w : World} {A : Around} {E : Value → Shared → Prop} {s : Shared} {env : Env} {h₀ : Heap} {x : PySem.Str} {body : List Stmt} {Q : Flow → Shared → Prop}
end
end Mine
end
section
open PySem PySem.W PySem.Calls PyProof.Rows PyProof.V PySem.Spec
namespace Mine
/-- an iterator's kind of object -/
def badF (o : Obj) : Bool := match o.data with
  | .fields _ => true
  | _ => false
/-- the end of a turn of a loop with any target -/
def MyEndT {σ : Type} (h₀ : Heap) (L : Addr) (Var : σ → List (Addr × Obj)) (rest : List (Addr × Obj)) (ps : σ → List (PySem.Str × Value)) (stored : List PySem.Str) (m₀ : PySem.Str → Option Value) (J : σ → Prop) (own : List (Addr × Obj)) (s₁ : Shared) (f : Flow) (s₂ : Shared) : Prop :=
  f = .next ∧ ∃ (c : σ) (h' : Heap) (tk : Nat) (m' : PySem.Str → Option Value) (news' : List (Addr × Obj)), s₂ = { s₁ with heap := h', toks := tk } ∧ Fr h₀ L h' m' ∧ News h₀ L h' news' ∧ (∀ p ∈ Var c, p ∈ news') ∧ (∀ p ∈ rest, p ∈ news') ∧ (∀ p ∈ own, p ∈ news') ∧
    (∀ p ∈ Var c, badF p.2 = false) ∧ (∀ p ∈ ps c, m' p.1 = some p.2) ∧ (∀ z, (∀ p ∈ ps c, z ≠ p.1) → stored.contains z = false → m' z = m₀ z) ∧ J c
theorem my_endT {σ : Type} {h₀ : Heap} {L : Addr} {Var : σ → List (Addr × Obj)} {rest : List (Addr × Obj)} {ps : σ → List (PySem.Str × Value)} {stored : List PySem.Str} {m₀ m' : PySem.Str → Option Value} {J : σ → Prop} {own news' : List (Addr × Obj)} {s : Shared} {h h' : Heap} {tk tk' : Nat} (c : σ)
    (F : Fr h₀ L h' m') (N : News h₀ L h' news') (h1 : ∀ p ∈ Var c, p ∈ news') (hr : ∀ p ∈ rest, p ∈ news') (h2 : ∀ p ∈ own, p ∈ news') (h3 : ∀ p ∈ Var c, badF p.2 = false) (h4 : ∀ p ∈ ps c, m' p.1 = some p.2)
    (h5 : ∀ z, (∀ p ∈ ps c, z ≠ p.1) → stored.contains z = false → m' z = m₀ z) (h6 : J c) :
    MyEndT h₀ L Var rest ps stored m₀ J own { s with heap := h, toks := tk } .next { s with heap := h', toks := tk' } := ⟨rfl, c, h', tk', m', news', rfl, F, N, h1, hr, h2, h3, h4, h5, h6⟩
section
variable {prog : Program} {w : World} {A : Around} {E : Value → Shared → Prop} {s : Shared} {env : Env} {h₀ : Heap} {target : PySem.Expr} {body : List Stmt} {Q : Flow → Shared → Prop}
theorem my_walkT {σ : Type} {I : Addr} {fp wr : List Addr} {n : Nat} {P : Nat → Value → Prop} {St : Nat → Heap → Prop} {m₀ : PySem.Str → Option Value} (Var : σ → List (Addr × Obj)) (rest : List (Addr × Obj)) (ps : σ → List (PySem.Str × Value)) (stored : List PySem.Str) (J : Nat → σ → Prop) (c₀ : σ)
    (W : Walks prog w A I fp wr n P St) (hLf : env.locals ∉ fp) (hwr : ∀ b ∈ wr, h₀.get? b = none) (hnw : ∀ p ∈ Var c₀ ++ rest, p.1 ∉ wr)
    (hbad : ∀ i h, St i h → ∀ b ∈ wr, ∃ o, h.get? b = some o ∧ badF o = true)
    (hfp : ∀ b ∈ fp, b ∈ wr ∨ (∃ o, h₀.get? b = some o) ∨ ∃ o, (b, o) ∈ rest)
    (hgo : ∀ i (s' : Shared) v (Q' : Unit → Shared → Prop), St i s'.heap → Q' () s' → wpAny (model prog w) A (letOwnedTupleGo target (.ref I) v) Q' E s')
    (hst : St 0 s.heap) (F : Fr h₀ env.locals s.heap m₀) (N : News h₀ env.locals s.heap (Var c₀ ++ rest)) (hk : ∀ p ∈ ps c₀, m₀ p.1 = some p.2) (hj : J 0 c₀)
    (turn : ∀ i v (c : σ) (u : PySem.Str → Option Value) (s₁ : Shared) h tk own, i < n → P i v → J i c → OwnOff own ((Var c ++ rest).map (·.1)) → (∀ p ∈ own, badF p.2 = true) →
      Fr h₀ env.locals h (kstB (fun z => if stored.contains z then u z else m₀ z) (ps c)) → News h₀ env.locals h (Var c ++ (rest ++ own)) →
      wpAny (model prog w) A (assign target env v) (fun _ s₃ => wpAny (model prog w) A (execs body env) (MyEndT h₀ env.locals Var rest ps stored m₀ (J (i + 1)) own { s₁ with heap := h, toks := tk }) E s₃) E { s₁ with heap := h, toks := tk })
    (done : ∀ (c : σ) (u : PySem.Str → Option Value) h tk, J n c → Fr h₀ env.locals h (kstB (fun z => if stored.contains z then u z else m₀ z) (ps c)) → News h₀ env.locals h (Var c ++ rest) → Q .next { s with heap := h, toks := tk }) :
    LoopAtT prog w A h₀ env target body Q E (.ref I) s := by
  have hrw : ∀ p ∈ rest, p.1 ∉ wr := fun p hp => hnw p (List.mem_append.mpr (.inr hp))
  let J' : Nat → (PySem.Str → Option Value) → List (Addr × Obj) → Prop := fun i m₁ nx => ∃ c : σ, nx = Var c ++ rest ∧ (∀ p ∈ ps c, m₁ p.1 = some p.2) ∧ (∀ z, (∀ p ∈ ps c, z ≠ p.1) → stored.contains z = false → m₁ z = m₀ z) ∧ J i c
  refine ⟨I, fp, wr, n, P, St, m₀, Var c₀ ++ rest, J', rfl, W, hLf, hwr, hnw, hst, F, N, hgo, ⟨c₀, rfl, hk, fun _ _ _ => rfl, hj⟩, ?_, ?_⟩
  · rintro i v m₁ nx s₁ own hin hP ⟨c, rfl, h1, h2, hJ⟩ hoff hown hget hall hst₁ F₁ N₁
    let own' := own.filter fun p => decide (p.1 ∈ wr)
    have hsub : ∀ p ∈ own', p ∈ own ∧ p.1 ∈ wr := fun p hp => by
      have := List.mem_filter.mp hp
      exact ⟨this.1, of_decide_eq_true this.2⟩
    have hsep : OwnOff own' ((Var c ++ rest).map (·.1)) := by
      intro p hp b hb' e
      obtain ⟨q, hq, rfl⟩ := List.mem_map.mp hb'
      exact hoff q hq (e ▸ (hsub p hp).2)
    have hob : ∀ p ∈ own', badF p.2 = true := fun p hp => by
      obtain ⟨o, ho1, ho2⟩ := hbad _ _ hst₁ p.1 (hsub p hp).2
      have e := hget p (hsub p hp).1
      rw [e] at ho1
      rw [Option.some.inj ho1]; exact ho2
    have N₂ : News h₀ env.locals s₁.heap (Var c ++ (rest ++ own')) := fun p hp => by
      rcases List.mem_append.mp hp with h | h
      · exact N₁ p (List.mem_append.mpr (.inr (List.mem_append.mpr (.inl h))))
      · rcases List.mem_append.mp h with h | h
        · exact N₁ p (List.mem_append.mpr (.inr (List.mem_append.mpr (.inr h))))
        · exact N₁ p (List.mem_append.mpr (.inl (hsub p h).1))
    refine wpAny_mono (turn i v c m₁ s₁ s₁.heap s₁.toks own' hin hP hJ hsep hob (ksw_fr h1 h2 F₁) N₂) (fun _ s₃ p => wpAny_mono p (fun f s₂ p => ?_) fun _ _ e => e) fun _ _ e => e
    obtain ⟨rfl, c', h', tk, m', news', e, F', N', hn, hr, ho, hb', hps, hrest, hJ'⟩ := p
    have hnr : ∀ p ∈ Var c' ++ rest, p ∈ news' := fun p hp => (List.mem_append.mp hp).elim (hn p) (hr p)
    refine ⟨rfl, h', tk, m', Var c' ++ rest, e, F', fun p hp => ?_, fun p hp hq => ?_, c', rfl, hps, hrest, hJ'⟩
    · rcases List.mem_append.mp hp with hp | hp
      · rcases hfp p.1 (hown p hp) with hq | ⟨o, hq⟩ | ⟨o, hq⟩
        · exact N' p (ho p (List.mem_filter.mpr ⟨hp, decide_eq_true hq⟩))
        · have := (N₁ p (List.mem_append.mpr (.inl hp))).2.2
          rw [hq] at this; cases this
        · have e1 := (N₁ _ (List.mem_append.mpr (.inr (List.mem_append.mpr (.inr hq))))).1
          have e2 := (N₁ p (List.mem_append.mpr (.inl hp))).1
          have e3 : p.2 = o := Option.some.inj (e2.symm.trans e1)
          have e4 : (p.1, o) = p := by rw [← e3]
          exact N' p (hr p (e4 ▸ hq))
      · exact N' p (hnr p hp)
    · rcases List.mem_append.mp hp with hp | hp
      · obtain ⟨o, ho1, ho2⟩ := hbad _ _ hst₁ p.1 hq
        have hm := hall p.1 (W.sub _ hq) (hwr _ hq) o ho1
        have e1 := (N' _ (ho _ (List.mem_filter.mpr ⟨hm, decide_eq_true hq⟩))).1
        have e2 := (N' _ (hn p hp)).1
        have e3 : o = p.2 := Option.some.inj (e1.symm.trans e2)
        have := hb' p hp
        rw [← e3, ho2] at this
        cases this
      · exact hrw p hp hq
  · rintro h' tk m' nx F' N' _ ⟨c, rfl, h1, h2, hJ⟩
    exact done c m' h' tk hJ (ksw_fr h1 h2 F') N'
theorem own_name {x : PySem.Str} {pos : Pos} {it v : Value} {Q' : Unit → Shared → Prop} {s' : Shared} (hQ : Q' () s') : wpAny (model prog w) A (letOwnedTupleGo (.Name x pos) it v) Q' E s' := by
  unfold letOwnedTupleGo
  exact wpAny_pure hQ
/-- a range by ones, into any name -/
theorem my_rangeT {σ : Type} {r : Addr} {a₀ b₀ : Int} {t₀ u₀ v₀ : Tok} {n : Nat} {x : PySem.Str} {px : Pos} {m₀ : PySem.Str → Option Value} (Var : σ → List (Addr × Obj)) (rest : List (Addr × Obj)) (ps : σ → List (PySem.Str × Value)) (stored : List PySem.Str) (J : Nat → σ → Prop) (c₀ : σ)
    (hh : A.handled = none) (hr : IsRange s.heap r a₀ b₀ 1 t₀ u₀ v₀) (hsmall : Builtin.Range.small a₀ b₀ 1 = true) (hn : Builtin.Range.rangeSize a₀ b₀ 1 = (n : Int))
    (F : Fr h₀ env.locals s.heap m₀) (N : News h₀ env.locals s.heap (Var c₀ ++ rest)) (hk : ∀ p ∈ ps c₀, m₀ p.1 = some p.2) (hj : J 0 c₀)
    (turn : ∀ (i : Nat) t (c : σ) (u : PySem.Str → Option Value) (s₁ : Shared) h tk own, i < n → J i c → OwnOff own ((Var c ++ rest).map (·.1)) → (∀ p ∈ own, badF p.2 = true) →
      Fr h₀ env.locals h (kstB (fun z => if stored.contains z then u z else m₀ z) (ps c)) → News h₀ env.locals h (Var c ++ (rest ++ own)) →
      wpAny (model prog w) A (assign (.Name x px) env (.int (a₀ + (i : Int)) t)) (fun _ s₃ => wpAny (model prog w) A (execs body env) (MyEndT h₀ env.locals Var rest ps stored m₀ (J (i + 1)) own { s₁ with heap := h, toks := tk }) E s₃) E { s₁ with heap := h, toks := tk })
    (done : ∀ (c : σ) (u : PySem.Str → Option Value) h tk, J n c → Fr h₀ env.locals h (kstB (fun z => if stored.contains z then u z else m₀ z) (ps c)) → News h₀ env.locals h (Var c ++ rest) → Q .next { s with heap := h, toks := tk }) :
    wpAny (model prog w) A (pyIter (.ref r)) (fun it s₂ => LoopAtT prog w A h₀ env (.Name x px) body Q E it s₂) E s := by
  refine wpAny_pyIter_range hr hsmall ?_
  have W := Walks.range (prog := prog) (w := w) hh s.heap.objs.size a₀ 1 n
  refine my_walkT Var rest ps stored J c₀ W ?_ ?_ ?_ ?_ ?_ (fun _ _ _ _ _ hq => own_name hq) (by show IsRangeIter _ _ _ _ _; rw [hn]; simpa using Heap.get?_push_size _ rfl) (F.push _) (fun p hp => ⟨Heap.get?_push_of_some _ (N p hp).1, (N p hp).2⟩) hk hj ?_ done
  · intro hm
    exact absurd F.ns.lt ((List.mem_singleton.mp hm) ▸ Nat.lt_irrefl _)
  · intro b' hb'
    rw [List.mem_singleton.mp hb']
    exact next_is_new F
  · intro p hp hI
    exact absurd (Heap.lt_size (N p hp).1) ((List.mem_singleton.mp hI) ▸ Nat.lt_irrefl _)
  · intro i h hS b hb'
    rw [List.mem_singleton.mp hb']
    exact ⟨_, hS, rfl⟩
  · intro b hb'
    exact .inl hb'
  · rintro i v c u s₁ h tk own hi ⟨t, rfl⟩ hJ hoff hob F₁ N₁
    have e1 : a₀ + (i : Int) * 1 = a₀ + (i : Int) := by omega
    rw [e1]
    exact turn i t c u s₁ h tk own hi hJ hoff hob F₁ N₁
/-- a tuple of the ledger, item by item, into any target -/
theorem my_tupT {σ : Type} {l : Addr} {vs : List Value} {m₀ : PySem.Str → Option Value} (Var : σ → List (Addr × Obj)) (rest : List (Addr × Obj)) (ps : σ → List (PySem.Str × Value)) (stored : List PySem.Str) (J : Nat → σ → Prop) (c₀ : σ)
    (hh : A.handled = none) (hl : (l, tupO vs) ∈ rest)
    (hgo : ∀ (I : Addr) i (s' : Shared) v (Q' : Unit → Shared → Prop), s'.heap.IsTupleIter I l i → Q' () s' → wpAny (model prog w) A (letOwnedTupleGo target (.ref I) v) Q' E s')
    (F : Fr h₀ env.locals s.heap m₀) (N : News h₀ env.locals s.heap (Var c₀ ++ rest)) (hk : ∀ p ∈ ps c₀, m₀ p.1 = some p.2) (hj : J 0 c₀)
    (turn : ∀ (i : Nat) v (c : σ) (u : PySem.Str → Option Value) (s₁ : Shared) h tk own, vs[i]? = some v → J i c → OwnOff own ((Var c ++ rest).map (·.1)) → (∀ p ∈ own, badF p.2 = true) →
      Fr h₀ env.locals h (kstB (fun z => if stored.contains z then u z else m₀ z) (ps c)) → News h₀ env.locals h (Var c ++ (rest ++ own)) →
      wpAny (model prog w) A (assign target env v) (fun _ s₃ => wpAny (model prog w) A (execs body env) (MyEndT h₀ env.locals Var rest ps stored m₀ (J (i + 1)) own { s₁ with heap := h, toks := tk }) E s₃) E { s₁ with heap := h, toks := tk })
    (done : ∀ (c : σ) (u : PySem.Str → Option Value) h tk, J vs.length c → Fr h₀ env.locals h (kstB (fun z => if stored.contains z then u z else m₀ z) (ps c)) → News h₀ env.locals h (Var c ++ rest) → Q .next { s with heap := h, toks := tk }) :
    wpAny (model prog w) A (pyIter (.ref l)) (fun it s₂ => LoopAtT prog w A h₀ env target body Q E it s₂) E s := by
  have hax := N _ (List.mem_append.mpr (.inr hl))
  have hls : s.heap.IsTuple l vs.toArray := ⟨_, hax.1, rfl, 0, rfl⟩
  have hlt := Heap.lt_size hax.1
  have hne : l ≠ s.heap.objs.size := Nat.ne_of_lt hlt
  refine wpAny_pyIter_tuple hls ?_
  have W := Walks.tuple (prog := prog) (w := w) hh s.heap.objs.size l hne vs.toArray
  rw [List.size_toArray] at W
  refine my_walkT Var rest ps stored J c₀ W ?_ ?_ ?_ ?_ ?_ (fun i s' v Q' st hq => hgo _ i s' v Q' st.1 hq) ⟨⟨_, Heap.get?_push_size _ rfl, rfl, rfl⟩, ⟨_, Heap.get?_push_of_some _ hax.1, rfl, 0, rfl⟩⟩ (F.push _) (fun p hp => ⟨Heap.get?_push_of_some _ (N p hp).1, (N p hp).2⟩) hk hj ?_ done
  · intro hm
    rcases List.mem_cons.mp hm with e | hm
    · exact absurd F.ns.lt (e ▸ Nat.lt_irrefl _)
    · exact hax.2.1 (List.mem_singleton.mp hm).symm
  · intro b hb
    rw [List.mem_singleton.mp hb]
    exact next_is_new F
  · intro p hp hI
    exact absurd (Heap.lt_size (N p hp).1) ((List.mem_singleton.mp hI) ▸ Nat.lt_irrefl _)
  · rintro i h ⟨⟨o, ho, hc, hd⟩, _⟩ b hb
    rw [List.mem_singleton.mp hb]
    exact ⟨o, ho, by unfold badF; rw [hd]⟩
  · intro b hb
    rcases List.mem_cons.mp hb with e | hb
    · exact .inl (e ▸ List.mem_singleton.mpr rfl)
    · exact .inr (.inr ⟨_, (List.mem_singleton.mp hb) ▸ hl⟩)
  · rintro i v c u s₁ h tk own hi hP hJ hoff hob F₁ N₁
    exact turn i v c u s₁ h tk own (by simpa using hP) hJ hoff hob F₁ N₁
end
end Mine
end
section
open PySem PySem.W PySem.Calls PyProof.Rows PyProof.Rows.LCg PyProof.V PySem.Spec
set_option maxHeartbeats 2000000
namespace Mine
section
variable {prog : Program} {w : World} {A : Around} {E : Value → Shared → Prop} {s : Shared} {h₀ : Heap} {L : Addr} {m : PySem.Str → Option Value} {env : Env}
/-- the turns of a list comprehension into one name, by an invariant J of what is gathered and of the ledger -/
theorem cn_core {elt iter : PySem.Expr} {x : PySem.Str} {px : Pos} {scope : Scope} {cl : List (PySem.Str × Addr)} {pos : Pos} {I : Addr} {fp : List Addr} {n : Nat} {P : Nat → Value → Prop} {St : Nat → Heap → Prop} {news : List (Addr × Obj)}
    (J : Nat → List Value → List (Addr × Obj) → Prop) {RR : Value → Addr → Result → Shared → Prop}
    (W : Walks prog w A I fp [I] n P St) (hsz : n ≤ sizeLine)
    (hIo : ∀ i h, St i h → ∃ o, h.get? I = some o)
    (hfp : ∀ b ∈ fp, b = I ∨ (∃ o, h₀.get? b = some o) ∨ ∃ o, ∀ i ys nx, J i ys nx → (b, o) ∈ nx)
    (hcell : ∀ y ∈ scope.names, y.2 ≠ .cell) (hkind : scope.kind = .function) (hx : scope.names.lookup x = some .local)
    (hst : St 0 s.heap) (hlt : ∀ b ∈ fp, b < s.heap.objs.size) (F : Fr h₀ L s.heap m) (N : News h₀ L s.heap news) (hIL : L ≠ I) (hI₀ : h₀.get? I = none) (off : ∀ p ∈ news, p.1 ≠ I) (hj : J 0 [] news)
    (turn : ∀ i v ys nx, i < n → P i v → ys.length = i → J i ys nx →
      ∀ oI C oC D m₂ h tk (E' : Value → Shared → Prop), NsObj oC m₂ → m₂ x = some v → Fr h₀ L h m → News h₀ L h ((I, oI) :: (C, oC) :: (D, lst ys) :: nx) → Off3 I C D nx → ((@Ne Nat I C) ∧ (@Ne Nat I D) ∧ (@Ne Nat C D)) →
        wpAny (model prog w) A (eval elt (compEnvC scope cl C env)) (CompEnd h₀ L m { s with heap := h, toks := tk } I oI C oC D (lst ys) (fun _ => True) (fun y nx' => J (i + 1) (ys ++ [y]) nx')) E' { s with heap := h, toks := tk })
    (done : ∀ D C h tk m' ys nx, J n ys nx → ys.length = n → Fr h₀ L h m → News h₀ L h ((D, lst ys) :: nx) → h.Ns C m' → h₀.get? C = none → h₀.get? D = none → C ≠ L → D ≠ L → C ≠ D → (∀ p ∈ nx, p.1 ≠ C ∧ p.1 ≠ D) → (∀ p ∈ news, @LT.lt Nat _ p.1 D) → RR (.ref D) C (.ok .next) { s with heap := h, toks := tk }) :
    wpAny (model prog w) A (newList []) (fun acc s₃ => wpAny (model prog w) A (newFunctionEnv scope env.globals cl [] env.qual none .none (some env)) (fun cenv s₄ =>
      codeAny (model prog w) A (.compStart (.ListComp elt [⟨.Name x px, iter, [], 0⟩] scope pos) 0 (.ref I) acc { cenv with scope := relabel scope env }) (RR acc cenv.locals) s₄) E s₃) E s := by
  refine wpAny_newObj_type (wpAny_newFunctionEnv hcell (by intro y hy; simp at hy) (fun h₁ hns₁ hsb₁ => ?_) hkind)
  dsimp only at hns₁ hsb₁ ⊢
  have hIf : I ∈ fp := W.sub I (List.mem_singleton.mpr rfl)
  obtain ⟨D, hD⟩ : ∃ D, D = s.heap.objs.size := ⟨_, rfl⟩
  generalize hH : s.heap.push { cls := .type "list", dict := none, data := .seq ([] : List Value).toArray } = H at hns₁ hsb₁ ⊢
  obtain ⟨C, hC⟩ : ∃ C, C = H.objs.size := ⟨_, rfl⟩
  have hCD : C = D + 1 := by rw [hC, ← hH, Heap.size_push, hD]
  have young : ∀ b o, s.heap.get? b = some o → b ≠ D ∧ b ≠ C := fun b o e => by
    have := Heap.lt_size e
    have h1 : @LT.lt Nat _ b D := by rw [hD]; exact this
    exact ⟨Nat.ne_of_lt h1, Nat.ne_of_lt (by rw [hCD]; omega)⟩
  have none₀ : ∀ b, (∀ o, s.heap.get? b ≠ some o) → h₀.get? b = none := fun b hb => by
    cases e : h₀.get? b with
    | none => rfl
    | some o => exact absurd (F.keep b o e) (hb o)
  have hD₀ : h₀.get? D = none := none₀ D fun o e => (young D o e).1 rfl
  have hC₀ : h₀.get? C = none := none₀ C fun o e => (young C o e).2 rfl
  obtain ⟨oL, hoL⟩ : ∃ o, s.heap.get? L = some o := let ⟨o, _, _, e, _⟩ := F.ns; ⟨o, e⟩
  obtain ⟨oI₀, hoI₀⟩ := hIo _ _ hst
  have hDL : D ≠ L := Ne.symm (young L _ hoL).1
  have hCL : C ≠ L := Ne.symm (young L _ hoL).2
  have hID : I ≠ D := (young I _ hoI₀).1
  have hIC : I ≠ C := (young I _ hoI₀).2
  have hDC : D ≠ C := by rw [hCD]; exact Nat.ne_of_lt (Nat.lt_succ_self _)
  have hDf : D ∉ fp := fun hm => Nat.lt_irrefl D (by have := hlt D hm; rw [← hD] at this; exact this)
  have hCf : C ∉ fp := fun hm => by have := hlt C hm; rw [← hD, hCD] at this; exact Nat.lt_irrefl D (Nat.lt_of_succ_lt this)
  rw [← hC] at hns₁ hsb₁ ⊢
  have kept₁ : ∀ b o, s.heap.get? b = some o → h₁.get? b = some o := fun b o e => hsb₁.extBut b o (young b o e).2 (Heap.get?_push_of_some _ (hH ▸ Heap.get?_push_of_some _ e))
  have accD : h₁.get? D = some (lst []) := hsb₁.extBut _ _ hDC (Heap.get?_push_of_some _ (by rw [hD]; exact hH ▸ Heap.get?_push_size _ rfl))
  have loop : ∀ s₃ : Shared, s₃ = { s with heap := h₁, toks := s.toks + ([] : List (PySem.Str × Value)).length } →
      codeAny (model prog w) A (.compLoop (.ListComp elt [⟨.Name x px, iter, [], 0⟩] scope pos) 0 (.ref I) (.ref D) (compEnvC scope cl C env)) (RR (.ref D) C) s₃ := by
    rintro s₃ rfl
    refine codeAny_compLoop_tests (fun k s' => ∃ h' tk i ys m' nx, s' = { s with heap := h', toks := tk } ∧ i ≤ n ∧ k = n + 1 - i ∧ ys.length = i ∧ St i h' ∧ Fr h₀ L h' m ∧ h'.Ns C m' ∧ News h₀ L h' ((D, lst ys) :: nx) ∧ (∀ p ∈ nx, p.1 ≠ I ∧ p.1 ≠ C ∧ p.1 ≠ D) ∧ J i ys nx) ?_ (n + 1)
      ⟨h₁, _, 0, [], _, news, rfl, Nat.zero_le _, rfl, rfl, W.frame _ _ _ hst fun b _ o e => kept₁ b o e, F.keeps kept₁, hns₁, ?_, ?_, hj⟩
    · rintro k s' ⟨h', tk', i, ys, m', nx, rfl, hi, rfl, hyl, hst', F', hn', N', off', hJ⟩
      by_cases hin : i < n
      · refine W.item i _ _ _ hin hst' fun v h₂ tk₂ hPv hst₂ hk₂ => ?_
        have go := turn i v ys nx hin hPv hyl hJ
        have N₂ : News h₀ L h₂ ((D, lst ys) :: nx) := news_but N' hk₂ fun p hp => by
          rcases List.mem_cons.mp hp with rfl | hp
          · exact Ne.symm hID
          · exact (off' p hp).1
        refine wpAny_assign_Name (wpAny_storeName_local (lookup_relabel_local hx) (hn'.at' fun o e => hk₂ _ o (by simpa using Ne.symm hIC) e) (fun h₃ hn₃ hs₃ => ?_) (by simp [compEnvC, relabel, hkind]))
        refine wpAny_tests_nil ?_
        simp only [if_true]
        have kept₃ : ∀ b o, b ≠ C → h₂.get? b = some o → h₃.get? b = some o := fun b o hb e => hs₃.extBut b o hb e
        have hst₃ : St (i + 1) h₃ := W.frame _ _ _ hst₂ fun b hb o e => kept₃ b o (fun q => hCf (q ▸ hb)) e
        obtain ⟨oI, heI⟩ := hIo _ _ hst₃
        obtain ⟨oC, heC, hoC⟩ := ns_obj hn₃
        have F₃ : Fr h₀ L h₃ m := (fr_but F' hk₂ hIL hI₀).change hs₃ hCL hC₀
        have N₃ : News h₀ L h₃ ((I, oI) :: (C, oC) :: (D, lst ys) :: nx) := by
          refine fun p hp => ?_
          simp only [List.mem_cons] at hp
          rcases hp with rfl | rfl | rfl | hp
          · exact ⟨heI, Ne.symm hIL, hI₀⟩
          · exact ⟨heC, hCL, hC₀⟩
          · exact ⟨kept₃ _ _ hDC (N₂ _ (.head _)).1, hDL, hD₀⟩
          · exact ⟨kept₃ _ _ (off' p hp).2.1 (N₂ p (.tail _ hp)).1, (N₂ p (.tail _ hp)).2⟩
        refine wpAny_mono (go oI C oC D _ h₃ _ _ hoC (by simp) F₃ N₃ (Off3.of off') ⟨hIC, hID, Ne.symm hDC⟩) (fun y s₄ h₄ => ?_) fun _ _ e => e
        obtain ⟨h₄, tk₄, nx₄, rfl, F₄, N₄, off₄, -, J₄⟩ := h₄
        have off₄' := off₄.mem
        have zI := (N₄ (I, oI) (.head _)).1
        have zC := (N₄ (C, oC) (.tail _ (.head _))).1
        have zD := (N₄ (D, lst ys) (.tail _ (.tail _ (.head _)))).1
        have hst₄ : St (i + 1) h₄ := W.frame _ _ _ hst₃ fun b hb o e => by
          rcases hfp b hb with rfl | ⟨o', e'⟩ | ⟨o', hJo⟩
          · have : o = oI := Option.some.inj (e.symm.trans heI)
            exact this ▸ zI
          · have : o = o' := Option.some.inj (e.symm.trans (F₃.keep b o' e'))
            exact this ▸ F₄.keep b o' e'
          · have : o = o' := Option.some.inj (e.symm.trans (N₃ _ (.tail _ (.tail _ (.tail _ (hJo _ _ _ hJ))))).1)
            exact this ▸ (N₄ _ (.tail _ (.tail _ (.tail _ (hJo _ _ _ J₄))))).1
        refine append_at (hsz := by show ys.toArray.size ≤ sizeLine; rw [List.size_toArray, hyl]; exact Nat.le_trans hi hsz) zD fun h₇ hs₇ hD₇ => ?_
        refine ⟨n + 1 - (i + 1), by omega, h₇, tk₄, i + 1, ys ++ [y], _, nx₄, rfl, hin, rfl, by rw [List.length_append, List.length_singleton, hyl], W.frame _ _ _ hst₄ fun b hb o e => hs₇.extBut b o (fun q => hDf (q ▸ hb)) e, F₄.change hs₇ hDL hD₀,
          (hoC.ns zC).sameBut hs₇ (Ne.symm hDC), fun p hp => ?_, off₄', J₄⟩
        rcases List.mem_cons.mp hp with rfl | hp
        · exact ⟨hD₇.trans (congrArg some (lst_snoc ys y)), hDL, hD₀⟩
        · exact ⟨hs₇.extBut _ _ (off₄' p hp).2.2 (N₄ p (.tail _ (.tail _ (.tail _ hp)))).1, (N₄ p (.tail _ (.tail _ (.tail _ hp)))).2⟩
      · have hin' : i = n := by omega
        subst hin'
        refine W.done _ _ _ hst' fun h₂ tk₂ hk₂ => ?_
        refine done D C h₂ tk₂ _ ys nx hJ hyl (fr_but F' hk₂ hIL hI₀) (news_but N' hk₂ fun p hp => ?_) (hn'.at' fun o e => hk₂ _ o (by simpa using Ne.symm hIC) e) hC₀ hD₀ hCL hDL (Ne.symm hDC) (fun p hp => (off' p hp).2) fun p hp => by rw [hD]; exact Heap.lt_size (N p hp).1
        rcases List.mem_cons.mp hp with rfl | hp
        · exact Ne.symm hID
        · exact (off' p hp).1
    · intro p hp
      rcases List.mem_cons.mp hp with rfl | hp
      · exact ⟨accD, hDL, hD₀⟩
      · exact ⟨kept₁ _ _ (N p hp).1, (N p hp).2⟩
    · exact fun p hp => ⟨off p hp, (young _ _ (N p hp).1).2, (young _ _ (N p hp).1).1⟩
  have hst₁ : St 0 h₁ := W.frame _ _ _ hst fun b _ o e => kept₁ b o e
  rw [← hD]
  exact codeAny_compStart_list (loop _ rfl) (W.self 0 _ _ _ hst₁ (loop _ rfl))
/-- what the turns want of the element's expression -/
def CnTurn (prog : Program) (w : World) (A : Around) (s : Shared) (h₀ : Heap) (L : Addr) (m : PySem.Str → Option Value) (env : Env) (elt : PySem.Expr) (x : PySem.Str) (scope : Scope) (cl : List (PySem.Str × Addr)) (n : Nat) (P : Nat → Value → Prop) (J : Nat → List Value → List (Addr × Obj) → Prop) : Prop :=
  ∀ i v ys nx, i < n → P i v → ys.length = i → J i ys nx →
      ∀ I oI C oC D m₂ h tk (E' : Value → Shared → Prop), NsObj oC m₂ → m₂ x = some v → Fr h₀ L h m → News h₀ L h ((I, oI) :: (C, oC) :: (D, lst ys) :: nx) → Off3 I C D nx → ((@Ne Nat I C) ∧ (@Ne Nat I D) ∧ (@Ne Nat C D)) →
        wpAny (model prog w) A (eval elt (compEnvC scope cl C env)) (CompEnd h₀ L m { s with heap := h, toks := tk } I oI C oC D (lst ys) (fun _ => True) (fun y nx' => J (i + 1) (ys ++ [y]) nx')) E' { s with heap := h, toks := tk }
/-- a range, its turns in a block of one name -/
theorem cn_range {elt iter : PySem.Expr} {x : PySem.Str} {px : Pos} {scope : Scope} {cl : List (PySem.Str × Addr)} {pos : Pos} {r : Addr} {a b c : Int} {t u v : Tok} {n : Nat} {news : List (Addr × Obj)} (J : Nat → List Value → List (Addr × Obj) → Prop) {RR : Value → Addr → Result → Shared → Prop}
    (hh : A.handled = none) (hr : IsRange s.heap r a b c t u v) (hsm : Builtin.Range.small a b c = true) (hn : Builtin.Range.rangeSize a b c = ((n : Nat) : Int)) (hsz : n ≤ sizeLine)
    (hcell : ∀ y ∈ scope.names, y.2 ≠ .cell) (hkind : scope.kind = .function) (hx : scope.names.lookup x = some .local) (F : Fr h₀ L s.heap m) (N : News h₀ L s.heap news) (hj : J 0 [] news)
    (turn : CnTurn prog w A s h₀ L m env elt x scope cl n (fun i v => ∃ t, v = .int (a + (i : Int) * c) t) J)
    (done : ∀ D C h tk m' ys nx, J n ys nx → ys.length = n → Fr h₀ L h m → News h₀ L h ((D, lst ys) :: nx) → h.Ns C m' → h₀.get? C = none → h₀.get? D = none → C ≠ L → D ≠ L → C ≠ D → (∀ p ∈ nx, p.1 ≠ C ∧ p.1 ≠ D) → (∀ p ∈ news, @LT.lt Nat _ p.1 D) → RR (.ref D) C (.ok .next) { s with heap := h, toks := tk }) :
    wpAny (model prog w) A (pyIter (.ref r)) (fun it s₂ => wpAny (model prog w) A (newList []) (fun acc s₃ => wpAny (model prog w) A (newFunctionEnv scope env.globals cl [] env.qual none .none (some env)) (fun cenv s₄ =>
      codeAny (model prog w) A (.compStart (.ListComp elt [⟨.Name x px, iter, [], 0⟩] scope pos) 0 it acc { cenv with scope := relabel scope env }) (RR acc cenv.locals) s₄) E s₃) E s₂) E s := by
  refine wpAny_pyIter_range hr hsm ?_
  have up : ∀ q o, s.heap.get? q = some o → (s.heap.push { cls := .type "range_iterator", data := .fields #[rawInt a, rawInt (Builtin.Range.rangeSize a b c), rawInt c] }).get? q = some o := fun q o e => Heap.get?_push_of_some _ e
  refine cn_core (s := { s with heap := s.heap.push _ }) J (Walks.range hh s.heap.objs.size a c n) hsz (fun i h st => ⟨_, st⟩) (fun b hb => .inl (List.mem_singleton.mp hb)) hcell hkind hx (by show IsRangeIter _ _ _ _ _; rw [hn]; simpa using Heap.get?_push_size _ rfl) (fun b hb => ?_)
    (F.keeps up) (fun p hp => ⟨up _ _ (N p hp).1, (N p hp).2⟩) (Nat.ne_of_lt F.ns.lt) (next_is_new F) (fun p hp => Nat.ne_of_lt (Heap.lt_size (N p hp).1)) hj
    (fun i v ys nx hi hv hyl hJ oI C oC D m₂ h tk E' => turn i v ys nx hi hv hyl hJ _ oI C oC D m₂ h tk E') done
  rw [List.mem_singleton.mp hb]
  show s.heap.objs.size < (s.heap.push _).objs.size
  rw [Heap.size_push]; exact Nat.lt_succ_self _
/-- a tuple, its turns in a block of one name -/
theorem cn_tup {elt iter : PySem.Expr} {x : PySem.Str} {px : Pos} {scope : Scope} {cl : List (PySem.Str × Addr)} {pos : Pos} {ax : Addr} {vs : List Value} {news : List (Addr × Obj)} (J : Nat → List Value → List (Addr × Obj) → Prop) {RR : Value → Addr → Result → Shared → Prop}
    (hh : A.handled = none) (hm : (ax, tupO vs) ∈ news) (hJm : ∀ i ys nx, J i ys nx → (ax, tupO vs) ∈ nx) (hsz : vs.length ≤ sizeLine)
    (hcell : ∀ y ∈ scope.names, y.2 ≠ .cell) (hkind : scope.kind = .function) (hx : scope.names.lookup x = some .local) (F : Fr h₀ L s.heap m) (N : News h₀ L s.heap news) (hj : J 0 [] news)
    (turn : CnTurn prog w A s h₀ L m env elt x scope cl vs.length (fun i v => vs[i]? = some v) J)
    (done : ∀ D C h tk m' ys nx, J vs.length ys nx → ys.length = vs.length → Fr h₀ L h m → News h₀ L h ((D, lst ys) :: nx) → h.Ns C m' → h₀.get? C = none → h₀.get? D = none → C ≠ L → D ≠ L → C ≠ D → (∀ p ∈ nx, p.1 ≠ C ∧ p.1 ≠ D) → (∀ p ∈ news, @LT.lt Nat _ p.1 D) → RR (.ref D) C (.ok .next) { s with heap := h, toks := tk }) :
    wpAny (model prog w) A (pyIter (.ref ax)) (fun it s₂ => wpAny (model prog w) A (newList []) (fun acc s₃ => wpAny (model prog w) A (newFunctionEnv scope env.globals cl [] env.qual none .none (some env)) (fun cenv s₄ =>
      codeAny (model prog w) A (.compStart (.ListComp elt [⟨.Name x px, iter, [], 0⟩] scope pos) 0 it acc { cenv with scope := relabel scope env }) (RR acc cenv.locals) s₄) E s₃) E s₂) E s := by
  have hax := N _ hm
  have hls : s.heap.IsTuple ax vs.toArray := ⟨_, hax.1, rfl, 0, rfl⟩
  have hlt : ax < s.heap.objs.size := Heap.lt_size hax.1
  refine wpAny_pyIter_tuple hls ?_
  have up : ∀ b o, s.heap.get? b = some o → (s.heap.push { cls := .type "tuple_iterator", data := .fields #[.ref ax, .int 0 0] }).get? b = some o := fun b o e => Heap.get?_push_of_some _ e
  have W := Walks.tuple (prog := prog) (w := w) hh s.heap.objs.size ax (Nat.ne_of_lt hlt) vs.toArray
  rw [List.size_toArray] at W
  refine cn_core (s := { s with heap := s.heap.push _ }) J W hsz (fun i h st => by obtain ⟨o, e, _⟩ := st.1; exact ⟨o, e⟩) ?_ hcell hkind hx ⟨⟨_, Heap.get?_push_size _ rfl, rfl, rfl⟩, ⟨_, up _ _ hax.1, rfl, 0, rfl⟩⟩ ?_
    (F.keeps up) (fun p hp => ⟨up _ _ (N p hp).1, (N p hp).2⟩) (Nat.ne_of_lt F.ns.lt) (next_is_new F) (fun p hp => Nat.ne_of_lt (Heap.lt_size (N p hp).1)) hj
    (fun i v ys nx hi hv hyl hJ oI C oC D m₂ h tk E' => turn i v ys nx hi (by simpa using hv) hyl hJ _ oI C oC D m₂ h tk E') done
  · intro b hb
    rcases List.mem_cons.mp hb with rfl | hb
    · exact .inl rfl
    · exact .inr (.inr ⟨_, fun i ys nx hJ => (List.mem_singleton.mp hb) ▸ hJm i ys nx hJ⟩)
  · intro b hb
    show b < (s.heap.push _).objs.size
    rw [Heap.size_push]
    rcases List.mem_cons.mp hb with rfl | hb
    · exact Nat.lt_succ_self _
    · rw [List.mem_singleton.mp hb]; exact Nat.lt_succ_of_lt hlt
/-- pairs of a list of the ledger -/
theorem cp_list {elt iter : PySem.Expr} {x x₂ : PySem.Str} {px px₂ tp : Pos} {tk} {scope : Scope} {cl : List (PySem.Str × Addr)} {pos : Pos} {ax : Addr} {vs : List Value} {kk : Nat} {news : List (Addr × Obj)} (J : Nat → List Value → List (Addr × Obj) → Prop) {RR : Value → Addr → Result → Shared → Prop}
    (hh : A.handled = none) (hm : (ax, W.listOf vs.toArray kk) ∈ news) (hJm : ∀ i ys nx, J i ys nx → (ax, W.listOf vs.toArray kk) ∈ nx) (hsz : vs.length ≤ sizeLine)
    (hcell : ∀ y ∈ scope.names, y.2 ≠ .cell) (hkind : scope.kind = .function) (hx : scope.names.lookup x = some .local) (hx₂ : scope.names.lookup x₂ = some .local) (hxx : x ≠ x₂) (F : Fr h₀ L s.heap m) (N : News h₀ L s.heap news) (hj : J 0 [] news)
    (turn : ∀ i v ys nx, vs[i]? = some v → ys.length = i → J i ys nx → ∃ t v₁ v₂, v = .ref t ∧ (t, tupO [v₁, v₂]) ∈ nx ∧
      ∀ I oI C oC D m₂ h tk (E' : Value → Shared → Prop), NsObj oC m₂ → m₂ x = some v₁ → m₂ x₂ = some v₂ → Fr h₀ L h m → News h₀ L h ((I, oI) :: (C, oC) :: (D, lst ys) :: nx) → Off3 I C D nx → ((@Ne Nat I C) ∧ (@Ne Nat I D) ∧ (@Ne Nat C D)) →
        wpAny (model prog w) A (eval elt (compEnvC scope cl C env)) (CompEnd h₀ L m { s with heap := h, toks := tk } I oI C oC D (lst ys) (fun _ => True) (fun y nx' => J (i + 1) (ys ++ [y]) nx')) E' { s with heap := h, toks := tk })
    (done : ∀ D C h tk m' ys nx, J vs.length ys nx → ys.length = vs.length → Fr h₀ L h m → News h₀ L h ((D, lst ys) :: nx) → h.Ns C m' → h₀.get? C = none → h₀.get? D = none → C ≠ L → D ≠ L → C ≠ D → (∀ p ∈ nx, p.1 ≠ C ∧ p.1 ≠ D) → RR (.ref D) C (.ok .next) { s with heap := h, toks := tk }) :
    wpAny (model prog w) A (pyIter (.ref ax)) (fun it s₂ => wpAny (model prog w) A (newList []) (fun acc s₃ => wpAny (model prog w) A (newFunctionEnv scope env.globals cl [] env.qual none .none (some env)) (fun cenv s₄ =>
      codeAny (model prog w) A (.compStart (.ListComp elt [⟨.Tuple [.Name x px, .Name x₂ px₂] tk tp, iter, [], 0⟩] scope pos) 0 it acc { cenv with scope := relabel scope env }) (RR acc cenv.locals) s₄) E s₃) E s₂) E s := by
  have hax := N _ hm
  have hls : s.heap.IsList ax vs.toArray := ⟨_, hax.1, rfl, kk, rfl⟩
  have hlt : ax < s.heap.objs.size := Heap.lt_size hax.1
  refine wpAny_pyIter_list hls ?_
  have up : ∀ b o, s.heap.get? b = some o → (s.heap.push { cls := .type "list_iterator", data := .fields #[.ref ax, .int 0 0] }).get? b = some o := fun b o e => Heap.get?_push_of_some _ e
  have W := Walks.list (prog := prog) (w := w) hh s.heap.objs.size ax (Nat.ne_of_lt hlt) vs.toArray
  rw [List.size_toArray] at W
  refine cp_core (s := { s with heap := s.heap.push _ }) J W hsz hh (fun i s' T Q' E' st hq => letGo_listiter st.1 hq) (fun i h st => by obtain ⟨o, e, _⟩ := st.1; exact ⟨o, e⟩) ?_ hcell hkind hx hx₂ hxx ⟨⟨_, Heap.get?_push_size _ rfl, rfl, rfl⟩, ⟨_, up _ _ hax.1, rfl, kk, rfl⟩⟩ ?_
    (F.keeps up) (fun p hp => ⟨up _ _ (N p hp).1, (N p hp).2⟩) (Nat.ne_of_lt F.ns.lt) (next_is_new F) (fun p hp => Nat.ne_of_lt (Heap.lt_size (N p hp).1)) hj ?_ done
  · intro b hb
    rcases List.mem_cons.mp hb with rfl | hb
    · exact .inl rfl
    · exact .inr (.inr ⟨_, fun i ys nx hJ => (List.mem_singleton.mp hb) ▸ hJm i ys nx hJ⟩)
  · intro b hb
    show b < (s.heap.push _).objs.size
    rw [Heap.size_push]
    rcases List.mem_cons.mp hb with rfl | hb
    · exact Nat.lt_succ_self _
    · rw [List.mem_singleton.mp hb]; exact Nat.lt_succ_of_lt hlt
  · intro i v ys nx hi hv hyl hJ
    obtain ⟨t, v₁, v₂, e, hmt, go⟩ := turn i v ys nx (by simpa using hv) hyl hJ
    exact ⟨t, v₁, v₂, e, hmt, fun oI C oC D m₂ h tk E' => go _ oI C oC D m₂ h tk E'⟩
end
end Mine
end
section
open PySem PySem.W PySem.Calls PyProof.Rows PyProof.Rows.LCg PyProof.V PySem.Spec
set_option maxHeartbeats 2000000
namespace Mine
/-- a ledger without an address -/
def without (c : Addr) (l : List (Addr × Obj)) : List (Addr × Obj) := l.filter fun p => decide (p.1 ≠ c)
theorem mem_without {c : Addr} {l : List (Addr × Obj)} {p : Addr × Obj} (h : p ∈ l) (hc : p.1 ≠ c) : p ∈ without c l := List.mem_filter.mpr ⟨h, by simpa using hc⟩
section
variable {prog : Program} {w : World} {A : Around} {E : Value → Shared → Prop} {s : Shared} {h₀ : Heap} {L : Addr} {m : PySem.Str → Option Value} {env : Env}
theorem fin_none {D C : Addr} {h : Heap} {tk : Nat} {m' : PySem.Str → Option Value} {ys : List Value} {nx : List (Addr × Obj)} {Q : Value → Shared → Prop}
    (F : Fr h₀ L h m) (N : News h₀ L h ((D, lst ys) :: nx)) (hn : h.Ns C m') (hC₀ : h₀.get? C = none) (hCL : C ≠ L) (hCD : C ≠ D) (off : ∀ p ∈ nx, p.1 ≠ C ∧ p.1 ≠ D)
    (k : ∀ h'', Fr h₀ L h'' m → News h₀ L h'' ((D, lst ys) :: nx) → Q (.ref D) { s with heap := h'', toks := tk }) :
    compPost (model prog w) A E none Q (.ref D) C (.ok .next) { s with heap := h, toks := tk } := by
  refine ⟨m', hn, fun h'' hs'' => k h'' (F.change hs'' hCL hC₀) fun p hp => ?_⟩
  refine ⟨hs''.extBut _ _ ?_ (N p hp).1, (N p hp).2⟩
  rcases List.mem_cons.mp hp with rfl | hp
  · exact Ne.symm hCD
  · exact (off p hp).1
theorem fin_local {D C : Addr} {h : Heap} {tk : Nat} {m' : PySem.Str → Option Value} {ys : List Value} {nx : List (Addr × Obj)} {Q : Flow → Shared → Prop} {y : PySem.Str} {py : Pos} (hLe : env.locals = L)
    (hy : env.kindOf y = some .local) (hp : (env.scope.kind == .class || (env.scope.kind == .module && env.locals != env.globals)) = false)
    (F : Fr h₀ L h m) (N : News h₀ L h ((D, lst ys) :: nx)) (hn : h.Ns C m') (hC₀ : h₀.get? C = none) (hCL : C ≠ L) (hCD : C ≠ D) (off : ∀ p ∈ nx, p.1 ≠ C ∧ p.1 ≠ D)
    (k : ∀ h'' tk, Fr h₀ L h'' (fun z => if z = y then some (.ref D) else m z) → News h₀ L h'' ((D, lst ys) :: nx) → Q .next { s with heap := h'', toks := tk }) :
    compPost (model prog w) A E (some (assign (.Name y py) env)) (fun _ s' => Q .next s') (.ref D) C (.ok .next) { s with heap := h, toks := tk } := by
  subst hLe
  show wpAny _ A (assign (.Name y py) env (.ref D)) _ _ _
  refine wpAny_assign_Name (wpAny_storeName_local hy F.ns (fun h₂ hn₂ hs₂ => ?_) hp)
  have hL₀ : h₀.get? env.locals = none := Heap.get?_none_of_le F.above
  have F₂ : Fr h₀ env.locals h₂ (fun z => if z = y then some (.ref D) else m z) := ⟨hn₂, fun b o e => hs₂.extBut b o (fun q => by rw [q, hL₀] at e; cases e) (F.keep b o e), F.above⟩
  refine ⟨m', hn.sameBut hs₂ hCL, fun h'' hs'' => k h'' _ (F₂.change hs'' hCL hC₀) fun p hp => ?_⟩
  have z : h₂.get? p.1 = some p.2 := hs₂.extBut _ _ (N p hp).2.1 (N p hp).1
  refine ⟨hs''.extBut _ _ ?_ z, (N p hp).2⟩
  rcases List.mem_cons.mp hp with rfl | hp
  · exact Ne.symm hCD
  · exact (off p hp).1
theorem lc_assign {elt tgt iter : PySem.Expr} {ifs : List PySem.Expr} {y : PySem.Str} {py : Pos} {scope : Scope} {cl : List (PySem.Str × Addr)} {pos spos : Pos} {Q : Flow → Shared → Prop}
    (hsw : swapsWith (.ListComp elt [⟨tgt, iter, ifs, 0⟩] scope pos) (some (.Name y py)) spos.line env = pure true)
    (hclos : closureFor scope env = pure cl) (hkind : scope.kind = .function) (hnames : ∀ z ∈ scope.names, z.2 = .local → scope.names.lookup z.1 = some .local)
    (h : wpAny (model prog w) A (eval iter env) (fun xv s₁ => wpAny (model prog w) A (pyIter xv) (fun it s₂ => wpAny (model prog w) A (newList []) (fun acc s₃ => wpAny (model prog w) A (newFunctionEnv scope env.globals cl [] env.qual none .none (some env)) (fun cenv s₄ =>
      codeAny (model prog w) A (.compStart (.ListComp elt [⟨tgt, iter, ifs, 0⟩] scope pos) 0 it acc { cenv with scope := relabel scope env }) (compPost (model prog w) A E (some (assign (.Name y py) env)) (fun _ s' => Q .next s') acc cenv.locals) s₄) E s₃) E s₂) E s₁) E s)
    (hs : ∀ x, foldedSetIterable iter env x = pure x := by intro _; rfl) :
    wpAny (model prog w) A (exec (.Assign [.Name y py] (.ListComp elt [⟨tgt, iter, ifs, 0⟩] scope pos) spos) env) Q E s := by
  rw [exec_Assign_Name_used _ _ _ _ hsw]
  refine wpAny_bind (wpAny_standAt (wpAny_bind ?_))
  show wpAny _ A (do let _ ← comprehension (.ListComp elt [⟨tgt, iter, ifs, 0⟩] scope pos) scope env _ (newList []) false (eval iter env) (some (assign (.Name y py) env))) _ _ s
  exact wpAny_bind (wpAny_mono (wpAny_comprehension_free (use := some (assign (.Name y py) env)) (Q := fun _ s' => Q .next s') rfl hs hclos hkind hnames h) (fun _ s' hq => wpAny_pure (wpAny_pure hq)) fun _ _ e => e)
/-- a local name, to a list gathered over a range -/
theorem cn_assign_local {elt iter : PySem.Expr} {x y : PySem.Str} {px py : Pos} {scope : Scope} {cl : List (PySem.Str × Addr)} {pos spos : Pos} {Q : Flow → Shared → Prop} (F₀ : Fr h₀ L s.heap m) (hLe : env.locals = L)
    (hsw : swapsWith (.ListComp elt [⟨.Name x px, iter, [], 0⟩] scope pos) (some (.Name y py)) spos.line env = pure true)
    (hclos : closureFor scope env = pure cl) (hcell : ∀ z ∈ scope.names, z.2 ≠ .cell) (hkind : scope.kind = .function)
    (hnames : ∀ z ∈ scope.names, z.2 = .local → scope.names.lookup z.1 = some .local) (hx : scope.names.lookup x = some .local)
    (hy : env.kindOf y = some .local) (hp : (env.scope.kind == .class || (env.scope.kind == .module && env.locals != env.globals)) = false)
    (h : wpAny (model prog w) A (eval iter env) (fun xv s₁ => ∃ (r : Addr) (a b c : Int) (t u v : Tok) (n : Nat) (news : List (Addr × Obj)) (J : Nat → List Value → List (Addr × Obj) → Prop), xv = .ref r ∧ A.handled = none ∧ Fr h₀ L s₁.heap m ∧ News h₀ L s₁.heap news ∧ IsRange s₁.heap r a b c t u v ∧ Builtin.Range.small a b c = true ∧ Builtin.Range.rangeSize a b c = ((n : Nat) : Int) ∧ n ≤ sizeLine ∧ J 0 [] news ∧
      CnTurn prog w A s₁ h₀ L m env elt x scope cl n (fun i v => ∃ t, v = .int (a + (i : Int) * c) t) J ∧
      ∀ D h tk ys nx, J n ys nx → ys.length = n → Fr h₀ L h (fun z => if z = y then some (.ref D) else m z) → News h₀ L h ((D, lst ys) :: nx) → (∀ p ∈ nx, p.1 ≠ D) → (∀ p ∈ news, @LT.lt Nat _ p.1 D) → Q .next { s₁ with heap := h, toks := tk }) E s)
    (hs : ∀ x, foldedSetIterable iter env x = pure x := by intro _; rfl) :
    wpAny (model prog w) A (exec (.Assign [.Name y py] (.ListComp elt [⟨.Name x px, iter, [], 0⟩] scope pos) spos) env) Q E s := by
  refine lc_assign hsw hclos hkind hnames (wpAny_mono h (fun xv s₁ h₁ => ?_) fun _ _ e => e) hs
  obtain ⟨r, a, b, c, t, u, v, n, news, J, rfl, hh, F, N, hr, hsm, hn, hsz, hj, turn, fin⟩ := h₁
  refine cn_range J hh hr hsm hn hsz hcell hkind hx F N hj turn ?_
  intro D C h' tk m' ys nx hJ hyl F' N' hns hC₀ hD₀ hCL hDL hCD off hlD
  exact fin_local hLe hy hp F' N' hns hC₀ hCL hCD off fun h'' tk F'' N'' => fin D h'' tk ys nx hJ hyl F'' N'' (fun p hp => (off p hp).2) hlD
/-- a list gathered over a range -/
theorem cn_eval_range {elt iter : PySem.Expr} {x : PySem.Str} {px : Pos} {scope : Scope} {cl : List (PySem.Str × Addr)} {pos : Pos} {Q : Value → Shared → Prop} (F₀ : Fr h₀ L s.heap m)
    (hclos : closureFor scope env = pure cl) (hcell : ∀ z ∈ scope.names, z.2 ≠ .cell) (hkind : scope.kind = .function)
    (hnames : ∀ z ∈ scope.names, z.2 = .local → scope.names.lookup z.1 = some .local) (hx : scope.names.lookup x = some .local)
    (h : wpAny (model prog w) A (eval iter env) (fun xv s₁ => ∃ (r : Addr) (a b c : Int) (t u v : Tok) (n : Nat) (news : List (Addr × Obj)) (J : Nat → List Value → List (Addr × Obj) → Prop), xv = .ref r ∧ A.handled = none ∧ Fr h₀ L s₁.heap m ∧ News h₀ L s₁.heap news ∧ IsRange s₁.heap r a b c t u v ∧ Builtin.Range.small a b c = true ∧ Builtin.Range.rangeSize a b c = ((n : Nat) : Int) ∧ n ≤ sizeLine ∧ J 0 [] news ∧
      CnTurn prog w A s₁ h₀ L m env elt x scope cl n (fun i v => ∃ t, v = .int (a + (i : Int) * c) t) J ∧
      ∀ D h tk ys nx, J n ys nx → ys.length = n → Fr h₀ L h m → News h₀ L h ((D, lst ys) :: nx) → (∀ p ∈ nx, p.1 ≠ D) → (∀ p ∈ news, @LT.lt Nat _ p.1 D) → Q (.ref D) { s₁ with heap := h, toks := tk }) E s)
    (hs : ∀ x, foldedSetIterable iter env x = pure x := by intro _; rfl) :
    wpAny (model prog w) A (eval (.ListComp elt [⟨.Name x px, iter, [], 0⟩] scope pos) env) Q E s := by
  rw [eval_ListComp]
  refine wpAny_comprehension_free (use := none) rfl hs hclos hkind hnames (wpAny_mono h (fun xv s₁ h₁ => ?_) fun _ _ e => e)
  obtain ⟨r, a, b, c, t, u, v, n, news, J, rfl, hh, F, N, hr, hsm, hn, hsz, hj, turn, fin⟩ := h₁
  refine cn_range J hh hr hsm hn hsz hcell hkind hx F N hj turn ?_
  intro D C h' tk m' ys nx hJ hyl F' N' hns hC₀ hD₀ hCL hDL hCD off hlD
  exact fin_none F' N' hns hC₀ hCL hCD off fun h'' F'' N'' => fin D h'' tk ys nx hJ hyl F'' N'' (fun p hp => (off p hp).2) hlD
/-- a list gathered over a tuple -/
theorem cn_eval_tup {elt iter : PySem.Expr} {x : PySem.Str} {px : Pos} {scope : Scope} {cl : List (PySem.Str × Addr)} {pos : Pos} {Q : Value → Shared → Prop} (F₀ : Fr h₀ L s.heap m)
    (hclos : closureFor scope env = pure cl) (hcell : ∀ z ∈ scope.names, z.2 ≠ .cell) (hkind : scope.kind = .function)
    (hnames : ∀ z ∈ scope.names, z.2 = .local → scope.names.lookup z.1 = some .local) (hx : scope.names.lookup x = some .local)
    (h : wpAny (model prog w) A (eval iter env) (fun xv s₁ => ∃ (ax : Addr) (vs : List Value) (news : List (Addr × Obj)) (J : Nat → List Value → List (Addr × Obj) → Prop), xv = .ref ax ∧ A.handled = none ∧ Fr h₀ L s₁.heap m ∧ News h₀ L s₁.heap news ∧ (ax, tupO vs) ∈ news ∧ vs.length ≤ sizeLine ∧ J 0 [] news ∧ (∀ i ys nx, J i ys nx → (ax, tupO vs) ∈ nx) ∧
      CnTurn prog w A s₁ h₀ L m env elt x scope cl vs.length (fun i v => vs[i]? = some v) J ∧
      ∀ D h tk ys nx, J vs.length ys nx → ys.length = vs.length → Fr h₀ L h m → News h₀ L h ((D, lst ys) :: nx) → (∀ p ∈ nx, p.1 ≠ D) → (∀ p ∈ news, @LT.lt Nat _ p.1 D) → Q (.ref D) { s₁ with heap := h, toks := tk }) E s)
    (hs : ∀ x, foldedSetIterable iter env x = pure x := by intro _; rfl) :
    wpAny (model prog w) A (eval (.ListComp elt [⟨.Name x px, iter, [], 0⟩] scope pos) env) Q E s := by
  rw [eval_ListComp]
  refine wpAny_comprehension_free (use := none) rfl hs hclos hkind hnames (wpAny_mono h (fun xv s₁ h₁ => ?_) fun _ _ e => e)
  obtain ⟨ax, vs, news, J, rfl, hh, F, N, hm, hsz, hj, hJm, turn, fin⟩ := h₁
  refine cn_tup J hh hm hJm hsz hcell hkind hx F N hj turn ?_
  intro D C h' tk m' ys nx hJ hyl F' N' hns hC₀ hD₀ hCL hDL hCD off hlD
  exact fin_none F' N' hns hC₀ hCL hCD off fun h'' F'' N'' => fin D h'' tk ys nx hJ hyl F'' N'' (fun p hp => (off p hp).2) hlD
/-- a list gathered over a list of pairs -/
theorem cp_eval_list {elt iter : PySem.Expr} {x x₂ : PySem.Str} {px px₂ tp : Pos} {tk} {scope : Scope} {cl : List (PySem.Str × Addr)} {pos : Pos} {Q : Value → Shared → Prop} (F₀ : Fr h₀ L s.heap m)
    (hclos : closureFor scope env = pure cl) (hcell : ∀ z ∈ scope.names, z.2 ≠ .cell) (hkind : scope.kind = .function)
    (hnames : ∀ z ∈ scope.names, z.2 = .local → scope.names.lookup z.1 = some .local) (hx : scope.names.lookup x = some .local) (hx₂ : scope.names.lookup x₂ = some .local) (hxx : x ≠ x₂)
    (h : wpAny (model prog w) A (eval iter env) (fun xv s₁ => ∃ (ax : Addr) (vs : List Value) (kk : Nat) (news : List (Addr × Obj)) (J : Nat → List Value → List (Addr × Obj) → Prop), xv = .ref ax ∧ A.handled = none ∧ Fr h₀ L s₁.heap m ∧ News h₀ L s₁.heap news ∧ (ax, W.listOf vs.toArray kk) ∈ news ∧ vs.length ≤ sizeLine ∧ J 0 [] news ∧ (∀ i ys nx, J i ys nx → (ax, W.listOf vs.toArray kk) ∈ nx) ∧
      (∀ i v ys nx, vs[i]? = some v → ys.length = i → J i ys nx → ∃ t v₁ v₂, v = .ref t ∧ (t, tupO [v₁, v₂]) ∈ nx ∧
        ∀ I oI C oC D m₂ h tk (E' : Value → Shared → Prop), NsObj oC m₂ → m₂ x = some v₁ → m₂ x₂ = some v₂ → Fr h₀ L h m → News h₀ L h ((I, oI) :: (C, oC) :: (D, lst ys) :: nx) → Off3 I C D nx → ((@Ne Nat I C) ∧ (@Ne Nat I D) ∧ (@Ne Nat C D)) →
          wpAny (model prog w) A (eval elt (compEnvC scope cl C env)) (CompEnd h₀ L m { s₁ with heap := h, toks := tk } I oI C oC D (lst ys) (fun _ => True) (fun y nx' => J (i + 1) (ys ++ [y]) nx')) E' { s₁ with heap := h, toks := tk }) ∧
      ∀ D h tk ys nx, J vs.length ys nx → ys.length = vs.length → Fr h₀ L h m → News h₀ L h ((D, lst ys) :: nx) → (∀ p ∈ nx, p.1 ≠ D) → Q (.ref D) { s₁ with heap := h, toks := tk }) E s)
    (hs : ∀ x, foldedSetIterable iter env x = pure x := by intro _; rfl) :
    wpAny (model prog w) A (eval (.ListComp elt [⟨.Tuple [.Name x px, .Name x₂ px₂] tk tp, iter, [], 0⟩] scope pos) env) Q E s := by
  rw [eval_ListComp]
  refine wpAny_comprehension_free (use := none) rfl hs hclos hkind hnames (wpAny_mono h (fun xv s₁ h₁ => ?_) fun _ _ e => e)
  obtain ⟨ax, vs, kk, news, J, rfl, hh, F, N, hm, hsz, hj, hJm, turn, fin⟩ := h₁
  refine cp_list J hh hm hJm hsz hcell hkind hx hx₂ hxx F N hj turn ?_
  intro D C h' tk m' ys nx hJ hyl F' N' hns hC₀ hD₀ hCL hDL hCD off
  exact fin_none F' N' hns hC₀ hCL hCD off fun h'' F'' N'' => fin D h'' tk ys nx hJ hyl F'' N'' fun p hp => (off p hp).2
theorem crestT {ct elt : PySem.Expr} {x : PySem.Str} {scope : Scope} {cl : List (PySem.Str × Addr)} {S : List (Addr × Obj) → Prop} {P : Nat → Value → Prop} {Fin : List Value → List (Addr × Obj) → Prop} {n : Nat} {news : List (Addr × Obj)} (J : Nat → List Value → List (Addr × Obj) → Prop) (hj : J 0 [] news)
    (turn : ∀ i v ys nx, i < n → P i v → J i ys nx → ∀ I oI C oC D m₂ h tk (E' : Value → Shared → Prop), NsObj oC m₂ → m₂ x = some v → Fr h₀ L h m → News h₀ L h ((I, oI) :: (C, oC) :: (D, lst ys) :: nx) → Off3 I C D nx → ((@Ne Nat I C) ∧ (@Ne Nat I D) ∧ (@Ne Nat C D)) →
      wpAny (model prog w) A (isTrue ct (compEnvC scope cl C env) (eval ct (compEnvC scope cl C env))) (fun ok s' => if ok = true then
        wpAny (model prog w) A (eval elt (compEnvC scope cl C env)) (CompEnd h₀ L m { s with heap := h, toks := tk } I oI C oC D (lst ys) S (fun y nx' => J (i + 1) (ys ++ [y]) nx')) E' s'
        else CompEnd h₀ L m { s with heap := h, toks := tk } I oI C oC D (lst ys) S (fun _ nx' => J (i + 1) ys nx') Value.none s') E' { s with heap := h, toks := tk })
    (fin : ∀ ys nx, J n ys nx → Fin ys nx) : LCt.CompRestT prog w A h₀ L m env ct elt x scope cl s S P Fin n 0 [] news := by
  have go : ∀ k i ys nx, i + k = n → J i ys nx → LCt.CompRestT prog w A h₀ L m env ct elt x scope cl s S P Fin k i ys nx := by
    intro k
    induction k with
    | zero => intro i ys nx e hJ; exact .zero (fin ys nx (by rw [show n = i by omega]; exact hJ))
    | succ k ih =>
      intro i ys nx e hJ
      refine .succ fun v I oI C oC D m₂ h tk E' hP hC hx' F N off ne => ?_
      refine wpAny_mono (turn i v ys nx (by omega) hP hJ I oI C oC D m₂ h tk E' hC hx' F N off ne) (fun ok s₂ h₂ => ?_) fun _ _ e => e
      cases ok with
      | true =>
        simp only [if_true] at h₂ ⊢
        refine wpAny_mono h₂ (fun y s₂ h₂ => ?_) fun _ _ e => e
        obtain ⟨h', tk', news', e', F', N', off', hS, hJ'⟩ := h₂
        exact ⟨h', tk', news', e', F', N', off', hS, ih (i + 1) _ _ (by omega) hJ'⟩
      | false =>
        simp only [Bool.false_eq_true, if_false] at h₂ ⊢
        obtain ⟨h', tk', news', e', F', N', off', hS, hJ'⟩ := h₂
        exact ⟨h', tk', news', e', F', N', off', hS, ih (i + 1) _ _ (by omega) hJ'⟩
  exact go n 0 [] news (by omega) hj
end
end Mine
end
section
open PySem PySem.W PySem.Calls PyProof.Rows PyProof.V PySem.Spec
namespace Mine
/-- the largest power of two that a number below sixteen holds -/
def lg (n : Nat) : Nat := if n < 2 then 1 else if n < 4 then 2 else if n < 8 then 4 else 8
/-- the worth of a cake -/
def cake (a b : Nat) : Int := if a = 0 ∨ b = 0 then 0 else if lg b ≤ lg a then ((a / lg b : Nat) : Int) - 1 else 1 - ((b / lg a : Nat) : Int)
def gr (a b x y : Nat) : Int := if 16 * x + y < 16 * a + b then cake x y else 0
def lowL (a b : Nat) : List Int := [-99] ++ (List.range (a / 2)).map fun j => cake (1 + j) b + cake (a - (1 + j)) b
def highL (a b : Nat) : List Int := [99] ++ (List.range (b / 2)).map fun j => cake a (1 + j) + cake a (b - (1 + j))
theorem low_law : ∀ a : Fin 9, ∀ b : Fin 9, 1 ≤ a.val → 1 ≤ b.val → ((lowL a.val b.val).all fun z => decide (z ≤ (lowL a.val b.val).foldl max (-99))) = true ∧ ((lowL a.val b.val).foldl max (-99)) ∈ lowL a.val b.val := by decide +kernel
theorem high_law : ∀ a : Fin 9, ∀ b : Fin 9, 1 ≤ a.val → 1 ≤ b.val → ((highL a.val b.val).all fun z => decide ((highL a.val b.val).foldl min 99 ≤ z)) = true ∧ ((highL a.val b.val).foldl min 99) ∈ highL a.val b.val := by decide +kernel
theorem cut_law : ∀ a : Fin 9, ∀ b : Fin 9, 1 ≤ a.val → 1 ≤ b.val →
    (if 0 ≤ (lowL a.val b.val).foldl max (-99) then (lowL a.val b.val).foldl max (-99) + 1 else if (highL a.val b.val).foldl min 99 ≤ 0 then (highL a.val b.val).foldl min 99 - 1 else 0) = cake a.val b.val := by decide +kernel
theorem cut_of {a b : Nat} {lo hi : Int} (a1 : 1 ≤ a) (a8 : a ≤ 8) (b1 : 1 ≤ b) (b8 : b ≤ 8) (l1 : lo ∈ lowL a b) (l2 : ∀ z, z ∈ lowL a b → z ≤ lo) (h1 : hi ∈ highL a b) (h2 : ∀ z, z ∈ highL a b → hi ≤ z) :
    (0 ≤ lo → lo + 1 = cake a b) ∧ (¬ 0 ≤ lo → hi ≤ 0 → hi - 1 = cake a b) ∧ (¬ 0 ≤ lo → ¬ hi ≤ 0 → cake a b = 0) := by
  obtain ⟨p1, p2⟩ := low_law ⟨a, by omega⟩ ⟨b, by omega⟩ a1 b1
  obtain ⟨q1, q2⟩ := high_law ⟨a, by omega⟩ ⟨b, by omega⟩ a1 b1
  have e1 : lo = (lowL a b).foldl max (-99) := Int.le_antisymm (of_decide_eq_true (List.all_eq_true.mp p1 lo l1)) (l2 _ p2)
  have e2 : hi = (highL a b).foldl min 99 := Int.le_antisymm (h2 _ q2) (of_decide_eq_true (List.all_eq_true.mp q1 hi h1))
  have c := cut_law ⟨a, by omega⟩ ⟨b, by omega⟩ a1 b1
  dsimp only at c
  rw [← e1, ← e2] at c
  refine ⟨fun q => ?_, fun q q' => ?_, fun q q' => ?_⟩
  · rw [if_pos q] at c; exact c
  · rw [if_neg q, if_pos q'] at c; exact c
  · rw [if_neg q, if_neg q'] at c; exact c.symm
/-- the rows of the made table -/
structure Mat (f : Nat → Nat → Int) (wd d : Nat) (rows : List (Addr × Obj)) : Prop where
  len : rows.length = wd + 1
  row : ∀ i r, rows[i]? = some r → ∃ vs k, r.2 = W.listOf vs.toArray k ∧ IntsAre vs ((List.range (d + 1)).map (f i))
  nodup : (rows.map (·.1)).Nodup
theorem Mat.congr {f g : Nat → Nat → Int} {wd d : Nat} {rows : List (Addr × Obj)} (M : Mat f wd d rows) (h : ∀ i j, i ≤ wd → j ≤ d → f i j = g i j) : Mat g wd d rows := by
  refine ⟨M.len, fun i r hr => ?_, M.nodup⟩
  obtain ⟨vs, k, e, hI⟩ := M.row i r hr
  refine ⟨vs, k, e, ?_⟩
  have hi : i < rows.length := by
    rcases Nat.lt_or_ge i rows.length with h | h
    · exact h
    · rw [List.getElem?_eq_none h] at hr; cases hr
  have e2 : (List.range (d + 1)).map (f i) = (List.range (d + 1)).map (g i) := by
    refine List.map_congr_left fun j hj => h i j ?_ ?_
    · have := M.len; omega
    · have := List.mem_range.mp hj; omega
  rw [← e2]; exact hI
theorem row_set {f : Nat → Int} {d j : Nat} {v : Int} : ((List.range (d + 1)).map f).set j v = (List.range (d + 1)).map fun y => if y = j then v else f y := by
  refine List.ext_getElem? fun i => ?_
  rw [List.getElem?_set]
  by_cases h : j = i
  · subst h
    by_cases hj : j < d + 1
    · simp [hj]
    · simp [hj]
  · simp only [h, if_false, List.getElem?_map]
    by_cases hi : i < d + 1
    · rw [List.getElem?_eq_getElem (by simpa using hi)]
      simp [Ne.symm h]
    · rw [List.getElem?_eq_none (by simpa using hi)]; rfl
theorem Mat.set {f : Nat → Nat → Int} {wd d : Nat} {rows : List (Addr × Obj)} (M : Mat f wd d rows) {a j k : Nat} {r : Addr × Obj} {v : Int} {vs : List Value} (hr : rows[a]? = some r) (hI : IntsAre vs (((List.range (d + 1)).map (f a)).set j v)) :
    Mat (fun x y => if x = a ∧ y = j then v else f x y) wd d (rows.set a (r.1, W.listOf vs.toArray k)) := by
  have hmap : (rows.set a (r.1, W.listOf vs.toArray k)).map (·.1) = rows.map (·.1) := by
    refine List.ext_getElem? fun i => ?_
    rw [List.getElem?_map, List.getElem?_set, List.getElem?_map]
    by_cases h : a = i
    · subst h
      rw [hr]
      by_cases hl : a < rows.length
      · simp [hl]
      · rw [List.getElem?_eq_none (by omega)] at hr; cases hr
    · simp [h]
  refine ⟨by rw [List.length_set]; exact M.len, fun i q hq => ?_, by rw [hmap]; exact M.nodup⟩
  rw [List.getElem?_set] at hq
  by_cases h : a = i
  · subst h
    have hl : a < rows.length := by
      rcases Nat.lt_or_ge a rows.length with h | h
      · exact h
      · rw [List.getElem?_eq_none h] at hr; cases hr
    simp only [hl, if_true] at hq
    cases hq
    refine ⟨vs, k, rfl, ?_⟩
    rw [row_set] at hI
    simpa using hI
  · simp only [h, if_false] at hq
    obtain ⟨vs', k', e, hI'⟩ := M.row i q hq
    refine ⟨vs', k', e, ?_⟩
    have : (fun y => if i = a ∧ y = j then v else f i y) = f i := by
      funext y
      rw [if_neg (fun q => h q.1.symm)]
    show IntsAre vs' ((List.range (d + 1)).map fun y => if i = a ∧ y = j then v else f i y)
    rw [this]; exact hI'
theorem set_addrs {rows : List (Addr × Obj)} {a : Nat} {r : Addr × Obj} {o : Obj} (hr : rows[a]? = some r) : (rows.set a (r.1, o)).map (fun p => Value.ref p.1) = rows.map fun p => Value.ref p.1 := by
  refine List.ext_getElem? fun i => ?_
  rw [List.getElem?_map, List.getElem?_set, List.getElem?_map]
  by_cases h : a = i
  · subst h
    rw [hr]
    by_cases hl : a < rows.length
    · simp [hl]
    · rw [List.getElem?_eq_none (by omega)] at hr; cases hr
  · simp [h]
theorem set_mem {rows : List (Addr × Obj)} {a : Nat} {r : Addr × Obj} {o : Obj} (hr : rows[a]? = some r) (hn : (rows.map (·.1)).Nodup) : ∀ p ∈ rows.set a (r.1, o), p = (r.1, o) ∨ (p ∈ rows ∧ p.1 ≠ r.1) := by
  intro p hp
  obtain ⟨i, hi⟩ := List.mem_iff_getElem?.mp hp
  rw [List.getElem?_set] at hi
  by_cases h : a = i
  · subst h
    by_cases hl : a < rows.length
    · simp only [hl, if_true] at hi; cases hi; exact .inl rfl
    · simp [hl] at hi
  · simp only [h, if_false] at hi
    refine .inr ⟨List.mem_iff_getElem?.mpr ⟨i, hi⟩, fun e => h ?_⟩
    have h1 : (rows.map (·.1))[a]? = some r.1 := by rw [List.getElem?_map, hr]; rfl
    have h2 : (rows.map (·.1))[i]? = some r.1 := by rw [List.getElem?_map, hi]; exact congrArg some e
    have hla : a < (rows.map (·.1)).length := by
      rcases Nat.lt_or_ge a (rows.map (·.1)).length with h | h
      · exact h
      · rw [List.getElem?_eq_none h] at h1; cases h1
    exact (List.getElem?_inj hla hn).mp (h1.trans h2.symm)
section
variable {prog : Program} {w : World} {A : Around} {E : Value → Shared → Prop} {s : Shared} {h₀ : Heap} {L : Addr} {m : PySem.Str → Option Value} {news rows : List (Addr × Obj)} {f : Nat → Nat → Int} {wd d : Nat}
theorem mat_row {value slice : PySem.Expr} {l : Addr} {kk n : Nat} {i : Int} {u : Tok} {Q : Value → Shared → Prop} (M : Mat f wd d rows) (N : News h₀ L s.heap news) (hm : (l, W.listOf (rows.map fun p => Value.ref p.1).toArray kk) ∈ news) (hi : i = (n : Int)) (hn : n ≤ wd) (hw : wd ≤ 100)
    (h : ∀ r, rows[n]? = some r → Q (.ref r.1) s) (hs : subscripted slice false (.ref l) (.int i u) = operate [.ref l, .int i u] (getItem (.ref l) (.int i u)) := by with_unfolding_all rfl) :
    wpAny (model prog w) A (subscriptTail value slice (.ref l) (.int i u)) Q E s := by
  have hl : s.heap.IsList l (rows.map fun p => Value.ref p.1).toArray := News.isList N hm
  have hlen := M.len
  have hr : rows[n]? = some rows[n] := List.getElem?_eq_getElem (by omega)
  refine tail_any hl.typeIs slot_list_getitem.lookup (wpAny_getItem_list hl (by omega) (by omega) (x := .ref rows[n].1) ?_ (h _ hr)) hs
  have e : i.toNat = n := by omega
  rw [e]
  simp [hr]
theorem mat_item {value slice : PySem.Expr} {r : Addr × Obj} {a n : Nat} {i : Int} {u : Tok} {Q : Value → Shared → Prop} (M : Mat f wd d rows) (hr : rows[a]? = some r) (N : News h₀ L s.heap news) (hm : ∀ p ∈ rows, p ∈ news) (hi : i = (n : Int)) (hn : n ≤ d) (hd : d ≤ 100)
    (h : ∀ t, Q (.int (f a n) t) s) (hs : subscripted slice false (.ref r.1) (.int i u) = operate [.ref r.1, .int i u] (getItem (.ref r.1) (.int i u)) := by with_unfolding_all rfl) :
    wpAny (model prog w) A (subscriptTail value slice (.ref r.1) (.int i u)) Q E s := by
  obtain ⟨vs, k, e, hI⟩ := M.row a r hr
  have hmem : (r.1, W.listOf vs.toArray k) ∈ news := e ▸ hm r (List.mem_of_getElem? hr)
  have hl : s.heap.IsList r.1 vs.toArray := News.isList N hmem
  obtain ⟨t, ht⟩ := hI.get n (f a n) (by rw [List.getElem?_map, List.getElem?_range (by omega)]; rfl)
  have e : i.toNat = n := by omega
  exact tail_any hl.typeIs slot_list_getitem.lookup (wpAny_getItem_list hl (by omega) (by omega) (by rw [e]; simpa using ht) (h t)) hs
theorem mat_set {r : Addr × Obj} {a n : Nat} {i v : Int} {u t : Tok} {Q : Unit → Shared → Prop} (M : Mat f wd d rows) (hr : rows[a]? = some r) (F : Fr h₀ L s.heap m) (N : News h₀ L s.heap news) (hm : ∀ p ∈ rows, p ∈ news) (hi : i = (n : Int)) (hn : n ≤ d) (hd : d ≤ 100)
    (h : ∀ h' o', Mat (fun x y => if x = a ∧ y = n then v else f x y) wd d (rows.set a (r.1, o')) → Fr h₀ L h' m → News h₀ L h' ((r.1, o') :: without r.1 news) → badF o' = false → Q () { s with heap := h' }) :
    wpAny (model prog w) A (setItem (.ref r.1) (.int i u) (.int v t)) Q E s := by
  obtain ⟨vs, k, e, hI⟩ := M.row a r hr
  have hmem : (r.1, W.listOf vs.toArray k) ∈ news := e ▸ hm r (List.mem_of_getElem? hr)
  have z := N _ hmem
  have hlen := hI.length
  simp only [List.length_map, List.length_range] at hlen
  have e2 : i.toNat = n := by omega
  refine ki_setAt (n := k) z.1 (by omega) (by omega) (by rw [List.size_toArray]; omega) ?_
  have hsb : Heap.SameBut r.1 s.heap (s.heap.update r.1 (Obj.mapSeq (·.setIfInBounds i.toNat (.int v t)))) := Heap.SameBut.update ..
  have hget : (s.heap.update r.1 (Obj.mapSeq (·.setIfInBounds i.toNat (.int v t)))).get? r.1 = some (W.listOf (vs.set n (.int v t)).toArray k) := by
    have := Heap.get?_update_self (f := Obj.mapSeq (·.setIfInBounds i.toNat (.int v t))) z.1 rfl
    rw [this]
    simp [Obj.mapSeq, e2]
  refine h _ (W.listOf (vs.set n (.int v t)).toArray k) (M.set hr (ints_set hI n)) (F.change hsb z.2.1 z.2.2) (fun p hp => ?_) rfl
  rcases List.mem_cons.mp hp with rfl | hp
  · exact ⟨hget, z.2⟩
  · obtain ⟨hp, hpc⟩ := List.mem_filter.mp hp
    have hpc : p.1 ≠ r.1 := by simpa using hpc
    exact ⟨hsb.extBut _ _ hpc (N p hp).1, (N p hp).2⟩
end
end Mine
end
section
open PySem PySem.W PySem.Calls PyProof.Rows PyProof.Rows.LCg PyProof.V PySem.Spec
namespace Mine
def off3 (I C D : Addr) (l : List (Addr × Obj)) : List (Addr × Obj) := l.filter fun p => decide (p.1 ≠ I) && decide (p.1 ≠ C) && decide (p.1 ≠ D)
theorem mem_off3 {I C D : Addr} {l : List (Addr × Obj)} {p : Addr × Obj} (h : p ∈ l) (h1 : p.1 ≠ I) (h2 : p.1 ≠ C) (h3 : p.1 ≠ D) : p ∈ off3 I C D l := List.mem_filter.mpr ⟨h, by simp only [Bool.and_eq_true, decide_eq_true_eq]; exact ⟨⟨h1, h2⟩, h3⟩⟩
theorem ce_any {h₀ : Heap} {L I C D : Addr} {m : PySem.Str → Option Value} {s₁ : Shared} {oI oC oD : Obj} {rest : Value → List (Addr × Obj) → Prop} {y : Value} {h' : Heap} {tk : Nat} {all : List (Addr × Obj)}
    (F : Fr h₀ L h' m) (N : News h₀ L h' all) (hs : ∀ p ∈ [(I, oI), (C, oC), (D, oD)], p ∈ all) (r : rest y (off3 I C D all)) :
    CompEnd h₀ L m s₁ I oI C oC D oD (fun _ => True) rest y { s₁ with heap := h', toks := tk } := by
  refine CompEnd.intro F N (off3 I C D all) (fun p hp => ?_) (Off3.of fun p hp => ?_) trivial r
  · rcases List.mem_cons.mp hp with rfl | hp
    · exact hs _ (.head _)
    · rcases List.mem_cons.mp hp with rfl | hp
      · exact hs _ (.tail _ (.head _))
      · rcases List.mem_cons.mp hp with rfl | hp
        · exact hs _ (.tail _ (.tail _ (.head _)))
        · exact (List.mem_filter.mp hp).1
  · have := (List.mem_filter.mp hp).2
    simp only [Bool.and_eq_true, decide_eq_true_eq] at this
    exact ⟨this.1.1, this.1.2, this.2⟩
/-- fresh rows of noughts -/
structure Rows0 (d : Nat) (led rows : List (Addr × Obj)) : Prop where
  row : ∀ r ∈ rows, ∃ vs k, r.2 = W.listOf vs.toArray k ∧ IntsAre vs (List.replicate (d + 1) 0)
  nodup : (rows.map (·.1)).Nodup
  lt : ∀ r ∈ rows, ∀ p ∈ led, @LT.lt Nat _ p.1 r.1
def RowJ (d : Nat) (led : List (Addr × Obj)) (i : Nat) (ys : List Value) (nx : List (Addr × Obj)) : Prop :=
  (∀ p ∈ led, p ∈ nx) ∧ ∃ rows : List (Addr × Obj), (∀ p ∈ rows, p ∈ nx) ∧ ys = rows.map (fun p => Value.ref p.1) ∧ rows.length = i ∧ Rows0 d led rows
theorem row_start {d : Nat} {led : List (Addr × Obj)} : RowJ d led 0 [] led :=
  ⟨fun _ h => h, [], (fun _ h => absurd h List.not_mem_nil), rfl, rfl, ⟨(fun _ h => absurd h List.not_mem_nil), List.nodup_nil, (fun _ h => absurd h List.not_mem_nil)⟩⟩
theorem row_next {d i : Nat} {led nx all : List (Addr × Obj)} {ys : List Value} {I C D a : Addr} {oI oC oD : Obj} {vs : List Value} {k : Nat} (h : RowJ d led i ys nx) (off : Off3 I C D nx) (hI : IntsAre vs (List.replicate (d + 1) 0))
    (ha : (a, W.listOf vs.toArray k) ∈ all) (hs : ∀ p ∈ nx, p ∈ all) (l : ∀ p ∈ (I, oI) :: (C, oC) :: (D, oD) :: nx, @LT.lt Nat _ p.1 a) : RowJ d led (i + 1) (ys ++ [.ref a]) (off3 I C D all) := by
  obtain ⟨h1, rows, h2, rfl, h4, h5⟩ := h
  have off' := off.mem
  have keep : ∀ p ∈ nx, p ∈ off3 I C D all := fun p hp => mem_off3 (hs p hp) (off' p hp).1 (off' p hp).2.1 (off' p hp).2.2
  have hnew : (a, W.listOf vs.toArray k) ∈ off3 I C D all := mem_off3 ha (Ne.symm (Nat.ne_of_lt (l _ (.head _)))) (Ne.symm (Nat.ne_of_lt (l _ (.tail _ (.head _))))) (Ne.symm (Nat.ne_of_lt (l _ (.tail _ (.tail _ (.head _))))))
  refine ⟨fun p hp => keep p (h1 p hp), rows ++ [(a, W.listOf vs.toArray k)], fun p hp => ?_, by simp, by simp [h4], ⟨fun r hr => ?_, ?_, fun r hr p hp => ?_⟩⟩
  · rcases List.mem_append.mp hp with hp | hp
    · exact keep p (h2 p hp)
    · rw [List.mem_singleton.mp hp]; exact hnew
  · rcases List.mem_append.mp hr with hr | hr
    · exact h5.row r hr
    · rw [List.mem_singleton.mp hr]; exact ⟨vs, k, rfl, hI⟩
  · rw [List.map_append, List.nodup_append]
    refine ⟨h5.nodup, by simp, ?_⟩
    intro x hx y hy e
    obtain ⟨r, hr, rfl⟩ := List.mem_map.mp hx
    have hy' : y = a := by simpa using hy
    have := l r (.tail _ (.tail _ (.tail _ (h2 r hr))))
    rw [e, hy'] at this
    exact absurd this (Nat.lt_irrefl _)
  · rcases List.mem_append.mp hr with hr | hr
    · exact h5.lt r hr p hp
    · rw [List.mem_singleton.mp hr]
      exact l p (.tail _ (.tail _ (.tail _ (h1 p hp))))
theorem Rows0.mat {d wd : Nat} {led rows : List (Addr × Obj)} (h : Rows0 d led rows) (hl : rows.length = wd + 1) : Mat (gr 1 0) wd d rows := by
  have M : Mat (fun _ _ => 0) wd d rows := by
    refine ⟨hl, fun i r hr => ?_, h.nodup⟩
    obtain ⟨vs, k, e, hI⟩ := h.row r (List.mem_of_getElem? hr)
    refine ⟨vs, k, e, ?_⟩
    rw [List.map_const', List.length_range]
    exact hI
  refine M.congr fun i j hi hj => ?_
  unfold gr
  split
  · have : i = 0 := by omega
    subst this; simp [cake]
  · rfl
theorem gr_in {a wd d : Nat} {rows : List (Addr × Obj)} (M : Mat (gr a 0) wd d rows) (hd : d ≤ 8) : Mat (gr a 1) wd d rows := by
  refine M.congr fun i j hi hj => ?_
  unfold gr
  by_cases h : 16 * i + j < 16 * a + 0
  · rw [if_pos h, if_pos (by omega)]
  · rw [if_neg h]
    split
    · have hj0 : j = 0 := by omega
      subst hj0; simp [cake]
    · rfl
theorem gr_out {a wd d n : Nat} {rows : List (Addr × Obj)} (M : Mat (gr a n) wd d rows) (hn : n = 1 + d) (hd : d ≤ 8) : Mat (gr (a + 1) 0) wd d rows := by
  subst hn
  refine M.congr fun i j hi hj => ?_
  unfold gr
  by_cases h : 16 * i + j < 16 * a + (1 + d)
  · rw [if_pos h, if_pos (by omega)]
  · rw [if_neg h, if_neg (by omega)]
theorem gr_set {a b wd d : Nat} {v : Int} {rows : List (Addr × Obj)} (M : Mat (fun x y => if x = a ∧ y = b then v else gr a b x y) wd d rows) (hv : v = cake a b) (hb : b ≤ d) (hd : d ≤ 8) : Mat (gr a (b + 1)) wd d rows := by
  refine M.congr fun i j hi hj => ?_
  unfold gr
  by_cases h : i = a ∧ j = b
  · rw [if_pos h, if_pos (by omega), hv, h.1, h.2]
  · rw [if_neg h]
    by_cases h2 : 16 * i + j < 16 * a + b
    · rw [if_pos h2, if_pos (by omega)]
    · rw [if_neg h2, if_neg (by omega)]
theorem gr_same {a b wd d : Nat} {rows : List (Addr × Obj)} (M : Mat (gr a b) wd d rows) (hv : cake a b = 0) (hb : b ≤ d) (hd : d ≤ 8) : Mat (gr a (b + 1)) wd d rows := by
  refine M.congr fun i j hi hj => ?_
  unfold gr
  by_cases h2 : 16 * i + j < 16 * a + b
  · rw [if_pos h2, if_pos (by omega)]
  · rw [if_neg h2]
    split
    · have h3 : i = a ∧ j = b := by omega
      rw [h3.1, h3.2]; exact hv.symm
    · rfl
theorem gr_end {n wd d : Nat} {rows : List (Addr × Obj)} (M : Mat (gr n 0) wd d rows) (hn : n = 1 + wd) (hd : d ≤ 8) : Mat cake wd d rows := by
  subst hn
  refine M.congr fun i j hi hj => ?_
  unfold gr
  rw [if_pos (by omega)]
theorem gr_at {a b x y : Nat} (h : 16 * x + y < 16 * a + b) : gr a b x y = cake x y := by
  unfold gr; rw [if_pos h]
end Mine
end
section
open PySem PySem.W PySem.Calls PyProof.Rows PyProof.Rows.LCg PyProof.V PySem.Spec
namespace Mine
section
variable {prog : Program} {w : World} {A : Around} {E : Value → Shared → Prop} {s : Shared} {h₀ : Heap} {L : Addr} {m : PySem.Str → Option Value} {news rows : List (Addr × Obj)} {f : Nat → Nat → Int} {wd d : Nat}
theorem mat_rowI {value slice : PySem.Expr} {l : Addr} {kk : Nat} {i : Int} {u : Tok} {refs : List Value} {Q : Value → Shared → Prop} (M : Mat f wd d rows) (e : rows.map (fun p => Value.ref p.1) = refs) (N : News h₀ L s.heap news) (hm : (l, W.listOf refs.toArray kk) ∈ news) (h0 : 0 ≤ i) (hn : i ≤ wd) (hw : wd ≤ 100)
    (h : ∀ r, rows[i.toNat]? = some r → Q (.ref r.1) s) (hs : subscripted slice false (.ref l) (.int i u) = operate [.ref l, .int i u] (getItem (.ref l) (.int i u)) := by with_unfolding_all rfl) :
    wpAny (model prog w) A (subscriptTail value slice (.ref l) (.int i u)) Q E s :=
  mat_row (n := i.toNat) M N (e ▸ hm) (by omega) (by omega) hw h hs
theorem mat_itemI {value slice : PySem.Expr} {r : Addr × Obj} {a : Nat} {i : Int} {u : Tok} {Q : Value → Shared → Prop} (M : Mat f wd d rows) (hr : rows[a]? = some r) (N : News h₀ L s.heap news) (hm : ∀ p ∈ rows, p ∈ news) (h0 : 0 ≤ i) (hn : i ≤ d) (hd : d ≤ 100)
    (h : ∀ t, Q (.int (f a i.toNat) t) s) (hs : subscripted slice false (.ref r.1) (.int i u) = operate [.ref r.1, .int i u] (getItem (.ref r.1) (.int i u)) := by with_unfolding_all rfl) :
    wpAny (model prog w) A (subscriptTail value slice (.ref r.1) (.int i u)) Q E s :=
  mat_item (n := i.toNat) M hr N hm (by omega) (by omega) hd h hs
theorem mat_setI {r : Addr × Obj} {a : Nat} {i v : Int} {u t : Tok} {Q : Unit → Shared → Prop} (M : Mat f wd d rows) (hr : rows[a]? = some r) (F : Fr h₀ L s.heap m) (N : News h₀ L s.heap news) (hm : ∀ p ∈ rows, p ∈ news) (h0 : 0 ≤ i) (hn : i ≤ d) (hd : d ≤ 100)
    (h : ∀ h' o', Mat (fun x y => if x = a ∧ y = i.toNat then v else f x y) wd d (rows.set a (r.1, o')) → Fr h₀ L h' m → News h₀ L h' ((r.1, o') :: without r.1 news) → badF o' = false → Q () { s with heap := h' }) :
    wpAny (model prog w) A (setItem (.ref r.1) (.int i u) (.int v t)) Q E s :=
  mat_set (n := i.toNat) M hr F N hm (by omega) (by omega) hd h
theorem news_led {x : Addr × Obj} {nx led : List (Addr × Obj)} {h : Heap} (N : News h₀ L h (x :: nx)) (hs : ∀ p ∈ led, p ∈ nx) : News h₀ L h (x :: led) :=
  news_of N (List.forall_mem_cons.mpr ⟨.head _, fun p hp => .tail _ (hs p hp)⟩)
theorem news_led3 {x y z : Addr × Obj} {nx led : List (Addr × Obj)} {h : Heap} (N : News h₀ L h (x :: y :: z :: nx)) (hs : ∀ p ∈ led, p ∈ nx) : News h₀ L h (x :: y :: z :: led) :=
  news_of N (List.forall_mem_cons.mpr ⟨.head _, List.forall_mem_cons.mpr ⟨.tail _ (.head _), List.forall_mem_cons.mpr ⟨.tail _ (.tail _ (.head _)), fun p hp => .tail _ (.tail _ (.tail _ (hs p hp)))⟩⟩⟩)
end
/-- gathered ints, the ledger kept -/
def ListJ (led : List (Addr × Obj)) (g : Nat → Int) (i : Nat) (ys : List Value) (nx : List (Addr × Obj)) : Prop := (∀ p ∈ led, p ∈ nx) ∧ IntsAre ys ((List.range i).map g)
theorem list_start {led : List (Addr × Obj)} {g : Nat → Int} : ListJ led g 0 [] led := ⟨fun _ h => h, .nil⟩
theorem list_next {led nx all : List (Addr × Obj)} {g : Nat → Int} {i : Nat} {ys : List Value} {I C D : Addr} {z : Int} {t : Tok} (h : ListJ led g i ys nx) (off : Off3 I C D nx) (hs : ∀ p ∈ led, p ∈ all) (hz : z = g i) : ListJ led g (i + 1) (ys ++ [.int z t]) (off3 I C D all) := by
  have off' := off.mem
  refine ⟨fun p hp => mem_off3 (hs p hp) (off' p (h.1 p hp)).1 (off' p (h.1 p hp)).2.1 (off' p (h.1 p hp)).2.2, ?_⟩
  rw [List.range_succ, List.map_append, List.map_singleton, hz]
  exact ints_snoc h.2 _ _
theorem sep_cells {rows tail : List (Addr × Obj)} {L' c : Nat} (h1 : ∀ p ∈ rows, @LT.lt Nat _ (L' + 4) p.1) (h2 : ∀ p ∈ tail, @Ne Nat p.1 c) (hc : c ≤ L' + 4) : ∀ p ∈ rows ++ tail, p.1 ≠ c := fun p hp => by
  rcases List.mem_append.mp hp with hp | hp
  · exact Ne.symm (Nat.ne_of_lt (Nat.lt_of_le_of_lt hc (h1 p hp)))
  · exact h2 p hp
theorem sep_own {own : List (Addr × Obj)} {h₀ h : Heap} {L c : Addr} {o : Obj} {led : List (Addr × Obj)} {v : Option Value} (N : News h₀ L h led) (hs : ∀ p ∈ own, p ∈ led) (hb : ∀ p ∈ own, badF p.2 = true) (hm : (c, o) ∈ led) (hd : o.data = .cell v) : ∀ p ∈ own, p.1 ≠ c := fun p hp e => by
  have h1 := (N p (hs p hp)).1
  have h2 := (N _ hm).1
  rw [e] at h1
  have h3 := Option.some.inj (h1.symm.trans h2)
  have h4 := hb p hp
  have h5 : p.2 = o := h3
  rw [h5] at h4
  unfold badF at h4
  rw [hd] at h4
  cases h4
structure WoA where
  oa : Obj
  ob : Obj
  rows : List (Addr × Obj)
structure WoB where
  ob : Obj
  rows : List (Addr × Obj)
def WoJ (L' D wd d : Nat) (refs : List Value) (a b : Nat) (rows : List (Addr × Obj)) : Prop := Mat (gr a b) wd d rows ∧ rows.map (fun p => Value.ref p.1) = refs ∧ (∀ p ∈ rows, @LT.lt Nat _ (L' + 4) p.1) ∧ ∀ p ∈ rows, @Ne Nat p.1 D
abbrev woS : List PySem.Str := [PySem.Str.ofString "low", PySem.Str.ofString "high"]
theorem Mat.fine {f : Nat → Nat → Int} {wd d : Nat} {rows : List (Addr × Obj)} (M : Mat f wd d rows) : ∀ p ∈ rows, badF p.2 = false := fun p hp => by
  obtain ⟨i, hi⟩ := List.mem_iff_getElem?.mp hp
  obtain ⟨vs, k, e, _⟩ := M.row i p hi
  rw [e]; rfl
theorem cell_fine {o : Obj} {v : Option Value} (h : o.data = .cell v) : badF o = false := by unfold badF; rw [h]
end Mine
end
section
open PySem PySem.W PySem.Calls PyProof.Rows PyProof.Rows.LCg PyProof.V PySem.Spec
namespace Mine
theorem sep_bad {h₀ h : Heap} {L : Addr} {led : List (Addr × Obj)} {p q : Addr × Obj} (N : News h₀ L h led) (hp : p ∈ led) (hq : q ∈ led) (h1 : badF p.2 = true) (h2 : badF q.2 = false) : p.1 ≠ q.1 := fun e => by
  have e1 := (N p hp).1
  have e2 := (N q hq).1
  rw [e] at e1
  have e3 := Option.some.inj (e1.symm.trans e2)
  rw [e3, h2] at h1
  cases h1
/-- a turn's end: one row set -/
theorem wo_set {h₀ h h' : Heap} {L cb D L' wd d a b j : Nat} {rest own all rows : List (Addr × Obj)} {stored : List PySem.Str} {m₀ m' : PySem.Str → Option Value} {s₁ : Shared} {tk tk' : Nat} {ob o' : Obj} {v : Option Value} {r : Addr × Obj} {refs : List Value} {z : Int}
    (F : Fr h₀ L h' m') (N : News h₀ L h' ((r.1, o') :: without r.1 all)) (hr : rows[((a : Nat) : Int).toNat]? = some r) (hn : (rows.map (·.1)).Nodup) (hob : ob.data = .cell v)
    (h1 : (cb, ob) ∈ all) (h2 : ∀ p ∈ rows, p ∈ all) (h3 : ∀ p ∈ rest, p ∈ all) (h4 : ∀ p ∈ own, p ∈ all)
    (k : ∀ q ∈ rows, cb ≠ q.1 ∧ (∀ p ∈ rest, p.1 ≠ q.1) ∧ ∀ p ∈ own, p.1 ≠ q.1)
    (M' : Mat (fun x y => if x = ((a : Nat) : Int).toNat ∧ y = ((b : Nat) : Int).toNat then z else gr a b x y) wd d (rows.set ((a : Nat) : Int).toNat (r.1, o'))) (hz : z = cake a b) (hb : b ≤ d) (hd : d ≤ 8) (hbe : b = j + 1)
    (hrefs : rows.map (fun p => Value.ref p.1) = refs) (hlt : ∀ p ∈ rows, @LT.lt Nat _ (L' + 4) p.1) (hne : ∀ p ∈ rows, @Ne Nat p.1 D)
    (h5 : ∀ z, (∀ p ∈ ([] : List (PySem.Str × Value)), z ≠ p.1) → stored.contains z = false → m' z = m₀ z) :
    MyEndT h₀ L (fun c : WoB => (cb, c.ob) :: c.rows) rest (fun _ => []) stored m₀ (fun c => (∃ v, c.ob.data = .cell v) ∧ WoJ L' D wd d refs a (j + 1 + 1) c.rows) own { s₁ with heap := h, toks := tk } .next { s₁ with heap := h', toks := tk' } := by
  rw [Int.toNat_natCast] at hr M'
  rw [Int.toNat_natCast] at M'
  have hrm := List.mem_of_getElem? hr
  obtain ⟨k1, k2, k3⟩ := k r hrm
  have hmem := set_mem (o := o') hr hn
  refine my_endT (⟨ob, rows.set a (r.1, o')⟩ : WoB) F N ?_ (fun p hp => .tail _ (mem_without (h3 p hp) (k2 p hp))) (fun p hp => .tail _ (mem_without (h4 p hp) (k3 p hp))) ?_ (List.forall_mem_nil _) h5 ⟨⟨_, hob⟩, ?_, ?_, ?_, ?_⟩
  · refine List.forall_mem_cons.mpr ⟨.tail _ (mem_without h1 k1), fun p hp => ?_⟩
    rcases hmem p hp with rfl | ⟨hp, hpr⟩
    · exact .head _
    · exact .tail _ (mem_without (h2 p hp) hpr)
  · exact List.forall_mem_cons.mpr ⟨cell_fine hob, M'.fine⟩
  · subst hbe
    exact gr_set M' hz hb hd
  · exact (set_addrs hr).trans hrefs
  · intro p hp
    rcases hmem p hp with rfl | ⟨hp, _⟩
    · exact hlt r hrm
    · exact hlt p hp
  · intro p hp
    rcases hmem p hp with rfl | ⟨hp, _⟩
    · exact hne r hrm
    · exact hne p hp
theorem wo_same {h₀ h h' : Heap} {L cb D L' wd d a b j : Nat} {rest own all rows : List (Addr × Obj)} {stored : List PySem.Str} {m₀ m' : PySem.Str → Option Value} {s₁ : Shared} {tk tk' : Nat} {ob : Obj} {v : Option Value} {refs : List Value}
    (F : Fr h₀ L h' m') (N : News h₀ L h' all) (hob : ob.data = .cell v)
    (h1 : (cb, ob) ∈ all) (h2 : ∀ p ∈ rows, p ∈ all) (h3 : ∀ p ∈ rest, p ∈ all) (h4 : ∀ p ∈ own, p ∈ all)
    (M : Mat (gr a b) wd d rows) (hz : cake a b = 0) (hb : b ≤ d) (hd : d ≤ 8) (hbe : b = j + 1)
    (hrefs : rows.map (fun p => Value.ref p.1) = refs) (hlt : ∀ p ∈ rows, @LT.lt Nat _ (L' + 4) p.1) (hne : ∀ p ∈ rows, @Ne Nat p.1 D)
    (h5 : ∀ z, (∀ p ∈ ([] : List (PySem.Str × Value)), z ≠ p.1) → stored.contains z = false → m' z = m₀ z) :
    MyEndT h₀ L (fun c : WoB => (cb, c.ob) :: c.rows) rest (fun _ => []) stored m₀ (fun c => (∃ v, c.ob.data = .cell v) ∧ WoJ L' D wd d refs a (j + 1 + 1) c.rows) own { s₁ with heap := h, toks := tk } .next { s₁ with heap := h', toks := tk' } := by
  refine my_endT (⟨ob, rows⟩ : WoB) F N (List.forall_mem_cons.mpr ⟨h1, h2⟩) h3 h4 (List.forall_mem_cons.mpr ⟨cell_fine hob, M.fine⟩) (List.forall_mem_nil _) h5 ⟨⟨_, hob⟩, ?_, hrefs, hlt, hne⟩
  subst hbe
  exact gr_same M hz hb hd
theorem small_up {n : Nat} (h : n ≤ 8) : Builtin.Range.small 1 ((n : Int) + 1) 1 = true := small_one (by omega) (by omega) (by omega) (by omega)
theorem small_up0 {n : Nat} (h : n ≤ 8) : Builtin.Range.small 0 ((n : Int) + 1) 1 = true := small_one (by omega) (by omega) (by omega) (by omega)
theorem size_up (n : Nat) : Builtin.Range.rangeSize 1 ((n : Int) + 1) 1 = ((n : Nat) : Int) := by rw [rangeSize_nat]; omega
theorem le_size {n : Nat} (h : n ≤ 8) : n ≤ sizeLine := by rw [sizeLine_eq]; omega
theorem le_size1 {n : Nat} (h : n ≤ 8) : n + 1 ≤ sizeLine := by rw [sizeLine_eq]; omega
theorem le100 {n : Nat} (h : n ≤ 8) : n ≤ 100 := by omega
theorem half8 {n : Nat} (h : n ≤ 8) : n / 2 ≤ 8 := by omega
/-- places within the half -/
structure HalfIx (a k wd : Nat) : Prop where
  p0 : 0 ≤ 1 + (k : Int) * 1
  p1 : 1 + (k : Int) * 1 ≤ (wd : Int)
  q0 : 0 ≤ (a : Int) - (1 + (k : Int) * 1)
  q1 : (a : Int) - (1 + (k : Int) * 1) ≤ (wd : Int)
theorem half_ix {a k wd : Nat} (ha : a ≤ wd) (hk : k < a / 2) : HalfIx a k wd := ⟨by omega, by omega, by omega, by omega⟩
theorem low_val {a b k : Nat} (hk : k < a / 2) : gr a b (1 + (k : Int) * 1).toNat (b : Int).toNat + gr a b ((a : Int) - (1 + (k : Int) * 1)).toNat (b : Int).toNat = cake (1 + k) b + cake (a - (1 + k)) b := by
  rw [show (1 + (k : Int) * 1).toNat = 1 + k by omega, show ((a : Int) - (1 + (k : Int) * 1)).toNat = a - (1 + k) by omega, Int.toNat_natCast, gr_at (by omega), gr_at (by omega)]
theorem high_val {a b k : Nat} (hk : k < b / 2) : gr a b (a : Int).toNat (1 + (k : Int) * 1).toNat + gr a b (a : Int).toNat ((b : Int) - (1 + (k : Int) * 1)).toNat = cake a (1 + k) + cake a (b - (1 + k)) := by
  rw [show (1 + (k : Int) * 1).toNat = 1 + k by omega, show ((b : Int) - (1 + (k : Int) * 1)).toNat = b - (1 + k) by omega, Int.toNat_natCast, gr_at (by omega), gr_at (by omega)]
theorem cast_le {a b : Nat} (h : a ≤ b) : (a : Int) ≤ (b : Int) := by omega
end Mine
end
section
open PySem PySem.W PySem.Calls PyProof.Rows PyProof.V PySem.Spec
set_option maxRecDepth 100000
namespace Mine
theorem slot_lstrip : Slot "bytes" "lstrip" "bytes.lstrip" :=
  .of (owner := "bytes") (n := "lstrip") (by rw [typeLookup_type, builtinLookup_eq_fast]; kernel_rfl) (by decide +kernel) (by decide +kernel) (by decide +kernel)
    (by first | exact .inl (by decide +kernel) | exact .inr (by decide +kernel)) (by rw [isSubtype_type]; kernel_rfl)
theorem type_lstrip : typeOf (.builtin "bytes.lstrip") = pure (.type "method_descriptor") := by show builtinType _ = _; rw [builtinType_eq_fast]; kernel_rfl
theorem entry_lstrip : entryFor table "bytes.lstrip" = some Builtin.«bytes.lstrip» := entryFor_of_tree (by kernel_rfl)
theorem args_lstrip (a b : Value) : argsOk "bytes.lstrip" ⟨[a, b], []⟩ := by
  unfold argsOk; rw [signature?_of (id := "bytes.lstrip") (n := ['p', 'i', 'r', 't', 's', 'l']) (o := ['s', 'e', 't', 'y', 'b']) (by kernel_rfl) FB.owner_bytes]; kernel_rfl
open Builtin in
theorem meets_lstrip {b d : Array UInt8} {t u : Tok} : Meets (Builtin.«bytes.lstrip» ⟨[.bytes b t, .bytes d u], []⟩) (fun _ R s => b.size ≤ 1000 ∧ ∀ t' k, R (.ok (.ret (.bytes (b.toList.dropWhile d.contains).toArray t'))) { s with toks := k }) := by
  refine .of_wp fun prog w A R s hS => ?_
  obtain ⟨hsz, h⟩ := hS
  show wpAny _ _ (Bytes.bytesLike _ (.bytes d u) >>= fun r => _) _ _ s
  refine wpAny_bind (wpAny_of_eq KBd.like_eq ?_)
  show wpAny _ _ (if ((b.toList.dropWhile d.contains).length == b.size) = true then _ else _) _ _ s
  by_cases he : ((b.toList.dropWhile d.contains).length == b.size) = true
  · rw [if_pos he]
    have he2 : b.toList.dropWhile d.contains = b.toList := by
      have h1 : (b.toList.dropWhile d.contains).length = b.toList.length := by simpa using he
      exact (List.dropWhile_suffix _).eq_of_length h1
    rw [he2] at h
    refine wpAny_bind (wpAny_rule ?_)
    refine wpAny_bind ?_
    show wpAny _ _ (typeOf (.bytes b t) >>= fun r => _) _ _ s
    refine wpAny_bind (wpAny_typeOf (typeIs_bytes s b t) ?_)
    exact wpAny_pure (wpAny_pure ⟨_, rfl, h t s.toks⟩)
  · rw [if_neg he]
    refine wpAny_bind (wpAny_mkBytes (wpAny_pure ⟨_, rfl, h _ _⟩) ?_)
    have h1 : (b.toList.dropWhile d.contains).length ≤ b.toList.length := (List.dropWhile_suffix _).length_le
    show (b.toList.dropWhile d.contains).toArray.size ≤ sizeLine
    rw [List.size_toArray, sizeLine_eq]
    simp at h1
    omega
section
variable {prog : Program} {w : World} {A : Around} {E : Value → Shared → Prop} {s : Shared} {b d : Array UInt8} {t u : Tok}
theorem lstrip_bytes {Q : Value → Shared → Prop} (hsz : b.size ≤ 1000) (h : ∀ t' k, Q (.bytes (b.toList.dropWhile d.contains).toArray t') { s with toks := k }) : wpAny (model prog w) A (call (.builtin "bytes.lstrip") [.bytes b t, .bytes d u]) Q E s :=
  call_meets slot_lstrip (typeIs_bytes _ _ _) entry_lstrip (args_lstrip _ _) meets_lstrip ⟨hsz, h⟩
theorem lstrip_method {M : Model} {pl : Sem Bool} {Q : Value × List Value → Shared → Prop} (h : Q (.builtin "bytes.lstrip", [.bytes b t]) s) : wpAny M A (getMethod (.bytes b t) "lstrip" pl) Q E s := by
  with_reducible exact KBd.method_of (.bytes b t) (typeIs_bytes _ _ _) slot_lstrip type_lstrip KBd.noRef h
end
end Mine
end
section
open PySem PySem.W PySem.Calls PyProof.Rows PyProof.V PySem.Spec
namespace Mine
/-- runs of blanks, a tab behind each -/
def runs (ns : List Nat) : List Nat := (ns.map fun n => List.replicate n 32 ++ [9]).flatten
def sumF (f : Nat → Int) : Nat → List Int → Int
  | _, [] => 0
  | k, c :: r => f k * c + sumF f (k + 1) r
theorem sumF_append (f : Nat → Int) (l r : List Int) (k : Nat) : sumF f k (l ++ r) = sumF f k l + sumF f (k + l.length) r := by
  induction l generalizing k with
  | nil => simp [sumF]
  | cons c l ih => rw [List.cons_append, sumF, ih, sumF, List.length_cons, show k + 1 + l.length = k + (l.length + 1) by omega]; omega
theorem sumF_zero (f : Nat → Int) (n k : Nat) : sumF f k (List.replicate n 0) = 0 := by
  induction n generalizing k with
  | zero => rfl
  | succ n ih => rw [List.replicate_succ, sumF, ih]; simp
theorem sumF_set (f : Nat → Int) (l : List Int) (k b : Nat) (hb : b < l.length) : sumF f k (l.set b (l.getD b 0 + 1)) = sumF f k l + f (k + b) := by
  induction l generalizing k b with
  | nil => simp at hb
  | cons c l ih =>
    cases b with
    | zero => simp [sumF, Int.mul_add]; omega
    | succ b =>
      have := ih (k + 1) b (by simpa using hb)
      simp only [List.set_cons_succ, sumF, List.getD_cons_succ]
      rw [this, show k + 1 + b = k + (b + 1) by omega]
      omega
theorem sumF_put (f : Nat → Int) (cnt : List Int) (b : Nat) : sumF f 0 (wsPut cnt b) = sumF f 0 cnt + f b := by
  unfold wsPut
  dsimp only
  by_cases h : cnt.length ≤ b
  · rw [if_pos h, sumF_set _ _ _ _ (by rw [List.length_append, List.length_replicate]; omega), sumF_append, sumF_zero]
    simp
  · rw [if_neg h, sumF_set _ _ _ _ (by omega)]
    simp
theorem il_sum {ts : Nat} (h1 : 1 ≤ ts) (cnt : List Int) : ilOf cnt (ts : Int) (rangeKs (ts : Int) ((cnt.length : Int) - (ts : Int)).toNat) = sumF (fun i => ((i / ts : Nat) : Int)) 0 cnt := by
  refine snoc_ind (P := fun cnt => ilOf cnt (ts : Int) (rangeKs (ts : Int) ((cnt.length : Int) - (ts : Int)).toNat) = sumF (fun i => ((i / ts : Nat) : Int)) 0 cnt) ?_ ?_ cnt
  · simp [sumF, ilOf, rangeKs]
  · intro l c ih
    rw [sumF_append, ← ih]
    simp only [sumF, Nat.zero_add, Int.add_zero, List.length_append, List.length_singleton]
    by_cases h : l.length < ts
    · have e1 : (((l.length + 1 : Nat) : Int) - (ts : Int)).toNat = 0 := by omega
      have e2 : ((l.length : Int) - (ts : Int)).toNat = 0 := by omega
      rw [e1, e2, Nat.div_eq_of_lt h]
      simp [ilOf, rangeKs]
    · have e1 : (((l.length + 1 : Nat) : Int) - (ts : Int)).toNat = (l.length - ts) + 1 := by omega
      have e2 : ((l.length : Int) - (ts : Int)).toNat = l.length - ts := by omega
      rw [e1, e2]
      have e3 : rangeKs (ts : Int) ((l.length - ts) + 1) = rangeKs (ts : Int) (l.length - ts) ++ [(l.length : Int)] := by
        unfold rangeKs
        rw [List.range_succ, List.map_append, List.map_singleton]
        congr 2
        omega
      rw [e3, ilOf_snoc]
      have e4 : (l ++ [c]).getD (l.length : Int).toNat 0 = c := by simp
      have e5 : Int.fdiv (l.length : Int) (ts : Int) = ((l.length / ts : Nat) : Int) := by
        rw [Int.fdiv_eq_ediv_of_nonneg _ (by omega)]; rfl
      rw [e4, e5]
      congr 1
      unfold ilOf
      congr 1
      refine List.map_congr_left fun i hi => ?_
      have hi2 : ∃ j, j < l.length - ts ∧ i = (ts : Int) + (j : Int) := by
        unfold rangeKs at hi
        obtain ⟨j, hj, rfl⟩ := List.mem_map.mp hi
        exact ⟨j, List.mem_range.mp hj, rfl⟩
      obtain ⟨j, hj, rfl⟩ := hi2
      have e6 : ((ts : Int) + (j : Int)).toNat = ts + j := by omega
      rw [e6]
      congr 1
      simp [List.getD, List.getElem?_append_left (show ts + j < l.length by omega)]
theorem wsAll_app (a b : List Nat) : wsAll (a ++ b) = b.foldl wsStep (wsAll a) := by simp [wsAll, List.foldl_append]
theorem ws_blanks (n : Nat) (cnt : List Int) (b N t : Nat) : (List.replicate n 32).foldl wsStep (cnt, b, N, t) = (cnt, b + n, N + n, t) := by
  induction n generalizing b N with
  | zero => rfl
  | succ n ih =>
    rw [List.replicate_succ, List.foldl_cons]
    show (List.replicate n 32).foldl wsStep (cnt, b + 1, N + 1, t) = _
    rw [ih, show b + 1 + n = b + (n + 1) by omega, show N + 1 + n = N + (n + 1) by omega]
theorem ws_runs (ts : Nat) (ns : List Nat) : ∃ cnt N, wsAll (runs ns) = (cnt, 0, N, ns.length) ∧ sumF (fun i => ((i / ts : Nat) : Int)) 0 cnt = (ns.map fun n => ((n / ts : Nat) : Int)).sum := by
  refine snoc_ind (P := fun ns => ∃ cnt N, wsAll (runs ns) = (cnt, 0, N, ns.length) ∧ sumF (fun i => ((i / ts : Nat) : Int)) 0 cnt = (ns.map fun n => ((n / ts : Nat) : Int)).sum) ⟨[], 0, rfl, rfl⟩ ?_ ns
  rintro l n ⟨cnt, N, h1, h2⟩
  refine ⟨wsPut cnt n, N + n + 1, ?_, ?_⟩
  · have : runs (l ++ [n]) = runs l ++ (List.replicate n 32 ++ [9]) := by simp [runs]
    rw [this, wsAll_app, h1, List.foldl_append, ws_blanks]
    show (wsPut cnt (0 + n), 0, N + n + 1, l.length + 1) = _
    simp
  · rw [sumF_put, h2]; simp
theorem level_runs {ts : Nat} (h1 : 1 ≤ ts) (ns : List Nat) : wsLevel (runs ns) (ts : Int) = (ts : Int) * ((ns.map fun n => ((n / ts : Nat) : Int)).sum + (ns.length : Int)) := by
  obtain ⟨cnt, N, h2, h3⟩ := ws_runs ts ns
  unfold wsLevel
  rw [h2]
  dsimp only
  rw [il_sum h1, h3]
  simp
theorem runs_only (ns : List Nat) : ∀ c ∈ runs ns, c = 32 ∨ c = 9 := by
  intro c hc
  unfold runs at hc
  obtain ⟨l, hl, hc⟩ := List.mem_flatten.mp hc
  obtain ⟨n, _, rfl⟩ := List.mem_map.mp hl
  simp only [List.mem_append, List.mem_replicate, List.mem_singleton] at hc
  rcases hc with ⟨_, h⟩ | h
  · exact .inl h
  · exact .inr h
theorem runs_len (ns : List Nat) (h : ∀ n ∈ ns, n ≤ 8) (hl : ns.length ≤ 4) : (runs ns).length ≤ 36 := by
  have h9 : (runs ns).length ≤ 9 * ns.length := by
    clear hl
    induction ns with
    | nil => simp [runs]
    | cons n ns ih =>
      have := ih fun m hm => h m (.tail _ hm)
      have hn := h n (.head _)
      have e : runs (n :: ns) = (List.replicate n 32 ++ [9]) ++ runs ns := by simp [runs]
      rw [e, List.length_append, List.length_append, List.length_replicate, List.length_singleton, List.length_cons]
      omega
  omega
end Mine
end
section
open PySem PySem.W PySem.Calls PyProof.Rows PyProof.V PySem.Spec
namespace Mine
abbrev Cake := Int × Int
def Good (cs : List Cake) : Prop := ∀ c ∈ cs, (1 ≤ c.1 ∧ c.1 ≤ 8) ∧ (1 ≤ c.2 ∧ c.2 ≤ 8)
theorem Good.snoc {cs : List Cake} {c : Cake} (h : Good cs) (hc : (1 ≤ c.1 ∧ c.1 ≤ 8) ∧ (1 ≤ c.2 ∧ c.2 ≤ 8)) : Good (cs ++ [c]) := fun x hx => by
  rcases List.mem_append.mp hx with hx | hx
  · exact h x hx
  · rw [List.mem_singleton.mp hx]; exact hc
inductive CakesAre (led : List (Addr × Obj)) : List Value → List Cake → Prop
  | nil : CakesAre led [] []
  | cons {t : Addr} {c : Cake} (ta tb : Tok) {vs : List Value} {cs : List Cake} : (t, tupO [.int c.1 ta, .int c.2 tb]) ∈ led → CakesAre led vs cs → CakesAre led (.ref t :: vs) (c :: cs)
theorem CakesAre.mono {led led' : List (Addr × Obj)} {vs : List Value} {cs : List Cake} (h : CakesAre led vs cs) (hs : ∀ p ∈ led, p ∈ led') : CakesAre led' vs cs := by
  induction h with
  | nil => exact .nil
  | cons ta tb hm _ ih => exact .cons ta tb (hs _ hm) ih
theorem CakesAre.length {led : List (Addr × Obj)} {vs : List Value} {cs : List Cake} (h : CakesAre led vs cs) : vs.length = cs.length := by
  induction h with
  | nil => rfl
  | cons _ _ _ _ ih => simp [ih]
theorem CakesAre.snoc {led : List (Addr × Obj)} {vs : List Value} {cs : List Cake} {t : Addr} {c : Cake} {ta tb : Tok} (h : CakesAre led vs cs) (hm : (t, tupO [.int c.1 ta, .int c.2 tb]) ∈ led) : CakesAre led (vs ++ [.ref t]) (cs ++ [c]) := by
  induction h with
  | nil => exact .cons ta tb hm .nil
  | cons a b hm' _ ih => exact .cons a b hm' ih
theorem CakesAre.get {led : List (Addr × Obj)} {vs : List Value} {cs : List Cake} (h : CakesAre led vs cs) {i : Nat} {v : Value} (hv : vs[i]? = some v) : ∃ c t ta tb, cs[i]? = some c ∧ v = .ref t ∧ (t, tupO [.int c.1 ta, .int c.2 tb]) ∈ led := by
  induction h generalizing i with
  | nil => simp at hv
  | cons ta tb hm _ ih =>
    cases i with
    | zero =>
      simp only [List.getElem?_cons_zero, Option.some.injEq] at hv ⊢
      exact ⟨_, _, ta, tb, rfl, hv.symm, hm⟩
    | succ i => exact ih (by simpa using hv)
def cakeD (c : Cake) : Dat := .tuple [.int c.1, .int c.2]
theorem CakesAre.dat {led : List (Addr × Obj)} {vs : List Value} {cs : List Cake} (h : CakesAre led vs cs) : DatAll led vs (cs.map cakeD) := by
  induction h with
  | nil => exact .nil
  | cons ta tb hm _ ih => exact .cons (.tuple hm (.cons (.int _ _) (.cons (.int _ _) .nil))) ih
theorem cakeD_ok (cs : List Cake) : ∀ d ∈ cs.map cakeD, kqdOk 8 d = true := by
  intro d hd
  obtain ⟨c, _, rfl⟩ := List.mem_map.mp hd
  rfl
/-- the number of the cakes' figures -/
def numC (cs : List Cake) : Int := cs.foldl (fun n c => n * 256 + c.1 * 16 + c.2) 0
theorem numC_snoc (cs : List Cake) (c : Cake) : numC (cs ++ [c]) = numC cs * 256 + c.1 * 16 + c.2 := by simp [numC]
theorem numC_lt {cs : List Cake} (h : Good cs) : 0 ≤ numC cs ∧ numC cs < 256 ^ cs.length := by
  revert h
  refine snoc_ind (P := fun cs => Good cs → 0 ≤ numC cs ∧ numC cs < 256 ^ cs.length) (fun _ => by simp [numC]) ?_ cs
  intro l c ih h
  have h1 := ih fun x hx => h x (List.mem_append_left _ hx)
  have h2 := h c (by simp)
  rw [numC_snoc, List.length_append, List.length_singleton, Int.pow_succ]
  omega
theorem numC_small {cs : List Cake} (h : Good cs) (hl : cs.length ≤ 3) : 0 ≤ numC cs ∧ numC cs < 16777216 := by
  have h1 := numC_lt h
  have : cs.length = 0 ∨ cs.length = 1 ∨ cs.length = 2 ∨ cs.length = 3 := by omega
  rcases this with e | e | e | e <;> rw [e] at h1 <;> omega
theorem numC_big {cs : List Cake} (h : Good cs) (hl : cs.length = 4) : 0 ≤ numC cs ∧ numC cs < 4294967296 := by
  have h1 := numC_lt h
  rw [hl] at h1; omega
def wordC (cs : List Cake) : List UInt8 := (cs.map fun c => [UInt8.ofNat (65 + c.1.toNat), UInt8.ofNat (65 + c.2.toNat)]).flatten
theorem wordC_len (cs : List Cake) : (wordC cs).length = 2 * cs.length := by
  induction cs with
  | nil => rfl
  | cons c cs ih =>
    have e : wordC (c :: cs) = [UInt8.ofNat (65 + c.1.toNat), UInt8.ofNat (65 + c.2.toNat)] ++ wordC cs := by simp [wordC]
    rw [e, List.length_append, ih, List.length_cons]; simp; omega
theorem dig_two {n a b : Nat} (ha : a < 16) (hb : b < 16) : (n * 256 + a * 16 + b) / 256 = n ∧ (n * 256 + a * 16 + b) / 16 % 16 = a ∧ (n * 256 + a * 16 + b) % 16 = b := by omega
theorem num_nat {x a b : Int} (hx : 0 ≤ x) (ha : 1 ≤ a ∧ a ≤ 8) (hb : 1 ≤ b ∧ b ≤ 8) : (x * 256 + a * 16 + b).natAbs = x.natAbs * 256 + a.toNat * 16 + b.toNat ∧ a.toNat < 16 ∧ b.toNat < 16 ∧ 16 ≤ x.natAbs * 256 + a.toNat * 16 + b.toNat := by omega
theorem apL_word {cs : List Cake} (h : Good cs) : apL (numC cs).natAbs = wordC cs := by
  revert h
  refine snoc_ind (P := fun cs => Good cs → apL (numC cs).natAbs = wordC cs) (fun _ => apL_zero) ?_ cs
  intro l c ih h
  have hg : Good l := fun x hx => h x (List.mem_append_left _ hx)
  have h2 := h c (by simp)
  obtain ⟨e, ha, hb, h16⟩ := num_nat (numC_lt hg).1 h2.1 h2.2
  obtain ⟨e1, e2, e3⟩ := dig_two (n := (numC l).natAbs) ha hb
  rw [numC_snoc, e, ap_two h16, e1, e2, e3, ih hg]
  simp [wordC]
theorem word_get {cs : List Cake} (h : Good cs) {i : Nat} {c : Cake} (hc : cs[i]? = some c) : ((wordC cs).getD (2 * i) 0).toNat = 65 + c.1 ∧ ((wordC cs).getD (2 * i + 1) 0).toNat = 65 + c.2 := by
  induction cs generalizing i with
  | nil => simp at hc
  | cons d cs ih =>
    have e : wordC (d :: cs) = UInt8.ofNat (65 + d.1.toNat) :: UInt8.ofNat (65 + d.2.toNat) :: wordC cs := by simp [wordC]
    rw [e]
    cases i with
    | zero =>
      simp only [List.getElem?_cons_zero, Option.some.injEq] at hc
      subst hc
      have h2 := h d (.head _)
      constructor
      · show (((UInt8.ofNat (65 + d.1.toNat)).toNat : Nat) : Int) = _
        rw [UInt8.toNat_ofNat']; omega
      · show (((UInt8.ofNat (65 + d.2.toNat)).toNat : Nat) : Int) = _
        rw [UInt8.toNat_ofNat']; omega
    | succ i =>
      have := ih (fun x hx => h x (.tail _ hx)) (i := i) (by simpa using hc)
      have e1 : 2 * (i + 1) = (2 * i) + 1 + 1 := by omega
      rw [e1]
      simpa using this
/-- a cake's worth -/
def worth (c : Cake) : Int := cake c.1.toNat c.2.toNat
def tst (size : Int) (side : Nat) (c : Cake) : Bool :=
  if side = 0 then decide (size ≤ c.2) && decide (c.2 < 2 * size) && decide (size ≤ c.1) else decide (size ≤ c.1) && decide (c.1 < 2 * size) && decide (size ≤ c.2)
def pick (side : Nat) (c : Cake) : Nat := if side = 0 then c.1.toNat else c.2.toNat
def con (cs : List Cake) (size : Int) (side : Nat) : Int := ((cs.filter (tst size side)).map worth).sum
theorem one_law : ∀ a : Fin 9, ∀ b : Fin 9, ∀ j : Fin 4, ∀ side : Fin 2, 1 ≤ a.val → 1 ≤ b.val → tst (2 ^ j.val) side.val ((a.val : Int), (b.val : Int)) = true →
    ((pick side.val ((a.val : Int), (b.val : Int)) / 2 ^ j.val : Nat) : Int) = worth ((a.val : Int), (b.val : Int)) * (1 - 2 * (side.val : Int)) + 1 := by decide +kernel
theorem all_law : ∀ a : Fin 9, ∀ b : Fin 9, 1 ≤ a.val → 1 ≤ b.val →
    ([((1 : Int), 0), (1, 1), (2, 0), (2, 1), (4, 0), (4, 1), (8, 0), (8, 1)].map fun p => if tst p.1 p.2 ((a.val : Int), (b.val : Int)) = true then worth ((a.val : Int), (b.val : Int)) else 0).sum = worth ((a.val : Int), (b.val : Int)) := by decide +kernel
theorem worth_small : ∀ a : Fin 9, ∀ b : Fin 9, 1 ≤ a.val → 1 ≤ b.val → -7 ≤ worth ((a.val : Int), (b.val : Int)) ∧ worth ((a.val : Int), (b.val : Int)) ≤ 7 := by decide +kernel
theorem cake_fin {c : Cake} (h : (1 ≤ c.1 ∧ c.1 ≤ 8) ∧ (1 ≤ c.2 ∧ c.2 ≤ 8)) : ∃ a b : Fin 9, 1 ≤ a.val ∧ 1 ≤ b.val ∧ c = ((a.val : Int), (b.val : Int)) := by
  refine ⟨⟨c.1.toNat, by omega⟩, ⟨c.2.toNat, by omega⟩, ?_, ?_, ?_⟩
  · show 1 ≤ c.1.toNat; omega
  · show 1 ≤ c.2.toNat; omega
  · refine Prod.ext ?_ ?_
    · show c.1 = ((c.1.toNat : Nat) : Int); omega
    · show c.2 = ((c.2.toNat : Nat) : Int); omega
theorem sum_small {cs : List Cake} (h : Good cs) : -7 * (cs.length : Int) ≤ (cs.map worth).sum ∧ (cs.map worth).sum ≤ 7 * (cs.length : Int) := by
  induction cs with
  | nil => simp
  | cons c cs ih =>
    have h1 := ih fun x hx => h x (.tail _ hx)
    obtain ⟨a, b, ha, hb, rfl⟩ := cake_fin (h c (.head _))
    have h2 := worth_small a b ha hb
    simp only [List.map_cons, List.sum_cons, List.length_cons]
    omega
def pairsL : List (Int × Nat) := [(1, 0), (1, 1), (2, 0), (2, 1), (4, 0), (4, 1), (8, 0), (8, 1)]
def totC (cs : List Cake) (n : Nat) : Int := ((pairsL.take n).map fun p => con cs p.1 p.2).sum
theorem totC_next {cs : List Cake} {n : Nat} {p : Int × Nat} (hp : pairsL[n]? = some p) : totC cs (n + 1) = totC cs n + con cs p.1 p.2 := by
  unfold totC
  rw [List.take_add_one, hp]
  simp
theorem con_cons (c : Cake) (cs : List Cake) (size : Int) (side : Nat) : con (c :: cs) size side = (if tst size side c = true then worth c else 0) + con cs size side := by
  unfold con
  rw [List.filter_cons]
  split <;> simp
theorem totC_all {cs : List Cake} (h : Good cs) : totC cs 8 = (cs.map worth).sum := by
  induction cs with
  | nil => rfl
  | cons c cs ih =>
    have h1 := ih fun x hx => h x (.tail _ hx)
    obtain ⟨a, b, ha, hb, rfl⟩ := cake_fin (h c (.head _))
    have h2 := all_law a b ha hb
    rw [List.map_cons, List.sum_cons, ← h1, ← h2]
    simp only [totC, pairsL, List.take_succ_cons, List.take_zero, List.map_cons, List.map_nil, List.sum_cons, List.sum_nil, con_cons]
    omega
/-- a lead's column -/
theorem column_law {ch : List Cake} {j : Fin 4} {side : Fin 2} (h : Good ch) (ht : ∀ c ∈ ch, tst (2 ^ j.val) side.val c = true) :
    ((ch.map (pick side.val)).map fun n => ((n / 2 ^ j.val : Nat) : Int)).sum + (ch.length : Int) = (ch.map worth).sum * (1 - 2 * (side.val : Int)) + 2 * (ch.length : Int) := by
  induction ch with
  | nil => simp
  | cons c ch ih =>
    have h1 := ih (fun x hx => h x (.tail _ hx)) fun x hx => ht x (.tail _ hx)
    have h2 := ht c (.head _)
    obtain ⟨a, b, ha, hb, rfl⟩ := cake_fin (h c (.head _))
    have h3 := one_law a b j side ha hb h2
    simp only [List.map_cons, List.sum_cons, List.length_cons, h3, Int.add_mul]
    omega
theorem letter_no : ∀ n : Fin 16, 0 < n.val → (#[65] : Array UInt8).contains (UInt8.ofNat (65 + n.val)) = false := by decide +kernel
theorem strip_word {k : Nat} (hk : k < 256) : (((word2 k).toList.dropWhile (#[65] : Array UInt8).contains)).toArray = (apL k).toArray := by
  congr 1
  have hne : ∀ n : Nat, 0 < n → n < 16 → (#[65] : Array UInt8).contains (UInt8.ofNat (65 + n)) = false := fun n h1 h2 => letter_no ⟨n, h2⟩ h1
  have hz : (#[65] : Array UInt8).contains (UInt8.ofNat (65 + 0)) = true := by decide +kernel
  show List.dropWhile _ [UInt8.ofNat (65 + k / 16), UInt8.ofNat (65 + k % 16)] = _
  by_cases h0 : k = 0
  · subst h0
    rw [apL_zero, List.dropWhile_cons, if_pos hz, List.dropWhile_cons, if_pos hz, List.dropWhile_nil]
  · by_cases h1 : k < 16
    · have e1 : k / 16 = 0 := by omega
      have e2 : k % 16 = k := by omega
      rw [apL_pos h0, e1, e2, apL_zero, List.dropWhile_cons, if_pos hz, List.dropWhile_cons, if_neg (by rw [hne k (by omega) h1]; exact Bool.false_ne_true)]
      rfl
    · rw [List.dropWhile_cons, if_neg (by rw [hne (k / 16) (by omega) (by omega)]; exact Bool.false_ne_true), apL_pos h0, apL_pos (n := k / 16) (by omega), show k / 16 / 16 = 0 by omega, apL_zero, show k / 16 % 16 = k / 16 by omega]
      rfl
end Mine
end
section
open PySem PySem.W PySem.Calls PyProof.Rows PyProof.Rows.LCg PyProof.V PySem.Spec
set_option maxHeartbeats 2000000
namespace Mine
theorem For_invTG {prog : Program} {w : World} {A : Around} {s : Shared} {env : Env} {h₀ hp : Heap} {L : Addr} {m : PySem.Str → Option Value} {E : Value → Shared → Prop} {Q : Flow → Shared → Prop} {target iter : PySem.Expr} {pos : Pos} {body : List Stmt} (_F : Fr h₀ L hp m)
    (h : wpAny (model prog w) A (eval iter env) (fun xv s₁ => wpAny (model prog w) A (pyIter xv) (fun it s₂ => LoopAtT prog w A h₀ env target body Q E it s₂) E s₁) E s)
    (hs : ∀ x, foldedSetIterable iter env x = pure x)
    (hE : PassesOwn (model prog w) A env E) :
    wpAny (model prog w) A (exec (.For target iter body [] pos) env) Q E s := For_invT h₀ h hs hE
theorem fr_script {h₀ h : Heap} {L : Addr} {m : PySem.Str → Option Value} {v : Value} (F : Fr h₀ L h m) (e : m = fun y => if y = PySem.Str.ofString "script" then some v else none) : Fr h₀ L h (fun y => if y = PySem.Str.ofString "script" then some v else none) := e ▸ F
theorem sep_obj {h₀ h : Heap} {L : Addr} {led : List (Addr × Obj)} {p q : Addr × Obj} (N : News h₀ L h led) (hp : p ∈ led) (hq : q ∈ led) (hne : p.2.cls ≠ q.2.cls) : p.1 ≠ q.1 := fun e => by
  have e1 := (N p hp).1
  have e2 := (N q hq).1
  rw [e] at e1
  exact hne (congrArg Obj.cls (Option.some.inj (e1.symm.trans e2)))
theorem fm8 (x : Int) : 0 ≤ Int.fmod x 8 ∧ Int.fmod x 8 < 8 := by
  rw [Int.fmod_eq_emod_of_nonneg _ (by omega)]
  omega
/-- tuples of two ints -/
def IsTups (l : List (Addr × Obj)) : Prop := ∀ p ∈ l, ∃ a b ta tb, p.2 = tupO [.int a ta, .int b tb]
theorem IsTups.fine {l : List (Addr × Obj)} (h : IsTups l) : ∀ p ∈ l, badF p.2 = false := fun p hp => by
  obtain ⟨a, b, ta, tb, e⟩ := h p hp
  rw [e]; rfl
theorem IsTups.cls {l : List (Addr × Obj)} (h : IsTups l) : ∀ p ∈ l, p.2.cls = .type "tuple" := fun p hp => by
  obtain ⟨a, b, ta, tb, e⟩ := h p hp
  rw [e]
theorem IsTups.snoc {l : List (Addr × Obj)} (h : IsTups l) {t : Addr} {a b : Int} {ta tb : Tok} : IsTups (l ++ [(t, tupO [.int a ta, .int b tb])]) := fun p hp => by
  rcases List.mem_append.mp hp with hp | hp
  · exact h p hp
  · rw [List.mem_singleton.mp hp]; exact ⟨a, b, ta, tb, rfl⟩
structure DrC where
  vs : List Value
  k : Nat
  num : Int
  tn : Tok
  tups : List (Addr × Obj)
  cs : List Cake
abbrev drNames (c : DrC) : List (PySem.Str × Value) := [(PySem.Str.ofString "number", .int c.num c.tn)]
abbrev drS : List PySem.Str := [PySem.Str.ofString "k", PySem.Str.ofString "base", PySem.Str.ofString "share"]
def DrJ (i : Nat) (c : DrC) : Prop := c.cs.length = i ∧ Good c.cs ∧ CakesAre c.tups c.vs c.cs ∧ c.num = numC c.cs ∧ IsTups c.tups
section
variable {prog : Program} {w : World} {A : Around} {E : Value → Shared → Prop} {s : Shared} {env : Env} {h₀ : Heap} {body : List Stmt} {Q : Flow → Shared → Prop}
theorem dr_loop {x y : PySem.Str} {px py tp : Pos} {tk0 : Nat} {d l a0 a1 a2 a3 : Addr} {b0 b1 b2 b3 : Int} {u0 u1 u2 u3 v0 v1 v2 v3 t₀ : Tok} {m₀ : PySem.Str → Option Value} {rest : List (Addr × Obj)}
    (hh : A.handled = none) (F : Fr h₀ env.locals s.heap m₀) (N : News h₀ env.locals s.heap ((l, W.listOf #[] 0) :: rest)) (hrl : ∀ p ∈ rest, p.1 ≠ l)
    (hd : (d, tupO [.ref a0, .ref a1, .ref a2, .ref a3]) ∈ rest) (h0 : (a0, tupO [.int 0 u0, .int b0 v0]) ∈ rest) (h1 : (a1, tupO [.int 1 u1, .int b1 v1]) ∈ rest) (h2 : (a2, tupO [.int 2 u2, .int b2 v2]) ∈ rest) (h3 : (a3, tupO [.int 3 u3, .int b3 v3]) ∈ rest)
    (hk : ∀ p ∈ drNames ⟨[], 0, 0, t₀, [], []⟩, m₀ p.1 = some p.2)
    (turn : ∀ (i : Nat) (base : Int) (ta : Addr) (t₁ t₂ : Tok) (vs : List Value) (k : Nat) (num : Int) (tn : Tok) (tups : List (Addr × Obj)) (cs : List Cake) (u : PySem.Str → Option Value) (s₁ : Shared) h tk own, i < 4 → cs.length = i → vs.length = i → Good cs → CakesAre tups vs cs → num = numC cs → 0 ≤ num → num < 16777216 → IsTups tups →
      ta ≠ l → (∀ p ∈ tups ++ (rest ++ own), p.1 ≠ l) →
      Fr h₀ env.locals h (kstB (fun z => if drS.contains z then u z else m₀ z) [(PySem.Str.ofString "number", .int num tn)]) → News h₀ env.locals h ((ta, tupO [.int (i : Int) t₁, .int base t₂]) :: (l, W.listOf vs.toArray k) :: (tups ++ (rest ++ own))) →
      wpAny (model prog w) A (assign (.Tuple [.Name x px, .Name y py] tk0 tp) env (.ref ta)) (fun _ s₃ => wpAny (model prog w) A (execs body env) (MyEndT h₀ env.locals (fun c : DrC => (l, W.listOf c.vs.toArray c.k) :: c.tups) rest drNames drS m₀ (DrJ (i + 1)) own { s₁ with heap := h, toks := tk }) E s₃) E { s₁ with heap := h, toks := tk })
    (done : ∀ (vs : List Value) (k : Nat) (num : Int) (tn : Tok) (tups : List (Addr × Obj)) (cs : List Cake) (u : PySem.Str → Option Value) h tk, cs.length = 4 → vs.length = 4 → Good cs → CakesAre tups vs cs → num = numC cs → IsTups tups →
      Fr h₀ env.locals h (kstB (fun z => if drS.contains z then u z else m₀ z) [(PySem.Str.ofString "number", .int num tn)]) → News h₀ env.locals h ((l, W.listOf vs.toArray k) :: (tups ++ rest)) → Q .next { s with heap := h, toks := tk }) :
    wpAny (model prog w) A (pyIter (.ref d)) (fun it s₂ => LoopAtT prog w A h₀ env (.Tuple [.Name x px, .Name y py] tk0 tp) body Q E it s₂) E s := by
  refine my_tupT (vs := [.ref a0, .ref a1, .ref a2, .ref a3]) (fun c : DrC => (l, W.listOf c.vs.toArray c.k) :: c.tups) rest drNames drS DrJ ⟨[], 0, 0, t₀, [], []⟩ hh hd (fun I i s' v Q' hit hq => letGo_tupleiter hit hq) F N hk ⟨rfl, fun _ h => absurd h List.not_mem_nil, .nil, rfl, fun _ h => absurd h List.not_mem_nil⟩ ?_ ?_
  · rintro i v ⟨vs, k, num, tn, tups, cs⟩ u s₁ h tk own hv ⟨j1, j2, j3, j4, j5⟩ hoff hob F₁ N₁
    dsimp only at j1 j2 j3 j4 j5 hoff F₁ N₁
    have hvl := j3.length
    obtain ⟨ta, t₁, base, t₂, rfl, hm, hi⟩ : ∃ ta t₁ base t₂, v = .ref ta ∧ (ta, tupO [.int (i : Int) t₁, .int base t₂]) ∈ rest ∧ i < 4 := by
      match i, hv with
      | 0, hv => simp only [List.getElem?_cons_zero, Option.some.injEq] at hv; exact ⟨_, _, _, _, hv.symm, h0, by omega⟩
      | 1, hv => simp only [List.getElem?_cons_zero, List.getElem?_cons_succ, Option.some.injEq] at hv; exact ⟨_, _, _, _, hv.symm, h1, by omega⟩
      | 2, hv => simp only [List.getElem?_cons_zero, List.getElem?_cons_succ, Option.some.injEq] at hv; exact ⟨_, _, _, _, hv.symm, h2, by omega⟩
      | 3, hv => simp only [List.getElem?_cons_zero, List.getElem?_cons_succ, Option.some.injEq] at hv; exact ⟨_, _, _, _, hv.symm, h3, by omega⟩
      | i + 4, hv => simp at hv
    have hb := numC_small j2 (by omega)
    rw [← j4] at hb
    refine turn i base ta t₁ t₂ vs k num tn tups cs u s₁ h tk own hi j1 (by omega) j2 j3 j4 hb.1 hb.2 j5 (hrl _ hm) ?_ F₁ (news_of N₁ ?_)
    · refine all_append (fun p hp => sep_obj N₁ (by simp only [List.mem_cons, List.mem_append]; simp only [hp, true_or, or_true]) (q := (l, W.listOf vs.toArray k)) (by simp) (by rw [j5.cls p hp]; simp)) (all_append hrl fun p hp => ?_)
      exact hoff p hp l (by simp)
    · intro p hp
      simp only [List.mem_cons, List.mem_append] at hp ⊢
      rcases hp with rfl | hp
      · simp only [hm, true_or, or_true]
      · grind
  · rintro ⟨vs, k, num, tn, tups, cs⟩ u h tk ⟨j1, j2, j3, j4, j5⟩ F₁ N₁
    dsimp only at j1 j2 j3 j4 j5 F₁ N₁
    have hvl := j3.length
    exact done vs k num tn tups cs u h tk j1 (by simp at j1; omega) j2 j3 j4 j5 F₁ N₁
abbrev drRest (d a0 a1 a2 a3 : Addr) (b0 b1 b2 b3 : Int) (u0 u1 u2 u3 v0 v1 v2 v3 : Tok) (cells : List (Addr × Obj)) : List (Addr × Obj) :=
  (d, tupO [.ref a0, .ref a1, .ref a2, .ref a3]) :: (a3, tupO [.int 3 u3, .int b3 v3]) :: (a2, tupO [.int 2 u2, .int b2 v2]) :: (a1, tupO [.int 1 u1, .int b1 v1]) :: (a0, tupO [.int 0 u0, .int b0 v0]) :: cells
theorem dr_loop2 {x y : PySem.Str} {px py tp : Pos} {tk0 : Nat} {d l a0 a1 a2 a3 : Addr} {b0 b1 b2 b3 : Int} {u0 u1 u2 u3 v0 v1 v2 v3 t₀ : Tok} {m₀ : PySem.Str → Option Value} {cells : List (Addr × Obj)}
    (hh : A.handled = none) (F : Fr h₀ env.locals s.heap m₀)
    (N : News h₀ env.locals s.heap ((d, tupO [.ref a0, .ref a1, .ref a2, .ref a3]) :: (a3, tupO [.int 3 u3, .int b3 v3]) :: (a2, tupO [.int 2 u2, .int b2 v2]) :: (a1, tupO [.int 1 u1, .int b1 v1]) :: (a0, tupO [.int 0 u0, .int b0 v0]) :: (l, W.listOf #[] 0) :: cells)) (hrl : ∀ p ∈ cells, p.1 ≠ l)
    (hk : ∀ p ∈ drNames ⟨[], 0, 0, t₀, [], []⟩, m₀ p.1 = some p.2)
    (turn : ∀ (i : Nat) (base : Int) (ta : Addr) (t₁ t₂ : Tok) (vs : List Value) (k : Nat) (num : Int) (tn : Tok) (tups : List (Addr × Obj)) (cs : List Cake) (u : PySem.Str → Option Value) (s₁ : Shared) h tk own, i < 4 → cs.length = i → vs.length = i → Good cs → CakesAre tups vs cs → num = numC cs → 0 ≤ num → num < 16777216 → IsTups tups →
      ta ≠ l → (∀ p ∈ tups ++ (drRest d a0 a1 a2 a3 b0 b1 b2 b3 u0 u1 u2 u3 v0 v1 v2 v3 cells ++ own), p.1 ≠ l) →
      Fr h₀ env.locals h (kstB (fun z => if drS.contains z then u z else m₀ z) [(PySem.Str.ofString "number", .int num tn)]) → News h₀ env.locals h ((ta, tupO [.int (i : Int) t₁, .int base t₂]) :: (l, W.listOf vs.toArray k) :: (tups ++ (drRest d a0 a1 a2 a3 b0 b1 b2 b3 u0 u1 u2 u3 v0 v1 v2 v3 cells ++ own))) →
      wpAny (model prog w) A (assign (.Tuple [.Name x px, .Name y py] tk0 tp) env (.ref ta)) (fun _ s₃ => wpAny (model prog w) A (execs body env) (MyEndT h₀ env.locals (fun c : DrC => (l, W.listOf c.vs.toArray c.k) :: c.tups) (drRest d a0 a1 a2 a3 b0 b1 b2 b3 u0 u1 u2 u3 v0 v1 v2 v3 cells) drNames drS m₀ (DrJ (i + 1)) own { s₁ with heap := h, toks := tk }) E s₃) E { s₁ with heap := h, toks := tk })
    (done : ∀ (vs : List Value) (k : Nat) (num : Int) (tn : Tok) (tups : List (Addr × Obj)) (cs : List Cake) (u : PySem.Str → Option Value) h tk, cs.length = 4 → vs.length = 4 → Good cs → CakesAre tups vs cs → num = numC cs → IsTups tups →
      Fr h₀ env.locals h (kstB (fun z => if drS.contains z then u z else m₀ z) [(PySem.Str.ofString "number", .int num tn)]) → News h₀ env.locals h ((l, W.listOf vs.toArray k) :: (tups ++ drRest d a0 a1 a2 a3 b0 b1 b2 b3 u0 u1 u2 u3 v0 v1 v2 v3 cells)) → Q .next { s with heap := h, toks := tk }) :
    wpAny (model prog w) A (pyIter (.ref d)) (fun it s₂ => LoopAtT prog w A h₀ env (.Tuple [.Name x px, .Name y py] tk0 tp) body Q E it s₂) E s := by
  have hlm : (l, W.listOf #[] 0) ∈ (d, tupO [.ref a0, .ref a1, .ref a2, .ref a3]) :: (a3, tupO [.int 3 u3, .int b3 v3]) :: (a2, tupO [.int 2 u2, .int b2 v2]) :: (a1, tupO [.int 1 u1, .int b1 v1]) :: (a0, tupO [.int 0 u0, .int b0 v0]) :: (l, W.listOf #[] 0) :: cells := by simp
  have sp : ∀ a vs, (a, tupO vs) ∈ (d, tupO [.ref a0, .ref a1, .ref a2, .ref a3]) :: (a3, tupO [.int 3 u3, .int b3 v3]) :: (a2, tupO [.int 2 u2, .int b2 v2]) :: (a1, tupO [.int 1 u1, .int b1 v1]) :: (a0, tupO [.int 0 u0, .int b0 v0]) :: (l, W.listOf #[] 0) :: cells → a ≠ l := fun a vs hm => sep_obj N hm hlm (by simp)
  refine dr_loop hh F (rest := drRest d a0 a1 a2 a3 b0 b1 b2 b3 u0 u1 u2 u3 v0 v1 v2 v3 cells) (news_of N ?_) ?_ (.head _) (.tail _ (.tail _ (.tail _ (.tail _ (.head _))))) (.tail _ (.tail _ (.tail _ (.head _)))) (.tail _ (.tail _ (.head _))) (.tail _ (.head _)) hk turn done
  · intro p hp
    simp only [drRest, List.mem_cons] at hp ⊢
    grind
  · refine List.forall_mem_cons.mpr ⟨sp _ _ (.head _), List.forall_mem_cons.mpr ⟨sp _ _ (.tail _ (.head _)), List.forall_mem_cons.mpr ⟨sp _ _ (.tail _ (.tail _ (.head _))), List.forall_mem_cons.mpr ⟨sp _ _ (.tail _ (.tail _ (.tail _ (.head _)))), List.forall_mem_cons.mpr ⟨sp _ _ (.tail _ (.tail _ (.tail _ (.tail _ (.head _))))), hrl⟩⟩⟩⟩⟩
theorem dr_end {L l t : Addr} {h h' : Heap} {tk tk' : Nat} {s₁ : Shared} {rest own all tups : List (Addr × Obj)} {m₀ m' : PySem.Str → Option Value} {vs : List Value} {k i : Nat} {num x y : Int} {ta tb tn : Tok} {cs : List Cake}
    (F : Fr h₀ L h' m') (N : News h₀ L h' all) (hl : (l, W.listOf (vs ++ [Value.ref t]).toArray (k + 1)) ∈ all) (ht : (t, tupO [.int (Int.fmod x 8 + 1) ta, .int (Int.fmod y 8 + 1) tb]) ∈ all) (h1 : ∀ p ∈ tups, p ∈ all) (h2 : ∀ p ∈ rest, p ∈ all) (h3 : ∀ p ∈ own, p ∈ all)
    (hcl : cs.length = i) (hg : Good cs) (hC : CakesAre tups vs cs) (hnum : num = numC cs) (hT : IsTups tups)
    (hk : ∀ p ∈ drNames ⟨[], 0, num * 256 + (Int.fmod x 8 + 1) * 16 + (Int.fmod y 8 + 1), tn, [], []⟩, m' p.1 = some p.2) (h5 : ∀ z, (∀ p ∈ drNames ⟨[], 0, num * 256 + (Int.fmod x 8 + 1) * 16 + (Int.fmod y 8 + 1), tn, [], []⟩, z ≠ p.1) → drS.contains z = false → m' z = m₀ z) :
    MyEndT h₀ L (fun c : DrC => (l, W.listOf c.vs.toArray c.k) :: c.tups) rest drNames drS m₀ (DrJ (i + 1)) own { s₁ with heap := h, toks := tk } .next { s₁ with heap := h', toks := tk' } := by
  have hx := fm8 x
  have hy := fm8 y
  refine my_endT (⟨vs ++ [Value.ref t], k + 1, _, tn, tups ++ [(t, tupO [.int (Int.fmod x 8 + 1) ta, .int (Int.fmod y 8 + 1) tb])], cs ++ [(Int.fmod x 8 + 1, Int.fmod y 8 + 1)]⟩ : DrC) F N (List.forall_mem_cons.mpr ⟨hl, fun p hp => ?_⟩) h2 h3 (List.forall_mem_cons.mpr ⟨rfl, hT.snoc.fine⟩) hk h5 ⟨by simp [hcl], hg.snoc ⟨⟨?_, ?_⟩, ⟨?_, ?_⟩⟩, (hC.mono fun p hp => List.mem_append_left _ hp).snoc (ta := ta) (tb := tb) (List.mem_append_right _ (.head _)), by rw [numC_snoc, ← hnum], hT.snoc⟩
  · rcases List.mem_append.mp hp with hp | hp
    · exact h1 p hp
    · rw [List.mem_singleton.mp hp]; exact ht
  all_goals (dsimp only; omega)
theorem last_item {value slice : PySem.Expr} {l : Addr} {vs : List Value} {v : Value} {k i : Nat} {u : Tok} {L : Addr} {news : List (Addr × Obj)} {Q : Value → Shared → Prop} (N : News h₀ L s.heap news) (hm : (l, W.listOf (vs ++ [v]).toArray k) ∈ news) (hi : vs.length = i) (h4 : i < 4) (h : Q v s)
    (hs : subscripted slice false (.ref l) (.int (i : Int) u) = operate [.ref l, .int (i : Int) u] (getItem (.ref l) (.int (i : Int) u)) := by with_unfolding_all rfl) :
    wpAny (model prog w) A (subscriptTail value slice (.ref l) (.int (i : Int) u)) Q E s := by
  have hl : s.heap.IsList l (vs ++ [v]).toArray := News.isList N hm
  refine tail_any hl.typeIs slot_list_getitem.lookup (wpAny_getItem_list hl (by omega) (by omega) (x := v) ?_ h) hs
  rw [Int.toNat_natCast]
  simp [← hi]
end
end Mine
end
section
open PySem PySem.W PySem.Calls PyProof.Rows PyProof.Rows.LCg PyProof.V PySem.Spec
set_option maxHeartbeats 2000000
namespace Mine
theorem sep_data {h₀ h : Heap} {L : Addr} {led : List (Addr × Obj)} {p q : Addr × Obj} (N : News h₀ L h led) (hp : p ∈ led) (hq : q ∈ led) (hne : p.2.data ≠ q.2.data) : p.1 ≠ q.1 := fun e => by
  have e1 := (N p hp).1
  have e2 := (N q hq).1
  rw [e] at e1
  exact hne (congrArg Obj.data (Option.some.inj (e1.symm.trans e2)))
theorem IsTups.off {h₀ h : Heap} {L c : Addr} {led l : List (Addr × Obj)} {o : Obj} {v : Option Value} (T : IsTups l) (N : News h₀ L h led) (hs : ∀ p ∈ l, p ∈ led) (hm : (c, o) ∈ led) (hd : o.data = .cell v) : ∀ p ∈ l, p.1 ≠ c := fun p hp =>
  sep_data (q := (c, o)) N (hs p hp) hm (by
    obtain ⟨a, b, ta, tb, e⟩ := T p hp
    rw [e]; show _ ≠ o.data; rw [hd]; exact fun q => by cases q)
/-- the tuples apart -/
theorem CakesAre.tups {led : List (Addr × Obj)} {vs : List Value} {cs : List Cake} (h : CakesAre led vs cs) : ∃ tups, (∀ p ∈ tups, p ∈ led) ∧ IsTups tups ∧ CakesAre tups vs cs := by
  induction h with
  | nil => exact ⟨[], fun _ h => absurd h List.not_mem_nil, fun _ h => absurd h List.not_mem_nil, .nil⟩
  | cons ta tb hm _ ih =>
    obtain ⟨tups, h1, h2, h3⟩ := ih
    refine ⟨_ :: tups, List.forall_mem_cons.mpr ⟨hm, h1⟩, List.forall_mem_cons.mpr ⟨⟨_, _, ta, tb, rfl⟩, h2⟩, .cons ta tb (.head _) (h3.mono fun p hp => .tail _ hp)⟩
theorem not_dec {p : Prop} (i : Decidable p) (h : p) : (!@decide p i) = false := by
  cases i with
  | isTrue _ => rfl
  | isFalse q => exact absurd h q
theorem news_ins {h₀ h : Heap} {L : Addr} {x y z q : Addr × Obj} {nx : List (Addr × Obj)} (N : News h₀ L h (x :: y :: z :: nx)) (hm : q ∈ nx) : News h₀ L h (x :: y :: z :: q :: nx) :=
  news_of N (List.forall_mem_cons.mpr ⟨.head _, List.forall_mem_cons.mpr ⟨.tail _ (.head _), List.forall_mem_cons.mpr ⟨.tail _ (.tail _ (.head _)), List.forall_mem_cons.mpr ⟨.tail _ (.tail _ (.tail _ hm)), fun p hp => .tail _ (.tail _ (.tail _ hp))⟩⟩⟩⟩)
def CakesJ (led : List (Addr × Obj)) (cs : List Cake) (i : Nat) (ys : List Value) (nx : List (Addr × Obj)) : Prop := (∀ p ∈ led, p ∈ nx) ∧ CakesAre nx ys (cs.take i)
theorem cake_start {led : List (Addr × Obj)} {cs : List Cake} : CakesJ led cs 0 [] led := ⟨fun _ h => h, by rw [List.take_zero]; exact .nil⟩
theorem cake_next {led nx all : List (Addr × Obj)} {cs : List Cake} {i : Nat} {ys : List Value} {I C D t : Addr} {c : Cake} {ta tb : Tok} (h : CakesJ led cs i ys nx) (off : Off3 I C D nx) (hc : cs[i]? = some c) (ht : (t, tupO [.int c.1 ta, .int c.2 tb]) ∈ all) (n1 : @LT.lt Nat _ I t) (n2 : @LT.lt Nat _ C t) (n3 : @LT.lt Nat _ D t) (hs : ∀ p ∈ nx, p ∈ all) : CakesJ led cs (i + 1) (ys ++ [.ref t]) (off3 I C D all) := by
  have off' := off.mem
  have keep : ∀ p ∈ nx, p ∈ off3 I C D all := fun p hp => mem_off3 (hs p hp) (off' p hp).1 (off' p hp).2.1 (off' p hp).2.2
  refine ⟨fun p hp => keep p (h.1 p hp), ?_⟩
  rw [List.take_add_one, hc]
  exact (h.2.mono keep).snoc (mem_off3 ht (Ne.symm (Nat.ne_of_lt n1)) (Ne.symm (Nat.ne_of_lt n2)) (Ne.symm (Nat.ne_of_lt n3)))
section
variable {prog : Program} {w : World} {A : Around} {E : Value → Shared → Prop} {s : Shared} {h₀ : Heap} {L : Addr} {m : PySem.Str → Option Value} {news : List (Addr × Obj)} {Q : Value → Shared → Prop} {env : Env}
theorem len_word {cs : List Cake} {t : Tok} (hl : cs.length = 4) (h : ∀ t k, Q (.int 8 t) { s with toks := k }) : wpAny (model prog w) A (call (.builtin "len") [.bytes (wordC cs).toArray t]) Q E s := by
  have e := wordC_len cs
  refine len_bytes (by rw [List.size_toArray]; omega) ?_
  have : (((wordC cs).toArray.size : Nat) : Int) = 8 := by rw [List.size_toArray]; omega
  rw [this]; exact h _ _
theorem word_it0 {value slice : PySem.Expr} {cs : List Cake} {i : Nat} {c : Cake} {z : Int} {t u : Tok} (hg : Good cs) (hl : cs.length = 4) (hc : cs[i]? = some c) (hz : z = 2 * (i : Int)) (h : ∀ t k, Q (.int (65 + c.1) t) { s with toks := k })
    (hs : subscripted slice false (.bytes (wordC cs).toArray t) (.int z u) = operate [.bytes (wordC cs).toArray t, .int z u] (getItem (.bytes (wordC cs).toArray t) (.int z u)) := by with_unfolding_all rfl) :
    wpAny (model prog w) A (subscriptTail value slice (.bytes (wordC cs).toArray t) (.int z u)) Q E s := by
  have e := wordC_len cs
  have hi : i < cs.length := by
    rcases Nat.lt_or_ge i cs.length with h | h
    · exact h
    · rw [List.getElem?_eq_none h] at hc; cases hc
  refine tail_any (typeIs_bytes _ _ _) FB.slot_bytes_getitem.lookup (getItem_bytes (by omega) (by omega) (by omega) ?_) hs
  have e2 : z.toNat = 2 * i := by omega
  rw [e2, (word_get hg hc).1]
  exact h _ _
theorem word_it1 {value slice : PySem.Expr} {cs : List Cake} {i : Nat} {c : Cake} {z : Int} {t u : Tok} (hg : Good cs) (hl : cs.length = 4) (hc : cs[i]? = some c) (hz : z = 2 * (i : Int) + 1) (h : ∀ t k, Q (.int (65 + c.2) t) { s with toks := k })
    (hs : subscripted slice false (.bytes (wordC cs).toArray t) (.int z u) = operate [.bytes (wordC cs).toArray t, .int z u] (getItem (.bytes (wordC cs).toArray t) (.int z u)) := by with_unfolding_all rfl) :
    wpAny (model prog w) A (subscriptTail value slice (.bytes (wordC cs).toArray t) (.int z u)) Q E s := by
  have e := wordC_len cs
  have hi : i < cs.length := by
    rcases Nat.lt_or_ge i cs.length with h | h
    · exact h
    · rw [List.getElem?_eq_none h] at hc; cases hc
  refine tail_any (typeIs_bytes _ _ _) FB.slot_bytes_getitem.lookup (getItem_bytes (by omega) (by omega) (by omega) ?_) hs
  have e2 : z.toNat = 2 * i + 1 := by omega
  rw [e2, (word_get hg hc).2]
  exact h _ _
theorem sub_65 {g : Int} {t u : Tok} (h : ∀ t k, Q (.int g t) { s with toks := k }) : wpAny (model prog w) A (binaryOp .Sub (.int (65 + g) t) (.int 65 u)) Q E s := by
  refine PyProof.Rows.sub_int ?_
  rw [show 65 + g - 65 = g by omega]
  exact h _ _
theorem ne_cakes {a b : Addr} {vs ws : List Value} {t₁ t₂ : List (Addr × Obj)} {cs : List Cake} {j k : Nat} (N : News h₀ L s.heap news) (ha : (a, W.listOf vs.toArray j) ∈ news) (hb : (b, W.listOf ws.toArray k) ∈ news) (h1 : CakesAre t₁ vs cs) (h2 : CakesAre t₂ ws cs) (s1 : ∀ p ∈ t₁, p ∈ news) (s2 : ∀ p ∈ t₂, p ∈ news) (hu : A.units + 64 < cLine) (h : Q (.bool false) s) :
    wpAny (model prog w) A (compareOp .NotEq (.ref a) (.ref b)) Q E s := by
  refine kqd_ne N ha rfl rfl h1.dat s1 hb rfl rfl h2.dat s2 (cakeD_ok cs) (cakeD_ok cs) hu ?_
  rw [not_dec _ rfl]
  exact h
end
/-- the numbers gathered of four cakes -/
theorem range_get {cs : List Cake} {g : Cake → Int} {M : Int} (hl : cs.length = 4) (h : M ∈ (List.range 4).map fun i => g (cs.getD i (0, 0))) : ∃ c ∈ cs, M = g c := by
  obtain ⟨i, hi, rfl⟩ := List.mem_map.mp h
  have hi := List.mem_range.mp hi
  refine ⟨cs.getD i (0, 0), ?_, rfl⟩
  have : cs.getD i (0, 0) = cs[i] := by simp [List.getD, show i < cs.length by omega]
  rw [this]; exact List.getElem_mem _
theorem range_mem {cs : List Cake} {g : Cake → Int} (hl : cs.length = 4) : ∀ c ∈ cs, g c ∈ (List.range 4).map fun i => g (cs.getD i (0, 0)) := fun c hc => by
  obtain ⟨i, hi⟩ := List.mem_iff_getElem?.mp hc
  have hi4 : i < cs.length := by
    rcases Nat.lt_or_ge i cs.length with h | h
    · exact h
    · rw [List.getElem?_eq_none h] at hi; cases hi
  refine List.mem_map.mpr ⟨i, List.mem_range.mpr (by omega), ?_⟩
  have : cs.getD i (0, 0) = c := by simp [List.getD, hi]
  rw [this]
theorem max1_in {cs : List Cake} {M : Int} (hg : Good cs) (hl : cs.length = 4) (h : M ∈ (List.range 4).map fun i => (cs.getD i (0, 0)).1) : 1 ≤ M ∧ M ≤ 8 := by
  obtain ⟨c, hc, rfl⟩ := range_get (g := fun c => c.1) hl h
  exact (hg c hc).1
theorem max2_in {cs : List Cake} {M : Int} (hg : Good cs) (hl : cs.length = 4) (h : M ∈ (List.range 4).map fun i => (cs.getD i (0, 0)).2) : 1 ≤ M ∧ M ≤ 8 := by
  obtain ⟨c, hc, rfl⟩ := range_get (g := fun c => c.2) hl h
  exact (hg c hc).2
theorem max1_all {cs : List Cake} {M : Int} (hl : cs.length = 4) (h : ∀ z, z ∈ (List.range 4).map (fun i => (cs.getD i (0, 0)).1) → z ≤ M) : ∀ c ∈ cs, c.1 ≤ M := fun c hc => h _ (range_mem (g := fun c => c.1) hl c hc)
theorem max2_all {cs : List Cake} {M : Int} (hl : cs.length = 4) (h : ∀ z, z ∈ (List.range 4).map (fun i => (cs.getD i (0, 0)).2) → z ≤ M) : ∀ c ∈ cs, c.2 ≤ M := fun c hc => h _ (range_mem (g := fun c => c.2) hl c hc)
theorem getD_of {cs : List Cake} {i : Nat} {c : Cake} (h : cs[i]? = some c) : cs.getD i (0, 0) = c := by simp [List.getD, h]
section
variable {prog : Program} {w : World} {A : Around} {E : Value → Shared → Prop} {s : Shared} {h₀ : Heap} {L : Addr} {m : PySem.Str → Option Value} {env : Env}
/-- a list of the ledger, its turns in a block of one name -/
theorem cn_list {elt iter : PySem.Expr} {x : PySem.Str} {px : Pos} {scope : Scope} {cl : List (PySem.Str × Addr)} {pos : Pos} {ax : Addr} {vs : List Value} {kk : Nat} {news : List (Addr × Obj)} (J : Nat → List Value → List (Addr × Obj) → Prop) {RR : Value → Addr → Result → Shared → Prop}
    (hh : A.handled = none) (hm : (ax, W.listOf vs.toArray kk) ∈ news) (hJm : ∀ i ys nx, J i ys nx → (ax, W.listOf vs.toArray kk) ∈ nx) (hsz : vs.length ≤ sizeLine)
    (hcell : ∀ y ∈ scope.names, y.2 ≠ .cell) (hkind : scope.kind = .function) (hx : scope.names.lookup x = some .local) (F : Fr h₀ L s.heap m) (N : News h₀ L s.heap news) (hj : J 0 [] news)
    (turn : CnTurn prog w A s h₀ L m env elt x scope cl vs.length (fun i v => vs[i]? = some v) J)
    (done : ∀ D C h tk m' ys nx, J vs.length ys nx → ys.length = vs.length → Fr h₀ L h m → News h₀ L h ((D, lst ys) :: nx) → h.Ns C m' → h₀.get? C = none → h₀.get? D = none → C ≠ L → D ≠ L → C ≠ D → (∀ p ∈ nx, p.1 ≠ C ∧ p.1 ≠ D) → (∀ p ∈ news, @LT.lt Nat _ p.1 D) → RR (.ref D) C (.ok .next) { s with heap := h, toks := tk }) :
    wpAny (model prog w) A (pyIter (.ref ax)) (fun it s₂ => wpAny (model prog w) A (newList []) (fun acc s₃ => wpAny (model prog w) A (newFunctionEnv scope env.globals cl [] env.qual none .none (some env)) (fun cenv s₄ =>
      codeAny (model prog w) A (.compStart (.ListComp elt [⟨.Name x px, iter, [], 0⟩] scope pos) 0 it acc { cenv with scope := relabel scope env }) (RR acc cenv.locals) s₄) E s₃) E s₂) E s := by
  have hax := N _ hm
  have hls : s.heap.IsList ax vs.toArray := ⟨_, hax.1, rfl, kk, rfl⟩
  have hlt : ax < s.heap.objs.size := Heap.lt_size hax.1
  refine wpAny_pyIter_list hls ?_
  have up : ∀ b o, s.heap.get? b = some o → (s.heap.push { cls := .type "list_iterator", data := .fields #[.ref ax, .int 0 0] }).get? b = some o := fun b o e => Heap.get?_push_of_some _ e
  have W := Walks.list (prog := prog) (w := w) hh s.heap.objs.size ax (Nat.ne_of_lt hlt) vs.toArray
  rw [List.size_toArray] at W
  refine cn_core (s := { s with heap := s.heap.push _ }) J W hsz (fun i h st => by obtain ⟨o, e, _⟩ := st.1; exact ⟨o, e⟩) ?_ hcell hkind hx ⟨⟨_, Heap.get?_push_size _ rfl, rfl, rfl⟩, ⟨_, up _ _ hax.1, rfl, kk, rfl⟩⟩ ?_
    (F.keeps up) (fun p hp => ⟨up _ _ (N p hp).1, (N p hp).2⟩) (Nat.ne_of_lt F.ns.lt) (next_is_new F) (fun p hp => Nat.ne_of_lt (Heap.lt_size (N p hp).1)) hj
    (fun i v ys nx hi hv hyl hJ oI C oC D m₂ h tk E' => turn i v ys nx hi (by simpa using hv) hyl hJ _ oI C oC D m₂ h tk E') done
  · intro b hb
    rcases List.mem_cons.mp hb with rfl | hb
    · exact .inl rfl
    · exact .inr (.inr ⟨_, fun i ys nx hJ => (List.mem_singleton.mp hb) ▸ hJm i ys nx hJ⟩)
  · intro b hb
    show b < (s.heap.push _).objs.size
    rw [Heap.size_push]
    rcases List.mem_cons.mp hb with rfl | hb
    · exact Nat.lt_succ_self _
    · rw [List.mem_singleton.mp hb]; exact Nat.lt_succ_of_lt hlt
theorem cn_eval_list {elt iter : PySem.Expr} {x : PySem.Str} {px : Pos} {scope : Scope} {cl : List (PySem.Str × Addr)} {pos : Pos} {Q : Value → Shared → Prop} (F₀ : Fr h₀ L s.heap m)
    (hclos : closureFor scope env = pure cl) (hcell : ∀ z ∈ scope.names, z.2 ≠ .cell) (hkind : scope.kind = .function)
    (hnames : ∀ z ∈ scope.names, z.2 = .local → scope.names.lookup z.1 = some .local) (hx : scope.names.lookup x = some .local)
    (h : wpAny (model prog w) A (eval iter env) (fun xv s₁ => ∃ (ax : Addr) (vs : List Value) (kk : Nat) (news : List (Addr × Obj)) (J : Nat → List Value → List (Addr × Obj) → Prop), xv = .ref ax ∧ A.handled = none ∧ Fr h₀ L s₁.heap m ∧ News h₀ L s₁.heap news ∧ (ax, W.listOf vs.toArray kk) ∈ news ∧ vs.length ≤ sizeLine ∧ J 0 [] news ∧ (∀ i ys nx, J i ys nx → (ax, W.listOf vs.toArray kk) ∈ nx) ∧
      CnTurn prog w A s₁ h₀ L m env elt x scope cl vs.length (fun i v => vs[i]? = some v) J ∧
      ∀ D h tk ys nx, J vs.length ys nx → ys.length = vs.length → Fr h₀ L h m → News h₀ L h ((D, lst ys) :: nx) → (∀ p ∈ nx, p.1 ≠ D) → (∀ p ∈ news, @LT.lt Nat _ p.1 D) → Q (.ref D) { s₁ with heap := h, toks := tk }) E s)
    (hs : ∀ x, foldedSetIterable iter env x = pure x := by intro _; rfl) :
    wpAny (model prog w) A (eval (.ListComp elt [⟨.Name x px, iter, [], 0⟩] scope pos) env) Q E s := by
  rw [eval_ListComp]
  refine wpAny_comprehension_free (use := none) rfl hs hclos hkind hnames (wpAny_mono h (fun xv s₁ h₁ => ?_) fun _ _ e => e)
  obtain ⟨ax, vs, kk, news, J, rfl, hh, F, N, hm, hsz, hj, hJm, turn, fin⟩ := h₁
  refine cn_list J hh hm hJm hsz hcell hkind hx F N hj turn ?_
  intro D C h' tk m' ys nx hJ hyl F' N' hns hC₀ hD₀ hCL hDL hCD off hlD
  exact fin_none F' N' hns hC₀ hCL hCD off fun h'' F'' N'' => fin D h'' tk ys nx hJ hyl F'' N'' (fun p hp => (off p hp).2) hlD
end
end Mine
end
section
open PySem PySem.W PySem.Calls PyProof.Rows PyProof.Rows.LCg PyProof.V PySem.Spec
set_option maxHeartbeats 2000000
namespace Mine
structure SzC where
  oz : Obj
  od : Obj
  tot : Int
  tt : Tok
structure SdC where
  od : Obj
  tot : Int
  tt : Tok
abbrev szNames (c : SzC) : List (PySem.Str × Value) := [(PySem.Str.ofString "total", .int c.tot c.tt)]
abbrev sdNames (c : SdC) : List (PySem.Str × Value) := [(PySem.Str.ofString "total", .int c.tot c.tt)]
abbrev szS : List PySem.Str := [PySem.Str.ofString "chosen", PySem.Str.ofString "lead", PySem.Str.ofString "column", PySem.Str.ofString "ahead"]
def SzJ (cs : List Cake) (n : Nat) (c : SzC) : Prop := (∃ v, c.oz.data = .cell v) ∧ (∃ v, c.od.data = .cell v) ∧ c.tot = totC cs n
def SdJ (cs : List Cake) (n : Nat) (c : SdC) : Prop := (∃ v, c.od.data = .cell v) ∧ c.tot = totC cs n
section
variable {prog : Program} {w : World} {A : Around} {E : Value → Shared → Prop} {s : Shared} {env : Env} {h₀ : Heap} {body : List Stmt} {Q : Flow → Shared → Prop}
theorem sz_loop {x : PySem.Str} {px : Pos} {d c3 c4 : Addr} {oz od : Obj} {vz vd : Option Value} {u1 u2 u4 u8 t₀ : Tok} {m₀ : PySem.Str → Option Value} {rest : List (Addr × Obj)} (cs : List Cake)
    (hh : A.handled = none) (F : Fr h₀ env.locals s.heap m₀) (N : News h₀ env.locals s.heap ((d, tupO [.int 1 u1, .int 2 u2, .int 4 u4, .int 8 u8]) :: (c4, od) :: (c3, oz) :: rest))
    (hk : ∀ p ∈ szNames ⟨oz, od, 0, t₀⟩, m₀ p.1 = some p.2) (hz : oz.data = .cell vz) (hd : od.data = .cell vd)
    (turn : ∀ (j : Fin 4) (size : Int) (t : Tok) (oz od : Obj) (vz vd : Option Value) (tot : Int) (tt : Tok) (u : PySem.Str → Option Value) (s₁ : Shared) h tk own, size = ((2 ^ j.val : Nat) : Int) → 1 ≤ size → size ≤ 8 → oz.data = .cell vz → od.data = .cell vd → tot = totC cs (2 * j.val) → (∀ p ∈ own, badF p.2 = true) →
      Fr h₀ env.locals h (kstB (fun z => if szS.contains z then u z else m₀ z) [(PySem.Str.ofString "total", .int tot tt)]) → News h₀ env.locals h ((c4, od) :: (c3, oz) :: ((d, tupO [.int 1 u1, .int 2 u2, .int 4 u4, .int 8 u8]) :: rest ++ own)) →
      wpAny (model prog w) A (assign (.Name x px) env (.int size t)) (fun _ s₃ => wpAny (model prog w) A (execs body env) (MyEndT h₀ env.locals (fun c : SzC => [(c4, c.od), (c3, c.oz)]) ((d, tupO [.int 1 u1, .int 2 u2, .int 4 u4, .int 8 u8]) :: rest) szNames szS m₀ (SzJ cs (2 * j.val + 2)) own { s₁ with heap := h, toks := tk }) E s₃) E { s₁ with heap := h, toks := tk })
    (done : ∀ (oz od : Obj) (vz vd : Option Value) (tot : Int) (tt : Tok) (u : PySem.Str → Option Value) h tk, oz.data = .cell vz → od.data = .cell vd → tot = totC cs 8 →
      Fr h₀ env.locals h (kstB (fun z => if szS.contains z then u z else m₀ z) [(PySem.Str.ofString "total", .int tot tt)]) → News h₀ env.locals h ((c4, od) :: (c3, oz) :: (d, tupO [.int 1 u1, .int 2 u2, .int 4 u4, .int 8 u8]) :: rest) → Q .next { s with heap := h, toks := tk }) :
    wpAny (model prog w) A (pyIter (.ref d)) (fun it s₂ => LoopAtT prog w A h₀ env (.Name x px) body Q E it s₂) E s := by
  refine my_tupT (vs := [.int 1 u1, .int 2 u2, .int 4 u4, .int 8 u8]) (fun c : SzC => [(c4, c.od), (c3, c.oz)]) ((d, tupO [.int 1 u1, .int 2 u2, .int 4 u4, .int 8 u8]) :: rest) szNames szS (fun i => SzJ cs (2 * i)) ⟨oz, od, 0, t₀⟩ hh (.head _) (fun _ _ _ _ _ _ hq => own_name hq) F (news_of N ?_) hk ⟨⟨_, hz⟩, ⟨_, hd⟩, rfl⟩ ?_ ?_
  · intro p hp
    simp only [List.mem_cons, List.mem_append, List.not_mem_nil, or_false] at hp ⊢
    grind
  · rintro i v ⟨oz, od, tot, tt⟩ u s₁ h tk own hv ⟨⟨vz, h1⟩, ⟨vd, h2⟩, h3⟩ hoff hob F₁ N₁
    dsimp only at h1 h2 h3 F₁ N₁
    match i, hv with
    | 0, hv => simp only [List.getElem?_cons_zero, Option.some.injEq] at hv; subst hv; exact turn 0 1 _ oz od vz vd tot tt u s₁ h tk own rfl (by decide) (by decide) h1 h2 h3 hob F₁ N₁
    | 1, hv => simp only [List.getElem?_cons_zero, List.getElem?_cons_succ, Option.some.injEq] at hv; subst hv; exact turn 1 2 _ oz od vz vd tot tt u s₁ h tk own rfl (by decide) (by decide) h1 h2 h3 hob F₁ N₁
    | 2, hv => simp only [List.getElem?_cons_zero, List.getElem?_cons_succ, Option.some.injEq] at hv; subst hv; exact turn 2 4 _ oz od vz vd tot tt u s₁ h tk own rfl (by decide) (by decide) h1 h2 h3 hob F₁ N₁
    | 3, hv => simp only [List.getElem?_cons_zero, List.getElem?_cons_succ, Option.some.injEq] at hv; subst hv; exact turn 3 8 _ oz od vz vd tot tt u s₁ h tk own rfl (by decide) (by decide) h1 h2 h3 hob F₁ N₁
    | i + 4, hv => simp at hv
  · rintro ⟨oz, od, tot, tt⟩ u h tk ⟨⟨vz, h1⟩, ⟨vd, h2⟩, h3⟩ F₁ N₁
    exact done oz od vz vd tot tt u h tk h1 h2 h3 F₁ N₁
theorem sd_loop {x : PySem.Str} {px : Pos} {d c4 : Addr} {od : Obj} {vd : Option Value} {u0 u1 t₀ : Tok} {tot₀ : Int} {m₀ : PySem.Str → Option Value} {rest : List (Addr × Obj)} (cs : List Cake) (n : Nat)
    (hh : A.handled = none) (F : Fr h₀ env.locals s.heap m₀) (N : News h₀ env.locals s.heap ((d, tupO [.int 0 u0, .int 1 u1]) :: (c4, od) :: rest))
    (hk : ∀ p ∈ sdNames ⟨od, tot₀, t₀⟩, m₀ p.1 = some p.2) (hd : od.data = .cell vd) (ht : tot₀ = totC cs n)
    (turn0 : ∀ (t : Tok) (od : Obj) (vd : Option Value) (tot : Int) (tt : Tok) (u : PySem.Str → Option Value) (s₁ : Shared) h tk own, od.data = .cell vd → tot = totC cs n → (∀ p ∈ own, badF p.2 = true) →
      Fr h₀ env.locals h (kstB (fun z => if szS.contains z then u z else m₀ z) [(PySem.Str.ofString "total", .int tot tt)]) → News h₀ env.locals h ((c4, od) :: ((d, tupO [.int 0 u0, .int 1 u1]) :: rest ++ own)) →
      wpAny (model prog w) A (assign (.Name x px) env (.int 0 t)) (fun _ s₃ => wpAny (model prog w) A (execs body env) (MyEndT h₀ env.locals (fun c : SdC => [(c4, c.od)]) ((d, tupO [.int 0 u0, .int 1 u1]) :: rest) sdNames szS m₀ (SdJ cs (n + 1)) own { s₁ with heap := h, toks := tk }) E s₃) E { s₁ with heap := h, toks := tk })
    (turn1 : ∀ (t : Tok) (od : Obj) (vd : Option Value) (tot : Int) (tt : Tok) (u : PySem.Str → Option Value) (s₁ : Shared) h tk own, od.data = .cell vd → tot = totC cs (n + 1) → (∀ p ∈ own, badF p.2 = true) →
      Fr h₀ env.locals h (kstB (fun z => if szS.contains z then u z else m₀ z) [(PySem.Str.ofString "total", .int tot tt)]) → News h₀ env.locals h ((c4, od) :: ((d, tupO [.int 0 u0, .int 1 u1]) :: rest ++ own)) →
      wpAny (model prog w) A (assign (.Name x px) env (.int 1 t)) (fun _ s₃ => wpAny (model prog w) A (execs body env) (MyEndT h₀ env.locals (fun c : SdC => [(c4, c.od)]) ((d, tupO [.int 0 u0, .int 1 u1]) :: rest) sdNames szS m₀ (SdJ cs (n + 2)) own { s₁ with heap := h, toks := tk }) E s₃) E { s₁ with heap := h, toks := tk })
    (done : ∀ (od : Obj) (vd : Option Value) (tot : Int) (tt : Tok) (u : PySem.Str → Option Value) h tk, od.data = .cell vd → tot = totC cs (n + 2) →
      Fr h₀ env.locals h (kstB (fun z => if szS.contains z then u z else m₀ z) [(PySem.Str.ofString "total", .int tot tt)]) → News h₀ env.locals h ((c4, od) :: (d, tupO [.int 0 u0, .int 1 u1]) :: rest) → Q .next { s with heap := h, toks := tk }) :
    wpAny (model prog w) A (pyIter (.ref d)) (fun it s₂ => LoopAtT prog w A h₀ env (.Name x px) body Q E it s₂) E s := by
  refine my_tupT (vs := [.int 0 u0, .int 1 u1]) (fun c : SdC => [(c4, c.od)]) ((d, tupO [.int 0 u0, .int 1 u1]) :: rest) sdNames szS (fun i => SdJ cs (n + i)) ⟨od, tot₀, t₀⟩ hh (.head _) (fun _ _ _ _ _ _ hq => own_name hq) F (news_of N ?_) hk ⟨⟨_, hd⟩, ht⟩ ?_ ?_
  · intro p hp
    simp only [List.mem_cons, List.mem_append, List.not_mem_nil, or_false] at hp ⊢
    grind
  · rintro i v ⟨od, tot, tt⟩ u s₁ h tk own hv ⟨⟨vd, h2⟩, h3⟩ hoff hob F₁ N₁
    dsimp only at h2 h3 F₁ N₁
    match i, hv with
    | 0, hv => simp only [List.getElem?_cons_zero, Option.some.injEq] at hv; subst hv; exact turn0 _ od vd tot tt u s₁ h tk own h2 h3 hob F₁ N₁
    | 1, hv => simp only [List.getElem?_cons_zero, List.getElem?_cons_succ, Option.some.injEq] at hv; subst hv; exact turn1 _ od vd tot tt u s₁ h tk own h2 h3 hob F₁ N₁
    | i + 2, hv => simp at hv
  · rintro ⟨od, tot, tt⟩ u h tk ⟨⟨vd, h2⟩, h3⟩ F₁ N₁
    exact done od vd tot tt u h tk h2 h3 F₁ N₁
end
theorem pairs_at : ∀ j : Fin 4, ∀ side : Fin 2, pairsL[2 * j.val + side.val]? = some (((2 ^ j.val : Nat) : Int), side.val) := by decide
theorem tot_next {cs : List Cake} {j : Fin 4} {size : Int} {side : Fin 2} (hs : size = ((2 ^ j.val : Nat) : Int)) : totC cs (2 * j.val + side.val + 1) = totC cs (2 * j.val + side.val) + con cs size side.val := by
  rw [totC_next (pairs_at j side), hs]
/-- the cakes chosen -/
def ChJ (led : List (Addr × Obj)) (cs : List Cake) (size : Int) (side : Nat) (i : Nat) (ys : List Value) (nx : List (Addr × Obj)) : Prop := (∀ p ∈ led, p ∈ nx) ∧ CakesAre led ys ((cs.take i).filter (tst size side))
theorem ch_start {led : List (Addr × Obj)} {cs : List Cake} {size : Int} {side : Nat} : ChJ led cs size side 0 [] led := ⟨fun _ h => h, by rw [List.take_zero]; exact .nil⟩
theorem ch_keep {led nx all : List (Addr × Obj)} {I C D : Addr} (h : ∀ p ∈ led, p ∈ nx) (off : Off3 I C D nx) (hs : ∀ p ∈ led, p ∈ all) : ∀ p ∈ led, p ∈ off3 I C D all := fun p hp =>
  mem_off3 (hs p hp) (off.mem p (h p hp)).1 (off.mem p (h p hp)).2.1 (off.mem p (h p hp)).2.2
theorem ch_yes {led nx all : List (Addr × Obj)} {cs : List Cake} {size : Int} {side i : Nat} {ys : List Value} {I C D t : Addr} {c : Cake} {ta tb : Tok} (h : ChJ led cs size side i ys nx) (off : Off3 I C D nx) (hs : ∀ p ∈ led, p ∈ all) (hc : cs[i]? = some c) (hm : (t, tupO [.int c.1 ta, .int c.2 tb]) ∈ led) (ht : tst size side c = true) : ChJ led cs size side (i + 1) (ys ++ [.ref t]) (off3 I C D all) := by
  refine ⟨ch_keep h.1 off hs, ?_⟩
  rw [List.take_add_one, hc, List.filter_append]
  have e : List.filter (tst size side) (some c).toList = [c] := by simp [ht]
  rw [e]
  exact h.2.snoc hm
theorem ch_no {led nx all : List (Addr × Obj)} {cs : List Cake} {size : Int} {side i : Nat} {ys : List Value} {I C D : Addr} {c : Cake} (h : ChJ led cs size side i ys nx) (off : Off3 I C D nx) (hs : ∀ p ∈ led, p ∈ all) (hc : cs[i]? = some c) (ht : tst size side c = false) : ChJ led cs size side (i + 1) ys (off3 I C D all) := by
  refine ⟨ch_keep h.1 off hs, ?_⟩
  rw [List.take_add_one, hc, List.filter_append]
  have e : List.filter (tst size side) (some c).toList = [] := by simp [ht]
  rw [e, List.append_nil]
  exact h.2
theorem ce_src {h₀ : Heap} {L I C D ax : Addr} {its : Array Value} {kk : Nat} {m : PySem.Str → Option Value} {s₁ : Shared} {oI oC oD : Obj} {rest : Value → List (Addr × Obj) → Prop} {y : Value} {h' : Heap} {tk : Nat} {all : List (Addr × Obj)}
    (F : Fr h₀ L h' m) (N : News h₀ L h' all) (hs : ∀ p ∈ [(I, oI), (C, oC), (D, oD)], p ∈ all) (hx : (ax, W.listOf its kk) ∈ off3 I C D all) (r : rest y (off3 I C D all)) :
    CompEnd h₀ L m s₁ I oI C oC D oD (SrcAt h₀ ax its) rest y { s₁ with heap := h', toks := tk } := by
  refine CompEnd.intro F N (off3 I C D all) (fun p hp => ?_) (Off3.of fun p hp => ?_) (.inr ⟨_, hx, rfl, _, rfl⟩) r
  · rcases List.mem_cons.mp hp with rfl | hp
    · exact hs _ (.head _)
    · rcases List.mem_cons.mp hp with rfl | hp
      · exact hs _ (.tail _ (.head _))
      · rcases List.mem_cons.mp hp with rfl | hp
        · exact hs _ (.tail _ (.tail _ (.head _)))
        · exact (List.mem_filter.mp hp).1
  · have := (List.mem_filter.mp hp).2
    simp only [Bool.and_eq_true, decide_eq_true_eq] at this
    exact ⟨this.1.1, this.1.2, this.2⟩
/-- gathered ints of a known list -/
def ListK (led : List (Addr × Obj)) (l : List Int) (i : Nat) (ys : List Value) (nx : List (Addr × Obj)) : Prop := (∀ p ∈ led, p ∈ nx) ∧ IntsAre ys (l.take i)
theorem lk_start {led : List (Addr × Obj)} {l : List Int} : ListK led l 0 [] led := ⟨fun _ h => h, by rw [List.take_zero]; exact .nil⟩
theorem lk_next {led nx all : List (Addr × Obj)} {l : List Int} {i : Nat} {ys : List Value} {I C D : Addr} {z : Int} {t : Tok} (h : ListK led l i ys nx) (off : Off3 I C D nx) (hs : ∀ p ∈ led, p ∈ all) (hz : l[i]? = some z) : ListK led l (i + 1) (ys ++ [.int z t]) (off3 I C D all) := by
  refine ⟨ch_keep h.1 off hs, ?_⟩
  rw [List.take_add_one, hz]
  exact ints_snoc h.2 _ _
/-- gathered runs -/
def StrK (led : List (Addr × Obj)) (ns : List Nat) (i : Nat) (ys : List Value) (nx : List (Addr × Obj)) : Prop := (∀ p ∈ led, p ∈ nx) ∧ ∃ xs : List PySem.Str, StrsAre ys xs ∧ xs.map (fun x => x.cps.toList) = (ns.take i).map fun n => List.replicate n 32 ++ [9]
theorem sk_start {led : List (Addr × Obj)} {ns : List Nat} : StrK led ns 0 [] led := ⟨fun _ h => h, [], .nil, rfl⟩
theorem sk_next {led nx all : List (Addr × Obj)} {ns : List Nat} {i n : Nat} {ys : List Value} {I C D : Addr} {x : PySem.Str} {t : Tok} (h : StrK led ns i ys nx) (off : Off3 I C D nx) (hs : ∀ p ∈ led, p ∈ all) (hn : ns[i]? = some n) (hx : x.cps.toList = List.replicate n 32 ++ [9]) : StrK led ns (i + 1) (ys ++ [.str x t]) (off3 I C D all) := by
  obtain ⟨h1, xs, h2, h3⟩ := h
  refine ⟨ch_keep h1 off hs, xs ++ [x], kct_snoc h2, ?_⟩
  rw [List.take_add_one, hn, List.map_append, h3, List.map_append]
  simp [hx]
theorem join_codes : ∀ xs : List PySem.Str, (Txt.join (PySem.Str.ofString "") xs).cps.toList = (xs.map fun x => x.cps.toList).flatten
  | [] => rfl
  | x :: rest => by
    have key : ∀ (l : List PySem.Str) (a : Array Nat), (l.foldl (fun acc p => acc ++ (PySem.Str.ofString "").cps ++ p.cps) a).toList = a.toList ++ (l.map fun x => x.cps.toList).flatten := by
      intro l
      induction l with
      | nil => intro a; simp
      | cons p l ih =>
        intro a
        rw [List.foldl_cons, ih]
        simp [show (PySem.Str.ofString "").cps = #[] from rfl]
    show (rest.foldl (fun acc p => acc ++ (PySem.Str.ofString "").cps ++ p.cps) x.cps).toList = _
    rw [key, List.map_cons, List.flatten_cons]
section
variable {prog : Program} {w : World} {A : Around} {E : Value → Shared → Prop} {s : Shared} {h₀ : Heap} {L : Addr} {m : PySem.Str → Option Value} {news : List (Addr × Obj)} {Q : Value → Shared → Prop}
theorem len_ge {xs : List PySem.Str} {ns : List Nat} (h : xs.map (fun x => x.cps.toList) = ns.map fun n => List.replicate n 32 ++ [9]) (h8 : ∀ n ∈ ns, n ≤ 8) : (xs.map fun x => x.length).sum ≤ 9 * xs.length := by
  induction xs generalizing ns with
  | nil => simp
  | cons x xs ih =>
    cases ns with
    | nil => simp at h
    | cons n ns =>
      simp only [List.map_cons, List.cons.injEq] at h
      have h1 := ih h.2 fun m hm => h8 m (.tail _ hm)
      have h2 : x.length = n + 1 := by
        have := congrArg List.length h.1
        rw [List.length_append, List.length_replicate, Array.length_toList] at this
        exact this
      have := h8 n (.head _)
      simp only [List.map_cons, List.sum_cons, List.length_cons]
      omega
theorem join_runs {D : Addr} {vs : List Value} {led nx : List (Addr × Obj)} {ns : List Nat} {k : Nat} {t : Tok} (N : News h₀ L s.heap news) (hm : (D, W.listOf vs.toArray k) ∈ news) (J : StrK led ns ns.length vs nx) (h8 : ∀ n ∈ ns, n ≤ 8) (hl : ns.length ≤ 4) (h : ∀ y t' k, y.cps.toList = runs ns → Q (.str y t') { s with toks := k }) :
    wpAny (model prog w) A (call (.builtin "str.join") [.str (PySem.Str.ofString "") t, .ref D]) Q E s := by
  obtain ⟨_, xs, h1, h2⟩ := J
  rw [List.take_length] at h2
  have h3 := len_ge h2 h8
  have h4 : xs.length = ns.length := by
    have := congrArg List.length h2
    simpa using this
  refine join_listW (News.isList N hm) h1 (by decide) (by omega) fun t' k => h _ t' k ?_
  rw [join_codes, h2]
  rfl
theorem div_exact {a b : Int} {t u : Tok} (h1 : 1 ≤ a) (h8 : a ≤ 8) (h : ∀ t k, Q (.int b t) { s with toks := k }) (hb : -1000 ≤ b) (hb2 : b ≤ 1000) : wpAny (model prog w) A (binaryOp .FloorDiv (.int (a * b) t) (.int a u)) Q E s := by
  refine PyProof.Rows.floordiv_int (by omega) ?_ (hp := Or.inl (PyProof.noPylong_small (by omega)))
  rw [Int.mul_fdiv_cancel_left _ (by omega)]
  exact h _ _
theorem len_cakes {led : List (Addr × Obj)} {a : Addr} {vs : List Value} {cs : List Cake} {k : Nat} (N : News h₀ L s.heap news) (hm : (a, W.listOf vs.toArray k) ∈ news) (hC : CakesAre led vs cs) (hl : cs.length ≤ 4) (h : ∀ t k, Q (.int (cs.length : Nat) t) { s with toks := k }) : wpAny (model prog w) A (call (.builtin "len") [.ref a]) Q E s := by
  have e := hC.length
  refine KM.len_K (n := cs.length) N hm (by rw [List.size_toArray]; exact e) (by omega) (h _ _)
end
end Mine
end
section
open PySem PySem.W PySem.Calls PyProof.Rows PyProof.Rows.LCg PyProof.V PySem.Spec
namespace Mine
/-- what is known of the cakes chosen for a size and a side -/
structure Side (cs : List Cake) (size : Int) (side : Nat) (sgn : Int) (n : Nat) (ch : List Cake) : Prop where
  eq : ch = cs.filter (tst size side)
  good : Good ch
  len : ch.length ≤ 4
  lo : -28 ≤ (ch.map worth).sum
  hi : (ch.map worth).sum ≤ 28
  col : wsLevel (runs (ch.map (pick side))) size = size * ((ch.map worth).sum * sgn + 2 * (ch.length : Int))
  rl : (runs (ch.map (pick side))).length ≤ 1000
  r8 : ∀ m ∈ ch.map (pick side), m ≤ 8
  rlen : (ch.map (pick side)).length ≤ 4
  sub : ∀ c ∈ ch, c ∈ cs
  tot : totC cs (n + 1) = totC cs n + (ch.map worth).sum
theorem side_of {cs : List Cake} {size : Int} {j : Fin 4} (side : Fin 2) (hg : Good cs) (hl : cs.length = 4) (hs : size = ((2 ^ j.val : Nat) : Int)) : ∃ ch, Side cs size side.val (1 - 2 * (side.val : Int)) (2 * j.val + side.val) ch := by
  have hgC : Good (cs.filter (tst size side.val)) := fun x hx => hg x (List.mem_filter.mp hx).1
  have hlC : (cs.filter (tst size side.val)).length ≤ 4 := Nat.le_trans (List.length_filter_le _ _) (by omega)
  have hS := sum_small hgC
  have h8 : ∀ m ∈ (cs.filter (tst size side.val)).map (pick side.val), m ≤ 8 := fun m hm => by
    obtain ⟨c, hc, rfl⟩ := List.mem_map.mp hm
    have := hgC c hc
    unfold pick
    split <;> omega
  have hrl := runs_len _ h8 (by rw [List.length_map]; exact hlC)
  refine ⟨_, rfl, hgC, hlC, by omega, by omega, ?_, by omega, h8, by rw [List.length_map]; exact hlC, fun c hc => (List.mem_filter.mp hc).1, tot_next hs⟩
  have hp : 1 ≤ 2 ^ j.val := Nat.one_le_two_pow
  have e := column_law (j := j) (side := side) hgC fun c hc => by
    have := (List.mem_filter.mp hc).2
    rw [hs] at this
    exact_mod_cast this
  have e2 := level_runs hp ((cs.filter (tst size side.val)).map (pick side.val))
  rw [← hs] at e2
  rw [e2, List.length_map, e]
theorem tst0_yes {size : Int} {c : Cake} (h1 : size ≤ c.2) (h2 : c.2 < 2 * size) (h3 : size ≤ c.1) : tst size 0 c = true := by
  simp only [tst, if_true, Bool.and_eq_true, decide_eq_true_eq]; omega
theorem tst0_no {size : Int} {c : Cake} (h : ¬ (size ≤ c.2 ∧ c.2 < 2 * size ∧ size ≤ c.1)) : tst size 0 c = false := by
  refine Bool.eq_false_iff.mpr fun q => h ?_
  simp only [tst, if_true, Bool.and_eq_true, decide_eq_true_eq] at q; omega
theorem tst1_yes {size : Int} {c : Cake} (h1 : size ≤ c.1) (h2 : c.1 < 2 * size) (h3 : size ≤ c.2) : tst size 1 c = true := by
  simp only [tst, Nat.one_ne_zero, if_false, Bool.and_eq_true, decide_eq_true_eq]; omega
theorem tst1_no {size : Int} {c : Cake} (h : ¬ (size ≤ c.1 ∧ c.1 < 2 * size ∧ size ≤ c.2)) : tst size 1 c = false := by
  refine Bool.eq_false_iff.mpr fun q => h ?_
  simp only [tst, Nat.one_ne_zero, if_false, Bool.and_eq_true, decide_eq_true_eq] at q; omega
end Mine
end
section
open PySem PySem.W PySem.Calls PyProof.Rows PyProof.Rows.LCg PyProof.V PySem.Spec
namespace Mine
theorem StrK.full {led nx : List (Addr × Obj)} {ns : List Nat} {n : Nat} {ys : List Value} (h : StrK led ns n ys nx) (e : n = ns.length) : StrK led ns ns.length ys nx := e ▸ h
theorem abs_div (S : Int) : Int.fdiv (if S < 0 then -S else S) 16 = ((S.natAbs / 16 : Nat) : Int) := by
  rw [Int.fdiv_eq_ediv_of_nonneg _ (by omega)]
  split <;> omega
theorem abs_mod (S : Int) : Int.fmod (if S < 0 then -S else S) 16 = ((S.natAbs % 16 : Nat) : Int) := by
  rw [Int.fmod_eq_emod_of_nonneg _ (by omega)]
  split <;> omega
/-- the two figures of a number -/
def figs (k : Nat) : List Int := [65 + ((k / 16 : Nat) : Int), 65 + ((k % 16 : Nat) : Int)]
theorem figs_at {S : Int} {t u : Tok} {i : Nat} {v : Value} (h : [Value.int (Int.fdiv (if S < 0 then -S else S) 16) t, Value.int (Int.fmod (if S < 0 then -S else S) 16) u][i]? = some v) : ∃ z t, v = .int z t ∧ (figs S.natAbs)[i]? = some (65 + z) := by
  match i, h with
  | 0, h =>
    simp only [List.getElem?_cons_zero, Option.some.injEq] at h
    exact ⟨_, _, h.symm, by rw [abs_div]; rfl⟩
  | 1, h =>
    simp only [List.getElem?_cons_zero, List.getElem?_cons_succ, Option.some.injEq] at h
    exact ⟨_, _, h.symm, by rw [abs_mod]; rfl⟩
  | i + 2, h => simp at h
theorem ints_two {vs : List Value} {a b : Int} (h : IntsAre vs [a, b]) : ∃ ta tb, vs = [.int a ta, .int b tb] := by
  cases h with
  | cons _ ta h => cases h with
    | cons _ tb h => cases h with
      | nil => exact ⟨ta, tb, rfl⟩
/-- a cake within the table -/
structure CIn (c : Cake) (W D : Int) : Prop where
  a0 : 0 ≤ c.1
  a1 : c.1 ≤ (W.toNat : Int)
  b0 : 0 ≤ c.2
  b1 : c.2 ≤ (D.toNat : Int)
  w100 : W.toNat ≤ 100
  d100 : D.toNat ≤ 100
theorem cin_of {cs : List Cake} {c : Cake} {W D : Int} (hg : Good cs) (h1 : ∀ c ∈ cs, c.1 ≤ W) (h2 : ∀ c ∈ cs, c.2 ≤ D) (m1 : 1 ≤ W ∧ W ≤ 8) (m2 : 1 ≤ D ∧ D ≤ 8) (hc : c ∈ cs) : CIn c W D := by
  have a := hg c hc
  have b := h1 c hc
  have d := h2 c hc
  exact ⟨by omega, by omega, by omega, by omega, by omega, by omega⟩
theorem tst0_n1 {size : Int} {c : Cake} (h : ¬ size ≤ c.2) : tst size 0 c = false := tst0_no fun q => h q.1
theorem tst0_n2 {size : Int} {c : Cake} (h : ¬ c.2 < 2 * size) : tst size 0 c = false := tst0_no fun q => h q.2.1
theorem tst0_n3 {size : Int} {c : Cake} (h : ¬ size ≤ c.1) : tst size 0 c = false := tst0_no fun q => h q.2.2
theorem tst1_n1 {size : Int} {c : Cake} (h : ¬ size ≤ c.1) : tst size 1 c = false := tst1_no fun q => h q.1
theorem tst1_n2 {size : Int} {c : Cake} (h : ¬ c.1 < 2 * size) : tst size 1 c = false := tst1_no fun q => h q.2.1
theorem tst1_n3 {size : Int} {c : Cake} (h : ¬ size ≤ c.2) : tst size 1 c = false := tst1_no fun q => h q.2.2
theorem b_in0 {S : Int} {n : Nat} (h1 : -28 ≤ S) (h2 : S ≤ 28) (h3 : n ≤ 4) : -1000 ≤ S * (1 - 2 * 0) + 2 * (n : Int) ∧ S * (1 - 2 * 0) + 2 * (n : Int) ≤ 1000 := by omega
theorem b_in1 {S : Int} {n : Nat} (h1 : -28 ≤ S) (h2 : S ≤ 28) (h3 : n ≤ 4) : -1000 ≤ S * (1 - 2 * 1) + 2 * (n : Int) ∧ S * (1 - 2 * 1) + 2 * (n : Int) ≤ 1000 := by omega
theorem tot0 {T T' S t : Int} {n : Nat} (e : t = T) (h : T' = T + S) : t + (S * (1 - 2 * 0) + 2 * (n : Int) - 2 * (n : Int)) * (1 - 2 * 0) = T' := by omega
theorem tot1 {T T' S t : Int} {n : Nat} (e : t = T) (h : T' = T + S) : t + (S * (1 - 2 * 1) + 2 * (n : Int) - 2 * (n : Int)) * (1 - 2 * 1) = T' := by omega
theorem size4 {ys : List Value} (h : ys.length = 4) : ys.toArray.size ≤ sizeLine := by rw [List.size_toArray, sizeLine_eq, h]; decide
theorem sizeL {a b : Nat} (h : a = b) (h4 : b ≤ 4) : a ≤ sizeLine := by rw [sizeLine_eq]; omega
theorem sizeM {a : Nat} (h : a = 4) : a ≤ sizeLine := by rw [sizeLine_eq]; omega
theorem c_pos {x : Int} (h : 1 ≤ x ∧ x ≤ 8) : 0 ≤ x := by omega
theorem c_small {x : Int} (h : 1 ≤ x ∧ x ≤ 8) : x ≤ 1000 := by omega
theorem tab_small {x : Int} (h : 1 ≤ x ∧ x ≤ 8) : (List.replicate x.toNat 32).length + [9].length ≤ 10000 := by rw [List.length_replicate, List.length_singleton]; omega
theorem keep_two {x y : Addr × Obj} {a b c : List (Addr × Obj)} (h : a ++ b = c) : ∀ p ∈ a, p ∈ x :: y :: c := fun _ hp => .tail _ (.tail _ (h ▸ List.mem_append_left b hp))
theorem mul_any_l {prog : Program} {w : World} {A : Around} {E : Value → Shared → Prop} {s : Shared} {Q : Value → Shared → Prop} {a b : Int} {t u : Tok} (ha : 1 ≤ a) (h8 : a ≤ 8) (h : Q (.int (a * b) s.toks) { s with toks := s.toks + 1 }) : wpAny (model prog w) A (binaryOp .Mult (.int a t) (.int b u)) Q E s :=
  PyProof.Rows.mul_int h (PySem.IntMulOk.of_left (intBits_le_64 (by omega) (by omega)))
theorem apk_neg {T S : Int} (h : T = S) : (-T).natAbs = S.natAbs := by omega
theorem apk_pos {T S : Int} (h : T = S) : T.natAbs = S.natAbs := by omega
theorem non_iff {T S : Int} (h : T = S) : 256 ≤ 256 + T ↔ 0 ≤ S := by omega
theorem ter_iff {T S : Int} (h : T = S) : 256 + T < 256 ↔ S < 0 := by omega
theorem eof_iff {T S : Int} (h : T = S) : T = 0 ↔ S = 0 := by omega
theorem eofn_iff {T S : Int} (h : T = S) : -T = 0 ↔ S = 0 := by omega
theorem sum_abs {cs : List Cake} (h : Good cs) (hl : cs.length = 4) : (cs.map worth).sum.natAbs < 256 := by
  have := sum_small h
  omega
section
variable {prog : Program} {w : World} {A : Around} {E : Value → Shared → Prop} {s : Shared} {h₀ : Heap} {L : Addr} {m : PySem.Str → Option Value} {news : List (Addr × Obj)} {Q : Value → Shared → Prop} {k : Nat} {t u : Tok}
theorem bytes_figs {l : Addr} {vs : List Value} {n : Nat} (F : Fr h₀ L s.heap m) (N : News h₀ L s.heap news) (hm : (l, W.listOf vs.toArray n) ∈ news) (hI : IntsAre vs (figs k)) (hk : k < 256) (hh : A.handled = none)
    (h : ∀ t h' k', Fr h₀ L h' m → News h₀ L h' news → Q (.bytes (word2 k) t) { s with heap := h', toks := k' }) : wpAny (model prog w) A (call (.type "bytes") [.ref l]) Q E s := by
  obtain ⟨ta, tb, rfl⟩ := ints_two hI
  exact bytes_word F N hm hk hh h
theorem lstrip_word (hk : k < 256) (h : ∀ t' k', Q (.bytes (apL k).toArray t') { s with toks := k' }) : wpAny (model prog w) A (call (.builtin "bytes.lstrip") [.bytes (word2 k) t, .bytes #[65] u]) Q E s := by
  refine lstrip_bytes (by show 2 ≤ 1000; decide) fun t' k' => ?_
  rw [strip_word hk]
  exact h t' k'
theorem isnot_dec {p q : Prop} {i : Decidable p} {j : Decidable q} (e : p ↔ q) (h : Q (.bool false) s) : wpAny (model prog w) A (compareOp .IsNot (.bool (@decide p i)) (.bool (@decide q j))) Q E s := by
  refine isnot_bool ?_
  rw [show (@decide p i != @decide q j) = false by simp [e]]
  exact h
theorem is_deq {p : Prop} {i : Decidable p} {a b : Int} (e : p ↔ a = b) (h : Q (.bool true) s) : wpAny (model prog w) A (compareOp .Is (.bool (@decide p i)) (.bool (a == b))) Q E s := by
  refine is_bool ?_
  rw [show (@decide p i == (a == b)) = true by rw [Bool.eq_iff_iff.mpr (by simp [e] : (@decide p i = true ↔ (a == b) = true))]; simp]
  exact h
theorem ne_bytes_same {b : Array UInt8} (h : Q (.bool false) s) : wpAny (model prog w) A (compareOp .NotEq (.bytes b t) (.bytes b u)) Q E s := by
  refine ne_bytes ?_
  rw [show (b.toList != b.toList) = false by simp]
  exact h
end
end Mine
end
section
open PySem PySem.W PySem.Calls PyProof.Rows PyProof.V PySem.Spec
namespace Mine
/-- what a call hands back: the value, and the objects that it leaves, from any caller's frame; r: the room that it wants -/
def Ctr (r : Nat) (w : World) (mean : ExcName → Option Value) (mg mb : PySem.Str → Option Value) (news : List (Addr × Obj)) (c : Sem Value) (R : Value → List (Addr × Obj) → Prop) : Prop :=
  ∀ (dp un : Nat) (gd : Option (List Code)) (cn : PySem.Str) (cs : Scope) (a : Addr) (ccd : Value) (cl : List (PySem.Str × Addr)) (outer : List Env) (A₀ : Around) (base h₀ : Heap) (L : Addr) (m : PySem.Str → Option Value) (s : Shared) (Q E : Value → Shared → Prop),
    Below A₀ base outer h₀ → Fr h₀ L s.heap m → (hd.heap_39 w.params).In h₀ → News h₀ L s.heap news → Top hd.view_39 (looseW hd.view_39 [PySem.Str.ofString "Whitespace"]) mean mg mb h₀ → cs.kind = .function →
    dp + r < recursionLimit → un + 20 * r < cLine →
    (∀ (v : Value) (nx : List (Addr × Obj)) (h' : Heap) (tk' : Nat), R v nx → Fr h₀ L h' m → News h₀ L h' (nx ++ news) → (∀ p ∈ news, ∀ q ∈ nx, @LT.lt Nat _ p.1 q.1) → Q v { s with heap := h', toks := tk' }) →
    wpAny (model PySem.Challenge.rw_ta0018_02.row.prog w) (ktrTop dp un gd cn cs L a ccd cl outer) c Q E s
theorem use_ctr {r : Nat} {w : World} {mean : ExcName → Option Value} {mg mb : PySem.Str → Option Value} {news : List (Addr × Obj)} {c : Sem Value} {R : Value → List (Addr × Obj) → Prop} (C : Ctr r w mean mg mb news c R)
    {A : Around} {dp un : Nat} {gd : Option (List Code)} {cn : PySem.Str} {cs : Scope} {a : Addr} {ccd : Value} {cl : List (PySem.Str × Addr)} {outer : List Env} {A₀ : Around} {base h₀ : Heap} {L : Addr} {m : PySem.Str → Option Value} {s : Shared} {Q E : Value → Shared → Prop}
    (hA : A = ktrTop dp un gd cn cs L a ccd cl outer)
    (h1 : Below A₀ base outer h₀) (h2 : Fr h₀ L s.heap m) (h3 : (hd.heap_39 w.params).In h₀) (h4 : News h₀ L s.heap news) (h5 : Top hd.view_39 (looseW hd.view_39 [PySem.Str.ofString "Whitespace"]) mean mg mb h₀) (h6 : cs.kind = .function)
    (h7 : dp + r < recursionLimit) (h8 : un + 20 * r < cLine)
    (h : ∀ (v : Value) (nx : List (Addr × Obj)) (h' : Heap) (tk' : Nat), R v nx → Fr h₀ L h' m → News h₀ L h' (nx ++ news) → (∀ p ∈ news, ∀ q ∈ nx, @LT.lt Nat _ p.1 q.1) → Q v { s with heap := h', toks := tk' }) :
    wpAny (model PySem.Challenge.rw_ta0018_02.row.prog w) A c Q E s := by
  subst hA
  exact C dp un gd cn cs a ccd cl outer A₀ base h₀ L m s Q E h1 h2 h3 h4 h5 h6 h7 h8 h
theorem use_ctr0 {r : Nat} {w : World} {mean : ExcName → Option Value} {mg mb : PySem.Str → Option Value} {news : List (Addr × Obj)} {c : Sem Value} {X : Value} (C : Ctr r w mean mg mb news c (fun v nx => nx = [] ∧ v = X))
    {A : Around} {dp un : Nat} {gd : Option (List Code)} {cn : PySem.Str} {cs : Scope} {a : Addr} {ccd : Value} {cl : List (PySem.Str × Addr)} {outer : List Env} {A₀ : Around} {base h₀ : Heap} {L : Addr} {m : PySem.Str → Option Value} {s : Shared} {Q E : Value → Shared → Prop}
    (hA : A = ktrTop dp un gd cn cs L a ccd cl outer)
    (h1 : Below A₀ base outer h₀) (h2 : Fr h₀ L s.heap m) (h3 : (hd.heap_39 w.params).In h₀) (h4 : News h₀ L s.heap news) (h5 : Top hd.view_39 (looseW hd.view_39 [PySem.Str.ofString "Whitespace"]) mean mg mb h₀) (h6 : cs.kind = .function)
    (h7 : dp + r < recursionLimit) (h8 : un + 20 * r < cLine)
    (h : ∀ (h' : Heap) (tk' : Nat), Fr h₀ L h' m → News h₀ L h' news → Q X { s with heap := h', toks := tk' }) :
    wpAny (model PySem.Challenge.rw_ta0018_02.row.prog w) A c Q E s := by
  refine use_ctr C hA h1 h2 h3 h4 h5 h6 h7 h8 ?_
  rintro v nx h' tk' ⟨rfl, rfl⟩ F N _
  exact h h' tk' F N
theorem use_ctrT {r : Nat} {w : World} {mean : ExcName → Option Value} {mg mb : PySem.Str → Option Value} {news : List (Addr × Obj)} {c : Sem Value} {X : Tok → Value} (C : Ctr r w mean mg mb news c (fun v nx => nx = [] ∧ ∃ t, v = X t))
    {A : Around} {dp un : Nat} {gd : Option (List Code)} {cn : PySem.Str} {cs : Scope} {a : Addr} {ccd : Value} {cl : List (PySem.Str × Addr)} {outer : List Env} {A₀ : Around} {base h₀ : Heap} {L : Addr} {m : PySem.Str → Option Value} {s : Shared} {Q E : Value → Shared → Prop}
    (hA : A = ktrTop dp un gd cn cs L a ccd cl outer)
    (h1 : Below A₀ base outer h₀) (h2 : Fr h₀ L s.heap m) (h3 : (hd.heap_39 w.params).In h₀) (h4 : News h₀ L s.heap news) (h5 : Top hd.view_39 (looseW hd.view_39 [PySem.Str.ofString "Whitespace"]) mean mg mb h₀) (h6 : cs.kind = .function)
    (h7 : dp + r < recursionLimit) (h8 : un + 20 * r < cLine)
    (h : ∀ (t : Tok) (h' : Heap) (tk' : Nat), Fr h₀ L h' m → News h₀ L h' news → Q (X t) { s with heap := h', toks := tk' }) :
    wpAny (model PySem.Challenge.rw_ta0018_02.row.prog w) A c Q E s := by
  refine use_ctr C hA h1 h2 h3 h4 h5 h6 h7 h8 ?_
  rintro v nx h' tk' ⟨rfl, t, rfl⟩ F N _
  exact h t h' tk' F N
end Mine
end
section
open PySem PySem.W PyProof.Rows
namespace Mine
section
local macro_rules | `(tactic| walk_at "subscriptTail") => `(tactic| (k_here; (with_reducible show wpAny _ _ (subscriptTail _ (Expr.Slice _ _ none _) (Value.bytes _ _) (Value.ref _)) _ _ _); (with_reducible rename Fr _ _ _ _ => F'); (with_reducible rename News _ _ _ _ => N'); (refine my_slice (s := ⟨_, _, _, _, _⟩) F' N' (by constructor) (by constructor) (by first | decide | omega) ?_); intro h' t' k F' N'))
local macro_rules | `(tactic| walk_at "binaryOp Add bytes bytes") => `(tactic| (refine KBy.add_bytes (ip_add (by assumption)) ?_; intro _ _))
set_option maxRecDepth 100000 in
set_option maxHeartbeats 8000000 in
theorem c_int2ap (w : World) (mean : ExcName → Option Value) (mg mb : Str → Option Value) (news : List (Addr × Obj)) (n : Int) (t : Tok) (hn : n.natAbs < 2 ^ 40) :
    Ctr 10 w mean mg mb news (call (.ref 28) [.int n t]) (fun v nx => nx = [] ∧ ∃ t, v = .bytes (apL n.natAbs).toArray t) := by
  unfold Ctr
  k_fill
  intros; rename_i hret
  refine wpAny_call ?_
  k_dflt cell_enter
  k_with "exec While Name cons nil" => k_while (fun (_ : List Int) num val => IpI n num val) (fun (_ : List Int) num _ => num.toNat) "num" "val"
  k_with "state" => first | exact ip_start (by assumption) | exact ip_turn (by assumption) (by assumption)
  k_with "measure" => exact ip_less (And.left (And.right (by assumption))) (by assumption)
  k_steps
  all_goals ((have e := ip_end (by assumption) (by assumption)); subst e; exact hret _ [] _ _ ⟨rfl, _, rfl⟩ (by k_asm) (by k_asm) (by intro _ _ _ hq; cases hq))
end
set_option maxRecDepth 100000 in
set_option maxHeartbeats 8000000 in
theorem c_isterm (w : World) (mean : ExcName → Option Value) (mg mb : Str → Option Value) (news : List (Addr × Obj)) (n : Int) (t : Tok) :
    Ctr 10 w mean mg mb news (call (.ref 101) [.int n t]) (fun v nx => nx = [] ∧ v = .bool (decide (n < 256))) := by
  unfold Ctr
  k_fill
  intros; rename_i hret
  refine wpAny_call ?_
  k_dflt cell_enter
  k_steps
  all_goals exact hret _ [] _ _ ⟨rfl, rfl⟩ (by k_asm) (by k_asm) (by intro _ _ _ hq; cases hq)
set_option maxRecDepth 100000 in
set_option maxHeartbeats 8000000 in
theorem c_isnonterm (w : World) (mean : ExcName → Option Value) (mg mb : Str → Option Value) (news : List (Addr × Obj)) (n : Int) (t : Tok) :
    Ctr 10 w mean mg mb news (call (.ref 108) [.int n t]) (fun v nx => nx = [] ∧ v = .bool (decide (256 ≤ n))) := by
  unfold Ctr
  k_fill
  intros; rename_i hret
  refine wpAny_call ?_
  k_dflt cell_enter
  k_steps
  all_goals exact hret _ [] _ _ ⟨rfl, rfl⟩ (by k_asm) (by k_asm) (by intro _ _ _ hq; cases hq)
set_option maxRecDepth 100000 in
set_option maxHeartbeats 8000000 in
theorem c_iseof (w : World) (mean : ExcName → Option Value) (mg mb : Str → Option Value) (news : List (Addr × Obj)) (n : Int) (t : Tok) :
    Ctr 10 w mean mg mb news (call (.ref 115) [.int n t]) (fun v nx => nx = [] ∧ v = .bool (decide (n = 0))) := by
  unfold Ctr
  k_fill
  intros; rename_i hret
  refine wpAny_call ?_
  k_dflt cell_enter
  k_steps
  all_goals exact hret _ [] _ _ ⟨rfl, rfl⟩ (by k_asm) (by k_asm) (by intro _ _ _ hq; cases hq)
end Mine
end
section
open PySem PySem.W PyProof.Rows
namespace Mine
local macro_rules | `(tactic| k_all) => `(tactic| exact all_append (by assumption) (OwnOff.ne (by assumption) (by k_memK)))
local macro_rules | `(tactic| walk_at "call type:tuple") => `(tactic| (k_here; (with_reducible show wpAny _ _ (call (Value.type _) [Value.ref _]) _ _ _); k_dflt (refine' kde_tupleOf ?k1 ?k2 ?k3 ?k4 ?k5 ?_; (case k1 => k_asm); (case k2 => k_asm); (case k3 => exact News.isList (by k_asm) (by k_mem)); (case k4 => (simp only [List.size_toArray]; omega)); (case k5 => exact rfl); k_whole); intro D' h' F' N' l1; (try k_lt l1); (try k_sweep)))
set_option maxRecDepth 100000 in
set_option maxHeartbeats 8000000 in
theorem c_ws (w : World) (mean : ExcName → Option Value) (mg mb : Str → Option Value) (news : List (Addr × Obj)) (x : Str) (t : Tok) (hx : ∀ c ∈ x.cps.toList, c = 32 ∨ c = 9) (hlen : x.cps.toList.length ≤ 1000) :
    Ctr 10 w mean mg mb news (call (.ref 90) [.str x t]) (fun v nx => ∃ xa, v = .ref xa ∧ WsObjs w 90 x xa nx) := by
  unfold Ctr
  k_fill
  intros; rename_i hret
  k_dflt (refine' call_cls ?k1 ?k2 ?k3 ?k4 ?k5 ?k6 ?_; (case k1 => k_asm); (case k2 => k_asm); (case k3 => k_asm); (case k4 => k_is); (case k5 => k_is); (case k6 => k_is); k_whole; intro x' d' h' F' N' l1 l2; (try k_lt l1); (try k_lt2 l2); (try k_sweep))
  k_dflt cell_enter
  repeat' ((fail_if_success (with_reducible show wpAny _ _ (pyIter _) _ _ _)); (first | (k_unfold; (try dsimp only)) | (k_end; wrow_close) | walk1 | (dsimp only; walk1) | (leave1; walk_say "STEP leave1"; try dsimp only) | fail "no step"))
  (with_reducible rename Fr _ _ _ _ => lF')
  (with_reducible rename News _ _ _ _ => lN')
  with_unfolding_all refine' ws_loop (by exact rfl) lF' lN' (lt_of_allLt (by assumption)) ?kk ?_ ?_
  case kk => kst_all
  all_goals (try clear lF' lN')
  · intro pre n post tn l vs k cnt b₀ n₀ nt₀ tb tn₁ tt u h tk own hpre hst hI hlt hoff F₁ N₁
    have hsz := ws_bound pre
    have hl9 : pre.length < 1000 := by rw [hpre, List.length_append, List.length_cons] at hlen; omega
    have hlenI := hI.length
    rw [hst] at hsz
    dsimp only at hsz F₁
    simp only [wsNames, kstB, List.contains_nil, Bool.false_eq_true, if_false] at F₁
    have hrest : ∀ p ∈ news, p.1 ≠ l := fun p hp => Nat.ne_of_lt (hlt p (by simp [hp]))
    have hlt1 := allLt_of hlt
    simp only [AllLt] at hlt1
    simp only [List.map_cons] at hoff
    rcases hx n (by rw [hpre]; simp) with rfl | rfl
    · k_steps
      dsimp only [MyPost]
      refine' ws_end cnt (b₀ + 1) (n₀ + 1) nt₀ hst rfl (by k_asm) (by k_asm) ?hl ?hr ?ho ?hlt ?h4 ?h5 ?hI ?e1 ?e2 ?e3
      case hl => k_mem
      case h4 => (dsimp only [wsNames]; refine List.forall_mem_cons.mpr ⟨by with_unfolding_all rfl, ?_⟩; refine List.forall_mem_cons.mpr ⟨by with_unfolding_all rfl, ?_⟩; refine List.forall_mem_cons.mpr ⟨by with_unfolding_all rfl, ?_⟩; refine List.forall_mem_cons.mpr ⟨by with_unfolding_all rfl, ?_⟩; exact List.forall_mem_nil _)
      case h5 => (dsimp only [wsNames]; kst_same)
      case hlt => exact hlt
      case hI => exact hI
      case e1 => omega
      case e2 => omega
      case e3 => omega
      case hr => intro p hp; simp only [List.mem_cons, List.mem_append] at hp ⊢; simp only [hp, true_or, or_true]
      case ho => intro p hp; simp only [List.mem_cons, List.mem_append]; simp only [hp, or_true]
    · k_steps
      all_goals dsimp only [MyPost]
      · refine' ws_end (wsPut cnt b₀) 0 (n₀ + 1) (nt₀ + 1) hst rfl (by k_asm) (by k_asm) ?hl ?hr ?ho ?hlt ?h4 ?h5 ?hI ?e1 ?e2 ?e3
        case hl => k_mem
        case h4 => (dsimp only [wsNames]; refine List.forall_mem_cons.mpr ⟨by with_unfolding_all rfl, ?_⟩; refine List.forall_mem_cons.mpr ⟨by with_unfolding_all rfl, ?_⟩; refine List.forall_mem_cons.mpr ⟨by with_unfolding_all rfl, ?_⟩; refine List.forall_mem_cons.mpr ⟨by with_unfolding_all rfl, ?_⟩; exact List.forall_mem_nil _)
        case h5 => (dsimp only [wsNames]; kst_same)
        case hlt => exact fun p hp => lt_of_allLt (And.right (And.right (And.right (by assumption)))) p (List.mem_append.mpr (.inl hp))
        case hI => rw [← wsPut_a (by omega)]; assumption
        case e1 => rfl
        case e2 => omega
        case e3 => omega
        case hr => intro p hp; simp only [List.mem_cons, List.mem_append] at hp ⊢; simp only [hp, true_or, or_true]
        case ho => intro p hp; simp only [List.mem_cons, List.mem_append]; simp only [hp, or_true]
      · refine' ws_end (wsPut cnt b₀) 0 (n₀ + 1) (nt₀ + 1) hst rfl (by k_asm) (by k_asm) ?hl ?hr ?ho ?hlt ?h4 ?h5 ?hI ?e1 ?e2 ?e3
        case hl => k_mem
        case h4 => (dsimp only [wsNames]; refine List.forall_mem_cons.mpr ⟨by with_unfolding_all rfl, ?_⟩; refine List.forall_mem_cons.mpr ⟨by with_unfolding_all rfl, ?_⟩; refine List.forall_mem_cons.mpr ⟨by with_unfolding_all rfl, ?_⟩; refine List.forall_mem_cons.mpr ⟨by with_unfolding_all rfl, ?_⟩; exact List.forall_mem_nil _)
        case h5 => (dsimp only [wsNames]; kst_same)
        case hlt => exact hlt
        case hI => rw [← wsPut_b (by omega)]; assumption
        case e1 => rfl
        case e2 => omega
        case e3 => omega
        case hr => intro p hp; simp only [List.mem_cons, List.mem_append] at hp ⊢; simp only [hp, true_or, or_true]
        case ho => intro p hp; simp only [List.mem_cons, List.mem_append]; simp only [hp, or_true]
  · intro l vs k cnt b₀ n₀ nt₀ tb tn₁ tt u h tk hst hI hlt F₁ N₁
    have hsz := ws_bound x.cps.toList
    have hlenI := hI.length
    rw [hst] at hsz
    dsimp only at hsz F₁
    simp only [wsNames, kstB, List.contains_nil, Bool.false_eq_true, if_false] at F₁
    have hrest : ∀ p ∈ news, p.1 ≠ l := fun p hp => Nat.ne_of_lt (hlt p (by simp [hp]))
    have hlt1 := allLt_of hlt
    simp only [AllLt] at hlt1
    k_steps
    (rename News _ _ _ _ => kN9)
    refine' hret _ [(_, _), (_, _), (_, _), (_, _)] _ _ ⟨_, rfl, _, _, _, vs, cnt, b₀, n₀, nt₀, _, _, _, _, _, _, _, _, _, _, rfl, hI, hst⟩ (by k_asm) (news_of kN9 ?hm) ?hl
    case hm => exact List.forall_mem_cons.mpr ⟨by k_mem, List.forall_mem_cons.mpr ⟨by k_mem, List.forall_mem_cons.mpr ⟨by k_mem, List.forall_mem_cons.mpr ⟨by k_mem, fun p hp => .tail _ (.tail _ (.tail _ (.tail _ (.tail _ (.tail _ hp)))))⟩⟩⟩⟩
    case hl =>
      intro p hp
      have h9 : @LT.lt Nat _ p.1 d' := by apply_assumption; exact hp
      simp only [List.mem_cons, List.not_mem_nil, or_false]
      rintro q (rfl | rfl | rfl | rfl) <;> (refine ltN ?_; dsimp only; omega)
end Mine
end
section
open PySem PySem.W PyProof.Rows
namespace Mine
local macro_rules | `(tactic| walk_at "call builtin:len") => `(tactic| (k_here; (with_reducible show wpAny _ _ (call (Value.builtin "len") [Value.ref _]) _ _ _); (with_unfolding_all refine tup_len (by k_asm) (by k_mem) (by assumption) (by omega) ?_)))
local macro_rules | `(tactic| walk_at "subscriptTail") => `(tactic| (k_here; (with_reducible show wpAny _ _ (subscriptTail _ _ (Value.ref _) (Value.int _ _)) _ _ _); (with_unfolding_all refine tup_item (by k_asm) (by k_mem) (by assumption) (by omega) (by omega) (by omega) ?_); intro _))
local macro_rules | `(tactic| walk_at "binaryOp Mult int int") => `(tactic| first | refine P.mul_int ?_ (PySem.IntMulOk.of_left (bits_fdiv (by omega) (by omega) (by omega))) | refine P.mul_int ?_ (PySem.IntMulOk.of_left (intBits_le_64 (by omega) (by omega))))
set_option maxRecDepth 100000 in
set_option maxHeartbeats 8000000 in
theorem c_indent (w : World) (mean : ExcName → Option Value) (mg mb : Str → Option Value) (news nw : List (Addr × Obj)) (x : Str) (xa : Addr) (ts : Int) (t : Tok) (hW : WsObjs w 90 x xa nw) (hs : ∀ p ∈ nw, p ∈ news)
    (h1 : 1 ≤ ts) (h2 : ts ≤ 16) (hlen : x.cps.toList.length ≤ 1000) :
    Ctr 10 w mean mg mb news (call (.ref 59) [.ref xa, .int ts t]) (fun v nx => nx = [] ∧ ∃ t, v = .int (wsLevel x.cps.toList ts) t) := by
  unfold Ctr
  k_fill
  intros; rename_i hret
  obtain ⟨dx, nm, ct, vs, cnt, b, n, nt, v₁, v₅, t₁, t₂, t₃, t₄, t₅, tb, tn, tt, rfl, hI, hst⟩ := hW
  have hsz := ws_bound x.cps.toList
  have hlenI := hI.length
  rw [hst] at hsz
  dsimp only at hsz
  have hm1 := hs _ (.head _)
  have hm2 := hs _ (.tail _ (.head _))
  have hm3 := hs _ (.tail _ (.tail _ (.head _)))
  have hm4 := hs _ (.tail _ (.tail _ (.tail _ (.head _))))
  clear hs
  refine wpAny_call ?_
  k_dflt cell_enter
  k_with "pyIter ref" => k_state (fun pre il => il = ilOf cnt ts pre) "il"
  k_with "state" => first | exact rfl | exact il_turn (by assumption)
  k_steps
  all_goals (rw [wsLevel_of hst (by assumption)]; exact hret _ [] _ _ ⟨rfl, _, rfl⟩ (by k_asm) (by k_asm) (by intro _ _ _ hq; cases hq))
end Mine
end
section
open PySem PySem.W PyProof.Rows PyProof.Rows.LCg
namespace Mine
def WorthsAre (wd d : Nat) (v : Value) (nx : List (Addr × Obj)) : Prop := ∃ (l : Addr) (rows : List (Addr × Obj)) (k : Nat), v = .ref l ∧ nx = (l, W.listOf (rows.map fun p => Value.ref p.1).toArray k) :: rows ∧ Mat cake wd d rows
local macro_rules | `(tactic| walk_at "eval ListComp") => `(tactic| (k_here; k_dflt (refine cn_eval_range (F₀ := by k_asm) (by with_unfolding_all rfl) (by decide) (by rfl) (by decide) (by rfl) ?_)))
local macro_rules | `(tactic| walk_at "CompEnd") => `(tactic| (k_dflt (refine ce_any (by k_asm) (by assumption) (List.forall_mem_cons.mpr ⟨by k_mem, List.forall_mem_cons.mpr ⟨by k_mem, List.forall_mem_cons.mpr ⟨by k_mem, List.forall_mem_nil _⟩⟩⟩) ?_)))
local macro_rules | `(tactic| walk_at "exec For Name Call cons nil") => `(tactic| (k_here; (with_reducible rename Fr _ _ _ _ => lF'); (with_unfolding_all refine' For_invTF lF' ?_ ?hs; (case hs => (intro _; rfl)); k_whole)))
local macro_rules | `(tactic| k_all) => `(tactic| with_reducible assumption)
local macro_rules | `(tactic| k_mem) => `(tactic| exact List.mem_append_left _ (by with_reducible assumption))
local macro_rules | `(tactic| walk_at "binaryOp FloorDiv int int") => `(tactic| (k_here; (refine nat_div 2 rfl (by decide) (by decide) ?_); intro _ _))
local macro_rules | `(tactic| walk_at "mine ix") => `(tactic| ((case k4 => (first | exact Int.natCast_nonneg _ | exact HalfIx.p0 (by with_reducible assumption) | exact HalfIx.q0 (by with_reducible assumption))); (case k5 => (first | exact cast_le (by with_reducible assumption) | exact HalfIx.p1 (by with_reducible assumption) | exact HalfIx.q1 (by with_reducible assumption))); (case k6 => exact le100 (by with_reducible assumption))))
local macro_rules | `(tactic| walk_at "mine item") => `(tactic| (k_here; (with_reducible show wpAny _ _ (subscriptTail _ _ (Value.ref (Prod.fst _)) (Value.int _ _)) _ _ _); (with_reducible rename News _ _ _ _ => nF'); (k_dflt (refine' mat_itemI ?k1 ?k2 nF' ?k3 ?k4 ?k5 ?k6 ?_ ?k7)); (case k1 => with_reducible assumption); (case k2 => with_reducible assumption); (case k3 => (intro p hp; k_dflt k_mem)); walk_at "mine ix"; (case k7 => with_unfolding_all rfl); intro _))
local macro_rules | `(tactic| walk_at "mine row") => `(tactic| (k_here; (with_reducible show wpAny _ _ (subscriptTail _ _ (Value.ref _) (Value.int _ _)) _ _ _); (with_reducible rename News _ _ _ _ => nF'); (k_dflt (refine' mat_rowI ?k1 ?k2 nF' ?k3 ?k4 ?k5 ?k6 ?_ ?k7)); (case k1 => with_reducible assumption); (case k2 => with_reducible assumption); (case k3 => k_dflt k_mem); walk_at "mine ix"; (case k7 => with_unfolding_all rfl); intro _ _))
local macro_rules | `(tactic| walk_at "subscriptTail Subscript Name Name Name ref int") => `(tactic| walk_at "mine item")
local macro_rules | `(tactic| walk_at "subscriptTail Subscript Name BinOp Name ref int") => `(tactic| walk_at "mine item")
local macro_rules | `(tactic| walk_at "subscriptTail Subscript Name Name BinOp ref int") => `(tactic| walk_at "mine item")
local macro_rules | `(tactic| walk_at "subscriptTail Name Name ref int") => `(tactic| walk_at "mine row")
local macro_rules | `(tactic| walk_at "subscriptTail Name BinOp ref int") => `(tactic| walk_at "mine row")
local macro_rules | `(tactic| walk_at "setItem ref int") => `(tactic| (k_here; (with_reducible show wpAny _ _ (PySem.setItem (Value.ref (Prod.fst _)) (Value.int _ _) (Value.int _ _)) _ _ _); (k_dflt (refine' mat_setI ?k1 ?k2 ?k3 ?k4 ?k5 ?k6 ?k7 ?k8 ?_; (case k1 => with_reducible assumption); (case k2 => with_reducible assumption); (case k3 => k_asm); (case k4 => k_asm); (case k5 => (intro p hp; k_mem)); (case k6 => exact Int.natCast_nonneg _); (case k7 => exact cast_le (by with_reducible assumption)); (case k8 => exact le100 (by with_reducible assumption)))); intro h' o' M' F' N' b'))
set_option maxRecDepth 100000 in
set_option maxHeartbeats 8000000 in
theorem c_worths (w : World) (mean : ExcName → Option Value) (mg mb : Str → Option Value) (news : List (Addr × Obj)) (wd d : Nat) (tw td : Tok) (w1 : 1 ≤ wd) (w8 : wd ≤ 8) (d1 : 1 ≤ d) (d8 : d ≤ 8) :
    Ctr 20 w mean mg mb news (call (.ref 120) [.int (wd : Int) tw, .int (d : Int) td]) (WorthsAre wd d) := by
  unfold Ctr
  k_fill
  intros; rename_i hret
  refine wpAny_call ?_
  k_dflt (refine' code_defC ?k1 ?k2 ?k3 ?k4 ?k5 ?kA ?kF ?kK ?k6 ?k7 ?k8 ?k9 ?kB ?kD ?_ ?c2 ?c3 ?c4; (case kA => exact rfl); (case kF => exact rfl); (case kK => assumption); (case k1 => k_asm); (case k2 => k_asm); (case k3 => k_asm); (case k4 => k_asm); (case k5 => k_asm); (case k6 => k_is); (case k7 => k_is); (case k8 => ktr_room); (case k9 => exact BindsTo.of_eq rfl); (case kB => exact rfl); (case kD => decide +kernel); (case c2 => exact rfl); (case c3 => exact rfl); (case c4 => exact rfl); k_whole; intro g' L' h' tk' cells' FG' F' N' Y' B' X' T' l1; (try k_lt l1); k_cells Y'; (try simp only [List.cons_append, List.nil_append] at N'); (try dsimp only); (try k_lift B'); (try k_fold))
  rename_i ob ow oa od hb hw ha hd
  replace hb : ob.data = .cell none := by with_unfolding_all exact hb
  replace hw : ow.data = .cell none := by with_unfolding_all exact hw
  replace ha : oa.data = .cell none := by with_unfolding_all exact ha
  replace hd : od.data = .cell (some (.int (d : Int) td)) := by with_unfolding_all exact hd
  replace F' : Fr g' L' h' (fun y => if y = PySem.Str.ofString "width" then some (Value.int (wd : Int) tw) else none) := by with_unfolding_all exact F'
  repeat' ((fail_if_success (with_reducible show Exists _)); (first | (k_unfold; (try dsimp only)) | (k_end; wrow_close) | walk1 | (dsimp only; walk1) | (leave1; walk_say "STEP leave1"; try dsimp only) | fail "no step"))
  refine ⟨_, _, _, _, _, _, _, wd + 1, _, RowJ d _, rfl, by exact rfl, by k_asm, by k_asm, by assumption, small_up0 w8, rangeSize_nat _ _, le_size1 w8, row_start, ?_, ?_⟩
  · rintro i v ys nx hi ⟨t, rfl⟩ hyl hJ
    intro I' oI' C' oC' D' m' h' tk' E' hC' hx' F' N' off' ne'
    have hN := hJ.1
    replace N' := news_of N' (List.forall_mem_cons.mpr ⟨.head _, List.forall_mem_cons.mpr ⟨.tail _ (.head _), List.forall_mem_cons.mpr ⟨.tail _ (.tail _ (.head _)), List.forall_mem_cons.mpr ⟨.tail _ (.tail _ (.tail _ (hN (L' + 1, od) (by k_mem)))), fun p hp => .tail _ (.tail _ (.tail _ hp))⟩⟩⟩⟩)
    k_steps
    rename_i l9
    (rename IntsAre _ _ => hI9)
    refine row_next (oI := oI') (oC := oC') (oD := lst ys) hJ off' (by rw [flat_rep] at hI9; exact hI9) (List.Mem.head _) (fun p hp => .tail _ (.tail _ (.tail _ (.tail _ (.tail _ (.tail _ hp)))))) (List.forall_mem_cons.mpr ⟨l9.2.1, List.forall_mem_cons.mpr ⟨l9.2.2.1, List.forall_mem_cons.mpr ⟨l9.2.2.2.1, lt_of_allLt l9.2.2.2.2.2⟩⟩⟩)
  · intro D h tk ys nx hJ hyl F' N' hD' hlD
    obtain ⟨hled, rows, hrows, hys, hrl, hR⟩ := hJ
    have hr4 : ∀ p ∈ rows, @LT.lt Nat _ (L' + 4) p.1 := fun p hp => hR.lt p hp _ (List.Mem.head _)
    have hrD : ∀ p ∈ rows, @Ne Nat p.1 D := fun p hp => hD' p (hrows p hp)
    have e1 : @Ne Nat D (L' + 1) := Ne.symm (hD' (L' + 1, od) (hled _ (by k_mem)))
    have e2 : @Ne Nat D (L' + 1 + 1) := Ne.symm (hD' (L' + 1 + 1, oa) (hled _ (by k_mem)))
    have e3 : @Ne Nat D (L' + 1 + 1 + 1) := Ne.symm (hD' (L' + 1 + 1 + 1, ow) (hled _ (by k_mem)))
    have e4 : @Ne Nat D (L' + 1 + 1 + 1 + 1) := Ne.symm (hD' (L' + 1 + 1 + 1 + 1, ob) (hled _ (by k_mem)))
    replace N' := news_of (b := (L' + 1 + 1 + 1 + 1, ob) :: (L' + 1 + 1 + 1, ow) :: (L' + 1 + 1, oa) :: (L' + 1, od) :: (D, W.listOf ys.toArray ys.length) :: (rows ++ news)) N' (List.forall_mem_cons.mpr ⟨.tail _ (hled _ (by k_mem)), List.forall_mem_cons.mpr ⟨.tail _ (hled _ (by k_mem)), List.forall_mem_cons.mpr ⟨.tail _ (hled _ (by k_mem)), List.forall_mem_cons.mpr ⟨.tail _ (hled _ (by k_mem)), List.forall_mem_cons.mpr ⟨.head _, fun p hp => .tail _ ((List.mem_append.mp hp).elim (hrows p) fun h => hled p (.tail _ (.tail _ (.tail _ (.tail _ h)))))⟩⟩⟩⟩⟩)
    have hs3 : ∀ p ∈ rows ++ news, p.1 ≠ L' + 1 + 1 + 1 := sep_cells hr4 (fun p hp => Nat.ne_of_lt (Nat.lt_trans (l1 p hp) (by omega))) (by omega)
    have hM := hR.mat hrl
    have hnD : ∀ p ∈ news, @LT.lt Nat _ p.1 D := fun p hp => hlD p (.tail _ (.tail _ (.tail _ (.tail _ hp))))
    clear hD' hled hrows hR hlD
    repeat' ((fail_if_success (with_reducible show wpAny _ _ (pyIter _) _ _ _)); (first | (k_unfold; (try dsimp only)) | (k_end; wrow_close) | walk1 | (dsimp only; walk1) | (leave1; walk_say "STEP leave1"; try dsimp only) | fail "no step"))
    rename_i h8 ow' F8 N8 hw' h9 tk9 t9 u9 v9 hrg F9 N9 hk9
    clear F8 N8 hk9
    with_unfolding_all refine' my_rangeT (n := wd) (fun c : WoA => (L' + 1 + 1, c.oa) :: (L' + 1 + 1 + 1 + 1, c.ob) :: c.rows) ((L' + 1 + 1 + 1, ow') :: (L' + 1, od) :: (D, W.listOf ys.toArray ys.length) :: news) (fun _ => []) woS (fun i c => (∃ v, c.oa.data = .cell v) ∧ (∃ v, c.ob.data = .cell v) ∧ WoJ L' D wd d ys (i + 1) 0 c.rows) ⟨oa, ob, rows⟩ (by exact rfl) hrg ?hsm ?hn F9 ?hN (List.forall_mem_nil _) ?hj ?_ ?_
    case hsm => exact small_up w8
    case hn => exact size_up _
    case hN => exact news_of N9 (by intro p hp; simp only [List.mem_cons, List.mem_append] at hp ⊢; grind)
    case hj => exact ⟨⟨_, ha⟩, ⟨_, hb⟩, hM, hys.symm, hr4, hrD⟩
    all_goals clear F9 N9 hrg
    · rintro i t ⟨oa₁, ob₁, rows₁⟩ u s₁ h tk own hi ⟨⟨va, ha₁⟩, ⟨vb, hb₁⟩, hM₁, hrefs₁, hr4₁, hrD₁⟩ hoff hob F₁ N₁
      dsimp only at ha₁ hb₁ hM₁ hrefs₁ hr4₁ hrD₁ N₁
      clear hoff
      simp only [kstB] at F₁
      obtain ⟨a, ha9, hae⟩ : ∃ a : Nat, (1 + (i : Int)) = (a : Int) ∧ a = i + 1 := ⟨i + 1, by omega, rfl⟩
      rw [ha9]
      rw [← hae] at hM₁
      have hso : ∀ p ∈ own, p.1 ≠ L' + 1 + 1 := sep_own N₁ (fun p hp => by simp only [List.mem_cons, List.mem_append]; simp only [hp, or_true]) hob (by simp) ha₁
      replace N₁ := news_of (b := (L' + 1 + 1, oa₁) :: (L' + 1 + 1 + 1 + 1, ob₁) :: (L' + 1 + 1 + 1, ow') :: (L' + 1, od) :: (D, W.listOf ys.toArray ys.length) :: (rows₁ ++ (news ++ own))) N₁ (by intro p hp; simp only [List.mem_cons, List.mem_append] at hp ⊢; grind)
      have hs2 : ∀ p ∈ rows₁ ++ (news ++ own), p.1 ≠ L' + 1 + 1 := sep_cells hr4₁ (all_append (fun p hp => Nat.ne_of_lt (Nat.lt_trans (l1 p hp) (by omega))) hso) (by omega)
      repeat' ((fail_if_success (with_reducible show wpAny _ _ (pyIter _) _ _ _)); (first | (k_unfold; (try dsimp only)) | (k_end; wrow_close) | walk1 | (dsimp only; walk1) | (leave1; walk_say "STEP leave1"; try dsimp only) | fail "no step"))
      rename_i h8 oa' F8 N8 ha' h9 tk9 t9 u9 v9 hrg F9 N9 hk9
      clear F8 N8 hk9
      with_unfolding_all refine' my_rangeT (n := d) (fun c : WoB => (L' + 1 + 1 + 1 + 1, c.ob) :: c.rows) ((L' + 1 + 1, oa') :: (L' + 1 + 1 + 1, ow') :: (L' + 1, od) :: (D, W.listOf ys.toArray ys.length) :: (news ++ own)) (fun _ => []) woS (fun j c => (∃ v, c.ob.data = .cell v) ∧ WoJ L' D wd d ys a (j + 1) c.rows) ⟨ob₁, rows₁⟩ (by exact rfl) hrg ?hsm ?hn F9 ?hN (List.forall_mem_nil _) ?hj ?_ ?_
      case hsm => exact small_up d8
      case hn => exact size_up _
      case hN => exact news_of N9 (by intro p hp; simp only [List.mem_cons, List.mem_append] at hp ⊢; grind)
      case hj => exact ⟨⟨_, hb₁⟩, gr_in hM₁ d8, hrefs₁, hr4₁, hrD₁⟩
      all_goals clear F9 N9 hrg
      · rintro j t₂ ⟨ob₂, rows₂⟩ u₂ s₂ h tk own₂ hj ⟨⟨vb, hb₂⟩, hM₂, hrefs₂, hr4₂, hrD₂⟩ hoff hob₂ F₂ N₂
        dsimp only at hb₂ hM₂ hrefs₂ hr4₂ hrD₂ N₂
        clear hoff
        simp only [kstB] at F₂
        obtain ⟨b, hb9, hbe⟩ : ∃ b : Nat, (1 + (j : Int)) = (b : Int) ∧ b = j + 1 := ⟨j + 1, by omega, rfl⟩
        rw [hb9]
        rw [← hbe] at hM₂
        have a1 : 1 ≤ a := hae ▸ Nat.le_add_left 1 i
        have aw : a ≤ wd := hae ▸ hi
        have a8 : a ≤ 8 := Nat.le_trans aw w8
        have b1 : 1 ≤ b := hbe ▸ Nat.le_add_left 1 j
        have bd : b ≤ d := hbe ▸ hj
        have b8 : b ≤ 8 := Nat.le_trans bd d8
        have hso1 : ∀ p ∈ own, p.1 ≠ L' + 1 + 1 + 1 + 1 := sep_own N₂ (fun p hp => by simp only [List.mem_cons, List.mem_append]; simp only [hp, or_true, true_or]) hob (by simp) hb₂
        have hso2 : ∀ p ∈ own₂, p.1 ≠ L' + 1 + 1 + 1 + 1 := sep_own N₂ (fun p hp => by simp only [List.mem_cons, List.mem_append]; simp only [hp, or_true]) hob₂ (by simp) hb₂
        replace N₂ := news_of (b := (L' + 1 + 1 + 1 + 1, ob₂) :: (L' + 1 + 1, oa') :: (L' + 1 + 1 + 1, ow') :: (L' + 1, od) :: (D, W.listOf ys.toArray ys.length) :: (rows₂ ++ (news ++ (own ++ own₂)))) N₂ (by intro p hp; simp only [List.mem_cons, List.mem_append] at hp ⊢; grind)
        have hs4 : ∀ p ∈ rows₂ ++ (news ++ (own ++ own₂)), p.1 ≠ L' + 1 + 1 + 1 + 1 := sep_cells hr4₂ (all_append (fun p hp => Nat.ne_of_lt (Nat.lt_trans (l1 p hp) (by omega))) (all_append hso1 hso2)) (by omega)
        have hrr : ∀ q ∈ rows₂, @Ne Nat (L' + 1 + 1 + 1 + 1) q.1 ∧ (∀ p ∈ (L' + 1 + 1, oa') :: (L' + 1 + 1 + 1, ow') :: (L' + 1, od) :: (D, W.listOf ys.toArray ys.length) :: (news ++ own), p.1 ≠ q.1) ∧ ∀ p ∈ own₂, p.1 ≠ q.1 := by
          intro q hq
          have hq4 := hr4₂ q hq
          have hqm : q ∈ (L' + 1 + 1 + 1 + 1, ob₂) :: (L' + 1 + 1, oa') :: (L' + 1 + 1 + 1, ow') :: (L' + 1, od) :: (D, W.listOf ys.toArray ys.length) :: (rows₂ ++ (news ++ (own ++ own₂))) := by simp only [List.mem_cons, List.mem_append]; simp only [hq, true_or, or_true]
          have hqf := hM₂.fine q hq
          refine ⟨Nat.ne_of_lt hq4, List.forall_mem_cons.mpr ⟨Nat.ne_of_lt (Nat.lt_trans (by omega : @LT.lt Nat _ (L' + 1 + 1) (L' + 4)) hq4), List.forall_mem_cons.mpr ⟨Nat.ne_of_lt (Nat.lt_trans (by omega : @LT.lt Nat _ (L' + 1 + 1 + 1) (L' + 4)) hq4), List.forall_mem_cons.mpr ⟨Nat.ne_of_lt (Nat.lt_trans (by omega : @LT.lt Nat _ (L' + 1) (L' + 4)) hq4), List.forall_mem_cons.mpr ⟨Ne.symm (hrD₂ q hq), all_append (fun p hp => Nat.ne_of_lt (Nat.lt_trans (l1 p hp) (Nat.lt_trans (by omega : @LT.lt Nat _ (L') (L' + 4)) hq4))) fun p hp => sep_bad N₂ (by simp only [List.mem_cons, List.mem_append]; simp only [hp, true_or, or_true]) hqm (hob p hp) hqf⟩⟩⟩⟩, fun p hp => sep_bad N₂ (by simp only [List.mem_cons, List.mem_append]; simp only [hp, true_or, or_true]) hqm (hob₂ p hp) hqf⟩
        repeat' ((fail_if_success (with_reducible show Exists _)); (first | (k_unfold; (try dsimp only)) | (k_end; wrow_close) | walk1 | (dsimp only; walk1) | (leave1; walk_say "STEP leave1"; try dsimp only) | fail "no step"))
        refine ⟨_, _, _, _, _, _, _, a / 2, _, ListJ _ (fun k => cake (1 + k) b + cake (a - (1 + k)) b), rfl, by exact rfl, by k_asm, by k_asm, by assumption, small_up (half8 a8), size_up _, le_size (half8 a8), list_start, ?_, ?_⟩
        · rintro k v zs nx hk ⟨t₃, rfl⟩ hyl hJ
          intro I' oI' C' oC' D' m' h' tk' E' hC' hx' F' N' off' ne'
          have hix := half_ix aw hk
          replace N' := news_led3 N' hJ.1
          k_steps
          exact list_next hJ off' (fun p hp => .tail _ (.tail _ (.tail _ hp))) (low_val hk)
        · intro D₃ h tk zs nx hJ hyl F' N' hD' hlD₃
          obtain ⟨hled, hI₃⟩ := hJ
          replace N' := news_led N' hled
          clear hD' hled hlD₃
          repeat' ((fail_if_success (with_reducible show wpAny _ _ (binaryOp _ (.ref _) (.ref _)) _ _ _)); (first | (k_unfold; (try dsimp only)) | (k_end; wrow_close) | walk1 | (dsimp only; walk1) | (leave1; walk_say "STEP leave1"; try dsimp only) | fail "no step"))
          k_dflt (refine' kmk_add_ints ?wp1 ?wp2 ?wp3 ?wp4 ?wp5 ?wp6 ?_ ?wp7)
          case wp1 => k_asm
          case wp2 => k_asm
          case wp3 => kmk_list
          case wp4 => kmk_list
          case wp5 => l_ints
          case wp6 => assumption
          case wp7 => (rw [sizeLine_eq]; simp only [List.length_map, List.length_range, List.length_cons, List.length_nil]; omega)
          intro D' ws' h' F' N' l9 hI'
          (try k_lt l9)
          (try k_sweep)
          repeat' ((fail_if_success (with_reducible show wpAny _ _ (call (.builtin "max") _) _ _ _)); (first | (k_unfold; (try dsimp only)) | (k_end; wrow_close) | walk1 | (dsimp only; walk1) | (leave1; walk_say "STEP leave1"; try dsimp only) | fail "no step"))
          (k_dflt (refine max_list_N (by exact rfl) (by k_asm) (by k_asm) (News.isList (by k_asm) (by k_mem)) (by with_reducible assumption) (by simp only [List.length_append, List.length_singleton]; omega) ?_))
          intro h' M' t' k' F' N' hlo1 hlo2
          (try k_sweep)
          repeat' ((fail_if_success (with_reducible show Exists _)); (first | (k_unfold; (try dsimp only)) | (k_end; wrow_close) | walk1 | (dsimp only; walk1) | (leave1; walk_say "STEP leave1"; try dsimp only) | fail "no step"))
          refine ⟨_, _, _, _, _, _, _, b / 2, _, ListJ _ (fun k => cake a (1 + k) + cake a (b - (1 + k))), rfl, by exact rfl, by k_asm, by k_asm, by assumption, small_up (half8 b8), size_up _, le_size (half8 b8), list_start, ?_, ?_⟩
          · rintro k v zs nx hk ⟨t₃, rfl⟩ hyl hJ
            intro I' oI' C' oC' D' m' h' tk' E' hC' hx' F' N' off' ne'
            have hix := half_ix bd hk
            replace N' := news_led3 N' hJ.1
            k_steps
            exact list_next hJ off' (fun p hp => .tail _ (.tail _ (.tail _ hp))) (high_val hk)
          · intro D₄ h tk zs₄ nx hJ hyl F' N' hD' hlD₄
            obtain ⟨hled, hI₄⟩ := hJ
            replace N' := news_led N' hled
            clear hD' hled hlD₄
            repeat' ((fail_if_success (with_reducible show wpAny _ _ (binaryOp _ (.ref _) (.ref _)) _ _ _)); (first | (k_unfold; (try dsimp only)) | (k_end; wrow_close) | walk1 | (dsimp only; walk1) | (leave1; walk_say "STEP leave1"; try dsimp only) | fail "no step"))
            k_dflt (refine' kmk_add_ints ?wq1 ?wq2 ?wq3 ?wq4 ?wq5 ?wq6 ?_ ?wq7)
            case wq1 => k_asm
            case wq2 => k_asm
            case wq3 => kmk_list
            case wq4 => kmk_list
            case wq5 => l_ints
            case wq6 => assumption
            case wq7 => (rw [sizeLine_eq]; simp only [List.length_map, List.length_range, List.length_cons, List.length_nil]; omega)
            intro D' ws' h' F' N' l9 hI'
            (try k_lt l9)
            (try k_sweep)
            repeat' ((fail_if_success (with_reducible show wpAny _ _ (call (.builtin "min") _) _ _ _)); (first | (k_unfold; (try dsimp only)) | (k_end; wrow_close) | walk1 | (dsimp only; walk1) | (leave1; walk_say "STEP leave1"; try dsimp only) | fail "no step"))
            (k_dflt (refine min_list_N (by exact rfl) (by k_asm) (by k_asm) (News.isList (by k_asm) (by k_mem)) (by with_reducible assumption) (by simp only [List.length_append, List.length_singleton]; omega) ?_))
            intro h' M' t' k' F' N' hhi1 hhi2
            (try k_sweep)
            k_steps
            all_goals (have hc := cut_of a1 a8 b1 b8 (by assumption) (by assumption) (by assumption) (by assumption))
            · refine wo_set (by k_asm) (by assumption) (by assumption) hM₂.nodup (by assumption) (by k_mem) (fun p hp => by k_mem) ?a1 ?a2 hrr (by assumption) (hc.1 (by assumption)) (by omega) d8 hbe hrefs₂ hr4₂ hrD₂ ?a3
              case a1 => intro p hp; simp only [List.mem_cons, List.mem_append] at hp ⊢; grind
              case a2 => intro p hp; simp only [List.mem_cons, List.mem_append]; simp only [hp, true_or, or_true]
              case a3 => ksw_same
            · refine wo_set (by k_asm) (by assumption) (by assumption) hM₂.nodup (by assumption) (by k_mem) (fun p hp => by k_mem) ?a4 ?a5 hrr (by assumption) (hc.2.1 (by assumption) (by assumption)) (by omega) d8 hbe hrefs₂ hr4₂ hrD₂ ?a6
              case a4 => intro p hp; simp only [List.mem_cons, List.mem_append] at hp ⊢; grind
              case a5 => intro p hp; simp only [List.mem_cons, List.mem_append]; simp only [hp, true_or, or_true]
              case a6 => ksw_same
            · refine wo_same (by k_asm) (by assumption) (by assumption) (by k_mem) (fun p hp => by k_mem) ?a7 ?a8 hM₂ (hc.2.2 (by assumption) (by assumption)) (by omega) d8 hbe hrefs₂ hr4₂ hrD₂ ?a9
              case a7 => intro p hp; simp only [List.mem_cons, List.mem_append] at hp ⊢; grind
              case a8 => intro p hp; simp only [List.mem_cons, List.mem_append]; simp only [hp, true_or, or_true]
              case a9 => ksw_same
      · rintro ⟨ob₂, rows₂⟩ u₂ h tk ⟨⟨vb, hb₂⟩, hM₂, hrefs₂, hr4₂, hrD₂⟩ F₂ N₂
        dsimp only at hb₂ hM₂ hrefs₂ hr4₂ hrD₂ N₂
        simp only [kstB] at F₂
        k_steps
        refine' my_endT (⟨oa', ob₂, rows₂⟩ : WoA) (by k_asm) (by assumption) ?b1 ?b2 ?b3 ?b4 (List.forall_mem_nil _) ?b5 ⟨⟨_, ha'⟩, ⟨_, hb₂⟩, ?b6, hrefs₂, hr4₂, hrD₂⟩
        case b1 => intro p hp; simp only [List.mem_cons, List.mem_append] at hp ⊢; grind
        case b2 => intro p hp; simp only [List.mem_cons, List.mem_append] at hp ⊢; grind
        case b3 => intro p hp; simp only [List.mem_cons, List.mem_append]; simp only [hp, true_or, or_true]
        case b4 => exact List.forall_mem_cons.mpr ⟨cell_fine ha', List.forall_mem_cons.mpr ⟨cell_fine hb₂, hM₂.fine⟩⟩
        case b5 => ksw_same
        case b6 => (have hgo := gr_out hM₂ (by omega) d8; subst hae; exact hgo)
    · rintro ⟨oa₁, ob₁, rows₁⟩ u h tk ⟨⟨va, ha₁⟩, ⟨vb, hb₁⟩, hM₁, hrefs₁, hr4₁, hrD₁⟩ F₁ N₁
      dsimp only at ha₁ hb₁ hM₁ hrefs₁ hr4₁ hrD₁ N₁
      simp only [kstB] at F₁
      k_steps
      (rename News _ _ _ _ => kN9)
      refine hret _ ((D, W.listOf ys.toArray ys.length) :: rows₁) _ _ ⟨D, rows₁, ys.length, rfl, by rw [hrefs₁], gr_end hM₁ (by omega) d8⟩ (by k_asm) (news_of kN9 (by intro p hp; simp only [List.mem_cons, List.mem_append] at hp ⊢; grind)) ?_
      intro p hp q hq
      have h9 : @LT.lt Nat _ p.1 L' := l1 p hp
      rcases List.mem_cons.mp hq with rfl | hq
      · exact hnD p hp
      · exact Nat.lt_trans h9 (Nat.lt_trans (by omega : @LT.lt Nat _ L' (L' + 4)) (hr4₁ q hq))
end Mine
end
section
open PySem PySem.W PyProof.Rows
namespace Mine
theorem c_word (w : World) (mean : ExcName → Option Value) (mg mb : PySem.Str → Option Value) (news : List (Addr × Obj)) (cs : List Cake) (num : Int) (t : Tok) (hg : Good cs) (hl : cs.length = 4) (hn : num = numC cs) :
    Ctr 10 w mean mg mb news (call (.ref 28) [.int (-num) t]) (fun v nx => nx = [] ∧ ∃ t, v = .bytes (wordC cs).toArray t) := by
  have hb := numC_big hg hl
  have h := c_int2ap w mean mg mb news (-num) t (by omega)
  rw [show (-num).natAbs = (numC cs).natAbs by omega, apL_word hg] at h
  exact h
theorem c_apk (w : World) (mean : ExcName → Option Value) (mg mb : PySem.Str → Option Value) (news : List (Addr × Obj)) (n : Int) (t : Tok) (k : Nat) (hn : n.natAbs = k) (hk : k < 256) :
    Ctr 10 w mean mg mb news (call (.ref 28) [.int n t]) (fun v nx => nx = [] ∧ ∃ t, v = .bytes (apL k).toArray t) := by
  subst hn
  exact c_int2ap w mean mg mb news n t (by omega)
theorem c_worthsI (w : World) (mean : ExcName → Option Value) (mg mb : PySem.Str → Option Value) (news : List (Addr × Obj)) (a b : Int) (ta tb : Tok) (h1 : 1 ≤ a ∧ a ≤ 8) (h2 : 1 ≤ b ∧ b ≤ 8) :
    Ctr 20 w mean mg mb news (call (.ref 120) [.int a ta, .int b tb]) (WorthsAre a.toNat b.toNat) := by
  have h := c_worths w mean mg mb news a.toNat b.toNat ta tb (by omega) (by omega) (by omega) (by omega)
  rw [show ((a.toNat : Nat) : Int) = a by omega, show ((b.toNat : Nat) : Int) = b by omega] at h
  exact h
theorem c_ws_runs (w : World) (mean : ExcName → Option Value) (mg mb : PySem.Str → Option Value) (news : List (Addr × Obj)) (x : PySem.Str) (t : Tok) (ns : List Nat) (hy : x.cps.toList = runs ns) (hlen : (runs ns).length ≤ 1000) :
    Ctr 10 w mean mg mb news (call (.ref 90) [.str x t]) (fun v nx => ∃ xa, v = .ref xa ∧ WsObjs w 90 x xa nx) :=
  c_ws w mean mg mb news x t (by rw [hy]; exact runs_only ns) (by rw [hy]; exact hlen)
theorem c_indent_runs (w : World) (mean : ExcName → Option Value) (mg mb : PySem.Str → Option Value) (news nw : List (Addr × Obj)) (x : PySem.Str) (xa : Addr) (ns : List Nat) (size : Int) (t : Tok) (lvl : Int)
    (hy : x.cps.toList = runs ns) (hW : WsObjs w 90 x xa nw) (hs : ∀ p ∈ nw, p ∈ news) (hl : wsLevel (runs ns) size = lvl) (h1 : 1 ≤ size) (h2 : size ≤ 16) (hlen : (runs ns).length ≤ 1000) :
    Ctr 10 w mean mg mb news (call (.ref 59) [.ref xa, .int size t]) (fun v nx => nx = [] ∧ ∃ t, v = .int lvl t) := by
  have := c_indent w mean mg mb news nw x xa size t hW hs h1 h2 (by rw [hy]; exact hlen)
  rw [hy, hl] at this
  exact this
end Mine
end
section
open PySem PySem.W PyProof.Rows PyProof.Rows.LCg
namespace Mine
local macro_rules | `(tactic| walk_at "call builtin:list.append") => `(tactic| (k_here; k_dflt (refine' append_K ?k1 ?k2 ?k3 ?_ ?z; (case k1 => k_asm); (case k2 => k_asm); (case k3 => k_upd); (case z => (simp only [List.size_toArray]; rw [sizeLine_eq]; omega)); k_whole); intro h' F' N'; (try k_sweep); (simp only [List.push_toArray] at N')))
local macro_rules | `(tactic| walk_at "exec For Name Tuple cons nil") => `(tactic| (k_here; (with_reducible rename Fr _ _ _ _ => lF'); (with_reducible refine' For_invTG ?kf ?_ ?hs ?he); (case kf => exact lF'); (case hs => k_dflt (intro _; rfl)); (case he => k_dflt passes_own); k_whole))
local macro_rules | `(tactic| k_all) => `(tactic| with_reducible assumption)
local macro_rules | `(tactic| walk_at "binaryOp Mult int int") => `(tactic| (k_here; (first | (refine PyProof.Rows.mul_int ?_ (PySem.IntMulOk.of_left (by decide))) | (refine PyProof.Rows.mul_int ?_ (PySem.IntMulOk.of_right (by decide))) | (refine mul_any_l (by with_reducible assumption) (by with_reducible assumption) ?_))))
local macro_rules | `(tactic| walk_at "subscriptTail Name Name ref int") => `(tactic| (k_here; (with_reducible show wpAny _ _ (subscriptTail _ _ (Value.ref _) (Value.int (Nat.cast _) _)) _ _ _); (with_reducible rename News _ _ _ _ => nF'); (k_dflt (refine' last_item nF' ?k1 ?k2 ?k3 ?_ ?k4)); (case k1 => k_dflt k_mem); (case k2 => assumption); (case k3 => assumption); (case k4 => with_unfolding_all rfl)))
local macro_rules | `(tactic| walk_at "eval ListComp") => `(tactic| (k_here; k_dflt (refine cp_eval_list (F₀ := by k_asm) (by with_unfolding_all rfl) (by decide) (by rfl) (by decide) (by rfl) (by rfl) (by decide) ?_)))
local macro_rules | `(tactic| walk_at "CompEnd") => `(tactic| (k_dflt (refine ce_any (by k_asm) (by assumption) (List.forall_mem_cons.mpr ⟨by k_mem, List.forall_mem_cons.mpr ⟨by k_mem, List.forall_mem_cons.mpr ⟨by k_mem, List.forall_mem_nil _⟩⟩⟩) ?_)))
local macro_rules | `(tactic| walk_at "binaryOp Sub int int") => `(tactic| (k_here; (with_reducible show wpAny _ _ (binaryOp Operator.Sub (Value.int (65 + _) _) (Value.int 65 _)) _ _ _); (refine sub_65 ?_); intro _ _))
local macro_rules | `(tactic| k_mem) => `(tactic| first | exact List.mem_append_left _ (by with_reducible assumption) | exact List.mem_append_right _ (by with_reducible assumption))
local macro_rules | `(tactic| walk_at "exec Assign cons ListComp") => `(tactic| (k_here; lct_look; k_dflt (refine LCt.Assign_ListComp_T (F₀ := by k_asm) (by rfl) (by with_unfolding_all rfl) (by with_unfolding_all rfl) (by decide) (by rfl) (by decide) (by rfl) (by rfl) (by rfl) ?_)))
local macro_rules | `(tactic| walk_at "eval ListComp") => `(tactic| (k_here; (with_reducible show wpAny _ _ (eval (PySem.Expr.ListComp _ [⟨PySem.Expr.Name _ _, _, _, _⟩] _ _) _) _ _ _); k_dflt (refine cn_eval_list (F₀ := by k_asm) (by with_unfolding_all rfl) (by decide) (by rfl) (by decide) (by rfl) ?_)))
local macro_rules | `(tactic| walk_at "binaryOp Mult str int") => `(tactic| ((refine str_mul1 (c := 32) (by decide) (c_pos (by with_reducible assumption)) (c_small (by with_reducible assumption)) ?_); intro y t' k hy))
local macro_rules | `(tactic| walk_at "binaryOp Add str str") => `(tactic| (refine str_add (by with_reducible assumption) (by decide : (PySem.Str.ofString "\t").cps.toList = [9]) (tab_small (by with_reducible assumption)) ?_; intro y t' k hy))
local macro_rules | `(tactic| walk_at "subscriptTail Subscript Name Name Name ref int") => `(tactic| (k_here; (with_reducible show wpAny _ _ (subscriptTail _ _ (Value.ref (Prod.fst _)) (Value.int _ _)) _ _ _); (with_reducible rename News _ _ _ _ => nF'); (k_dflt (refine' mat_itemI ?k1 ?k2 nF' ?k3 ?k4 ?k5 ?k6 ?_ ?k7)); (case k1 => with_reducible assumption); (case k2 => with_reducible assumption); (case k3 => (intro p hp; k_dflt k_mem)); (case k4 => exact CIn.b0 (by with_reducible assumption)); (case k5 => exact CIn.b1 (by with_reducible assumption)); (case k6 => exact CIn.d100 (by with_reducible assumption)); (case k7 => with_unfolding_all rfl); intro _))
local macro_rules | `(tactic| walk_at "subscriptTail Name Name ref int") => `(tactic| (k_here; (with_reducible show wpAny _ _ (subscriptTail _ _ (Value.ref _) (Value.int _ _)) _ _ _); (with_reducible rename News _ _ _ _ => nF'); (k_dflt (refine' mat_rowI ?k1 rfl nF' ?k3 ?k4 ?k5 ?k6 ?_ ?k7)); (case k1 => with_reducible assumption); (case k3 => k_dflt k_mem); (case k4 => exact CIn.a0 (by with_reducible assumption)); (case k5 => exact CIn.a1 (by with_reducible assumption)); (case k6 => exact CIn.w100 (by with_reducible assumption)); (case k7 => with_unfolding_all rfl); intro _ _))
local macro_rules | `(tactic| walk_at "compareOp NotEq int int") => `(tactic| (k_here; (with_reducible refine ne_same ?_)))
set_option maxRecDepth 100000 in
set_option maxHeartbeats 8000000 in
theorem lawY : PySem.Challenge.rw_ta0018_02.Holds := hd (by
  k_go0
  (rename IntsAre _ _ => hI9)
  have hvl9 := hI9.length
  (all_goals try k_fold)
  rename_i osd osz owt owd hsd hsz hwt hwd x8 x9
  replace hsd : osd.data = .cell none := by with_unfolding_all exact hsd
  replace hsz : osz.data = .cell none := by with_unfolding_all exact hsz
  replace hwt : owt.data = .cell none := by with_unfolding_all exact hwt
  replace hwd : owd.data = .cell none := by with_unfolding_all exact hwd
  (with_reducible rename Fr _ _ _ _ => F0)
  replace F0 := fr_script (v := .ref _) F0 (by with_unfolding_all rfl)
  repeat' ((fail_if_success (with_reducible show wpAny _ _ (exec (PySem.Stmt.For _ _ _ _ _) _) _ _ _)); (first | (k_unfold; (try dsimp only)) | (k_end; wrow_close) | walk1 | (dsimp only; walk1) | (leave1; walk_say "STEP leave1"; try dsimp only) | fail "no step"))
  (with_reducible rename Fr _ _ _ _ => lF')
  (with_reducible refine' For_invTG ?kf ?_ ?khs ?khe)
  case kf => exact lF'
  case khs => k_dflt (intro _; rfl)
  case khe => k_dflt passes_own
  repeat' ((fail_if_success (with_reducible show wpAny _ _ (pyIter _) _ _ _)); (first | (k_unfold; (try dsimp only)) | (k_end; wrow_close) | walk1 | (dsimp only; walk1) | (leave1; walk_say "STEP leave1"; try dsimp only) | fail "no step"))
  (with_reducible rename Fr _ _ _ _ => lF')
  (with_reducible rename News _ _ _ _ => lN')
  with_unfolding_all refine' dr_loop2 (by exact rfl) lF' lN' ?hrl ?hk ?_ ?_
  case hrl => exact List.forall_mem_cons.mpr ⟨by k_ne, List.forall_mem_cons.mpr ⟨by k_ne, List.forall_mem_cons.mpr ⟨by k_ne, List.forall_mem_cons.mpr ⟨by k_ne, List.forall_mem_nil _⟩⟩⟩⟩
  case hk => exact List.forall_mem_cons.mpr ⟨by with_unfolding_all rfl, List.forall_mem_nil _⟩
  all_goals clear lF' lN'
  · intro i base ta t₁ t₂ vs k num tn tups cs u s₁ h tk own hi hcl hvl hg hC hnum hn0 hn1 hT hta hall F₁ N₁
    simp only [kstB] at F₁
    (try dsimp only); (try k_fold)
    repeat' ((fail_if_success (with_reducible show wpAny _ _ (subscriptTail _ (PySem.Expr.Slice _ _ (some _) _) _ _) _ _ _)); (first | (k_unfold; (try dsimp only)) | (k_end; wrow_close) | walk1 | (dsimp only; walk1) | (leave1; walk_say "STEP leave1"; try dsimp only) | fail "no step"))
    k_dflt (refine' slice3_ints ?sv1 ?sv2 ?sv3 ?sv4 ?sv5 ?sv6 ?sv7 ?sv8 ?_ ?sv9 ?sv10 ?sv11)
    case sv1 => k_asm
    case sv2 => k_asm
    case sv3 => kmk_list
    case sv4 => l_ints
    case sv5 => kmk_part
    case sv6 => kmk_part
    case sv7 => kmk_part
    case sv8 => decide
    case sv9 => with_unfolding_all rfl
    case sv10 => kmk_pure
    case sv11 => omega
    intro D' zs' ms' h' hZ' F' N' l1
    (try k_lt l1)
    (try k_sweep)
    k_steps
    refine' dr_end (by k_asm) (by assumption) (by k_mem) (by k_mem) ?e1 ?e2 ?e3 hcl hg hC hnum hT ?e4 ?e5
    case e1 => intro p hp; simp only [List.mem_cons, List.mem_append]; simp only [hp, true_or, or_true]
    case e2 => exact fun p hp => .tail _ (.tail _ (.tail _ (.tail _ (List.mem_append_right _ (List.mem_append_left _ hp)))))
    case e3 => intro p hp; simp only [List.mem_cons, List.mem_append]; simp only [hp, true_or, or_true]
    case e4 => exact List.forall_mem_cons.mpr ⟨by with_unfolding_all rfl, List.forall_mem_nil _⟩
    case e5 => ksw_same
  · intro vs k num tn tups cs u h tk hcl hvl hg hC hnum hT F₁ N₁
    simp only [kstB] at F₁
    (try dsimp only); (try k_fold)
    replace hcl : cs.length = 4 := hcl
    have hs1 := hT.off (o := owd) N₁ (fun p hp => .tail _ (List.mem_append_left _ hp)) (.tail _ (List.mem_append_right _ (by k_mem))) hwd
    have hs2 := hT.off (o := owt) N₁ (fun p hp => .tail _ (List.mem_append_left _ hp)) (.tail _ (List.mem_append_right _ (by k_mem))) hwt
    have hs3 := hT.off (o := osz) N₁ (fun p hp => .tail _ (List.mem_append_left _ hp)) (.tail _ (List.mem_append_right _ (by k_mem))) hsz
    have hs4 := hT.off (o := osd) N₁ (fun p hp => .tail _ (List.mem_append_left _ hp)) (.tail _ (List.mem_append_right _ (by k_mem))) hsd
    replace N₁ := news_of (b := _ :: _ :: _ :: _ :: _ :: tups) N₁ (List.forall_mem_cons.mpr ⟨.tail _ (List.mem_append_right _ (.tail _ (.tail _ (.tail _ (.tail _ (.tail _ (.head _))))))), List.forall_mem_cons.mpr ⟨.tail _ (List.mem_append_right _ (.tail _ (.tail _ (.tail _ (.tail _ (.tail _ (.tail _ (.head _)))))))), List.forall_mem_cons.mpr ⟨.tail _ (List.mem_append_right _ (.tail _ (.tail _ (.tail _ (.tail _ (.tail _ (.tail _ (.tail _ (.head _))))))))), List.forall_mem_cons.mpr ⟨.tail _ (List.mem_append_right _ (.tail _ (.tail _ (.tail _ (.tail _ (.tail _ (.tail _ (.tail _ (.tail _ (.head _)))))))))), List.forall_mem_cons.mpr ⟨.head _, fun p hp => .tail _ (List.mem_append_left _ hp)⟩⟩⟩⟩⟩)
    repeat' ((fail_if_success (with_reducible show wpAny _ _ (call (.ref 28) _) _ _ _)); (first | (k_unfold; (try dsimp only)) | (k_end; wrow_close) | walk1 | (dsimp only; walk1) | (leave1; walk_say "STEP leave1"; try dsimp only) | fail "no step"))
    k_dflt (refine' use_ctrT (c_word _ _ _ _ _ _ _ _ hg hcl hnum) ?kA ?k1 ?k2 ?k3 ?k4 ?k5 ?k6 ?k7 ?k8 ?_)
    case kA => exact rfl
    case k1 => k_asm
    case k2 => k_asm
    case k3 => k_asm
    case k4 => k_asm
    case k5 => k_asm
    case k6 => first | exact rfl | assumption
    case k7 => ktr_room
    case k8 => ktr_units
    k_whole
    intro t' h' tk' F' N'
    (try k_sweep)
    repeat' ((fail_if_success (with_reducible show wpAny _ _ (exec (PySem.Stmt.Assign _ (PySem.Expr.ListComp _ _ _ _) _) _) _ _ _)); (first | (k_unfold; (try dsimp only)) | (k_end; wrow_close) | walk1 | (dsimp only; walk1) | (leave1; walk_say "STEP leave1"; try dsimp only) | fail "no step"))
    k_dflt (refine cn_assign_local (F₀ := by k_asm) (by rfl) (by with_unfolding_all rfl) (by with_unfolding_all rfl) (by decide) (by rfl) (by decide) (by rfl) (by rfl) (by rfl) ?_)
    repeat' ((fail_if_success (with_reducible show wpAny _ _ (call (.builtin "len") _) _ _ _)); (first | (k_unfold; (try dsimp only)) | (k_end; wrow_close) | walk1 | (dsimp only; walk1) | (leave1; walk_say "STEP leave1"; try dsimp only) | fail "no step"))
    (refine len_word hcl ?_)
    intro _ _
    repeat' ((fail_if_success (with_reducible show Exists _)); (first | (k_unfold; (try dsimp only)) | (k_end; wrow_close) | walk1 | (dsimp only; walk1) | (leave1; walk_say "STEP leave1"; try dsimp only) | fail "no step"))
    rename_i hA owd' FA NA hwd' tA kA hB tkB t1 u1 v1 hrg FB NB hkB
    refine ⟨_, _, _, _, _, _, _, 4, _, CakesJ _ cs, rfl, by exact rfl, by k_asm, by k_asm, hrg, by decide, by decide, (by rw [sizeLine_eq]; decide), cake_start, ?_, ?_⟩
    · rintro i v ys nx hi4 ⟨t2, rfl⟩ hyl hJ
      intro I' oI' C' oC' D' m' h' tk' E' hC' hx' F' N' off' ne'
      (try dsimp only); (try k_fold)
      obtain ⟨c, hc⟩ : ∃ c, cs[i]? = some c := ⟨cs[i], List.getElem?_eq_getElem (by omega)⟩
      replace N' := news_ins N' (hJ.1 (_, owd') (by k_mem))
      clear hrg FA NA FB NB hkB
      repeat' ((fail_if_success (with_reducible show wpAny _ _ (subscriptTail _ _ (.bytes _ _) (.int _ _)) _ _ _)); (first | (k_unfold; (try dsimp only)) | (k_end; wrow_close) | walk1 | (dsimp only; walk1) | (leave1; walk_say "STEP leave1"; try dsimp only) | fail "no step"))
      k_dflt (refine' word_it0 hg hcl hc ?wi1 ?_ ?wi2)
      case wi1 => omega
      case wi2 => with_unfolding_all rfl
      intro _ _
      repeat' ((fail_if_success (with_reducible show wpAny _ _ (subscriptTail _ _ (.bytes _ _) (.int _ _)) _ _ _)); (first | (k_unfold; (try dsimp only)) | (k_end; wrow_close) | walk1 | (dsimp only; walk1) | (leave1; walk_say "STEP leave1"; try dsimp only) | fail "no step"))
      k_dflt (refine' word_it1 hg hcl hc ?wj1 ?_ ?wj2)
      case wj1 => omega
      case wj2 => with_unfolding_all rfl
      intro _ _
      k_steps
      rename_i l9
      exact cake_next hJ off' hc (by k_mem) l9.1 l9.2.1 l9.2.2.1 (fun p hp => .tail _ (.tail _ (.tail _ (.tail _ (.tail _ hp)))))
    · intro D2 h tk ys2 nx hJ hy2 F' N' hD' hlD
      (try dsimp only)
      clear hrg FA NA FB NB hkB
      obtain ⟨hled, hC2⟩ := hJ
      rw [List.take_of_length_le (by omega)] at hC2
      obtain ⟨tups2, ht2, hT2, hC3⟩ := hC2.tups
      have e1 := hT2.off (o := owd') N' (fun p hp => .tail _ (ht2 p hp)) (.tail _ (hled _ (by k_mem))) hwd'
      have e2 := hT2.off (o := owt) N' (fun p hp => .tail _ (ht2 p hp)) (.tail _ (hled _ (by k_mem))) hwt
      have e3 := hT2.off (o := osz) N' (fun p hp => .tail _ (ht2 p hp)) (.tail _ (hled _ (by k_mem))) hsz
      have e4 := hT2.off (o := osd) N' (fun p hp => .tail _ (ht2 p hp)) (.tail _ (hled _ (by k_mem))) hsd
      have f2 := all_append hs2 e2
      have f3 := all_append hs3 e3
      have f4 := all_append hs4 e4
      clear e1 e2 e3 e4 hs1 hs2 hs3 hs4
      replace N' := news_of (b := _ :: _ :: _ :: _ :: _ :: (D2, W.listOf ys2.toArray ys2.length) :: (tups ++ tups2)) N' (List.forall_mem_cons.mpr ⟨.tail _ (hled _ (.head _)), List.forall_mem_cons.mpr ⟨.tail _ (hled _ (.tail _ (.head _))), List.forall_mem_cons.mpr ⟨.tail _ (hled _ (.tail _ (.tail _ (.head _)))), List.forall_mem_cons.mpr ⟨.tail _ (hled _ (.tail _ (.tail _ (.tail _ (.head _))))), List.forall_mem_cons.mpr ⟨.tail _ (hled _ (.tail _ (.tail _ (.tail _ (.tail _ (.head _)))))), List.forall_mem_cons.mpr ⟨.head _, fun p hp => .tail _ ((List.mem_append.mp hp).elim (fun h => hled p (.tail _ (.tail _ (.tail _ (.tail _ (.tail _ h)))))) (ht2 p))⟩⟩⟩⟩⟩⟩)
      have g2 : @Ne Nat _ D2 := hD' _ (hled (_, owt) (by k_mem))
      have g3 : @Ne Nat _ D2 := hD' _ (hled (_, osz) (by k_mem))
      have g4 : @Ne Nat _ D2 := hD' _ (hled (_, osd) (by k_mem))
      have g1 : @Ne Nat _ D2 := hD' _ (hled (_, owd') (by k_mem))
      dsimp only at g1 g2 g3 g4
      clear ht2 hC2
      repeat' ((fail_if_success (with_reducible show wpAny _ _ (call (.builtin "len") _) _ _ _)); (first | (k_unfold; (try dsimp only)) | (k_end; wrow_close) | walk1 | (dsimp only; walk1) | (leave1; walk_say "STEP leave1"; try dsimp only) | fail "no step"))
      (refine len_word hcl ?_)
      intro _ _
      repeat' ((fail_if_success (with_reducible show wpAny _ _ (compareOp .NotEq (.ref _) (.ref _)) _ _ _)); (first | (k_unfold; (try dsimp only)) | (k_end; wrow_close) | walk1 | (dsimp only; walk1) | (leave1; walk_say "STEP leave1"; try dsimp only) | fail "no step"))
      (with_reducible rename News _ _ _ _ => nF')
      (with_unfolding_all refine ne_cakes nF' (by k_mem) (by k_mem) (by with_reducible assumption) (by with_reducible assumption) (by intro p hp; k_mem) (by intro p hp; k_mem) (by ktr_units) ?_)
      repeat' ((fail_if_success (with_reducible show Exists _)); (first | (k_unfold; (try dsimp only)) | (k_end; wrow_close) | walk1 | (dsimp only; walk1) | (leave1; walk_say "STEP leave1"; try dsimp only) | fail "no step"))
      refine ⟨_, _, _, _, ListJ _ (fun i => (cs.getD i (0, 0)).1), rfl, by exact rfl, by k_asm, by k_asm, by k_mem, sizeM hy2, list_start, (fun i ys nx h => h.1 _ (by k_mem)), ?_, ?_⟩
      · rintro i v zs nx hv hyl hJ
        obtain ⟨c, t, ta, tb, hc, rfl, hm⟩ := hC3.get hv
        refine ⟨t, _, _, rfl, hJ.1 _ (.tail _ (.tail _ (.tail _ (.tail _ (.tail _ (.tail _ (List.mem_append_right _ hm))))))), ?_⟩
        intro I' oI' C' oC' D' m' h' tk' E' hC' hx' hy' F' N' off' ne'
        (try dsimp only); (try k_fold)
        k_steps
        exact list_next hJ off' (fun p hp => .tail _ (.tail _ (.tail _ (hJ.1 p hp)))) (by rw [getD_of hc])
      · intro D3 h tk zs nx hJ hyl F' N' hD'
        (try dsimp only)
        obtain ⟨hled, hI3⟩ := hJ
        rw [hy2] at hI3
        replace N' := news_led N' hled
        clear hD' hled
        repeat' ((fail_if_success (with_reducible show wpAny _ _ (call (.builtin "max") _) _ _ _)); (first | (k_unfold; (try dsimp only)) | (k_end; wrow_close) | walk1 | (dsimp only; walk1) | (leave1; walk_say "STEP leave1"; try dsimp only) | fail "no step"))
        (k_dflt (refine max_list_N (by exact rfl) (by k_asm) (by k_asm) (News.isList (by k_asm) (by k_mem)) (by with_reducible assumption) (by simp only [List.length_map, List.length_range]; omega) ?_))
        intro h' M' t' k' F' N' hlo1 hlo2
        (try k_sweep)
        repeat' ((fail_if_success (with_reducible show Exists _)); (first | (k_unfold; (try dsimp only)) | (k_end; wrow_close) | walk1 | (dsimp only; walk1) | (leave1; walk_say "STEP leave1"; try dsimp only) | fail "no step"))
        refine ⟨_, _, _, _, ListJ _ (fun i => (cs.getD i (0, 0)).2), rfl, by exact rfl, by k_asm, by k_asm, by k_mem, sizeM hy2, list_start, (fun i ys nx h => h.1 _ (by k_mem)), ?_, ?_⟩
        · rintro i v zs nx hv hyl hJ
          obtain ⟨c, t, ta, tb, hc, rfl, hm⟩ := hC3.get hv
          refine ⟨t, _, _, rfl, hJ.1 _ (.tail _ (.tail _ (.tail _ (.tail _ (.tail _ (.tail _ (.tail _ (List.mem_append_right _ hm)))))))), ?_⟩
          intro I' oI' C' oC' D' m' h' tk' E' hC' hx' hy' F' N' off' ne'
          (try dsimp only); (try k_fold)
          k_steps
          exact list_next hJ off' (fun p hp => .tail _ (.tail _ (.tail _ (hJ.1 p hp)))) (by rw [getD_of hc])
        · intro D4 h tk zs nx hJ hyl F' N' hD'
          (try dsimp only)
          obtain ⟨hled, hI4⟩ := hJ
          rw [hy2] at hI4
          replace N' := news_led N' hled
          clear hD' hled
          repeat' ((fail_if_success (with_reducible show wpAny _ _ (call (.builtin "max") _) _ _ _)); (first | (k_unfold; (try dsimp only)) | (k_end; wrow_close) | walk1 | (dsimp only; walk1) | (leave1; walk_say "STEP leave1"; try dsimp only) | fail "no step"))
          (k_dflt (refine max_list_N (by exact rfl) (by k_asm) (by k_asm) (News.isList (by k_asm) (by k_mem)) (by with_reducible assumption) (by simp only [List.length_map, List.length_range]; omega) ?_))
          intro h' M' t' k' F' N' hlo1 hlo2
          (try k_sweep)
          repeat' ((fail_if_success (with_reducible show wpAny _ _ (call (Value.ref 120) _) _ _ _)); (first | (k_unfold; (try dsimp only)) | walk1 | (dsimp only; walk1) | fail "no step"))
          have hm1 := max1_in hg hcl (by with_reducible assumption)
          have hm2 := max2_in hg hcl (by with_reducible assumption)
          k_dflt (refine' use_ctr (c_worthsI _ _ _ _ _ _ _ _ _ hm1 hm2) ?kA ?k1 ?k2 ?k3 ?k4 ?k5 ?k6 ?k7 ?k8 ?_)
          case kA => exact rfl
          case k1 => k_asm
          case k2 => k_asm
          case k3 => k_asm
          case k4 => k_asm
          case k5 => k_asm
          case k6 => first | exact rfl | assumption
          case k7 => ktr_room
          case k8 => ktr_units
          k_whole
          intro v nx h' tk' hR F' N' hfr
          (try k_sweep)
          obtain ⟨lw, rows, kw, hv, hnx, hMat⟩ := hR
          subst hv
          subst hnx
          have hx1 := max1_all hcl (by with_reducible assumption)
          have hx2 := max2_all hcl (by with_reducible assumption)
          have q1 : @LT.lt Nat _ _ lw := hfr (_, owd') (by k_mem) _ (.head _)
          have q2 : @LT.lt Nat _ _ lw := hfr (_, owt) (by k_mem) _ (.head _)
          have q3 : @LT.lt Nat _ _ lw := hfr (_, osz) (by k_mem) _ (.head _)
          have q4 : @LT.lt Nat _ _ lw := hfr (_, osd) (by k_mem) _ (.head _)
          have r2 : ∀ q ∈ rows, q.1 ≠ _ := fun q hq => Ne.symm (Nat.ne_of_lt (hfr (_, owt) (by k_mem) q (.tail _ hq)))
          have r3 : ∀ q ∈ rows, q.1 ≠ _ := fun q hq => Ne.symm (Nat.ne_of_lt (hfr (_, osz) (by k_mem) q (.tail _ hq)))
          have r4 : ∀ q ∈ rows, q.1 ≠ _ := fun q hq => Ne.symm (Nat.ne_of_lt (hfr (_, osd) (by k_mem) q (.tail _ hq)))
          dsimp only at q1 q2 q3 q4 r2 r3 r4
          have t2 := all_append r2 f2
          replace N' := news_of (b := _ :: _ :: _ :: _ :: _ :: _ :: (lw, W.listOf (rows.map fun p => Value.ref p.1).toArray kw) :: (rows ++ (tups ++ tups2))) N' (List.forall_mem_cons.mpr ⟨List.mem_append_right _ (.tail _ (.tail _ (.head _))), List.forall_mem_cons.mpr ⟨List.mem_append_right _ (.tail _ (.tail _ (.tail _ (.head _)))), List.forall_mem_cons.mpr ⟨List.mem_append_right _ (.tail _ (.tail _ (.tail _ (.tail _ (.head _))))), List.forall_mem_cons.mpr ⟨List.mem_append_right _ (.tail _ (.tail _ (.tail _ (.tail _ (.tail _ (.head _)))))), List.forall_mem_cons.mpr ⟨List.mem_append_right _ (.tail _ (.tail _ (.tail _ (.tail _ (.tail _ (.tail _ (.head _))))))), List.forall_mem_cons.mpr ⟨List.mem_append_right _ (.tail _ (.tail _ (.tail _ (.tail _ (.tail _ (.tail _ (.tail _ (.head _)))))))), List.forall_mem_cons.mpr ⟨.head _, fun p hp => (List.mem_append.mp hp).elim (fun h => .tail _ (List.mem_append_left _ h)) fun h => List.mem_append_right _ (.tail _ (.tail _ (.tail _ (.tail _ (.tail _ (.tail _ (.tail _ (.tail _ h))))))))⟩⟩⟩⟩⟩⟩⟩)
          clear hfr hI3 hI4
          repeat' ((fail_if_success (with_reducible show wpAny _ _ (pyIter _) _ _ _)); (first | (k_unfold; (try dsimp only)) | (k_end; wrow_close) | walk1 | (dsimp only; walk1) | (leave1; walk_say "STEP leave1"; try dsimp only) | fail "no step"))
          (with_reducible rename Fr _ _ _ _ => lF')
          (with_reducible rename News _ _ _ _ => lN')
          with_unfolding_all refine' sz_loop cs (by exact rfl) lF' lN' ?hk hsz hsd ?_ ?_
          case hk => exact List.forall_mem_cons.mpr ⟨by with_unfolding_all rfl, List.forall_mem_nil _⟩
          all_goals clear lF' lN'
          · intro j size t oz od vz vd tot tt u s₁ h tk own hszE hz1 hz8 hoz hod htot hob F₁ N₁
            simp only [kstB] at F₁
            (try dsimp only); (try k_fold)
            simp only [List.cons_append, List.append_assoc] at N₁
            have hso : ∀ p ∈ own, p.1 ≠ _ := sep_own (o := oz) N₁ (fun p hp => by simp only [List.mem_cons, List.mem_append]; simp only [hp, or_true]) hob (by k_mem) hoz
            have t3 := all_append r3 (all_append (fun p hp => f3 p (List.mem_append_left _ hp)) (all_append (fun p hp => f3 p (List.mem_append_right _ hp)) hso))
            repeat' ((fail_if_success (with_reducible show wpAny _ _ (pyIter _) _ _ _)); (first | (k_unfold; (try dsimp only)) | (k_end; wrow_close) | walk1 | (dsimp only; walk1) | (leave1; walk_say "STEP leave1"; try dsimp only) | fail "no step"))
            (with_reducible rename Fr _ _ _ _ => lF')
            (with_reducible rename News _ _ _ _ => lN')
            with_unfolding_all refine' sd_loop cs (2 * j.val) (by exact rfl) lF' lN' ?hk hod htot ?_ ?_ ?_
            case hk => exact List.forall_mem_cons.mpr ⟨by with_unfolding_all rfl, List.forall_mem_nil _⟩
            all_goals clear lF' lN'
            · intro t' od₂ vd₂ tot₂ tt₂ u₂ s₂ h tk own₂ hod₂ htot₂ hob₂ F₁ N₁
              simp only [kstB] at F₁
              (try dsimp only); (try k_fold)
              simp only [List.cons_append, List.append_assoc] at N₁
              have hso1 : ∀ p ∈ own, p.1 ≠ _ := sep_own (o := od₂) N₁ (fun p hp => by simp only [List.mem_cons, List.mem_append]; simp only [hp, true_or, or_true]) hob (by k_mem) hod₂
              have hso2 : ∀ p ∈ own₂, p.1 ≠ _ := sep_own (o := od₂) N₁ (fun p hp => by simp only [List.mem_cons, List.mem_append]; simp only [hp, true_or, or_true]) hob₂ (by k_mem) hod₂
              have t4 := all_append r4 (all_append (fun p hp => f4 p (List.mem_append_left _ hp)) (all_append (fun p hp => f4 p (List.mem_append_right _ hp)) (all_append hso1 hso2)))
              obtain ⟨ch, hch⟩ : ∃ ch, Side cs size 0 (1 - 2 * 0) (2 * j.val) ch := side_of 0 hg hcl hszE
              repeat' ((fail_if_success (with_reducible show LCt.CompSrcT _ _ _ _ _ _ _ _ _ _ _ _ _ _ _)); (first | (k_unfold; (try dsimp only)) | (k_end; wrow_close) | walk1 | (dsimp only; walk1) | (leave1; walk_say "STEP leave1"; try dsimp only) | fail "no step"))
              refine LCt.CompSrcT.ledger (by exact rfl) (by k_asm) (by k_asm) (by k_mem) (size4 hy2) ?_
              intro g9
              refine crestT (ChJ _ cs size 0) ch_start ?_ ?_
              · intro i v ys nx hi hv hJ I' oI' C' oC' D' m' h' tk' E' hC' hx' F' N' off' ne'
                obtain ⟨c, t, ta, tb, hc, rfl, hm⟩ := hC3.get (i := i) (by simpa using hv)
                replace N' := news_ins (news_led3 N' hJ.1) (q := (t, tupO [.int c.1 ta, .int c.2 tb])) (by simp only [List.mem_cons, List.mem_append]; simp only [hm, true_or, or_true])
                repeat' ((fail_if_success (with_reducible show CompEnd _ _ _ _ _ _ _ _ _ _ _ _ _ _)); (first | (k_unfold; (try dsimp only)) | (k_end; wrow_close) | walk1 | (dsimp only; walk1) | (leave1; walk_say "STEP leave1"; try dsimp only) | fail "no step"))
                all_goals refine ce_src (by k_asm) (by assumption) (List.forall_mem_cons.mpr ⟨by k_mem, List.forall_mem_cons.mpr ⟨by k_mem, List.forall_mem_cons.mpr ⟨by k_mem, List.forall_mem_nil _⟩⟩⟩) (ch_keep hJ.1 off' (fun p hp => .tail _ (.tail _ (.tail _ (.tail _ hp)))) _ (by k_mem)) ?_
                · exact ch_yes hJ off' (fun p hp => .tail _ (.tail _ (.tail _ (.tail _ hp)))) (ta := ta) (tb := tb) hc (by simp only [List.mem_cons, List.mem_append]; simp only [hm, true_or, or_true]) (tst0_yes (by assumption) (by assumption) (by assumption))
                · exact ch_no hJ off' (fun p hp => .tail _ (.tail _ (.tail _ (.tail _ hp)))) hc (tst0_n3 (by assumption))
                · exact ch_no hJ off' (fun p hp => .tail _ (.tail _ (.tail _ (.tail _ hp)))) hc (tst0_n2 (by assumption))
                · exact ch_no hJ off' (fun p hp => .tail _ (.tail _ (.tail _ (.tail _ hp)))) hc (tst0_n1 (by assumption))
              · intro ys nx hJ D5 h tk F' N' offD
                (try dsimp only)
                obtain ⟨hled, hCh⟩ := hJ
                rw [List.take_of_length_le (by rw [List.size_toArray]; exact Nat.le_of_eq (hcl.trans hy2.symm)), ← hch.eq] at hCh
                replace N' := news_led N' hled
                clear offD hled
                repeat' ((fail_if_success (with_reducible show Exists _)); (first | (k_unfold; (try dsimp only)) | (k_end; wrow_close) | walk1 | (dsimp only; walk1) | (leave1; walk_say "STEP leave1"; try dsimp only) | fail "no step"))
                have hchl := hCh.length
                have hchl4 := hch.len
                refine ⟨_, _, _, _, StrK _ (ch.map (pick 0)), rfl, by exact rfl, by k_asm, by k_asm, by k_mem, sizeL hchl hchl4, sk_start, (fun i ys nx h => h.1 _ (by k_mem)), ?_, ?_⟩
                · rintro i v zs nx hi hv hyl hJ
                  obtain ⟨c, t, ta, tb, hc, rfl, hm⟩ := hCh.get (i := i) hv
                  obtain ⟨hgc1, hgc2⟩ := hch.good c (List.mem_of_getElem? hc)
                  intro I' oI' C' oC' D' m' h' tk' E' hC' hx' F' N' off' ne'
                  (try dsimp only); (try k_fold)
                  replace N' := news_ins (news_led3 N' hJ.1) (q := (t, tupO [.int c.1 ta, .int c.2 tb])) (.tail _ hm)
                  k_steps
                  exact sk_next hJ off' (fun p hp => .tail _ (.tail _ (.tail _ (.tail _ hp)))) (by rw [List.getElem?_map, hc]; rfl) (by assumption)
                · intro D6 h tk ys6 nx6 hJ6 hy6 F' N' hD6 hlD6
                  (try dsimp only)
                  replace N' := news_led N' hJ6.1
                  clear hD6 hlD6
                  have hJ7 := hJ6.full (by rw [List.length_map]; exact hchl)
                  have hr8 := hch.r8
                  have hrl4 := hch.rlen
                  have hrl := hch.rl
                  have hcol := hch.col
                  have hslo := hch.lo
                  have hshi := hch.hi
                  repeat' ((fail_if_success (with_reducible show wpAny _ _ (call (.builtin "str.join") _) _ _ _)); (first | (k_unfold; (try dsimp only)) | (k_end; wrow_close) | walk1 | (dsimp only; walk1) | (leave1; walk_say "STEP leave1"; try dsimp only) | fail "no step"))
                  (with_reducible rename News _ _ _ _ => nF')
                  (k_dflt (refine join_runs nF' (by k_mem) hJ7 hr8 hrl4 ?_))
                  intro y9 t9' k9 hy9
                  repeat' ((fail_if_success (with_reducible show wpAny _ _ (call (Value.ref 90) _) _ _ _)); (first | (k_unfold; (try dsimp only)) | (k_end; wrow_close) | walk1 | (dsimp only; walk1) | (leave1; walk_say "STEP leave1"; try dsimp only) | fail "no step"))
                  k_dflt (refine' use_ctr (c_ws_runs _ _ _ _ _ _ _ _ (by with_reducible assumption) (by with_reducible assumption)) ?kA ?k1 ?k2 ?k3 ?k4 ?k5 ?k6 ?k7 ?k8 ?_)
                  case kA => exact rfl
                  case k1 => k_asm
                  case k2 => k_asm
                  case k3 => k_asm
                  case k4 => k_asm
                  case k5 => k_asm
                  case k6 => first | exact rfl | assumption
                  case k7 => ktr_room
                  case k8 => ktr_units
                  k_whole
                  intro v nx h' tk' hR F' N' _
                  (try dsimp only)
                  (try k_sweep)
                  obtain ⟨xa, hv, hW⟩ := hR
                  subst hv
                  have hW' := hW
                  obtain ⟨dx, nm, ct, vs, cnt, b, n, nt, v₁, v₅, t₁, t₂, t₃, t₄, t₅, tb, tn, tt, hnx, hI, hst⟩ := hW
                  clear hI hst
                  subst hnx
                  (simp only [List.cons_append, List.nil_append] at N')
                  repeat' ((fail_if_success (with_reducible show wpAny _ _ (call (Value.ref 59) _) _ _ _)); (fail_if_success (with_reducible show Exists _)); (first | (k_unfold; (try dsimp only)) | (k_end; wrow_close) | walk1 | (dsimp only; walk1) | (leave1; walk_say "STEP leave1"; try dsimp only) | fail "no step"))
                  k_dflt (refine' use_ctrT (c_indent_runs _ _ _ _ _ _ _ _ _ _ _ _ (by with_reducible assumption) hW' ?hs hcol (by omega) (by omega) hrl) ?kA ?k1 ?k2 ?k3 ?k4 ?k5 ?k6 ?k7 ?k8 ?_)
                  case kA => exact rfl
                  case k1 => k_asm
                  case k2 => k_asm
                  case k3 => k_asm
                  case k4 => k_asm
                  case hs => exact List.forall_mem_cons.mpr ⟨by k_mem, List.forall_mem_cons.mpr ⟨by k_mem, List.forall_mem_cons.mpr ⟨by k_mem, List.forall_mem_cons.mpr ⟨by k_mem, List.forall_mem_nil _⟩⟩⟩⟩
                  case k5 => k_asm
                  case k6 => first | exact rfl | assumption
                  case k7 => ktr_room
                  case k8 => ktr_units
                  k_whole
                  intro t' h' tk' F' N'
                  (try dsimp only)
                  replace N' := news_of N' (fun p hp => .tail _ (.tail _ (.tail _ (.tail _ (.tail _ hp)))))
                  (try k_sweep)
                  clear hW'
                  repeat' ((fail_if_success (with_reducible show Exists _)); (first | (k_unfold; (try dsimp only)) | (k_end; wrow_close) | walk1 | (dsimp only; walk1) | (leave1; walk_say "STEP leave1"; try dsimp only) | fail "no step"))
                  refine ⟨_, _, _, _, ListK _ (ch.map worth), rfl, by exact rfl, by k_asm, by k_asm, by k_mem, sizeL hchl hchl4, lk_start, (fun i ys nx h => h.1 _ (by k_mem)), ?_, ?_⟩
                  · rintro i v zs nx hv hyl hJ
                    obtain ⟨c, t, ta, tb, hc, rfl, hm⟩ := hCh.get hv
                    have hcc := hch.sub c (List.mem_of_getElem? hc)
                    have hin := cin_of hg hx1 hx2 hm1 hm2 hcc
                    refine ⟨t, _, _, rfl, hJ.1 _ (.tail _ hm), ?_⟩
                    intro I' oI' C' oC' D' m' h' tk' E' hC' hx' hy' F' N' off' ne'
                    (try dsimp only); (try k_fold)
                    replace N' := news_led3 N' hJ.1
                    k_steps
                    exact lk_next hJ off' (fun p hp => .tail _ (.tail _ (.tail _ hp))) (by rw [List.getElem?_map, hc]; rfl)
                  · intro D7 h tk ys7 nx7 hJ7 hy7 F' N' hD7
                    (try dsimp only)
                    obtain ⟨hled7, hI7⟩ := hJ7
                    rw [List.take_of_length_le (Nat.le_of_eq ((List.length_map ..).trans hchl.symm))] at hI7
                    replace N' := news_led N' hled7
                    clear hD7 hled7
                    have htot := hch.tot
                    repeat' ((fail_if_success (with_reducible show wpAny _ _ (call (.builtin "sum") _) _ _ _)); (first | (k_unfold; (try dsimp only)) | (k_end; wrow_close) | walk1 | (dsimp only; walk1) | (leave1; walk_say "STEP leave1"; try dsimp only) | fail "no step"))
                    with_unfolding_all refine' sumK ?k0 ?k1 ?k2 ?k3 ?k4 ?_
                    case k0 => with_unfolding_all rfl
                    case k1 => k_asm
                    case k2 => k_asm
                    case k3 => exact News.isList N' (.head _)
                    case k4 => exact hI7
                    k_whole
                    intro h' tk' t' F' N'
                    (try dsimp only)
                    replace N' := news_of N' (fun p hp => .tail _ hp)
                    clear hI7
                    repeat' ((fail_if_success (with_reducible show wpAny _ _ (call (.builtin "len") _) _ _ _)); (first | (k_unfold; (try dsimp only)) | (k_end; wrow_close) | walk1 | (dsimp only; walk1) | (leave1; walk_say "STEP leave1"; try dsimp only) | fail "no step"))
                    rename News _ _ _ _ => nL
                    k_dflt (refine len_cakes nL (.head _) hCh hchl4 ?_)
                    intro _ _
                    repeat' ((fail_if_success (with_reducible show wpAny _ _ (eval (PySem.Expr.BinOp _ Operator.FloorDiv _ _) _) _ _ _)); (first | (k_unfold; (try dsimp only)) | (k_end; wrow_close) | walk1 | (dsimp only; walk1) | (leave1; walk_say "STEP leave1"; try dsimp only) | fail "no step"))
                    walk1
                    walk1
                    walk1
                    (refine div_exact ?d1 ?d2 ?_ ?d3 ?d4)
                    case d1 => exact hz1
                    case d2 => exact hz8
                    case d3 => exact (b_in0 hslo hshi hchl4).1
                    case d4 => exact (b_in0 hslo hshi hchl4).2
                    intro _ _
                    repeat' ((fail_if_success (with_reducible show wpAny _ _ (call (.builtin "len") _) _ _ _)); (first | (k_unfold; (try dsimp only)) | (k_end; wrow_close) | walk1 | (dsimp only; walk1) | (leave1; walk_say "STEP leave1"; try dsimp only) | fail "no step"))
                    k_dflt (refine len_cakes nL (.head _) hCh hchl4 ?_)
                    intro _ _
                    repeat' ((fail_if_success (with_reducible show wpAny _ _ (storeName _ _ _) _ _ _)); (first | (k_unfold; (try dsimp only)) | (k_end; wrow_close) | walk1 | (dsimp only; walk1) | (leave1; walk_say "STEP leave1"; try dsimp only) | fail "no step"))
                    walk1
                    refine wpAny_execs_nil ?_
                    refine' my_endT (⟨_, _, _⟩ : SdC) (by k_asm) (by assumption) ?b1 ?b2 ?b3 ?b4 ?b5 ?b6 ⟨⟨_, ?b8⟩, ?b7⟩
                    case b1 => exact List.forall_mem_cons.mpr ⟨by k_mem, List.forall_mem_nil _⟩
                    case b8 => assumption
                    case b2 => exact keep_two (b := own₂) (by simp only [List.cons_append, List.append_assoc])
                    case b3 => intro p hp; simp only [List.mem_cons, List.mem_append]; simp only [hp, true_or, or_true]
                    case b4 => exact List.forall_mem_cons.mpr ⟨cell_fine (by assumption), List.forall_mem_nil _⟩
                    case b5 => exact List.forall_mem_cons.mpr ⟨by with_unfolding_all rfl, List.forall_mem_nil _⟩
                    case b6 => ksw_same
                    case b7 => exact tot0 htot₂ htot
            · intro t' od₂ vd₂ tot₂ tt₂ u₂ s₂ h tk own₂ hod₂ htot₂ hob₂ F₁ N₁
              simp only [kstB] at F₁
              (try dsimp only); (try k_fold)
              simp only [List.cons_append, List.append_assoc] at N₁
              have hso1 : ∀ p ∈ own, p.1 ≠ _ := sep_own (o := od₂) N₁ (fun p hp => by simp only [List.mem_cons, List.mem_append]; simp only [hp, true_or, or_true]) hob (by k_mem) hod₂
              have hso2 : ∀ p ∈ own₂, p.1 ≠ _ := sep_own (o := od₂) N₁ (fun p hp => by simp only [List.mem_cons, List.mem_append]; simp only [hp, true_or, or_true]) hob₂ (by k_mem) hod₂
              have t4 := all_append r4 (all_append (fun p hp => f4 p (List.mem_append_left _ hp)) (all_append (fun p hp => f4 p (List.mem_append_right _ hp)) (all_append hso1 hso2)))
              obtain ⟨ch, hch⟩ : ∃ ch, Side cs size 1 (1 - 2 * 1) (2 * j.val + 1) ch := side_of 1 hg hcl hszE
              repeat' ((fail_if_success (with_reducible show LCt.CompSrcT _ _ _ _ _ _ _ _ _ _ _ _ _ _ _)); (first | (k_unfold; (try dsimp only)) | (k_end; wrow_close) | walk1 | (dsimp only; walk1) | (leave1; walk_say "STEP leave1"; try dsimp only) | fail "no step"))
              refine LCt.CompSrcT.ledger (by exact rfl) (by k_asm) (by k_asm) (by k_mem) (size4 hy2) ?_
              intro g9
              refine crestT (ChJ _ cs size 1) ch_start ?_ ?_
              · intro i v ys nx hi hv hJ I' oI' C' oC' D' m' h' tk' E' hC' hx' F' N' off' ne'
                obtain ⟨c, t, ta, tb, hc, rfl, hm⟩ := hC3.get (i := i) (by simpa using hv)
                replace N' := news_ins (news_led3 N' hJ.1) (q := (t, tupO [.int c.1 ta, .int c.2 tb])) (by simp only [List.mem_cons, List.mem_append]; simp only [hm, true_or, or_true])
                repeat' ((fail_if_success (with_reducible show CompEnd _ _ _ _ _ _ _ _ _ _ _ _ _ _)); (first | (k_unfold; (try dsimp only)) | (k_end; wrow_close) | walk1 | (dsimp only; walk1) | (leave1; walk_say "STEP leave1"; try dsimp only) | fail "no step"))
                all_goals refine ce_src (by k_asm) (by assumption) (List.forall_mem_cons.mpr ⟨by k_mem, List.forall_mem_cons.mpr ⟨by k_mem, List.forall_mem_cons.mpr ⟨by k_mem, List.forall_mem_nil _⟩⟩⟩) (ch_keep hJ.1 off' (fun p hp => .tail _ (.tail _ (.tail _ (.tail _ hp)))) _ (by k_mem)) ?_
                · exact ch_yes hJ off' (fun p hp => .tail _ (.tail _ (.tail _ (.tail _ hp)))) (ta := ta) (tb := tb) hc (by simp only [List.mem_cons, List.mem_append]; simp only [hm, true_or, or_true]) (tst1_yes (by assumption) (by assumption) (by assumption))
                · exact ch_no hJ off' (fun p hp => .tail _ (.tail _ (.tail _ (.tail _ hp)))) hc (tst1_n3 (by assumption))
                · exact ch_no hJ off' (fun p hp => .tail _ (.tail _ (.tail _ (.tail _ hp)))) hc (tst1_n2 (by assumption))
                · exact ch_no hJ off' (fun p hp => .tail _ (.tail _ (.tail _ (.tail _ hp)))) hc (tst1_n1 (by assumption))
              · intro ys nx hJ D5 h tk F' N' offD
                (try dsimp only)
                obtain ⟨hled, hCh⟩ := hJ
                rw [List.take_of_length_le (by rw [List.size_toArray]; exact Nat.le_of_eq (hcl.trans hy2.symm)), ← hch.eq] at hCh
                replace N' := news_led N' hled
                clear offD hled
                repeat' ((fail_if_success (with_reducible show Exists _)); (first | (k_unfold; (try dsimp only)) | (k_end; wrow_close) | walk1 | (dsimp only; walk1) | (leave1; walk_say "STEP leave1"; try dsimp only) | fail "no step"))
                have hchl := hCh.length
                have hchl4 := hch.len
                refine ⟨_, _, _, _, StrK _ (ch.map (pick 1)), rfl, by exact rfl, by k_asm, by k_asm, by k_mem, sizeL hchl hchl4, sk_start, (fun i ys nx h => h.1 _ (by k_mem)), ?_, ?_⟩
                · rintro i v zs nx hi hv hyl hJ
                  obtain ⟨c, t, ta, tb, hc, rfl, hm⟩ := hCh.get (i := i) hv
                  obtain ⟨hgc1, hgc2⟩ := hch.good c (List.mem_of_getElem? hc)
                  intro I' oI' C' oC' D' m' h' tk' E' hC' hx' F' N' off' ne'
                  (try dsimp only); (try k_fold)
                  replace N' := news_ins (news_led3 N' hJ.1) (q := (t, tupO [.int c.1 ta, .int c.2 tb])) (.tail _ hm)
                  k_steps
                  exact sk_next hJ off' (fun p hp => .tail _ (.tail _ (.tail _ (.tail _ hp)))) (by rw [List.getElem?_map, hc]; rfl) (by assumption)
                · intro D6 h tk ys6 nx6 hJ6 hy6 F' N' hD6 hlD6
                  (try dsimp only)
                  replace N' := news_led N' hJ6.1
                  clear hD6 hlD6
                  have hJ7 := hJ6.full (by rw [List.length_map]; exact hchl)
                  have hr8 := hch.r8
                  have hrl4 := hch.rlen
                  have hrl := hch.rl
                  have hcol := hch.col
                  have hslo := hch.lo
                  have hshi := hch.hi
                  repeat' ((fail_if_success (with_reducible show wpAny _ _ (call (.builtin "str.join") _) _ _ _)); (first | (k_unfold; (try dsimp only)) | (k_end; wrow_close) | walk1 | (dsimp only; walk1) | (leave1; walk_say "STEP leave1"; try dsimp only) | fail "no step"))
                  (with_reducible rename News _ _ _ _ => nF')
                  (k_dflt (refine join_runs nF' (by k_mem) hJ7 hr8 hrl4 ?_))
                  intro y9 t9' k9 hy9
                  repeat' ((fail_if_success (with_reducible show wpAny _ _ (call (Value.ref 90) _) _ _ _)); (first | (k_unfold; (try dsimp only)) | (k_end; wrow_close) | walk1 | (dsimp only; walk1) | (leave1; walk_say "STEP leave1"; try dsimp only) | fail "no step"))
                  k_dflt (refine' use_ctr (c_ws_runs _ _ _ _ _ _ _ _ (by with_reducible assumption) (by with_reducible assumption)) ?kA ?k1 ?k2 ?k3 ?k4 ?k5 ?k6 ?k7 ?k8 ?_)
                  case kA => exact rfl
                  case k1 => k_asm
                  case k2 => k_asm
                  case k3 => k_asm
                  case k4 => k_asm
                  case k5 => k_asm
                  case k6 => first | exact rfl | assumption
                  case k7 => ktr_room
                  case k8 => ktr_units
                  k_whole
                  intro v nx h' tk' hR F' N' _
                  (try dsimp only)
                  (try k_sweep)
                  obtain ⟨xa, hv, hW⟩ := hR
                  subst hv
                  have hW' := hW
                  obtain ⟨dx, nm, ct, vs, cnt, b, n, nt, v₁, v₅, t₁, t₂, t₃, t₄, t₅, tb, tn, tt, hnx, hI, hst⟩ := hW
                  clear hI hst
                  subst hnx
                  (simp only [List.cons_append, List.nil_append] at N')
                  repeat' ((fail_if_success (with_reducible show wpAny _ _ (call (Value.ref 59) _) _ _ _)); (fail_if_success (with_reducible show Exists _)); (first | (k_unfold; (try dsimp only)) | (k_end; wrow_close) | walk1 | (dsimp only; walk1) | (leave1; walk_say "STEP leave1"; try dsimp only) | fail "no step"))
                  k_dflt (refine' use_ctrT (c_indent_runs _ _ _ _ _ _ _ _ _ _ _ _ (by with_reducible assumption) hW' ?hs hcol (by omega) (by omega) hrl) ?kA ?k1 ?k2 ?k3 ?k4 ?k5 ?k6 ?k7 ?k8 ?_)
                  case kA => exact rfl
                  case k1 => k_asm
                  case k2 => k_asm
                  case k3 => k_asm
                  case k4 => k_asm
                  case hs => exact List.forall_mem_cons.mpr ⟨by k_mem, List.forall_mem_cons.mpr ⟨by k_mem, List.forall_mem_cons.mpr ⟨by k_mem, List.forall_mem_cons.mpr ⟨by k_mem, List.forall_mem_nil _⟩⟩⟩⟩
                  case k5 => k_asm
                  case k6 => first | exact rfl | assumption
                  case k7 => ktr_room
                  case k8 => ktr_units
                  k_whole
                  intro t' h' tk' F' N'
                  (try dsimp only)
                  replace N' := news_of N' (fun p hp => .tail _ (.tail _ (.tail _ (.tail _ (.tail _ hp)))))
                  (try k_sweep)
                  clear hW'
                  repeat' ((fail_if_success (with_reducible show Exists _)); (first | (k_unfold; (try dsimp only)) | (k_end; wrow_close) | walk1 | (dsimp only; walk1) | (leave1; walk_say "STEP leave1"; try dsimp only) | fail "no step"))
                  refine ⟨_, _, _, _, ListK _ (ch.map worth), rfl, by exact rfl, by k_asm, by k_asm, by k_mem, sizeL hchl hchl4, lk_start, (fun i ys nx h => h.1 _ (by k_mem)), ?_, ?_⟩
                  · rintro i v zs nx hv hyl hJ
                    obtain ⟨c, t, ta, tb, hc, rfl, hm⟩ := hCh.get hv
                    have hcc := hch.sub c (List.mem_of_getElem? hc)
                    have hin := cin_of hg hx1 hx2 hm1 hm2 hcc
                    refine ⟨t, _, _, rfl, hJ.1 _ (.tail _ hm), ?_⟩
                    intro I' oI' C' oC' D' m' h' tk' E' hC' hx' hy' F' N' off' ne'
                    (try dsimp only); (try k_fold)
                    replace N' := news_led3 N' hJ.1
                    k_steps
                    exact lk_next hJ off' (fun p hp => .tail _ (.tail _ (.tail _ hp))) (by rw [List.getElem?_map, hc]; rfl)
                  · intro D7 h tk ys7 nx7 hJ7 hy7 F' N' hD7
                    (try dsimp only)
                    obtain ⟨hled7, hI7⟩ := hJ7
                    rw [List.take_of_length_le (Nat.le_of_eq ((List.length_map ..).trans hchl.symm))] at hI7
                    replace N' := news_led N' hled7
                    clear hD7 hled7
                    have htot : totC cs (2 * j.val + 2) = totC cs (2 * j.val + 1) + (ch.map worth).sum := hch.tot
                    repeat' ((fail_if_success (with_reducible show wpAny _ _ (call (.builtin "sum") _) _ _ _)); (first | (k_unfold; (try dsimp only)) | (k_end; wrow_close) | walk1 | (dsimp only; walk1) | (leave1; walk_say "STEP leave1"; try dsimp only) | fail "no step"))
                    with_unfolding_all refine' sumK ?k0 ?k1 ?k2 ?k3 ?k4 ?_
                    case k0 => with_unfolding_all rfl
                    case k1 => k_asm
                    case k2 => k_asm
                    case k3 => exact News.isList N' (.head _)
                    case k4 => exact hI7
                    k_whole
                    intro h' tk' t' F' N'
                    (try dsimp only)
                    replace N' := news_of N' (fun p hp => .tail _ hp)
                    clear hI7
                    repeat' ((fail_if_success (with_reducible show wpAny _ _ (call (.builtin "len") _) _ _ _)); (first | (k_unfold; (try dsimp only)) | (k_end; wrow_close) | walk1 | (dsimp only; walk1) | (leave1; walk_say "STEP leave1"; try dsimp only) | fail "no step"))
                    rename News _ _ _ _ => nL
                    k_dflt (refine len_cakes nL (.head _) hCh hchl4 ?_)
                    intro _ _
                    repeat' ((fail_if_success (with_reducible show wpAny _ _ (eval (PySem.Expr.BinOp _ Operator.FloorDiv _ _) _) _ _ _)); (first | (k_unfold; (try dsimp only)) | (k_end; wrow_close) | walk1 | (dsimp only; walk1) | (leave1; walk_say "STEP leave1"; try dsimp only) | fail "no step"))
                    walk1
                    walk1
                    walk1
                    (refine div_exact ?d1 ?d2 ?_ ?d3 ?d4)
                    case d1 => exact hz1
                    case d2 => exact hz8
                    case d3 => exact (b_in1 hslo hshi hchl4).1
                    case d4 => exact (b_in1 hslo hshi hchl4).2
                    intro _ _
                    repeat' ((fail_if_success (with_reducible show wpAny _ _ (call (.builtin "len") _) _ _ _)); (first | (k_unfold; (try dsimp only)) | (k_end; wrow_close) | walk1 | (dsimp only; walk1) | (leave1; walk_say "STEP leave1"; try dsimp only) | fail "no step"))
                    k_dflt (refine len_cakes nL (.head _) hCh hchl4 ?_)
                    intro _ _
                    repeat' ((fail_if_success (with_reducible show wpAny _ _ (storeName _ _ _) _ _ _)); (first | (k_unfold; (try dsimp only)) | (k_end; wrow_close) | walk1 | (dsimp only; walk1) | (leave1; walk_say "STEP leave1"; try dsimp only) | fail "no step"))
                    walk1
                    refine wpAny_execs_nil ?_
                    refine' my_endT (⟨_, _, _⟩ : SdC) (by k_asm) (by assumption) ?b1 ?b2 ?b3 ?b4 ?b5 ?b6 ⟨⟨_, ?b8⟩, ?b7⟩
                    case b1 => exact List.forall_mem_cons.mpr ⟨by k_mem, List.forall_mem_nil _⟩
                    case b8 => assumption
                    case b2 => exact keep_two (b := own₂) (by simp only [List.cons_append, List.append_assoc])
                    case b3 => intro p hp; simp only [List.mem_cons, List.mem_append]; simp only [hp, true_or, or_true]
                    case b4 => exact List.forall_mem_cons.mpr ⟨cell_fine (by assumption), List.forall_mem_nil _⟩
                    case b5 => exact List.forall_mem_cons.mpr ⟨by with_unfolding_all rfl, List.forall_mem_nil _⟩
                    case b6 => ksw_same
                    case b7 => exact tot1 htot₂ htot
            · intro od₂ vd₂ tot₂ tt₂ u₂ h tk hod₂ htot₂ F₁ N₁
              simp only [kstB] at F₁
              (try dsimp only); (try k_fold)
              (try dsimp only)
              repeat' ((fail_if_success (with_reducible show MyEndT _ _ _ _ _ _ _ _ _ _ _ _)); (first | (k_unfold; (try dsimp only)) | walk1 | (dsimp only; walk1) | fail "no step"))
              refine' my_endT (⟨_, _, _, _⟩ : SzC) (by k_asm) (by assumption) ?b1 ?b2 ?b3 ?b4 ?b5 ?b6 ⟨⟨_, ?b8⟩, ⟨_, ?b9⟩, ?b7⟩
              case b1 => exact List.forall_mem_cons.mpr ⟨by k_mem, List.forall_mem_cons.mpr ⟨by k_mem, List.forall_mem_nil _⟩⟩
              case b8 => assumption
              case b9 => assumption
              case b2 => intro p hp; simp only [List.mem_cons, List.mem_append] at hp ⊢; grind
              case b3 => intro p hp; simp only [List.mem_cons, List.mem_append]; simp only [hp, true_or, or_true]
              case b4 => exact List.forall_mem_cons.mpr ⟨cell_fine (by assumption), List.forall_mem_cons.mpr ⟨cell_fine (by assumption), List.forall_mem_nil _⟩⟩
              case b5 => exact List.forall_mem_cons.mpr ⟨by with_unfolding_all rfl, List.forall_mem_nil _⟩
              case b6 => ksw_same
              case b7 => exact htot₂
          · intro oz od vz vd tot tt u h tk hoz hod htot F₁ N₁
            simp only [kstB] at F₁
            (try dsimp only); (try k_fold)
            (try dsimp only)
            repeat' ((fail_if_success (with_reducible show Exists _)); (first | (k_unfold; (try dsimp only)) | (k_end; wrow_close) | walk1 | (dsimp only; walk1) | (leave1; walk_say "STEP leave1"; try dsimp only) | fail "no step"))
            refine ⟨_, _, _, _, ListK _ (cs.map worth), rfl, by exact rfl, by k_asm, by k_asm, by k_mem, sizeM hvl, lk_start, (fun i ys nx h => h.1 _ (by k_mem)), ?_, ?_⟩
            · rintro i v zs nx hv hyl hJ
              obtain ⟨c, t, ta, tb, hc, rfl, hm⟩ := hC.get hv
              have hcc := List.mem_of_getElem? hc
              have hin := cin_of hg hx1 hx2 hm1 hm2 hcc
              refine ⟨t, _, _, rfl, hJ.1 (t, tupO [.int c.1 ta, .int c.2 tb]) (by simp only [List.mem_cons, List.mem_append]; simp only [hm, true_or, or_true]), ?_⟩
              intro I' oI' C' oC' D' m' h' tk' E' hC' hx' hy' F' N' off' ne'
              (try dsimp only); (try k_fold)
              replace N' := news_led3 N' hJ.1
              k_steps
              exact lk_next hJ off' (fun p hp => .tail _ (.tail _ (.tail _ hp))) (by rw [List.getElem?_map, hc]; rfl)
            · intro D7 h tk ys7 nx7 hJ7 hy7 F' N' hD7
              (try dsimp only)
              obtain ⟨hled7, hI7⟩ := hJ7
              rw [List.take_of_length_le (Nat.le_of_eq ((List.length_map ..).trans (hcl.trans hvl.symm)))] at hI7
              replace N' := news_led N' hled7
              clear hD7 hled7
              have htotA := totC_all hg
              rw [← htot] at htotA
              repeat' ((fail_if_success (with_reducible show wpAny _ _ (call (.builtin "sum") _) _ _ _)); (first | (k_unfold; (try dsimp only)) | (k_end; wrow_close) | walk1 | (dsimp only; walk1) | (leave1; walk_say "STEP leave1"; try dsimp only) | fail "no step"))
              with_unfolding_all refine' sumK ?k0 ?k1 ?k2 ?k3 ?k4 ?_
              case k0 => with_unfolding_all rfl
              case k1 => k_asm
              case k2 => k_asm
              case k3 => exact News.isList N' (.head _)
              case k4 => exact hI7
              k_whole
              intro h' tk' t' F' N'
              (try dsimp only)
              replace N' := news_of N' (fun p hp => .tail _ hp)
              clear hI7
              repeat' ((fail_if_success (with_reducible show wpAny _ _ (eval (PySem.Expr.ListComp _ _ _ _) _) _ _ _)); (first | (k_unfold; (try dsimp only)) | (k_end; wrow_close) | walk1 | (dsimp only; walk1) | (leave1; walk_say "STEP leave1"; try dsimp only) | fail "no step"))
              k_dflt (refine cn_eval_tup (F₀ := by k_asm) (by with_unfolding_all rfl) (by decide) (by rfl) (by decide) (by rfl) ?_)
              repeat' ((fail_if_success (with_reducible show Exists _)); (first | (k_unfold; (try dsimp only)) | (k_end; wrow_close) | walk1 | (dsimp only; walk1) | (leave1; walk_say "STEP leave1"; try dsimp only) | fail "no step"))
              have hk9 := sum_abs hg hcl
              refine ⟨_, _, _, ListK _ (figs (cs.map worth).sum.natAbs), rfl, by exact rfl, by k_asm, by k_asm, by k_mem, ?e1, lk_start, (fun i ys nx h => h.1 _ (by k_mem)), ?_, ?_⟩
              case e1 => rw [sizeLine_eq]; show 2 ≤ _; decide
              · rintro i v zs nx hi hv hyl hJ
                obtain ⟨z, t, rfl, hz⟩ := figs_at hv
                intro I' oI' C' oC' D' m' h' tk' E' hC' hx' F' N' off' ne'
                (try dsimp only); (try k_fold)
                k_steps
                exact lk_next hJ off' (fun p hp => .tail _ (.tail _ (.tail _ (hJ.1 p hp)))) hz
              · intro D8 h tk ys8 nx8 hJ8 hy8 F' N' hD8 hlD8
                (try dsimp only)
                obtain ⟨hled8, hI8⟩ := hJ8
                rw [List.take_of_length_le (by exact Nat.le_refl 2)] at hI8
                replace N' := news_led N' hled8
                clear hD8 hlD8 hled8
                repeat' ((fail_if_success (with_reducible show wpAny _ _ (call (.type "bytes") _) _ _ _)); (first | (k_unfold; (try dsimp only)) | (k_end; wrow_close) | walk1 | (dsimp only; walk1) | (leave1; walk_say "STEP leave1"; try dsimp only) | fail "no step"))
                (with_reducible rename News _ _ _ _ => nF')
                (with_unfolding_all refine bytes_figs (by k_asm) nF' (by k_mem) (by with_reducible assumption) hk9 (by exact rfl) ?_)
                intro t' h' k' F' N'
                (try k_sweep)
                repeat' ((fail_if_success (with_reducible show wpAny _ _ (getMethod _ _ _) _ _ _)); (first | (k_unfold; (try dsimp only)) | (k_end; wrow_close) | walk1 | (dsimp only; walk1) | (leave1; walk_say "STEP leave1"; try dsimp only) | fail "no step"))
                k_dflt (refine lstrip_method ?_)
                repeat' ((fail_if_success (with_reducible show wpAny _ _ (call (.builtin "bytes.lstrip") _) _ _ _)); (first | (k_unfold; (try dsimp only)) | (k_end; wrow_close) | walk1 | (dsimp only; walk1) | (leave1; walk_say "STEP leave1"; try dsimp only) | fail "no step"))
                k_dflt (refine lstrip_word hk9 ?_)
                intro _ _
                repeat' ((fail_if_success (with_reducible show wpAny _ _ (call (.ref 28) _) _ _ _)); (first | (k_unfold; (try dsimp only)) | (k_end; wrow_close) | walk1 | (dsimp only; walk1) | (leave1; walk_say "STEP leave1"; try dsimp only) | fail "no step"))
                k_dflt (refine' use_ctrT (c_apk _ _ _ _ _ _ _ (cs.map worth).sum.natAbs (apk_pos htotA) hk9) ?kA ?k1 ?k2 ?k3 ?k4 ?k5 ?k6 ?k7 ?k8 ?_)
                case kA => exact rfl
                case k1 => k_asm
                case k2 => k_asm
                case k3 => k_asm
                case k4 => k_asm
                case k5 => k_asm
                case k6 => first | exact rfl | assumption
                case k7 => ktr_room
                case k8 => ktr_units
                k_whole
                intro t' h' tk' F' N'
                (try dsimp only)
                (try k_sweep)
                repeat' ((fail_if_success (with_reducible show wpAny _ _ (compareOp .NotEq _ _) _ _ _)); (first | (k_unfold; (try dsimp only)) | (k_end; wrow_close) | walk1 | (dsimp only; walk1) | (leave1; walk_say "STEP leave1"; try dsimp only) | fail "no step"))
                (with_reducible refine ne_bytes_same ?_)
                repeat' ((fail_if_success (with_reducible show wpAny _ _ (call (.ref 28) _) _ _ _)); (first | (k_unfold; (try dsimp only)) | (k_end; wrow_close) | walk1 | (dsimp only; walk1) | (leave1; walk_say "STEP leave1"; try dsimp only) | fail "no step"))
                k_dflt (refine' use_ctrT (c_apk _ _ _ _ _ _ _ (cs.map worth).sum.natAbs (apk_neg htotA) hk9) ?kA ?k1 ?k2 ?k3 ?k4 ?k5 ?k6 ?k7 ?k8 ?_)
                case kA => exact rfl
                case k1 => k_asm
                case k2 => k_asm
                case k3 => k_asm
                case k4 => k_asm
                case k5 => k_asm
                case k6 => first | exact rfl | assumption
                case k7 => ktr_room
                case k8 => ktr_units
                k_whole
                intro t' h' tk' F' N'
                (try dsimp only)
                (try k_sweep)
                repeat' ((fail_if_success (with_reducible show wpAny _ _ (compareOp .NotEq _ _) _ _ _)); (first | (k_unfold; (try dsimp only)) | (k_end; wrow_close) | walk1 | (dsimp only; walk1) | (leave1; walk_say "STEP leave1"; try dsimp only) | fail "no step"))
                (with_reducible refine ne_bytes_same ?_)
                repeat' ((fail_if_success (with_reducible show wpAny _ _ (call (.ref 108) _) _ _ _)); (first | (k_unfold; (try dsimp only)) | (k_end; wrow_close) | walk1 | (dsimp only; walk1) | (leave1; walk_say "STEP leave1"; try dsimp only) | fail "no step"))
                repeat' ((fail_if_success (with_reducible show wpAny _ _ (call (.ref 108) _) _ _ _)); (first | (k_unfold; (try dsimp only)) | (k_end; wrow_close) | walk1 | (dsimp only; walk1) | (leave1; walk_say "STEP leave1"; try dsimp only) | fail "no step"))
                k_dflt (refine' use_ctr0 (c_isnonterm _ _ _ _ _ _ _) ?kA ?k1 ?k2 ?k3 ?k4 ?k5 ?k6 ?k7 ?k8 ?_)
                case kA => exact rfl
                case k1 => k_asm
                case k2 => k_asm
                case k3 => k_asm
                case k4 => k_asm
                case k5 => k_asm
                case k6 => first | exact rfl | assumption
                case k7 => ktr_room
                case k8 => ktr_units
                k_whole
                intro h' tk' F' N'
                (try k_sweep)
                repeat' ((fail_if_success (with_reducible show wpAny _ _ (compareOp .IsNot _ _) _ _ _)); (first | (k_unfold; (try dsimp only)) | (k_end; wrow_close) | walk1 | (dsimp only; walk1) | (leave1; walk_say "STEP leave1"; try dsimp only) | fail "no step"))
                (refine isnot_dec (non_iff htotA) ?_)
                repeat' ((fail_if_success (with_reducible show wpAny _ _ (call (.ref 101) _) _ _ _)); (first | (k_unfold; (try dsimp only)) | (k_end; wrow_close) | walk1 | (dsimp only; walk1) | (leave1; walk_say "STEP leave1"; try dsimp only) | fail "no step"))
                k_dflt (refine' use_ctr0 (c_isterm _ _ _ _ _ _ _) ?kA ?k1 ?k2 ?k3 ?k4 ?k5 ?k6 ?k7 ?k8 ?_)
                case kA => exact rfl
                case k1 => k_asm
                case k2 => k_asm
                case k3 => k_asm
                case k4 => k_asm
                case k5 => k_asm
                case k6 => first | exact rfl | assumption
                case k7 => ktr_room
                case k8 => ktr_units
                k_whole
                intro h' tk' F' N'
                (try k_sweep)
                repeat' ((fail_if_success (with_reducible show wpAny _ _ (compareOp .IsNot _ _) _ _ _)); (first | (k_unfold; (try dsimp only)) | (k_end; wrow_close) | walk1 | (dsimp only; walk1) | (leave1; walk_say "STEP leave1"; try dsimp only) | fail "no step"))
                (refine isnot_dec (ter_iff htotA) ?_)
                repeat' ((fail_if_success (with_reducible show wpAny _ _ (call (.ref 115) _) _ _ _)); (first | (k_unfold; (try dsimp only)) | (k_end; wrow_close) | walk1 | (dsimp only; walk1) | (leave1; walk_say "STEP leave1"; try dsimp only) | fail "no step"))
                k_dflt (refine' use_ctr0 (c_iseof _ _ _ _ _ _ _) ?kA ?k1 ?k2 ?k3 ?k4 ?k5 ?k6 ?k7 ?k8 ?_)
                case kA => exact rfl
                case k1 => k_asm
                case k2 => k_asm
                case k3 => k_asm
                case k4 => k_asm
                case k5 => k_asm
                case k6 => first | exact rfl | assumption
                case k7 => ktr_room
                case k8 => ktr_units
                k_whole
                intro h' tk' F' N'
                (try k_sweep)
                repeat' ((fail_if_success (with_reducible show wpAny _ _ (compareOp .Is _ _) _ _ _)); (first | (k_unfold; (try dsimp only)) | (k_end; wrow_close) | walk1 | (dsimp only; walk1) | (leave1; walk_say "STEP leave1"; try dsimp only) | fail "no step"))
                (refine is_deq (eof_iff htotA) ?_)
                repeat' ((fail_if_success (with_reducible show wpAny _ _ (call (.ref 115) _) _ _ _)); (first | (k_unfold; (try dsimp only)) | (k_end; wrow_close) | walk1 | (dsimp only; walk1) | (leave1; walk_say "STEP leave1"; try dsimp only) | fail "no step"))
                k_dflt (refine' use_ctr0 (c_iseof _ _ _ _ _ _ _) ?kA ?k1 ?k2 ?k3 ?k4 ?k5 ?k6 ?k7 ?k8 ?_)
                case kA => exact rfl
                case k1 => k_asm
                case k2 => k_asm
                case k3 => k_asm
                case k4 => k_asm
                case k5 => k_asm
                case k6 => first | exact rfl | assumption
                case k7 => ktr_room
                case k8 => ktr_units
                k_whole
                intro h' tk' F' N'
                (try k_sweep)
                repeat' ((fail_if_success (with_reducible show wpAny _ _ (compareOp .Is _ _) _ _ _)); (first | (k_unfold; (try dsimp only)) | (k_end; wrow_close) | walk1 | (dsimp only; walk1) | (leave1; walk_say "STEP leave1"; try dsimp only) | fail "no step"))
                (refine is_deq (eofn_iff htotA) ?_)
                k_steps)
end Mine
end
open PySem PySem.W PyProof.Rows
theorem PySem.Challenge.cw_ta0018_02_holds : PySem.Challenge.rw_ta0018_02.Holds :=
  Mine.lawY
