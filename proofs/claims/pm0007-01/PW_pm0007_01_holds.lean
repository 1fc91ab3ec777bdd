import PyProof.Rows.All
import Wide.All
import OpenK.AllK
import Wide.FinOn
import PySem.Challenge.RW_pm0007_01
set_option Elab.async false
set_option maxRecDepth 100000
set_option maxHeartbeats 8000000
set_option linter.all false
set_option rowWalk.seconds 0
section
open PySem PySem.W PyProof.Rows
#guard_msgs (drop all) in
lay_quick_some 10 Nonesuch
namespace Mine
open_top hd for PySem.Challenge.rw_pm0007_01
theorem tops_off : True := by
  w_top off
  trivial
end Mine
end
section
open PySem PySem.W PySem.Calls PySem.Spec PyProof.Rows
namespace Mine

abbrev Led := List (Addr × Obj)

/-- a call of a def of the text: what it gives back, and what the ledger is behind it -/
def Does (w : World) (p : Program) (loose : List Str) (mean : ExcName → Option Value) (mg mb : Str → Option Value) (kd ku : Nat) (f : Addr) (news : Led) (vs : List Value) (Post : Value → Led → Prop) : Prop :=
  ∀ (dp un : Nat) (gd : Option (List Code)) (cn : Str) (cs : Scope) (a : Addr) (ccd : Value) (cl : List (Str × Addr)) (outer : List Env) (A₀ : Around) (base h₀ : Heap) (L : Addr) (m : Str → Option Value) (s : Shared) (Q E : Value → Shared → Prop),
    Below A₀ base outer h₀ → Fr h₀ L s.heap m → (hd.heap_39 w.params).In h₀ → News h₀ L s.heap news → Top p loose mean mg mb h₀ → cs.kind = .function → dp + kd < recursionLimit → un + ku < cLine →
    (∀ r news' h' tk', Fr h₀ L h' m → News h₀ L h' news' → Post r news' → Q r { s with heap := h', toks := tk' }) →
    wpAny (model PySem.Challenge.rw_pm0007_01.row.prog w) (ktrTop dp un gd cn cs L a ccd cl outer) (call (.ref f) vs) Q E s
theorem does_use {w : World} {p : Program} {loose : List Str} {mean : ExcName → Option Value} {mg mb : Str → Option Value} {kd ku : Nat} {f : Addr} {news : Led} {vs : List Value} {Post : Value → Led → Prop}
    {dp un : Nat} {gd : Option (List Code)} {cn : Str} {cs : Scope} {a : Addr} {ccd : Value} {cl : List (Str × Addr)} {outer : List Env} {A₀ : Around} {base h₀ : Heap} {L : Addr} {m : Str → Option Value} {s : Shared} {Q E : Value → Shared → Prop}
    (C : Does w p loose mean mg mb kd ku f news vs Post) (B : Below A₀ base outer h₀) (F : Fr h₀ L s.heap m) (X : (hd.heap_39 w.params).In h₀) (N : News h₀ L s.heap news) (T : Top p loose mean mg mb h₀) (hk : cs.kind = .function) (hd : dp + kd < recursionLimit) (hu : un + ku < cLine)
    (ret : ∀ r news' h' tk', Fr h₀ L h' m → News h₀ L h' news' → Post r news' → Q r { s with heap := h', toks := tk' }) :
    wpAny (model PySem.Challenge.rw_pm0007_01.row.prog w) (ktrTop dp un gd cn cs L a ccd cl outer) (call (.ref f) vs) Q E s := C _ _ _ _ _ _ _ _ _ _ _ _ _ _ _ _ _ B F X N T hk hd hu ret
theorem fr_map {h₀ h : Heap} {L : Addr} {m m' : Str → Option Value} (F : Fr h₀ L h m) (e : ∀ y, m y = m' y) : Fr h₀ L h m' := by
  have : m = m' := funext e
  rw [← this]; exact F
theorem look1 (a : Str) (v : Value) (y : Str) : List.lookup y [(a, v)] = if y = a then some v else none := by
  by_cases h : y = a
  · subst h; simp [List.lookup]
  · have h2 : (y == a) = false := by simp [h]
    simp [List.lookup, h, h2]
theorem look2 (a b : Str) (v u : Value) (y : Str) : List.lookup y [(a, v), (b, u)] = if y = a then some v else if y = b then some u else none := by
  by_cases h : y = a
  · subst h; simp [List.lookup]
  · have h2 : (y == a) = false := by simp [h]
    rw [List.lookup, h2, if_neg h]
    exact look1 b u y
theorem look3 (a b c : Str) (v u t : Value) (y : Str) : List.lookup y [(a, v), (b, u), (c, t)] = if y = a then some v else if y = b then some u else if y = c then some t else none := by
  by_cases h : y = a
  · subst h; simp [List.lookup]
  · have h2 : (y == a) = false := by simp [h]
    rw [List.lookup, h2, if_neg h]
    exact look2 b c u t y
theorem look4 (a b c d : Str) (v u t r : Value) (y : Str) : List.lookup y [(a, v), (b, u), (c, t), (d, r)] = if y = a then some v else if y = b then some u else if y = c then some t else if y = d then some r else none := by
  by_cases h : y = a
  · subst h; simp [List.lookup]
  · have h2 : (y == a) = false := by simp [h]
    rw [List.lookup, h2, if_neg h]
    exact look3 b c d u t r y
end Mine
end
section
open PySem PySem.W PySem.Calls PySem.Spec PyProof.Rows
namespace Mine

def TEnd {σ : Type} (h₀ : Heap) (L : Addr) (pre : Led) (ps : σ → List (Str × Value)) (ld : σ → Led) (Off : Addr → Prop) (P : σ → Prop) (s s₂ : Shared) : Prop :=
  ∃ (c : σ) (h' : Heap) (tk : Nat) (m' : Str → Option Value), s₂ = { s with heap := h', toks := tk } ∧ Fr h₀ L h' m' ∧ News h₀ L h' (pre ++ ld c) ∧ (∀ p ∈ ld c, Off p.1) ∧ (∀ p ∈ ps c, m' p.1 = some p.2) ∧ P c
def TPost {σ : Type} (h₀ : Heap) (L : Addr) (pre : Led) (ps : σ → List (Str × Value)) (ld : σ → Led) (Off : Addr → Prop) (P : σ → Prop) (s : Shared) (Q : Flow → Shared → Prop) (f : Flow) (s₂ : Shared) : Prop :=
  match f with
  | .ret v => Q (.ret v) s₂
  | .brk => Q .next s₂
  | _ => TEnd h₀ L pre ps ld Off P s s₂
theorem tEnd {σ : Type} {h₀ : Heap} {L : Addr} {pre : Led} {ps : σ → List (Str × Value)} {ld : σ → Led} {Off : Addr → Prop} {P : σ → Prop} {s : Shared} {h' : Heap} {tk : Nat} {m' : Str → Option Value} {news' : Led} (c : σ)
    (F : Fr h₀ L h' m') (N : News h₀ L h' news') (hs : ∀ p ∈ pre ++ ld c, p ∈ news') (ho : ∀ p ∈ ld c, Off p.1) (hk : ∀ p ∈ ps c, m' p.1 = some p.2) (hp : P c) :
    TEnd h₀ L pre ps ld Off P s { s with heap := h', toks := tk } := ⟨c, h', tk, m', rfl, F, fun p hp => N p (hs p hp), ho, hk, hp⟩
theorem kstB_id {ps : List (Str × Value)} {m : Str → Option Value} (hk : ∀ p ∈ ps, m p.1 = some p.2) : kstB m ps = m := by
  funext y
  exact kstB_eq hk fun _ => rfl

section
variable {prog : Program} {w : World} {A : Around} {E : Value → Shared → Prop} {s : Shared} {env : Env} {h₀ : Heap} {x : Str} {body : List Stmt} {Q : Flow → Shared → Prop}

theorem loopT {σ : Type} {I : Addr} {fp : List Addr} {n : Nat} {Pv : Nat → Value → Prop} {St : Nat → Heap → Prop} {m₀ : Str → Option Value} (ps : σ → List (Str × Value)) (ld : σ → Led) (P : Nat → σ → Prop) (c₀ : σ)
    (W : Walks prog w A I fp [I] n Pv St) (hLf : env.locals ∉ fp) (hfr : ∀ b ∈ fp, h₀.get? b = none) (hlive : ∀ i h, St i h → ∃ o, h.get? I = some o)
    (hown : ∀ (c : σ) b, b ∈ fp → b = I ∨ ∃ o, (b, o) ∈ ld c ∧ ∀ c' : σ, (b, o) ∈ ld c')
    (hst : St 0 s.heap) (F : Fr h₀ env.locals s.heap m₀) (N : News h₀ env.locals s.heap (ld c₀)) (hne : ∀ p ∈ ld c₀, p.1 ≠ I) (hk : ∀ p ∈ ps c₀, m₀ p.1 = some p.2) (hp : P 0 c₀)
    (turn : ∀ i v (c : σ) (u : Str → Option Value) oI h tk, i < n → Pv i v → P i c → (∀ p ∈ ld c, p.1 ≠ I) → Fr h₀ env.locals h (fun y => if y = x then some v else kstB u (ps c) y) → News h₀ env.locals h ((I, oI) :: ld c) →
      wpAny (model prog w) A (execs body env) (TPost h₀ env.locals [(I, oI)] ps ld (fun a => a ≠ I) (P (i + 1)) { s with heap := h, toks := tk } Q) E { s with heap := h, toks := tk })
    (done : ∀ (c : σ) (u : Str → Option Value) h tk, P n c → Fr h₀ env.locals h (kstB u (ps c)) → News h₀ env.locals h (ld c) → Q .next { s with heap := h, toks := tk }) :
    LoopAtV prog w A h₀ env x body Q E (.ref I) s := by
  let J : Nat → (Str → Option Value) → Led → Prop := fun i m₁ nx => ∃ c : σ, nx = ld c ∧ (∀ p ∈ ps c, m₁ p.1 = some p.2) ∧ P i c
  have hI : I ∈ fp := W.sub I (by simp)
  refine ⟨I, fp, [I], n, Pv, St, m₀, ld c₀, J, rfl, W, hLf, ?_, ?_, hst, F, N, ⟨c₀, rfl, hk, hp⟩, ?_, ?_⟩
  · intro b hb
    exact hfr b (List.mem_singleton.mp hb ▸ hI)
  · intro p hp hm
    exact hne p hp (List.mem_singleton.mp hm)
  · rintro i v m₁ nx s₁ own ⟨h, tk, rfl⟩ hin hP ⟨c, rfl, hk1, hp1⟩ hoff hsub hget hall hst1 F₁ N₁
    obtain ⟨oI, hoI⟩ := hlive _ _ hst1
    have hmem : (I, oI) ∈ own := hall I hI (hfr I hI) oI hoI
    have hoff' : ∀ p ∈ ld c, p.1 ≠ I := fun p hp e => hoff p hp (by rw [e]; exact List.mem_singleton.mpr rfl)
    have hF : Fr h₀ env.locals h (fun y => if y = x then some v else kstB m₁ (ps c) y) := by rw [kstB_id hk1]; exact F₁
    have hN : News h₀ env.locals h ((I, oI) :: ld c) := fun p hp => by
      rcases List.mem_cons.mp hp with rfl | hp
      · exact N₁ _ (List.mem_append_left _ hmem)
      · exact N₁ _ (List.mem_append_right _ hp)
    refine wpAny_mono (turn i v c m₁ oI h tk hin hP hp1 hoff' hF hN) (fun f s₂ q => ?_) fun _ _ e => e
    have fin : TEnd h₀ env.locals [(I, oI)] ps ld (fun a => a ≠ I) (P (i + 1)) { s with heap := h, toks := tk } s₂ → LoopStepU h₀ env.locals [I] own (J (i + 1)) { s with heap := h, toks := tk } .next s₂ := by
      rintro ⟨c', h', tk', m', e, F', N', ho', hk', hp'⟩
      refine ⟨rfl, h', tk', m', ld c', e, F', fun p hp => ?_, fun p hp hm => ho' p hp (List.mem_singleton.mp hm), c', rfl, hk', hp'⟩
      rcases List.mem_append.mp hp with hp | hp
      · have hg := hget p hp
        rcases hown c p.1 (hsub p hp) with e1 | ⟨o, ho1, ho2⟩
        · have : p = (I, oI) := by
            obtain ⟨a, b⟩ := p
            cases e1
            rw [hoI] at hg
            cases hg
            rfl
          rw [this]
          exact N' _ (by simp)
        · have e2 := (N₁ _ (List.mem_append_right _ ho1)).1
          have : p = (p.1, o) := by
            obtain ⟨a, b⟩ := p
            have e3 : h.get? a = some o := e2
            have hg' : h.get? a = some b := hg
            rw [e3] at hg'
            cases hg'
            rfl
          rw [this]
          exact N' _ (List.mem_append_right _ (ho2 c'))
      · exact N' _ (List.mem_append_right _ hp)
    cases f with
    | ret v => exact .ret q
    | brk => exact .brk q
    | next => exact .next (fin q)
    | cont => exact .cont (fin q)
  · rintro h' tk' m' nx F' N' _ ⟨c, rfl, hk', hp'⟩
    refine done c m' h' tk' hp' ?_ N'
    rw [kstB_id hk']
    exact F'

theorem iterT_range {σ : Type} {r : Addr} {n : Nat} {t₀ u₀ v₀ : Tok} {m₀ : Str → Option Value} (ps : σ → List (Str × Value)) (ld : σ → Led) (P : Nat → σ → Prop) (c₀ : σ)
    (hh : A.handled = none) (hr : IsRange s.heap r 0 (n : Int) 1 t₀ u₀ v₀) (hsmall : Builtin.Range.small 0 (n : Int) 1 = true) (hn : Builtin.Range.rangeSize 0 (n : Int) 1 = (n : Int)) (F : Fr h₀ env.locals s.heap m₀) (N : News h₀ env.locals s.heap (ld c₀)) (hk : ∀ p ∈ ps c₀, m₀ p.1 = some p.2) (hp : P 0 c₀)
    (turn : ∀ (i : Nat) t I (c : σ) (u : Str → Option Value) oI h tk, i < n → P i c → (∀ p ∈ ld c, p.1 ≠ I) → Fr h₀ env.locals h (fun y => if y = x then some (.int (i : Int) t) else kstB u (ps c) y) → News h₀ env.locals h ((I, oI) :: ld c) →
      wpAny (model prog w) A (execs body env) (TPost h₀ env.locals [(I, oI)] ps ld (fun a => a ≠ I) (P (i + 1)) { s with heap := h, toks := tk } Q) E { s with heap := h, toks := tk })
    (done : ∀ (c : σ) (u : Str → Option Value) h tk, P n c → Fr h₀ env.locals h (kstB u (ps c)) → News h₀ env.locals h (ld c) → Q .next { s with heap := h, toks := tk }) :
    wpAny (model prog w) A (pyIter (.ref r)) (fun it s₂ => LoopAtV prog w A h₀ env x body Q E it s₂) E s := by
  refine wpAny_pyIter_range hr hsmall ?_
  have W : Walks prog w A s.heap.objs.size [s.heap.objs.size] [s.heap.objs.size] n (fun i v => i < n ∧ ∃ t, v = .int (0 + i * 1) t)
      (fun i h => IsRangeIter h s.heap.objs.size (0 + (i : Nat) * 1) ((n : Int) - (i : Nat)) 1) := (Walks.range hh _ 0 1 n).bound
  refine loopT ps ld P c₀ W ?_ ?_ ?_ ?_ (by show IsRangeIter _ _ _ _ _; rw [hn]; simpa using Heap.get?_push_size _ rfl) (F.push _) (fun p hp => ⟨Heap.get?_push_of_some _ (N p hp).1, (N p hp).2⟩) ?_ hk hp ?_ done
  · intro hm
    exact absurd F.ns.lt ((List.mem_singleton.mp hm) ▸ Nat.lt_irrefl _)
  · intro b hb
    rw [List.mem_singleton.mp hb]
    exact next_is_new F
  · intro i h hs
    exact ⟨_, hs⟩
  · intro c b hb
    exact .inl (List.mem_singleton.mp hb)
  · intro p hp e
    exact absurd (Heap.lt_size (N p hp).1) (e ▸ Nat.lt_irrefl _)
  · rintro i v c u oI h tk hi ⟨_, t, rfl⟩ hP hoff F₁ N₁
    have e1 : (0 : Int) + (i : Int) * 1 = (i : Int) := by omega
    rw [e1] at F₁
    exact turn i t _ c u oI h tk hi hP hoff F₁ N₁

theorem iterT_text {σ : Type} {xt : Str} {tx : Tok} {m₀ : Str → Option Value} (ps : σ → List (Str × Value)) (ld : σ → Led) (P : Nat → σ → Prop) (c₀ : σ)
    (hh : A.handled = none) (F : Fr h₀ env.locals s.heap m₀) (N : News h₀ env.locals s.heap (ld c₀)) (hk : ∀ p ∈ ps c₀, m₀ p.1 = some p.2) (hp : P 0 c₀)
    (turn : ∀ (i k : Nat) t I (c : σ) (u : Str → Option Value) oI h tk, xt.cps[i]? = some k → P i c → (∀ p ∈ ld c, p.1 ≠ I) → Fr h₀ env.locals h (fun y => if y = x then some (.str ⟨#[k]⟩ t) else kstB u (ps c) y) → News h₀ env.locals h ((I, oI) :: ld c) →
      wpAny (model prog w) A (execs body env) (TPost h₀ env.locals [(I, oI)] ps ld (fun a => a ≠ I) (P (i + 1)) { s with heap := h, toks := tk } Q) E { s with heap := h, toks := tk })
    (done : ∀ (c : σ) (u : Str → Option Value) h tk, P xt.cps.size c → Fr h₀ env.locals h (kstB u (ps c)) → News h₀ env.locals h (ld c) → Q .next { s with heap := h, toks := tk }) :
    wpAny (model prog w) A (pyIter (.str xt tx)) (fun it s₂ => LoopAtV prog w A h₀ env x body Q E it s₂) E s := by
  have fin : ∀ (o : Obj) (St : Nat → Heap → Prop), Walks prog w A s.heap.objs.size [s.heap.objs.size] [s.heap.objs.size] xt.cps.size (SignAt xt) St → St 0 (s.heap.push o) → (∀ i h, St i h → ∃ o, h.get? s.heap.objs.size = some o) →
      LoopAtV prog w A h₀ env x body Q E (.ref s.heap.objs.size) { s with heap := s.heap.push o } := by
    intro o St W hst hl
    refine loopT ps ld P c₀ W ?_ ?_ hl ?_ hst (F.push _) (fun p hp => ⟨Heap.get?_push_of_some _ (N p hp).1, (N p hp).2⟩) ?_ hk hp ?_ done
    · intro hm
      exact absurd F.ns.lt ((List.mem_singleton.mp hm) ▸ Nat.lt_irrefl _)
    · intro b hb
      rw [List.mem_singleton.mp hb]
      exact next_is_new F
    · intro c b hb
      exact .inl (List.mem_singleton.mp hb)
    · intro p hp e
      exact absurd (Heap.lt_size (N p hp).1) (e ▸ Nat.lt_irrefl _)
    · rintro i v c u oI h tk hi ⟨k, t, hk, rfl⟩ hP hoff F₁ N₁
      exact turn i k t _ c u oI h tk hk hP hoff F₁ N₁
  cases ha : xt.cps.all (· < 128)
  · exact wpAny_pyIter_wide ha (fin _ _ (Walks.strWide hh _ xt tx) ⟨_, Heap.get?_push_size _ rfl, rfl, rfl⟩ fun i h hs => let ⟨o, ho, _⟩ := hs; ⟨o, ho⟩)
  · exact wpAny_pyIter_ascii ha (fin _ _ (Walks.strAscii hh _ xt tx) ⟨_, Heap.get?_push_size _ rfl, rfl, rfl⟩ fun i h hs => let ⟨o, ho, _⟩ := hs; ⟨o, ho⟩)

theorem iterT_list {σ : Type} {l : Addr} {vs : List Value} {nn : Nat} {m₀ : Str → Option Value} (ps : σ → List (Str × Value)) (ld : σ → Led) (P : Nat → σ → Prop) (c₀ : σ)
    (hh : A.handled = none) (hl : ∀ c : σ, (l, W.listOf vs.toArray nn) ∈ ld c) (F : Fr h₀ env.locals s.heap m₀) (N : News h₀ env.locals s.heap (ld c₀)) (hk : ∀ p ∈ ps c₀, m₀ p.1 = some p.2) (hp : P 0 c₀)
    (turn : ∀ (i : Nat) v I (c : σ) (u : Str → Option Value) oI h tk, vs[i]? = some v → P i c → (∀ p ∈ ld c, p.1 ≠ I) → Fr h₀ env.locals h (fun y => if y = x then some v else kstB u (ps c) y) → News h₀ env.locals h ((I, oI) :: ld c) →
      wpAny (model prog w) A (execs body env) (TPost h₀ env.locals [(I, oI)] ps ld (fun a => a ≠ I) (P (i + 1)) { s with heap := h, toks := tk } Q) E { s with heap := h, toks := tk })
    (done : ∀ (c : σ) (u : Str → Option Value) h tk, P vs.length c → Fr h₀ env.locals h (kstB u (ps c)) → News h₀ env.locals h (ld c) → Q .next { s with heap := h, toks := tk }) :
    wpAny (model prog w) A (pyIter (.ref l)) (fun it s₂ => LoopAtV prog w A h₀ env x body Q E it s₂) E s := by
  have hls : s.heap.IsList l vs.toArray := ⟨_, (N _ (hl c₀)).1, rfl, nn, rfl⟩
  have hne : l ≠ s.heap.objs.size := Nat.ne_of_lt (Heap.lt_size (N _ (hl c₀)).1)
  refine wpAny_pyIter_list hls ?_
  have W := Walks.list (prog := prog) (w := w) hh s.heap.objs.size l hne vs.toArray
  have e9 : vs.toArray.size = vs.length := by simp
  rw [e9] at W
  refine loopT ps ld P c₀ W ?_ ?_ ?_ ?_ ⟨⟨_, Heap.get?_push_size _ rfl, rfl, rfl⟩, hls.at fun o e => Heap.get?_push_of_some _ e⟩ (F.push _) (fun p hp => ⟨Heap.get?_push_of_some _ (N p hp).1, (N p hp).2⟩) ?_ hk hp ?_ done
  · intro hm
    rcases List.mem_cons.mp hm with e | hm
    · exact absurd F.ns.lt (e ▸ Nat.lt_irrefl _)
    · exact (N _ (hl c₀)).2.1 (List.mem_singleton.mp hm).symm
  · intro b hb
    rcases List.mem_cons.mp hb with e | hb
    · rw [e]; exact next_is_new F
    · rw [List.mem_singleton.mp hb]; exact (N _ (hl c₀)).2.2
  · rintro i h ⟨⟨o, ho, _⟩, _⟩
    exact ⟨o, ho⟩
  · intro c b hb
    rcases List.mem_cons.mp hb with e | hb
    · exact .inl e
    · rw [List.mem_singleton.mp hb]; exact .inr ⟨_, hl c, hl⟩
  · intro p hp e
    exact absurd (Heap.lt_size (N p hp).1) (e ▸ Nat.lt_irrefl _)
  · rintro i v c u oI h tk hi hv hP hoff F₁ N₁
    exact turn i v _ c u oI h tk (by simpa using hv) hP hoff F₁ N₁

/-- a while: an invariant over the frame's names and the ledger, and a measure -/
theorem whileT {σ : Type} {L : Addr} {test : Expr} {tb : List Stmt} {pos : Pos} {m₀ : Str → Option Value} (ps : σ → List (Str × Value)) (ld : σ → Led) (P : σ → Prop) (μ : σ → Nat) (c₀ : σ)
    (F : Fr h₀ L s.heap m₀) (N : News h₀ L s.heap (ld c₀)) (hk : ∀ p ∈ ps c₀, m₀ p.1 = some p.2) (hp : P c₀)
    (turn : ∀ (c : σ) (u : Str → Option Value) h tk, P c → Fr h₀ L h (kstB u (ps c)) → News h₀ L h (ld c) →
      wpAny (model prog w) A (isTrue test env (eval test env)) (fun b s₂ =>
        if b = true then wpAny (model prog w) A (execs tb env) (TPost h₀ L [] ps ld (fun _ => True) (fun c' => P c' ∧ μ c' < μ c) { s with heap := h, toks := tk } Q) E s₂ else Q .next s₂) E { s with heap := h, toks := tk })
    (hE : PassesOwn (model prog w) A env E := by passes_own) :
    wpAny (model prog w) A (exec (.While test tb [] pos) env) Q E s := by
  refine While_inv2 (fun n m nx => ∃ c : σ, nx = ld c ∧ μ c = n ∧ (∀ p ∈ ps c, m p.1 = some p.2) ∧ P c) F N ⟨c₀, rfl, rfl, hk, hp⟩ ?_ hE
  rintro n m₁ nx h tk F₁ N₁ ⟨c, rfl, rfl, hk1, hp1⟩
  have hF : Fr h₀ L h (kstB m₁ (ps c)) := by rw [kstB_id hk1]; exact F₁
  refine wpAny_mono (turn c m₁ h tk hp1 hF N₁) (fun b s₂ p => ?_) fun _ _ x => x
  cases b with
  | false => simpa using p
  | true =>
    simp only [if_true] at p ⊢
    refine wpAny_mono p (fun f s₃ q => ?_) fun _ _ x => x
    have fin : TEnd h₀ L [] ps ld (fun _ => True) (fun c' => P c' ∧ μ c' < μ c) { s with heap := h, toks := tk } s₃ → WhileStep2 h₀ L s (fun n m nx => ∃ c : σ, nx = ld c ∧ μ c = n ∧ (∀ p ∈ ps c, m p.1 = some p.2) ∧ P c) Q (μ c) .next s₃ := by
      rintro ⟨c', h', tk', m', rfl, F', N', _, hk', hp', hm'⟩
      exact ⟨h', tk', m', ld c', μ c', rfl, F', N', hm', c', rfl, rfl, hk', hp'⟩
    cases f with
    | ret v => exact q
    | brk => exact q
    | next => exact fin q
    | cont => exact fin q
end
end Mine
end
section
/-! The plain law: lists of sign numbers, no program in sight. -/
namespace Mine

/-- what is told of a quoted name, from behind its opening quote; pend: a quote stands ahead -/
def pq : Bool → List Nat → List Nat
  | _, [] => []
  | false, c :: r => if c = 34 then pq true r else c :: pq false r
  | true, c :: r => if c = 34 then 34 :: pq false r else []
def p257 (l : List Nat) : List Nat := pq false l

/-- what a word's reader makes of the hidden signs; h: the sign ahead hides -/
def unesc : Bool → List Nat → List Nat
  | _, [] => []
  | true, c :: r => c :: unesc false r
  | false, c :: r => if c = 92 then unesc true r else c :: unesc false r

/-- the law's own reckoning -/
def leftGo (each pack gap : Nat) : List Nat → Nat → Nat → Nat → List Nat → Nat × List Nat → Nat × List Nat
  | [], place, _, q, out, sure => if q % pack ≠ 0 then sure else (place, out)
  | c :: r, place, s, q, out, sure =>
    if c = 92 then leftGo each pack gap r (place + 1) (s + 1) q (if (s + 1) % each = 0 then out ++ [92] else out) sure
    else if c = 34 then
      if s ≥ gap ∧ q % pack ≠ 0 then sure
      else
        let q₀ := if s ≥ gap then 0 else q
        leftGo each pack gap r (place + 1) 0 (q₀ + 1) (if (q₀ + 1) % pack = 0 then out ++ [34] else out) (if q₀ % pack = 0 then (place, out) else sure)
    else if q % pack ≠ 0 then sure
    else leftGo each pack gap r (place + 1) 0 0 (out ++ [c]) sure
def left (each pack gap : Nat) (l : List Nat) : Nat × List Nat := leftGo each pack gap l 0 0 0 [] (0, [])

/-- the run of a text that is whole -/
def run (each pack gap : Nat) : Nat → Nat → List Nat → Option (List Nat)
  | _, q, [] => if q % pack ≠ 0 then none else some []
  | s, q, c :: r =>
    if c = 92 then (run each pack gap (s + 1) q r).map fun t => if (s + 1) % each = 0 then 92 :: t else t
    else if c = 34 then
      if s ≥ gap ∧ q % pack ≠ 0 then none
      else
        let q₀ := if s ≥ gap then 0 else q
        (run each pack gap 0 (q₀ + 1) r).map fun t => if (q₀ + 1) % pack = 0 then 34 :: t else t
    else if q % pack ≠ 0 then none
    else (run each pack gap 0 0 r).map fun t => c :: t

def dueGo : List Nat → List Nat → Nat → Nat → Nat → List (List Nat)
  | _, [], _, _, _ => []
  | text, d :: ds, words, names, gap =>
    let w := if d = 0 then 2 * words else words
    let n := if d = 0 then names else 2 * names
    let g := if d = 0 then gap else words
    let e := left w n g text
    e.2 :: dueGo (text.take e.1) ds w n g
def due (text : List Nat) (ds : List Nat) : List (List Nat) := dueGo text ds 1 1 1

/-- what the code itself does with a text -/
def step (d : Nat) (t : List Nat) : List Nat := if d = 0 then unesc false t else p257 t
def steps : List Nat → List Nat → List (List Nat)
  | _, [] => []
  | t, d :: ds => step d t :: steps (step d t) ds

/-! ### a whole run -/
theorem left_of_run {w n g : Nat} : ∀ (r : List Nat) {s q p : Nat} {out t : List Nat} {sure : Nat × List Nat}, run w n g s q r = some t → leftGo w n g r p s q out sure = (p + r.length, out ++ t)
  | [], s, q, p, out, t, sure, h => by
    unfold run at h
    unfold leftGo
    split at h
    · cases h
    · rename_i hq
      cases h
      rw [if_neg hq]; simp
  | c :: r, s, q, p, out, t, sure, h => by
    unfold run at h
    unfold leftGo
    by_cases hc : c = 92
    · rw [if_pos hc] at h ⊢
      cases hr : run w n g (s + 1) q r with
      | none => rw [hr] at h; cases h
      | some t' =>
        rw [hr] at h
        simp only [Option.map_some, Option.some.injEq] at h
        rw [left_of_run r hr, ← h]
        by_cases hw : (s + 1) % w = 0
        · simp [hw, Nat.add_comm, Nat.add_left_comm]
        · simp [hw, Nat.add_comm, Nat.add_left_comm]
    · rw [if_neg hc] at h ⊢
      by_cases hq : c = 34
      · rw [if_pos hq] at h ⊢
        by_cases hb : s ≥ g ∧ q % n ≠ 0
        · rw [if_pos hb] at h; cases h
        · rw [if_neg hb] at h ⊢
          dsimp only at h ⊢
          cases hr : run w n g 0 ((if s ≥ g then 0 else q) + 1) r with
          | none => rw [hr] at h; cases h
          | some t' =>
            rw [hr] at h
            simp only [Option.map_some, Option.some.injEq] at h
            rw [left_of_run r hr, ← h]
            by_cases hw : ((if s ≥ g then 0 else q) + 1) % n = 0
            · simp [hw, Nat.add_comm, Nat.add_left_comm]
            · simp [hw, Nat.add_comm, Nat.add_left_comm]
      · rw [if_neg hq] at h ⊢
        by_cases hb : q % n ≠ 0
        · rw [if_pos hb] at h; cases h
        · rw [if_neg hb] at h ⊢
          cases hr : run w n g 0 0 r with
          | none => rw [hr] at h; cases h
          | some t' =>
            rw [hr] at h
            simp only [Option.map_some, Option.some.injEq] at h
            rw [left_of_run r hr, ← h]
            simp [Nat.add_comm, Nat.add_left_comm]

/-- the front that is told is whole, and tells just that -/
theorem run_of_left {w n g : Nat} : ∀ (r : List Nat) {s q p : Nat} {out : List Nat} {sure : Nat × List Nat} {e : Nat} {o : List Nat}, leftGo w n g r p s q out sure = (e, o) →
    (e, o) = sure ∨ (p ≤ e ∧ ∃ t, o = out ++ t ∧ run w n g s q (r.take (e - p)) = some t)
  | [], s, q, p, out, sure, e, o, h => by
    unfold leftGo at h
    split at h
    · exact .inl h.symm
    · rename_i hq
      cases h
      refine .inr ⟨Nat.le_refl _, [], by simp, ?_⟩
      simp only [List.take_nil]
      unfold run
      rw [if_neg hq]
  | c :: r, s, q, p, out, sure, e, o, h => by
    unfold leftGo at h
    by_cases hc : c = 92
    · rw [if_pos hc] at h
      rcases run_of_left r h with h1 | ⟨hp, t, ht, hr⟩
      · exact .inl h1
      · refine .inr ⟨by omega, ?_⟩
        have e1 : e - p = (e - (p + 1)) + 1 := by omega
        rw [e1, List.take_succ_cons]
        unfold run
        rw [if_pos hc, hr]
        refine ⟨_, ?_, rfl⟩
        rw [ht]
        by_cases hw : (s + 1) % w = 0
        · simp [hw]
        · simp [hw]
    · rw [if_neg hc] at h
      by_cases hq : c = 34
      · rw [if_pos hq] at h
        by_cases hb : s ≥ g ∧ q % n ≠ 0
        · rw [if_pos hb] at h
          exact .inl h.symm
        · rw [if_neg hb] at h
          dsimp only at h
          rcases run_of_left r h with h1 | ⟨hp, t, ht, hr⟩
          · by_cases hw : (if s ≥ g then 0 else q) % n = 0
            · rw [if_pos hw] at h1
              cases h1
              refine .inr ⟨Nat.le_refl _, [], by simp, ?_⟩
              simp only [Nat.sub_self, List.take_zero]
              unfold run
              have hq0 : q % n = 0 := by
                by_cases hs : s ≥ g
                · by_cases h0 : q % n = 0
                  · exact h0
                  · exact absurd ⟨hs, h0⟩ hb
                · rw [if_neg hs] at hw
                  exact hw
              simp [hq0]
            · rw [if_neg hw] at h1
              exact .inl h1
          · refine .inr ⟨by omega, ?_⟩
            have e1 : e - p = (e - (p + 1)) + 1 := by omega
            rw [e1, List.take_succ_cons]
            unfold run
            rw [if_neg hc, if_pos hq, if_neg hb]
            dsimp only
            rw [hr]
            refine ⟨_, ?_, rfl⟩
            rw [ht]
            by_cases hw : ((if s ≥ g then 0 else q) + 1) % n = 0
            · simp [hw]
            · simp [hw]
      · rw [if_neg hq] at h
        by_cases hb : q % n ≠ 0
        · rw [if_pos hb] at h
          exact .inl h.symm
        · rw [if_neg hb] at h
          rcases run_of_left r h with h1 | ⟨hp, t, ht, hr⟩
          · exact .inl h1
          · refine .inr ⟨by omega, ?_⟩
            have e1 : e - p = (e - (p + 1)) + 1 := by omega
            rw [e1, List.take_succ_cons]
            unfold run
            rw [if_neg hc, if_neg hq, if_neg hb, hr]
            exact ⟨_, by rw [ht]; simp, rfl⟩

theorem left_le {w n g : Nat} : ∀ (r : List Nat) {s q p : Nat} {out : List Nat} {sure : Nat × List Nat}, sure.1 ≤ p → (leftGo w n g r p s q out sure).1 ≤ p + r.length
  | [], s, q, p, out, sure, h => by
    unfold leftGo
    split
    · omega
    · simp
  | c :: r, s, q, p, out, sure, h => by
    unfold leftGo
    by_cases hc : c = 92
    · rw [if_pos hc]
      have := left_le (w := w) (n := n) (g := g) r (s := s + 1) (q := q) (p := p + 1) (out := if (s + 1) % w = 0 then out ++ [92] else out) (sure := sure) (by omega)
      simp only [List.length_cons]; omega
    · rw [if_neg hc]
      by_cases h34 : c = 34
      · rw [if_pos h34]
        split
        · simp only [List.length_cons]; omega
        · dsimp only
          refine Nat.le_trans (left_le r (by generalize (if s ≥ g then 0 else q) = q0; by_cases hz : q0 % n = 0 <;> simp [hz] <;> omega)) ?_
          simp only [List.length_cons]; omega
      · rw [if_neg h34]
        split
        · simp only [List.length_cons]; omega
        · refine Nat.le_trans (left_le r (by omega)) ?_
          simp only [List.length_cons]; omega

/-- within a pack, behind gap backslashes: nothing is whole -/
theorem run_dead {w n g : Nat} : ∀ (r : List Nat) {s q : Nat}, s ≥ g → q % n ≠ 0 → run w n g s q r = none
  | [], s, q, hs, hq => by unfold run; rw [if_pos hq]
  | c :: r, s, q, hs, hq => by
    unfold run
    by_cases hc : c = 92
    · rw [if_pos hc, run_dead r (by omega) hq]; rfl
    · rw [if_neg hc]
      by_cases h34 : c = 34
      · rw [if_pos h34, if_pos ⟨hs, hq⟩]
      · rw [if_neg h34, if_pos hq]
theorem left_dead {w n g : Nat} : ∀ (r : List Nat) {s q p : Nat} {out : List Nat} {sure : Nat × List Nat}, s ≥ g → q % n ≠ 0 → leftGo w n g r p s q out sure = sure
  | [], s, q, p, out, sure, hs, hq => by unfold leftGo; rw [if_pos hq]
  | c :: r, s, q, p, out, sure, hs, hq => by
    unfold leftGo
    by_cases hc : c = 92
    · rw [if_pos hc, left_dead r (by omega) hq]
    · rw [if_neg hc]
      by_cases h34 : c = 34
      · rw [if_pos h34, if_pos ⟨hs, hq⟩]
      · rw [if_neg h34, if_pos hq]

theorem mod_two_mul {a w : Nat} (hw : 0 < w) : a % (2 * w) = 0 ↔ a % w = 0 ∧ (a / w) % 2 = 0 := by
  constructor
  · intro h
    obtain ⟨k, hk⟩ := Nat.dvd_of_mod_eq_zero h
    have e : a = w * (2 * k) := by rw [hk, Nat.mul_comm 2 w, Nat.mul_assoc]
    rw [e]
    exact ⟨Nat.mul_mod_right _ _, by rw [Nat.mul_div_cancel_left _ hw]; omega⟩
  · rintro ⟨h1, h2⟩
    obtain ⟨k, rfl⟩ := Nat.dvd_of_mod_eq_zero h1
    rw [Nat.mul_div_cancel_left _ hw] at h2
    obtain ⟨j, rfl⟩ : ∃ j, k = 2 * j := ⟨k / 2, by omega⟩
    rw [← Nat.mul_assoc, Nat.mul_comm w 2]
    exact Nat.mul_mod_right _ _
theorem succ_div {s w : Nat} (hw : 0 < w) : (s + 1) / w = if (s + 1) % w = 0 then s / w + 1 else s / w := by
  rw [Nat.succ_div]
  by_cases h : (s + 1) % w = 0
  · rw [if_pos h, if_pos (Nat.dvd_of_mod_eq_zero h)]
  · rw [if_neg h, if_neg (fun q => h (Nat.mod_eq_zero_of_dvd q))]; simp

/-- a word's reading is one more halving of the backslashes -/
theorem run_word {w n g : Nat} (hw : 0 < w) (hg : g ≤ w) : ∀ (r : List Nat) {s q : Nat} {t : List Nat} (h : Bool), (q % n = 0 → h = decide ((s / w) % 2 = 1)) → run w n g s q r = some t →
    run (2 * w) n g s q r = some (unesc h t)
  | [], s, q, t, h, _, hr => by
    unfold run at hr ⊢
    split at hr
    · cases hr
    · rename_i hq
      cases hr
      rw [if_neg hq]
      cases h <;> rfl
  | c :: r, s, q, t, h, hh, hr => by
    have hr0 := hr
    unfold run at hr ⊢
    by_cases hc : c = 92
    · rw [if_pos hc] at hr ⊢
      cases hr1 : run w n g (s + 1) q r with
      | none => rw [hr1] at hr; cases hr
      | some t' =>
        rw [hr1] at hr
        simp only [Option.map_some, Option.some.injEq] at hr
        subst hr
        by_cases hq : q % n = 0
        · have hh' := hh hq
          have hd := succ_div (s := s) hw
          by_cases hm : (s + 1) % w = 0
          · rw [if_pos hm] at hd
            have h3 : (s / w + 1) % 2 = 1 ↔ ¬ s / w % 2 = 1 := by omega
            have h4 : (!h) = decide (((s + 1) / w) % 2 = 1) := by
              rw [hd, hh']
              simp only [h3]
              by_cases h2 : s / w % 2 = 1 <;> simp [h2]
            rw [run_word hw hg r (!h) (fun _ => h4) hr1]
            have hm2 := mod_two_mul (a := s + 1) hw
            rw [hd] at hm2
            rw [Option.map_some, if_pos hm]
            cases h with
            | false =>
              have h2 : ¬ (s / w % 2 = 1) := by simpa using hh'.symm
              have : ¬ (s + 1) % (2 * w) = 0 := fun q => by have := (hm2.mp q).2; omega
              rw [if_neg this]
              simp [unesc]
            | true =>
              have h2 : s / w % 2 = 1 := by simpa using hh'.symm
              have : (s + 1) % (2 * w) = 0 := hm2.mpr ⟨hm, by omega⟩
              rw [if_pos this]
              simp [unesc]
          · rw [if_neg hm] at hd
            rw [run_word hw hg r h (fun _ => by rw [hd]; exact hh') hr1]
            have : ¬ (s + 1) % (2 * w) = 0 := fun q => hm ((mod_two_mul hw).mp q).1
            rw [Option.map_some, if_neg this, if_neg hm]
        · have hs : s + 1 < g := by
            by_cases hs : s + 1 < g
            · exact hs
            · rw [run_dead r (by omega) hq] at hr1; cases hr1
          have hm : ¬ (s + 1) % w = 0 := by rw [Nat.mod_eq_of_lt (by omega)]; omega
          have hm2 : ¬ (s + 1) % (2 * w) = 0 := by rw [Nat.mod_eq_of_lt (by omega)]; omega
          rw [run_word hw hg r h (fun e => absurd e hq) hr1, Option.map_some, if_neg hm2, if_neg hm]
    · rw [if_neg hc] at hr ⊢
      by_cases h34 : c = 34
      · rw [if_pos h34] at hr ⊢
        by_cases hb : s ≥ g ∧ q % n ≠ 0
        · rw [if_pos hb] at hr; cases hr
        · rw [if_neg hb] at hr ⊢
          dsimp only at hr ⊢
          cases hr1 : run w n g 0 ((if s ≥ g then 0 else q) + 1) r with
          | none => rw [hr1] at hr; cases hr
          | some t' =>
            rw [hr1] at hr
            simp only [Option.map_some, Option.some.injEq] at hr
            subst hr
            by_cases hm : ((if s ≥ g then 0 else q) + 1) % n = 0
            · rw [run_word hw hg r false (fun _ => by simp) hr1, Option.map_some, if_pos hm, if_pos hm]
              cases h <;> simp [unesc]
            · rw [run_word hw hg r h (fun e => absurd e hm) hr1, Option.map_some, if_neg hm, if_neg hm]
      · rw [if_neg h34] at hr ⊢
        by_cases hb : q % n ≠ 0
        · rw [if_pos hb] at hr; cases hr
        · rw [if_neg hb] at hr ⊢
          cases hr1 : run w n g 0 0 r with
          | none => rw [hr1] at hr; cases hr
          | some t' =>
            rw [hr1] at hr
            simp only [Option.map_some, Option.some.injEq] at hr
            subst hr
            rw [run_word hw hg r false (fun _ => by simp) hr1, Option.map_some]
            cases h <;> simp [unesc, hc]

theorem mod_two {q n k : Nat} (hn : 0 < n) (hk : q % (2 * n) = k) : k < 2 * n ∧ (k < n → q % n = k) ∧ (n ≤ k → q % n = k - n) := by
  have h1 : k < 2 * n := hk ▸ Nat.mod_lt _ (by omega)
  have h2 : q % n = k % n := by rw [← hk]; exact (Nat.mod_mod_of_dvd q ⟨2, by omega⟩).symm
  refine ⟨h1, fun h => ?_, fun h => ?_⟩
  · rw [h2, Nat.mod_eq_of_lt h]
  · rw [h2, Nat.mod_eq_sub_mod h, Nat.mod_eq_of_lt (by omega)]
theorem mod_two_succ {q n k : Nat} (hn : 0 < n) (hk : q % (2 * n) = k) : (q + 1) % (2 * n) = if k + 1 = 2 * n then 0 else k + 1 := by
  have h1 := (mod_two hn hk).1
  rw [Nat.add_mod, hk]
  by_cases h : k + 1 = 2 * n
  · rw [if_pos h]
    by_cases h2 : 2 * n = 1
    · omega
    · rw [Nat.mod_eq_of_lt (a := 1) (by omega), h, Nat.mod_self]
  · rw [if_neg h, Nat.mod_eq_of_lt (a := 1) (by omega), Nat.mod_eq_of_lt (by omega)]

/-- a name's reading is one more halving of the quotes -/
theorem left_name {w n g : Nat} (hw : 0 < w) (hn : 0 < n) (hg : g ≤ w) : ∀ (r : List Nat) {s q q' p : Nat} {out t : List Nat} {sure : Nat × List Nat}, run w n g s q r = some t → q' % n = q % n →
    (q' % (2 * n) ≠ 0 → s < w ∧ sure.2 = out) → (leftGo w (2 * n) w r p s q' out sure).2 = out ++ pq (decide (n ≤ q' % (2 * n))) t
  | [], s, q, q', p, out, t, sure, hr, hq, hs => by
    unfold run at hr
    unfold leftGo
    split at hr
    · cases hr
    · cases hr
      by_cases hk : q' % (2 * n) = 0
      · rw [if_neg (by omega)]
        cases decide (n ≤ q' % (2 * n)) <;> simp [pq]
      · rw [if_pos hk, (hs hk).2]
        cases decide (n ≤ q' % (2 * n)) <;> simp [pq]
  | c :: r, s, q, q', p, out, t, sure, hr, hq, hs => by
    unfold run at hr
    unfold leftGo
    generalize hk : q' % (2 * n) = k at hs ⊢
    obtain ⟨k1, k2, k3⟩ := mod_two hn hk
    by_cases hc : c = 92
    · rw [if_pos hc] at hr ⊢
      cases hr1 : run w n g (s + 1) q r with
      | none => rw [hr1] at hr; cases hr
      | some t' =>
        rw [hr1] at hr
        simp only [Option.map_some, Option.some.injEq] at hr
        subst hr
        by_cases h0 : k = 0
        · subst h0
          rw [left_name hw hn hg r hr1 hq (fun h => absurd hk h), hk]
          have : decide (n ≤ 0) = false := by simp; omega
          rw [this]
          by_cases hm : (s + 1) % w = 0
          · simp [hm, pq]
          · simp [hm]
        · obtain ⟨hs1, hs2⟩ := hs h0
          by_cases hlt : s + 1 < w
          · have hm : ¬ (s + 1) % w = 0 := by rw [Nat.mod_eq_of_lt hlt]; omega
            rw [if_neg hm, left_name hw hn hg r hr1 hq (fun _ => ⟨hlt, hs2⟩), hk, if_neg hm]
          · have e : s + 1 = w := by omega
            by_cases hkn : k < n
            · have hq2 : q % n ≠ 0 := by rw [← hq, k2 hkn]; exact h0
              rw [run_dead r (by omega) hq2] at hr1; cases hr1
            · rw [left_dead r (by omega) (by omega), hs2]
              have : decide (n ≤ k) = true := by simp; omega
              rw [this, e, Nat.mod_self]
              simp [pq]
    · rw [if_neg hc] at hr ⊢
      by_cases h34 : c = 34
      · subst h34
        rw [if_pos rfl] at hr ⊢
        by_cases hb : s ≥ g ∧ q % n ≠ 0
        · rw [if_pos hb] at hr; cases hr
        · rw [if_neg hb] at hr
          have hb2 : ¬ (s ≥ w ∧ k ≠ 0) := by
            rintro ⟨a, b⟩
            have := (hs b).1
            omega
          rw [if_neg hb2]
          dsimp only at hr ⊢
          generalize hq0 : (if s ≥ g then 0 else q) = q0 at hr
          generalize hq0' : (if s ≥ w then 0 else q') = q0'
          have hkk : q0' % (2 * n) = k := by
            by_cases h : s ≥ w
            · rw [if_pos h] at hq0'
              subst hq0'
              by_cases h0 : k = 0
              · subst h0; simp
              · have := (hs h0).1; omega
            · rw [if_neg h] at hq0'
              subst hq0'
              exact hk
          have hqq : q0' % n = q0 % n := by
            by_cases h1 : s ≥ g
            · have hz : q % n = 0 := by
                by_cases h0 : q % n = 0
                · exact h0
                · exact absurd ⟨h1, h0⟩ hb
              rw [if_pos h1] at hq0
              subst hq0
              by_cases h2 : s ≥ w
              · rw [if_pos h2] at hq0'; subst hq0'; rfl
              · rw [if_neg h2] at hq0'; subst hq0'; rw [hq, hz]; simp
            · rw [if_neg h1] at hq0
              have h2 : ¬ s ≥ w := by omega
              rw [if_neg h2] at hq0'
              subst hq0 hq0'
              exact hq
          have hqs : (q0' + 1) % n = (q0 + 1) % n := by rw [Nat.add_mod, hqq, ← Nat.add_mod]
          have hks := mod_two_succ hn hkk
          obtain ⟨_, j2, j3⟩ := mod_two hn hks
          have hsure : ∀ (b : Prop) [Decidable b], (b ↔ q0' % (2 * n) = 0) → (if b then (p, out) else sure).2 = out := by
            intro b _ hbk
            by_cases h : b
            · rw [if_pos h]
            · rw [if_neg h]
              exact (hs (fun e => h (hbk.mpr (hkk.trans e)))).2
          cases hr1 : run w n g 0 (q0 + 1) r with
          | none => rw [hr1] at hr; cases hr
          | some t' =>
            rw [hr1] at hr
            simp only [Option.map_some, Option.some.injEq] at hr
            subst hr
            by_cases hA : k + 1 = 2 * n
            · rw [if_pos hA] at hks
              have hem : (q0 + 1) % n = 0 := by rw [← hqs]; have := mod_two hn hks; omega
              rw [if_pos hks, left_name hw hn hg r hr1 hqs (fun h => absurd hks h), hks, if_pos hem]
              have e1 : decide (n ≤ 0) = false := by simp; omega
              have e2 : decide (n ≤ k) = true := by simp; omega
              rw [e1, e2]
              simp [pq]
            · rw [if_neg hA] at hks j2 j3
              rw [if_neg (by omega), left_name hw hn hg r hr1 hqs (fun _ => ⟨hw, hsure _ Iff.rfl⟩), hks]
              by_cases hB : k + 1 = n
              · have hem : (q0 + 1) % n = 0 := by rw [← hqs]; have := mod_two hn hks; omega
                rw [if_pos hem]
                have e1 : decide (n ≤ k + 1) = true := by simp; omega
                have e2 : decide (n ≤ k) = false := by simp; omega
                rw [e1, e2]
                simp [pq]
              · have hem : ¬ (q0 + 1) % n = 0 := by rw [← hqs]; have := mod_two hn hks; omega
                rw [if_neg hem]
                have e1 : decide (n ≤ k + 1) = decide (n ≤ k) := by
                  by_cases h : n ≤ k
                  · simp [h]; omega
                  · simp [h]; omega
                rw [e1]
      · rw [if_neg h34] at hr ⊢
        by_cases hb : q % n ≠ 0
        · rw [if_pos hb] at hr; cases hr
        · rw [if_neg hb] at hr
          cases hr1 : run w n g 0 0 r with
          | none => rw [hr1] at hr; cases hr
          | some t' =>
            rw [hr1] at hr
            simp only [Option.map_some, Option.some.injEq] at hr
            subst hr
            by_cases h0 : k = 0
            · subst h0
              rw [if_neg (by omega), left_name hw hn hg r hr1 rfl (fun h => absurd (by simp) h)]
              have e1 : decide (n ≤ 0) = false := by simp; omega
              have e2 : decide (n ≤ 0 % (2 * n)) = false := by simp; omega
              rw [e1, e2]
              simp [pq, h34]
            · rw [if_pos (by omega), (hs h0).2]
              have e1 : decide (n ≤ k) = true := by
                by_cases h : n ≤ k
                · simp [h]
                · have := k2 (by omega); omega
              rw [e1]
              simp [pq, h34]

theorem run_one : ∀ (l : List Nat) (s q : Nat), run 1 1 1 s q l = some l
  | [], s, q => by unfold run; rw [if_neg (by simp [Nat.mod_one])]
  | c :: r, s, q => by
    unfold run
    by_cases hc : c = 92
    · rw [if_pos hc, run_one r]; simp [Nat.mod_one, hc]
    · rw [if_neg hc]
      by_cases h34 : c = 34
      · rw [if_pos h34, if_neg (by simp [Nat.mod_one]), ]
        dsimp only
        rw [run_one r]; simp [Nat.mod_one, h34]
      · rw [if_neg h34, if_neg (by simp [Nat.mod_one]), run_one r]; rfl

theorem dueGo_steps : ∀ (ds : List Nat) (text t : List Nat) (w n g : Nat), 0 < w → 0 < n → g ≤ w → run w n g 0 0 text = some t → dueGo text ds w n g = steps t ds
  | [], _, _, _, _, _, _, _, _, _ => rfl
  | d :: ds, text, t, w, n, g, hw, hn, hg, hr => by
    unfold dueGo steps
    by_cases hd : d = 0
    · simp only [if_pos hd]
      have h2 := run_word (n := n) hw hg text false (fun _ => by simp) hr
      have hl : left (2 * w) n g text = (text.length, unesc false t) := by
        unfold left
        rw [left_of_run text h2]; simp
      rw [hl]
      simp only [List.take_length]
      rw [dueGo_steps ds text (unesc false t) (2 * w) n g (by omega) hn (by omega) h2]
      simp [step, hd]
    · simp only [if_neg hd]
      have hl2 := left_name (p := 0) (out := []) (sure := (0, [])) hw hn hg text (q := 0) (q' := 0) hr rfl (fun h => absurd (by simp) h)
      have e1 : decide (n ≤ 0 % (2 * n)) = false := by simp; omega
      rw [e1] at hl2
      have hl : (left w (2 * n) w text).2 = pq false t := by unfold left; simpa using hl2
      have hrun : run w (2 * n) w 0 0 (text.take (left w (2 * n) w text).1) = some (pq false t) := by
        rcases run_of_left (w := w) (n := 2 * n) (g := w) text (s := 0) (q := 0) (p := 0) (out := []) (sure := (0, [])) (e := (left w (2 * n) w text).1) (o := (left w (2 * n) w text).2) rfl with h | ⟨_, t', ht, hr'⟩
        · have h1 : (left w (2 * n) w text).1 = 0 := congrArg Prod.fst h
          have h2 : (left w (2 * n) w text).2 = [] := congrArg Prod.snd h
          rw [h1, List.take_zero, ← hl, h2]
          unfold run
          rw [if_neg (by simp)]
        · rw [← hl, ht]
          simpa using hr'
      rw [dueGo_steps ds _ (pq false t) w (2 * n) w hw (by omega) (Nat.le_refl _) hrun, hl]
      simp [step, hd, p257]
/-- the law's reckoning tells what the code does, deed by deed -/
theorem due_steps (text : List Nat) (ds : List Nat) : due text ds = steps text ds :=
  dueGo_steps ds text text 1 1 1 (by omega) (by omega) (by omega) (run_one text 0 0)
end Mine
end
section
open PySem PySem.W PySem.Calls PySem.Spec PyProof.Rows
namespace Mine
abbrev cp (x : Str) : List Nat := x.cps.toList
theorem cp_len (x : Str) : (cp x).length = x.length := by simp [cp, Str.length]
theorem cp_append (x y : Str) : cp (x ++ y) = cp x ++ cp y := by
  show (x ++ y).cps.toList = _
  rw [Str.cps_append, Array.toList_append]
theorem cp_inj {x y : Str} (h : cp x = cp y) : x = y := Str.ext' (Array.toList_inj.mp h)
theorem cp_item {x : Str} {i : Int} (h0 : 0 ≤ i) (h1 : i < x.length) : ∃ c, cp (Txt.item x i) = [c] ∧ (cp x)[i.toNat]? = some c := by
  obtain ⟨n, hn⟩ := StrLaws.some_at h0 h1
  refine ⟨n, ?_, by simpa [cp] using hn⟩
  have e := StrLaws.at_nonneg h0 hn
  show [((seqIndex? i x.length).bind (x.cps[·]?)).getD 0] = [n]
  rw [e]; rfl
theorem drop_at {l : List Nat} {i c : Nat} (h : l[i]? = some c) : l.drop i = c :: l.drop (i + 1) := by
  obtain ⟨hi, rfl⟩ := List.getElem?_eq_some_iff.mp h
  exact List.drop_eq_getElem_cons hi
theorem str_eq {x y : Str} : (x == y) = decide (cp x = cp y) := by
  by_cases h : cp x = cp y
  · have := cp_inj h; subst this; simp
  · have : x ≠ y := fun e => h (e ▸ rfl)
    simp [h, this]
theorem one_is {x : Str} {c k : Nat} {y : Str} (hx : cp x = [c]) (hy : cp y = [k]) : (x == y) = decide (c = k) := by
  rw [str_eq, hx, hy]; simp
theorem one_ne {x : Str} {c k : Nat} {y : Str} (hx : cp x = [c]) (hy : cp y = [k]) : (x != y) = decide (¬ c = k) := by
  show (!(x == y)) = _
  rw [one_is hx hy]; simp
theorem cp_quote : cp (Str.ofString "\"") = [34] := by decide +kernel
theorem cp_slash : cp (Str.ofString "\\") = [92] := by decide +kernel
theorem cp_nil : cp (Str.ofString "") = [] := by decide +kernel
theorem cp_slice_to {x : Str} {j : Int} (h0 : 0 ≤ j) (h : j ≤ x.length) : cp (Txt.slice x none (some j)) = (cp x).take j.toNat := by
  have e := StrLaws.sliceText_to (x := x) (j := j) ⟨h0, by rw [show x.cps.toList.length = x.length from cp_len x]; exact h⟩
  have e2 : Txt.slice x none (some j) = StrLaws.sliceText x none (some j) := rfl
  rw [e2, e]
  simp [cp]
theorem cp_slice_from {x : Str} {j : Int} (h0 : 0 ≤ j) (h : j ≤ x.length) : cp (Txt.slice x (some j) none) = (cp x).drop j.toNat := by
  have hl : x.cps.toList.length = x.length := cp_len x
  have e := StrLaws.sliceText_from (x := x) (i := j) ⟨h0, by rw [hl]; exact h⟩
  have e2 : Txt.slice x (some j) none = StrLaws.sliceText x (some j) none := rfl
  rw [e2, e]
  simp only [cp]
  rw [List.toList_toArray, List.take_of_length_le]
  rw [List.length_drop]; omega
end Mine
end
section
open PySem PySem.W PySem.Calls PySem.Spec PyProof.Rows
namespace Mine
def sg (v : Value) : Option Nat := match v with | .str x _ => if x.cps.size = 1 then x.cps[0]? else none | _ => none
theorem sg_some {v : Value} {k : Nat} (h : sg v = some k) : ∃ t, v = .str ⟨#[k]⟩ t := by
  unfold sg at h
  split at h
  · rename_i x t
    split at h
    · rename_i h1
      refine ⟨t, ?_⟩
      obtain ⟨a⟩ := x
      obtain ⟨l⟩ := a
      match l, h1, h with
      | [b], _, h => cases h; rfl
    · cases h
  · cases h
theorem sg_one (k : Nat) (t : Tok) : sg (.str ⟨#[k]⟩ t) = some k := rfl
def Sgs (vs : List Value) (ks : List Nat) : Prop := vs.map sg = ks.map some
theorem Sgs.nil_iff {vs : List Value} (h : Sgs vs []) : vs = [] := List.map_eq_nil_iff.mp h
theorem Sgs.cons_inv {v : Value} {vs : List Value} {ks : List Nat} (h : Sgs (v :: vs) ks) : ∃ k r t, ks = k :: r ∧ v = .str ⟨#[k]⟩ t ∧ Sgs vs r := by
  cases ks with
  | nil => cases h
  | cons k r =>
    simp only [Sgs, List.map_cons, List.cons.injEq] at h
    obtain ⟨t, rfl⟩ := sg_some h.1
    exact ⟨k, r, t, rfl, rfl, h.2⟩
theorem Sgs.inv_cons {vs : List Value} {k : Nat} {r : List Nat} (h : Sgs vs (k :: r)) : ∃ t us, vs = .str ⟨#[k]⟩ t :: us ∧ Sgs us r := by
  cases vs with
  | nil => cases h
  | cons v us =>
    simp only [Sgs, List.map_cons, List.cons.injEq] at h
    obtain ⟨t, rfl⟩ := sg_some h.1
    exact ⟨t, us, rfl, h.2⟩
theorem Sgs.len {vs : List Value} {ks : List Nat} (h : Sgs vs ks) : vs.length = ks.length := by
  have := congrArg List.length h
  simpa using this
theorem Sgs.rev {vs : List Value} {ks : List Nat} (h : Sgs vs ks) : Sgs vs.reverse ks.reverse := by
  simp only [Sgs, List.map_reverse]
  rw [h]
theorem Sgs.of_carried {x : Str} {vs : List Value} (h : CarriedAll vs ((signs x).map .str)) : Sgs vs (cp x) := by
  unfold signs at h
  rw [List.map_map] at h
  show _ = (x.cps.toList).map some
  generalize x.cps.toList = l at h
  induction l generalizing vs with
  | nil => cases h; rfl
  | cons k r ih =>
    cases h with
    | cons h1 h2 =>
      cases h1
      simp only [List.map_cons, List.cons.injEq]
      exact ⟨rfl, ih h2⟩
section
variable {prog : Program} {w : World} {A : Around} {E : Value → Shared → Prop} {s : Shared} {h₀ : Heap} {L : Addr} {m : Str → Option Value} {news : Led} {Q : Value → Shared → Prop}
theorem list_text {x : Str} {t : Tok} (hh : A.handled = none) (F : Fr h₀ L s.heap m) (N : News h₀ L s.heap news) (hsz : x.length ≤ sizeLine)
    (hQ : ∀ D vs n h' tk, Fr h₀ L h' m → News h₀ L h' ((D, W.listOf (List.toArray vs) n) :: news) → (∀ q ∈ news, q.1 < D) → Sgs vs (cp x) → Q (.ref D) { s with heap := h', toks := tk }) :
    wpAny (model prog w) A (call (.type "list") [.str x t]) Q E s := by
  refine list_strD hh F N (fun h' tk ys F' N' _ hD hl hp hc => ?_) hsz
  obtain ⟨n, hn⟩ := hp.1
  refine hQ _ ys n h' tk F' ?_ (fun q hq => Heap.lt_size (N q hq).1) (.of_carried hc)
  intro p hp'
  rcases List.mem_cons.mp hp' with rfl | hp'
  · exact ⟨hn, hp.ne_locals F', hD⟩
  · exact N' _ hp'
theorem slice_rev {value slice : PySem.Expr} {l : Addr} {vs : List Value} {n : Nat} {vk : Value} {ops : List Value} (F : Fr h₀ L s.heap m) (N : News h₀ L s.heap news) (hl : (l, W.listOf vs.toArray n) ∈ news) (pk : IsPart vk (some (-1))) (hz : vs.toArray.size ≤ sizeLine)
    (h : ∀ D h', Fr h₀ L h' m → News h₀ L h' ((D, W.listOf (List.toArray vs.reverse) 0) :: news) → (∀ p ∈ news, p.1 < D) → Q (.ref D) { s with heap := h' })
    (hs : subscripted slice false (.ref l) (.ref s.heap.objs.size) = operate ops (getItem (.ref l) (.ref s.heap.objs.size))) (ht : ∀ r, letTemporaryGo value (.ref l) r = pure ()) :
    wpAny (model prog w) A (subscriptTail value slice (.ref l) (.ref s.heap.objs.size)) Q E { s with heap := s.heap.push { cls := .type "slice", data := .fields #[.none, .none, vk] } } :=
  krv_lit F N ⟨_, (N _ hl).1, rfl, n, rfl⟩ pk rfl h hs ht hz
end
end Mine
end
section
open PySem PySem.W PySem.Calls PySem.Spec PyProof.Rows
namespace Mine
section
variable {prog : Program} {w : World} {A : Around} {E : Value → Shared → Prop} {s : Shared} {env : Env}

/-- one turn of a for loop: what is drawn, the name, the body -/
def ForTurn (prog : Program) (w : World) (A : Around) (env : Env) (x : Str) (px : Pos) (body : List Stmt) (it : Value) (E : Value → Shared → Prop) (Q : Flow → Shared → Prop) (Again : Shared → Prop) (s : Shared) : Prop :=
  wpAny (model prog w) A (pyNext it) (fun r s₁ => match r with
    | none => Q .next s₁
    | some v => wpAny (model prog w) A (assign (.Name x px) env v) (fun _ s₂ => wpAny (model prog w) A (execs body env) (fun f s₃ => match f with
        | .next | .cont => Again s₃
        | .brk => Q .next s₃
        | .ret v => Q (.ret v) s₃) E s₂) E s₁) E s
theorem forG {x : Str} {px pos : Pos} {iter : PySem.Expr} {body : List Stmt} {Q : Flow → Shared → Prop}
    (h : wpAny (model prog w) A (eval iter env) (fun xv s₁ => wpAny (model prog w) A (pyIter xv) (fun it s₂ => ∃ (I : Nat → Shared → Prop) (n : Nat), I n s₂ ∧ ∀ n s', I n s' → ForTurn prog w A env x px body it E Q (fun s₃ => ∃ k, k < n ∧ I k s₃) s') E s₁) E s)
    (hs : ∀ x, foldedSetIterable iter env x = pure x := by intro _; rfl)
    (hE : PassesOwn (model prog w) A env E := by passes_own) :
    wpAny (model prog w) A (exec (.For (.Name x px) iter body [] pos) env) Q E s := by
  refine wpAny_For (wpAny_mono h (fun xv s₁ h₁ => wpAny_mono h₁ (fun it s₂ h₂ => ?_) fun _ _ e => e) fun _ _ e => e) hs
  obtain ⟨I, n, h0, turn⟩ := h₂
  refine codeAny_forLoop (R := fun r s' => match r with | .ok f => Q f s' | .error e => cameBackBy (model prog w) A env E e s') I (fun n s' hI => ?_) n h0
  refine wpAny_passesOwn hE (wpAny_mono (turn n s' hI) (fun r s₁ h₁ => ?_) fun _ _ e => e)
  cases r with
  | none => exact wpAny_execs_nil h₁
  | some v =>
    refine wpAny_passesOwn hE (wpAny_mono h₁ (fun _ s₂ h₂ => ?_) fun _ _ e => e)
    refine wpAny_passesOwn hE (wpAny_mono h₂ (fun f s₃ h₃ => ?_) fun _ _ e => e)
    cases f <;> exact h₃

theorem callBorrowed_of {f : Value} {pos : List Value} {Q : Value → Shared → Prop}
    (hc : codeAny (model prog w) A (.call f ⟨pos, []⟩) (fun r s' => match r with | .ok (.ret v) => Q v s' | .ok _ => False | .error e => E e s') s) :
    wpAny (model prog w) A (callBorrowed f pos) Q E s := fun Γ p hΓ => by
  unfold callBorrowed
  rw [Sem.wp_call]
  refine wpCode_mono (fun r s' h => ?_) (hc _ p rfl (hΓ.enter _ none p (by intro x; cases x)))
  cases r with
  | error e => exact h
  | ok f => cases f <;> exact h
end
end Mine
end
section
open PySem PySem.W PySem.Calls PySem.Spec PyProof.Rows
namespace Mine
theorem slot_ci_next : Slot "callable_iterator" "__next__" "callable_iterator.__next__" :=
  .of (owner := "callable_iterator") (n := "__next__") (by rw [typeLookup_type, builtinLookup_eq_fast]; kernel_rfl) (by decide +kernel) (by decide +kernel) (by decide +kernel)
    (by first | exact .inl (by decide +kernel) | exact .inr (by decide +kernel)) (by rw [isSubtype_type]; kernel_rfl)
theorem entry_ci_next : entryFor table "callable_iterator.__next__" = some Builtin.«callable_iterator.__next__» := entryFor_of_fast (by kernel_rfl)
theorem args_ci_next (a : Value) : argsOk "callable_iterator.__next__" ⟨[a], []⟩ := by unfold argsOk; kernel_rfl
theorem slot_ci_iter : Slot "callable_iterator" "__iter__" "callable_iterator.__iter__" :=
  .of (owner := "callable_iterator") (n := "__iter__") (by rw [typeLookup_type, builtinLookup_eq_fast]; kernel_rfl) (by decide +kernel) (by decide +kernel) (by decide +kernel)
    (by first | exact .inl (by decide +kernel) | exact .inr (by decide +kernel)) (by rw [isSubtype_type]; kernel_rfl)
theorem entry_ci_iter : entryFor table "callable_iterator.__iter__" = some Builtin.«dict_keyiterator.__iter__» :=
  entryFor_alias (id' := "dict_keyiterator.__iter__") (by kernel_rfl) rfl (by decide +kernel) (by kernel_rfl)
theorem args_ci_iter (a : Value) : argsOk "callable_iterator.__iter__" ⟨[a], []⟩ := by unfold argsOk; kernel_rfl
abbrev ciObj (f v : Value) (e : Bool) : Obj := { cls := .type "callable_iterator", data := .fields #[f, v, .bool e] }
section
variable {prog : Program} {w : World} {A : Around} {E : Value → Shared → Prop} {s : Shared}
theorem borrows_true {M : Model} {q g : Addr} {self : Value} {og : Obj} {fd : FuncData} {Q : Bool → Shared → Prop} (hq : s.heap.get? q = some (methodObj (.ref g) self)) (hg : s.heap.get? g = some og) (hd : og.data = .func fd) (h : Q true s) :
    wpAny M A (borrowsExactly (Value.ref q)) Q E s := by
  unfold borrowsExactly
  refine wpAny_bind (wpAny_load hq ?_)
  show wpAny _ _ (load g >>= _) _ _ _
  refine wpAny_bind (wpAny_load hg ?_)
  rw [hd]
  exact wpAny_pure h
theorem pyIter_ci {it : Addr} {o : Obj} {Q : Value → Shared → Prop} (hit : s.heap.get? it = some o) (hc : o.cls = .type "callable_iterator") (h : Q (.ref it) s) : wpAny (model prog w) A (pyIter (.ref it)) Q E s := by
  have hT : s.TypeIs (.ref it) "callable_iterator" := ⟨o, hit, hc⟩
  refine wpAny_pyIter_slot hT slot_ci_iter (wpAny_call_entry slot_ci_iter hT entry_ci_iter ?_ (args_ci_iter _))
  show wpAny _ _ (ret (.ref it)) _ _ s
  exact wpAny_pure ⟨_, rfl, "callable_iterator", _, hT, slot_ci_next.lookup, h⟩
/-- the StopIteration that ends a walk -/
theorem stop_raise {α : Type} {M : Model} {Q : α → Shared → Prop} (hh : A.handled = none) (h : ∀ e h', (∀ b o, s.heap.get? b = some o → h'.get? b = some o) → Shared.TypeIs { s with heap := h' } e "StopIteration" → E e { s with heap := h' }) :
    wpAny M A (Builtin.SmallTypes.stopIteration : Sem α) Q E s := by
  unfold Builtin.SmallTypes.stopIteration
  refine wpAny_bind ?_
  simp only [newExc, newTuple]
  refine wpAny_bind (wpAny_newObj_type ?_ (by size_fits))
  refine wpAny_bind (m := firstArgMember _ _) (wpAny_of_eq (a := Value.none) (by first | rfl | (simp only [firstArgMember]; rfl)) ?_)
  refine wpAny_newObj_type ?_ (by size_fits)
  simp only [raiseNew]
  refine wpAny_bind (wpAny_handled ?_)
  rw [hh]
  refine wpAny_bind (wpAny_pure (wpAny_throw ?_))
  exact h _ _ (fun b o e => Heap.get?_push_of_some _ (Heap.get?_push_of_some _ e)) ⟨_, Heap.get?_push_size _ rfl, rfl⟩
theorem pyNext_ci {it q g : Addr} {self : Value} {se : Str} {t : Tok} {og : Obj} {fd : FuncData} {Q : Option Value → Shared → Prop} (hh : A.handled = none)
    (hit : s.heap.get? it = some (ciObj (.ref q) (.str se t) false)) (hq : s.heap.get? q = some (methodObj (.ref g) self)) (hg : s.heap.get? g = some og) (hgd : og.data = .func fd)
    (h : codeAny (model prog w) A.in1 (.call (.ref g) ⟨[self], []⟩) (fun r s' => match r with
      | .ok (.ret v) => ∃ x t', v = .str x t' ∧ s'.heap.get? it = some (ciObj (.ref q) (.str se t) false) ∧ s'.heap.get? q = some (methodObj (.ref g) self) ∧ s'.heap.get? g = some og ∧
          (x ≠ se → Q (some v) s') ∧ (x = se → ∀ h', (∀ b o, b ≠ it → s'.heap.get? b = some o → h'.get? b = some o) → h'.get? it = some (ciObj .none .none true) → Q none { s' with heap := h' })
      | .ok _ => False
      | .error _ => False) s) : wpAny (model prog w) A (pyNext (.ref it)) Q E s := by
  have hT : s.TypeIs (.ref it) "callable_iterator" := ⟨_, hit, rfl⟩
  unfold pyNext
  refine wpAny_bind (wpAny_attempt (wpAny_callSpecial?_slot (name := Str.ofString "__next__") hT slot_ci_next
    (wpAny_call_entry slot_ci_next hT entry_ci_next ?_ (args_ci_next _))))
  show wpAny _ _ (field (.ref it) 2 >>= _) _ _ s
  refine wpAny_bind (wpAny_field hit rfl (x := .bool false) rfl ?_)
  show wpAny _ _ (if (Value.bool false == Value.bool true) = true then _ else _) _ _ s
  rw [if_neg (show ¬ ((Value.bool false == Value.bool true) = true) from Bool.false_ne_true)]
  show wpAny _ _ (field (.ref it) 0 >>= _) _ _ s
  refine wpAny_bind (wpAny_field hit rfl (x := .ref q) rfl ?_)
  refine wpAny_bind (wpAny_attempt ?_)
  unfold callOutOfASlot
  refine wpAny_bind (borrows_true hq hg hgd ?_)
  rw [if_pos rfl]
  refine callBorrowed_of (method_call hq (codeAny_mono h fun r s' hr => ?_))
  match r, hr with
  | .ok (.ret v), hr =>
    obtain ⟨x, t', rfl, hit', hq', hg', h1, h2⟩ := hr
    show wpAny _ _ (field (.ref it) 2 >>= _) _ _ s'
    refine wpAny_bind (wpAny_field hit' rfl (x := .bool false) rfl ?_)
    show wpAny _ _ (if (Value.bool false == Value.bool true) = true then _ else _) _ _ s'
    rw [if_neg (show ¬ ((Value.bool false == Value.bool true) = true) from Bool.false_ne_true)]
    show wpAny _ _ (field (.ref it) 1 >>= _) _ _ s'
    refine wpAny_bind (wpAny_field hit' rfl (x := .str se t) rfl ?_)
    refine wpAny_bind (wpAny_holding (wpAny_eqBool_str ?_))
    by_cases hx : x = se
    · rw [decide_eq_true hx.symm]
      show wpAny _ _ (rule _ >>= _) _ _ s'
      refine wpAny_bind (wpAny_rule ?_)
      refine wpAny_bind ?_
      show wpAny _ _ (bind (field (Value.ref it) 0) _) _ _ s'
      refine wpAny_bind (wpAny_field hit' rfl (x := .ref q) rfl ?_)
      refine wpAny_bind ?_
      unfold slotLetsGo
      show wpAny _ _ (borrowsExactly (Value.ref q) >>= _) _ _ s'
      refine wpAny_bind (borrows_true hq' hg' hgd ?_)
      refine wpAny_pure ?_
      refine wpAny_bind (wpAny_setField hit' rfl (by simp) ?_)
      have g1 := Heap.get?_update_self (Obj.mapFields (·.setIfInBounds 0 .none)) hit' (by rfl)
      refine wpAny_bind (wpAny_setField g1 rfl (by simp) ?_)
      have g2 := Heap.get?_update_self (Obj.mapFields (·.setIfInBounds 1 .none)) g1 (by rfl)
      refine wpAny_setField g2 rfl (by simp) ?_
      have g3 := Heap.get?_update_self (Obj.mapFields (·.setIfInBounds 2 (.bool true))) g2 (by rfl)
      refine stop_raise hh fun e h' hk hT' => ?_
      refine wpAny_bind (wpAny_isInstance (T := "StopIteration") (b := true) hT' isSubtype_stop ?_)
      refine wpAny_pure (h2 hx h' (fun b o hb e => hk _ _ ?_) (hk _ _ g3))
      exact ((Heap.SameBut.update ..).extBut b o hb ((Heap.SameBut.update ..).extBut b o hb ((Heap.SameBut.update ..).extBut b o hb e)))
    · rw [decide_eq_false (fun e => hx e.symm)]
      exact wpAny_pure ⟨_, rfl, wpAny_pure (h1 hx)⟩
theorem pyNext_ci_end {it : Addr} {a b : Value} {Q : Option Value → Shared → Prop} (hh : A.handled = none) (hit : s.heap.get? it = some (ciObj a b true))
    (h : ∀ h', (∀ b o, s.heap.get? b = some o → h'.get? b = some o) → Q none { s with heap := h' }) : wpAny (model prog w) A (pyNext (.ref it)) Q E s := by
  have hT : s.TypeIs (.ref it) "callable_iterator" := ⟨_, hit, rfl⟩
  unfold pyNext
  refine wpAny_bind (wpAny_attempt (wpAny_callSpecial?_slot (name := Str.ofString "__next__") hT slot_ci_next
    (wpAny_call_entry slot_ci_next hT entry_ci_next ?_ (args_ci_next _))))
  show wpAny _ _ (field (.ref it) 2 >>= _) _ _ s
  refine wpAny_bind (wpAny_field hit rfl (x := .bool true) rfl ?_)
  show wpAny _ _ (if (Value.bool true == Value.bool true) = true then _ else _) _ _ s
  rw [if_pos (show (Value.bool true == Value.bool true) = true from rfl)]
  refine wpAny_bind (wpAny_rule ?_)
  refine wpAny_bind (stop_raise hh fun e h' hk hT' => ?_)
  exact wpAny_bind (wpAny_isInstance (T := "StopIteration") (b := true) hT' isSubtype_stop (wpAny_pure (h h' hk)))
end
end Mine
end
section
open PySem PySem.W PySem.Calls PySem.Spec PyProof.Rows
namespace Mine
theorem lookup_method_call : typeLookup (.type "method") "__call__" = pure (some (.builtin "method.__call__")) := by rw [typeLookup_type, builtinLookup_eq_fast]; kernel_rfl
theorem args_iter2 (a b : Value) : argsOk "iter" ⟨[a, b], []⟩ := by unfold argsOk; kernel_rfl
section
variable {prog : Program} {w : World} {A : Around} {E : Value → Shared → Prop} {s : Shared} {h₀ : Heap} {L : Addr} {m : Str → Option Value} {news : Led}
theorem iter2 {q : Addr} {f self v : Value} {Q : Value → Shared → Prop} (F : Fr h₀ L s.heap m) (N : News h₀ L s.heap news) (hq : (q, methodObj f self) ∈ news)
    (h : ∀ I h', Fr h₀ L h' m → News h₀ L h' ((I, ciObj (.ref q) v false) :: news) → (∀ p ∈ news, p.1 < I) → Q (.ref I) { s with heap := h' }) :
    wpAny (model prog w) A (call (.builtin "iter") [.ref q, v]) Q E s := by
  refine call_function_entry (by decide +kernel) (by decide +kernel) kdk_entry_iter (args_iter2 _ _) ?_
  unfold Builtin.«iter»
  refine wpAny_bind (wpAny_of_eq (a := [.ref q, v]) (by first | rfl | kernel_rfl) ?_)
  dsimp only
  refine wpAny_bind (wpAny_specialOf (T := "method") ⟨_, (N _ hq).1, rfl⟩ lookup_method_call ?_)
  show wpAny _ _ (rule _ >>= _) _ _ s
  refine wpAny_bind (wpAny_rule (wpAny_bind ?_))
  unfold newFields
  refine wpAny_newObj_type (wpAny_pure ⟨_, rfl, ?_⟩)
  exact h _ _ (F.push _) (N.push F _) fun p hp => Heap.lt_size (N p hp).1
end
/-- a call of a def, as a code: what a contract's walk shows -/
def DoesC (w : World) (p : Program) (loose : List Str) (mean : ExcName → Option Value) (mg mb : Str → Option Value) (kd ku : Nat) (f : Addr) (news : Led) (vs : List Value) (Post : Value → Led → Prop) : Prop :=
  ∀ (dp un : Nat) (gd : Option (List Code)) (cn : Str) (cs : Scope) (a : Addr) (ccd : Value) (cl : List (Str × Addr)) (outer : List Env) (A₀ : Around) (base h₀ : Heap) (L : Addr) (m : Str → Option Value) (s : Shared) (Q E : Value → Shared → Prop),
    Below A₀ base outer h₀ → Fr h₀ L s.heap m → (hd.heap_39 w.params).In h₀ → News h₀ L s.heap news → Top p loose mean mg mb h₀ → cs.kind = .function → dp + kd < recursionLimit → un + ku < cLine →
    (∀ r news' h' tk', Fr h₀ L h' m → News h₀ L h' news' → Post r news' → Q r { s with heap := h', toks := tk' }) →
    codeAny (model PySem.Challenge.rw_pm0007_01.row.prog w) (ktrTop dp un gd cn cs L a ccd cl outer) (.call (.ref f) ⟨vs, []⟩) (fun r s' => match r with | .ok (.ret v) => Q v s' | .ok _ => False | .error e => E e s') s
theorem DoesC.does {w : World} {p : Program} {loose : List Str} {mean : ExcName → Option Value} {mg mb : Str → Option Value} {kd ku : Nat} {f : Addr} {news : Led} {vs : List Value} {Post : Value → Led → Prop}
    (C : DoesC w p loose mean mg mb kd ku f news vs Post) : Does w p loose mean mg mb kd ku f news vs Post :=
  fun _ _ _ _ _ _ _ _ _ _ _ _ _ _ _ _ _ B F X N T hk hd hu hret => wpAny_call (C _ _ _ _ _ _ _ _ _ _ _ _ _ _ _ _ _ B F X N T hk hd hu hret)
end Mine
end
section
open PySem PySem.W PySem.Calls PySem.Spec PyProof.Rows
namespace Mine
abbrev dE (w : World) (n : String) (kt : Tok) (v : Value) : DictEntry := { hash := PyData.keyHash w.params (Str.ofString n), key := .str (Str.ofString n) kt, val := v }
abbrev lexD (w : World) (k1 k2 k3 k4 lt wt : Tok) (lno : Int) (st pb : Addr) : Obj :=
  dictOf [dE w "lineno" k1 (.int lno lt), dE w "instream" k2 (.ref st), dE w "whitespace" k3 (.str (Str.ofString "\n\t\r ") wt), dE w "pushback" k4 (.ref pb)] 4
abbrev strD (w : World) (k1 k2 k3 k4 k5 lt wt : Tok) (lno : Int) (pb f : Addr) : Obj :=
  dictOf [dE w "lineno" k1 (.int lno lt), dE w "instream" k2 .none, dE w "whitespace" k3 (.str (Str.ofString "\n\t\r ") wt), dE w "pushback" k4 (.ref pb), dE w "read" k5 (.ref f)] 5
/-- the lambda: it gives the next sign -/
def LamDoes (w : World) (p : Program) (loose : List Str) (mean : ExcName → Option Value) (mg mb : Str → Option Value) (f sgl : Addr) (own : Led) : Prop :=
  ∀ (rem : List Value) (n : Nat) (tt : Tok) (rest : Led), rem.length ≤ 3000 → (∀ p ∈ rest, p.1 ≠ sgl) →
    Does w p loose mean mg mb 2 16 f ((sgl, W.listOf rem.reverse.toArray n) :: own ++ rest) [.int 1 tt]
      (fun r news' => ∃ n' us, news' = (sgl, W.listOf us.reverse.toArray n') :: own ++ rest ∧ ((rem = [] ∧ us = [] ∧ ∃ e t', r = .str e t' ∧ cp e = []) ∨ rem = r :: us))
def cnt (l : List Nat) : Int := (l.count 10 : Int)
end Mine
end
section
open PySem PySem.W PySem.Calls PySem.Spec PyProof.Rows
namespace Mine
local macro_rules | `(tactic| k_room) => `(tactic| ktr_room)
local macro_rules | `(tactic| walk_at "MY enter") => `(tactic| (refine wpAny_call ?_; k_dflt cell_enter))
local macro_rules | `(tactic| walk_at "MY enterQ") => `(tactic| k_dflt cell_enter)
local macro_rules | `(tactic| walk_at "MY enterC") => `(tactic| (refine wpAny_call ?_; k_dflt (refine' code_defC ?k1 ?k2 ?k3 ?k4 ?k5 ?kA ?kF ?kK ?k6 ?k7 ?k8 ?k9 ?kB ?kD ?_ ?c2 ?c3 ?c4; (case kA => exact rfl); (case kF => exact rfl); (case kK => assumption); (case k1 => k_asm); (case k2 => k_asm); (case k3 => k_asm); (case k4 => k_asm); (case k5 => k_asm); (case k6 => k_is); (case k7 => k_is); (case k8 => ktr_room); (case k9 => exact BindsTo.of_eq rfl); (case kB => exact rfl); (case kD => decide +kernel); (case c2 => exact rfl); (case c3 => exact rfl); (case c4 => exact rfl); k_whole; intro g' L' h' tk' cells' FG' F' N' Y' B' X' T' l1; (try k_lt l1); k_cells Y'; (try simp only [List.cons_append, List.nil_append] at N'); (try dsimp only); (try k_lift B'); (try k_fold))))
local macro_rules | `(tactic| walk_at "MY for") => `(tactic| (k_here; (rename Fr _ _ _ _ => lF'); (with_unfolding_all refine' For_invVF lF' ?k1 ?k2 ?_; (case k1 => exact rfl); (case k2 => exact rfl); k_whole)))
local macro_rules | `(tactic| walk_at "newList") => `(tactic| (k_here; ((with_reducible refine' newList_K ?k1 ?k2 ?_); (case k1 => with_reducible assumption); (case k2 => with_reducible assumption); k_whole); intro l' h' F' N' l1; (try k_lt l1); (try k_sweep)))
local macro_rules | `(tactic| walk_at $s:str) => `(tactic| k_dflt (k_extra $s))
open Mine
section
open PySem PySem.W PySem.Calls PySem.Spec PyProof.Rows
local macro_rules | `(tactic| k_all) => `(tactic| with_reducible assumption)
local macro_rules | `(tactic| walk_at "callWith ref nil nil") => `(tactic| k_dflt (refine' callWith_F ?k1 ?_; (case k1 => exact FnAt.of (by k_asm) (by k_mem)); k_whole))
theorem lam_nil {r : Value} {us : List Value} (h : (([] : List Value) = [] ∧ us = [] ∧ ∃ e t', r = .str e t' ∧ cp e = []) ∨ [] = r :: us) : us = [] ∧ ∃ e t', r = .str e t' ∧ cp e = [] := by
  rcases h with ⟨_, h⟩ | h
  · exact h
  · cases h
theorem lam_cons {v r : Value} {rem us : List Value} (h : (v :: rem = [] ∧ us = [] ∧ ∃ e t', r = .str e t' ∧ cp e = []) ∨ v :: rem = r :: us) : r = v ∧ us = rem := by
  rcases h with ⟨h, _⟩ | h
  · cases h
  · cases h; exact ⟨rfl, rfl⟩
theorem rdch_does (w : World) (p : Program) (loose : List Str) (mean : ExcName → Option Value) (mg mb : Str → Option Value)
    (cel sgl sd st c' f ld lx pb1 pb2 : Nat) (k1 k2 k3 k4 lt wt j1 j2 j3 j4 j5 jt jw : Tok) (lno jno : Int) (nn : Nat) (rem : List Value) (ks : List Nat) (rest : Led)
    (fname fqual : Str) (fparams : Arguments) (fbody : PySem.Expr) (fscope : Scope) (fclos : List (Str × Addr)) (fpm fct : Value) (oc oc' : Obj)
    (hs : Sgs rem ks) (hrl : rem.length ≤ 3000) (hord : cel < sgl ∧ sgl < sd ∧ sd < st ∧ st < f ∧ c' ≠ sgl ∧ c' < f ∧ f < ld ∧ ld < lx) (hr1 : ∀ p ∈ rest, p.1 ≠ sgl) (hr2 : ∀ p ∈ rest, p.1 ≠ ld)
    (hlam : LamDoes w p loose mean mg mb f sgl [(f, kla_obj fname fqual fparams fbody fscope fclos fpm c' fct), (cel, oc), (c', oc')]) :
   DoesC w p loose mean mg mb 4 20 67 ((ld, lexD w k1 k2 k3 k4 lt wt lno st pb2) :: (lx, instObj 84 ld) :: (sd, strD w j1 j2 j3 j4 j5 jt jw jno pb1 f) :: (st, instObj 84 sd) ::
      (f, kla_obj fname fqual fparams fbody fscope fclos fpm c' fct) :: (sgl, W.listOf rem.reverse.toArray nn) :: (cel, oc) :: (c', oc') :: rest) [.ref lx]
     (fun r news' => ∃ us nn' lt' y t', r = .str y t' ∧ news' = (ld, lexD w k1 k2 k3 k4 lt' wt (lno + cnt (ks.take 1)) st pb2) :: (lx, instObj 84 ld) :: (sd, strD w j1 j2 j3 j4 j5 jt jw jno pb1 f) :: (st, instObj 84 sd) ::
      (f, kla_obj fname fqual fparams fbody fscope fclos fpm c' fct) :: (sgl, W.listOf us.reverse.toArray nn') :: (cel, oc) :: (c', oc') :: rest ∧ Sgs us (ks.drop 1) ∧ cp y = ks.take 1) := by
  have hhs : (rem = [] ∧ ks = []) ∨ ∃ k ks' t9 rem', ks = k :: ks' ∧ rem = .str ⟨#[k]⟩ t9 :: rem' ∧ (k = 10 ∨ k ≠ 10) ∧ Sgs rem' ks' := by
    cases rem with
    | nil => left; exact ⟨rfl, by cases ks with | nil => rfl | cons _ _ => cases hs⟩
    | cons v us =>
      obtain ⟨k, r, t, rfl, rfl, h⟩ := hs.cons_inv
      exact .inr ⟨k, r, t, us, rfl, rfl, by omega, h⟩
  rcases hhs with ⟨rfl, rfl⟩ | ⟨k, ks', t9, rem', rfl, rfl, rfl | hk9, hs9⟩
  · rw [show lno + cnt (List.take 1 []) = lno from Int.add_zero _]
    unfold DoesC
    k_fill
    intros dp un gd cn cs a ccd cl outer A₀ base h₀ L m s Q E iB iF iX iN iT ik id iu hret
    have codeHd : CodeHd h₀ 129 125 := codeHd_of_K (c := 129) (P := 125) iX (by kernel_rfl)
    k_with_none
    k_with "TPost" => (dsimp only [TPost])
    k_with "exec While Compare cons nil" => (k_extra "MyWhile")
    k_with "exec For Name Name cons nil" => (walk_at "MY for")
    k_with "exec For Name Call cons nil" => (walk_at "MY for")
    k_with "exec For Name List cons nil" => (walk_at "MY for")
    k_with "pyIter str" => (k_extra "MyIter")
    k_with "pyIter ref" => (k_extra "MyIter")
    k_with "call ref" => (k_extra "MyCall")
    k_with "call builtin:list.append" => (k_extra "MyAppend")
    k_with "callWith ref" => (k_here; first | (refine' callWith_K (by k_asm) (by k_is) ?_; k_whole) | (refine' callWith_K0 (by (first | (with_reducible assumption) | exact Frag.In.keeps (by with_reducible assumption) (Fr.keep (by with_reducible assumption)) | k_in)) (by k_is) ?_; k_whole) | ((refine' callWith_M0 (by k_meth) (by k_is) ?_; k_whole); try dsimp only [List.nil_append, List.cons_append]) | (refine' callWith_M (by k_asm) (by k_asm) (by k_mem) (by k_is) ?_; k_whole))
    k_with "getMethod ref" => (k_here; refine' kmu_own (by k_asm) (by k_asm) (by k_inst) (by k_is) (by k_is) ?_; k_whole)
    k_with "Sub" => ((repeat (refine List.forall_mem_cons.mpr (And.intro ?_ ?_); k_mem)); (intro p hp; (repeat (first | exact hp | apply List.mem_cons_of_mem)); done))
    k_with "MyCall" => (
      first
      | (    refine' does_use (hlam _ nn _ ((ld, lexD w k1 k2 k3 k4 lt wt lno st pb2) :: (lx, instObj 84 ld) :: (sd, strD w j1 j2 j3 j4 j5 jt jw jno pb1 f) :: (st, instObj 84 sd) :: rest) hrl (by k_all)) (by k_asm) (by k_asm) (by k_asm) (cb_drop (by assumption) (by k_extra "Sub")) (by k_asm) (by first | exact rfl | assumption) (by ktr_room) (by ktr_units) ?_
             rintro r9 news9 h9 tk9 F9 N9 ⟨nn', us, rfl, hh9⟩
             first | (obtain ⟨rfl, e9, t', rfl, he9⟩ := lam_nil hh9) | (obtain ⟨rfl, rfl⟩ := lam_cons hh9)
             (try dsimp only [List.cons_append, List.nil_append] at N9)
             (try dsimp only)
             (try k_fold)
             (try (have hb9 : (e9 == Str.ofString "\n") = false := by rw [str_eq, he9]; decide +kernel))))
    walk_at "MY enterQ"
    k_steps
    refine' hret _ _ _ _ (by k_asm) ?hn ⟨_, _, _, _, _, rfl, rfl, by assumption, by first | assumption | rfl | decide +kernel⟩
    case hn => exact cb_drop (by assumption) (by k_extra "Sub")
  · rw [show lno + cnt (List.take 1 (10 :: ks')) = lno + 1 from rfl]
    unfold DoesC
    k_fill
    intros dp un gd cn cs a ccd cl outer A₀ base h₀ L m s Q E iB iF iX iN iT ik id iu hret
    have codeHd : CodeHd h₀ 129 125 := codeHd_of_K (c := 129) (P := 125) iX (by kernel_rfl)
    k_with_none
    k_with "TPost" => (dsimp only [TPost])
    k_with "exec While Compare cons nil" => (k_extra "MyWhile")
    k_with "exec For Name Name cons nil" => (walk_at "MY for")
    k_with "exec For Name Call cons nil" => (walk_at "MY for")
    k_with "exec For Name List cons nil" => (walk_at "MY for")
    k_with "pyIter str" => (k_extra "MyIter")
    k_with "pyIter ref" => (k_extra "MyIter")
    k_with "call ref" => (k_extra "MyCall")
    k_with "call builtin:list.append" => (k_extra "MyAppend")
    k_with "callWith ref" => (k_here; first | (refine' callWith_K (by k_asm) (by k_is) ?_; k_whole) | (refine' callWith_K0 (by (first | (with_reducible assumption) | exact Frag.In.keeps (by with_reducible assumption) (Fr.keep (by with_reducible assumption)) | k_in)) (by k_is) ?_; k_whole) | ((refine' callWith_M0 (by k_meth) (by k_is) ?_; k_whole); try dsimp only [List.nil_append, List.cons_append]) | (refine' callWith_M (by k_asm) (by k_asm) (by k_mem) (by k_is) ?_; k_whole))
    k_with "getMethod ref" => (k_here; refine' kmu_own (by k_asm) (by k_asm) (by k_inst) (by k_is) (by k_is) ?_; k_whole)
    k_with "Sub" => ((repeat (refine List.forall_mem_cons.mpr (And.intro ?_ ?_); k_mem)); (intro p hp; (repeat (first | exact hp | apply List.mem_cons_of_mem)); done))
    k_with "MyCall" => (
      first
      | (    refine' does_use (hlam _ nn _ ((ld, lexD w k1 k2 k3 k4 lt wt lno st pb2) :: (lx, instObj 84 ld) :: (sd, strD w j1 j2 j3 j4 j5 jt jw jno pb1 f) :: (st, instObj 84 sd) :: rest) hrl (by k_all)) (by k_asm) (by k_asm) (by k_asm) (cb_drop (by assumption) (by k_extra "Sub")) (by k_asm) (by first | exact rfl | assumption) (by ktr_room) (by ktr_units) ?_
             rintro r9 news9 h9 tk9 F9 N9 ⟨nn', us, rfl, hh9⟩
             first | (obtain ⟨rfl, e9, t', rfl, he9⟩ := lam_nil hh9) | (obtain ⟨rfl, rfl⟩ := lam_cons hh9)
             (try dsimp only [List.cons_append, List.nil_append] at N9)
             (try dsimp only)
             (try k_fold)
             (try (have hb9 : (e9 == Str.ofString "\n") = false := by rw [str_eq, he9]; decide +kernel))))
    walk_at "MY enterQ"
    k_steps
    refine' hret _ _ _ _ (by k_asm) ?hn ⟨_, _, _, _, _, rfl, rfl, by assumption, by first | assumption | rfl | decide +kernel⟩
    case hn => exact cb_drop (by assumption) (by k_extra "Sub")
  · rw [show lno + cnt (List.take 1 (k :: ks')) = lno by simp [cnt, List.count_cons, hk9]]
    have hb : ((⟨#[k]⟩ : Str) == Str.ofString "\n") = false := by rw [one_is (x := ⟨#[k]⟩) (c := k) (k := 10) rfl (by decide +kernel)]; exact decide_eq_false hk9
    unfold DoesC
    k_fill
    intros dp un gd cn cs a ccd cl outer A₀ base h₀ L m s Q E iB iF iX iN iT ik id iu hret
    have codeHd : CodeHd h₀ 129 125 := codeHd_of_K (c := 129) (P := 125) iX (by kernel_rfl)
    k_with_none
    k_with "TPost" => (dsimp only [TPost])
    k_with "exec While Compare cons nil" => (k_extra "MyWhile")
    k_with "exec For Name Name cons nil" => (walk_at "MY for")
    k_with "exec For Name Call cons nil" => (walk_at "MY for")
    k_with "exec For Name List cons nil" => (walk_at "MY for")
    k_with "pyIter str" => (k_extra "MyIter")
    k_with "pyIter ref" => (k_extra "MyIter")
    k_with "call ref" => (k_extra "MyCall")
    k_with "call builtin:list.append" => (k_extra "MyAppend")
    k_with "callWith ref" => (k_here; first | (refine' callWith_K (by k_asm) (by k_is) ?_; k_whole) | (refine' callWith_K0 (by (first | (with_reducible assumption) | exact Frag.In.keeps (by with_reducible assumption) (Fr.keep (by with_reducible assumption)) | k_in)) (by k_is) ?_; k_whole) | ((refine' callWith_M0 (by k_meth) (by k_is) ?_; k_whole); try dsimp only [List.nil_append, List.cons_append]) | (refine' callWith_M (by k_asm) (by k_asm) (by k_mem) (by k_is) ?_; k_whole))
    k_with "getMethod ref" => (k_here; refine' kmu_own (by k_asm) (by k_asm) (by k_inst) (by k_is) (by k_is) ?_; k_whole)
    k_with "Sub" => ((repeat (refine List.forall_mem_cons.mpr (And.intro ?_ ?_); k_mem)); (intro p hp; (repeat (first | exact hp | apply List.mem_cons_of_mem)); done))
    k_with "MyCall" => (
      first
      | (    refine' does_use (hlam _ nn _ ((ld, lexD w k1 k2 k3 k4 lt wt lno st pb2) :: (lx, instObj 84 ld) :: (sd, strD w j1 j2 j3 j4 j5 jt jw jno pb1 f) :: (st, instObj 84 sd) :: rest) hrl (by k_all)) (by k_asm) (by k_asm) (by k_asm) (cb_drop (by assumption) (by k_extra "Sub")) (by k_asm) (by first | exact rfl | assumption) (by ktr_room) (by ktr_units) ?_
             rintro r9 news9 h9 tk9 F9 N9 ⟨nn', us, rfl, hh9⟩
             first | (obtain ⟨rfl, e9, t', rfl, he9⟩ := lam_nil hh9) | (obtain ⟨rfl, rfl⟩ := lam_cons hh9)
             (try dsimp only [List.cons_append, List.nil_append] at N9)
             (try dsimp only)
             (try k_fold)
             (try (have hb9 : (e9 == Str.ofString "\n") = false := by rw [str_eq, he9]; decide +kernel))))
    walk_at "MY enterQ"
    k_steps
    refine' hret _ _ _ _ (by k_asm) ?hn ⟨_, _, _, _, _, rfl, rfl, by assumption, by first | assumption | rfl | decide +kernel⟩
    case hn => exact cb_drop (by assumption) (by k_extra "Sub")
end
section
open PySem PySem.W PySem.Calls PySem.Spec PyProof.Rows
theorem fn_of {K : Frag} {f : Addr} (h : fnIn K f = true) : ∃ og fd, K.lookup f = some og ∧ og.data = .func fd := by
  unfold fnIn at h
  split at h
  · rename_i e
    exact ⟨_, _, e, rfl⟩
  · cases h
theorem mem_rot {α : Type} {x y a1 a2 a3 a4 a5 a6 a7 a8 e : α} {r : List α} (h : e ∈ a1 :: a2 :: a3 :: a4 :: a5 :: a6 :: a7 :: a8 :: x :: y :: r) : e ∈ x :: y :: a1 :: a2 :: a3 :: a4 :: a5 :: a6 :: a7 :: a8 :: r := by
  have p : List.Perm ([a1, a2, a3, a4, a5, a6, a7, a8] ++ ([x, y] ++ r)) ([x, y] ++ ([a1, a2, a3, a4, a5, a6, a7, a8] ++ r)) := by
    rw [← List.append_assoc, ← List.append_assoc]
    exact List.Perm.append_right r List.perm_append_comm
  exact p.mem_iff.mp h
theorem mem_rot' {α : Type} {x y a1 a2 a3 a4 a5 a6 a7 a8 e : α} {r : List α} (h : e ∈ x :: y :: a1 :: a2 :: a3 :: a4 :: a5 :: a6 :: a7 :: a8 :: r) : e ∈ a1 :: a2 :: a3 :: a4 :: a5 :: a6 :: a7 :: a8 :: x :: y :: r := by
  have p : List.Perm ([a1, a2, a3, a4, a5, a6, a7, a8] ++ ([x, y] ++ r)) ([x, y] ++ ([a1, a2, a3, a4, a5, a6, a7, a8] ++ r)) := by
    rw [← List.append_assoc, ← List.append_assoc]
    exact List.Perm.append_right r List.perm_append_comm
  exact p.mem_iff.mpr h
theorem mem_at9 {α : Type} {x a1 a2 a3 a4 a5 a6 a7 a8 : α} {r : List α} : x ∈ a1 :: a2 :: a3 :: a4 :: a5 :: a6 :: a7 :: a8 :: x :: r := by
  have := List.mem_append_right [a1, a2, a3, a4, a5, a6, a7, a8] (List.mem_cons_self (a := x) (l := r))
  exact this
theorem mem_at10 {α : Type} {x y a1 a2 a3 a4 a5 a6 a7 a8 : α} {r : List α} : x ∈ a1 :: a2 :: a3 :: a4 :: a5 :: a6 :: a7 :: a8 :: y :: x :: r := by
  have := List.mem_append_right [a1, a2, a3, a4, a5, a6, a7, a8, y] (List.mem_cons_self (a := x) (l := r))
  exact this
theorem ne9 {it q : Addr} {a1 a2 a3 a4 a5 a6 a7 a8 : Addr} {o0 o1 o2 o3 o4 o5 o6 o7 o8 : Obj} {r : Led} (h0 : q ≠ it) (h1 : a1 ≠ it) (h2 : a2 ≠ it) (h3 : a3 ≠ it) (h4 : a4 ≠ it) (h5 : a5 ≠ it) (h6 : a6 ≠ it) (h7 : a7 ≠ it) (h8 : a8 ≠ it) (hr : ∀ p ∈ r, p.1 ≠ it) :
    ∀ e ∈ (q, o0) :: (a1, o1) :: (a2, o2) :: (a3, o3) :: (a4, o4) :: (a5, o5) :: (a6, o6) :: (a7, o7) :: (a8, o8) :: r, e.1 ≠ it :=
  List.forall_mem_cons.mpr ⟨h0, List.forall_mem_cons.mpr ⟨h1, List.forall_mem_cons.mpr ⟨h2, List.forall_mem_cons.mpr ⟨h3, List.forall_mem_cons.mpr ⟨h4, List.forall_mem_cons.mpr ⟨h5, List.forall_mem_cons.mpr ⟨h6, List.forall_mem_cons.mpr ⟨h7, List.forall_mem_cons.mpr ⟨h8, hr⟩⟩⟩⟩⟩⟩⟩⟩⟩
theorem fn67 (w : World) : fnIn (hd.heap_39 w.params) 67 = true := by kernel_rfl
section
variable {w : World} {p : Program} {loose : List Str} {mean : ExcName → Option Value} {mg mb : Str → Option Value} {cel sgl sd st c' f ld lx pb1 pb2 q it : Nat} {k1 k2 k3 k4 lt wt j1 j2 j3 j4 j5 jt jw te : Tok} {lno jno : Int} {nn : Nat} {rem : List Value} {ks : List Nat} {rest : Led}
  {fname fqual se : Str} {fparams : Arguments} {fbody : PySem.Expr} {fscope : Scope} {fclos : List (Str × Addr)} {fpm fct : Value} {oc oc' : Obj}
abbrev LX (w : World) (cel sgl sd st c' f ld lx pb1 pb2 : Nat) (k1 k2 k3 k4 wt j1 j2 j3 j4 j5 jt jw : Tok) (jno : Int) (fo oc oc' : Obj) (lno : Int) (lt : Tok) (rem : List Value) (nn : Nat) (rest : Led) : Led :=
  (ld, lexD w k1 k2 k3 k4 lt wt lno st pb2) :: (lx, instObj 84 ld) :: (sd, strD w j1 j2 j3 j4 j5 jt jw jno pb1 f) :: (st, instObj 84 sd) :: (f, fo) :: (sgl, W.listOf rem.reverse.toArray nn) :: (cel, oc) :: (c', oc') :: rest
theorem lexNext (hse : cp se = []) {dp un : Nat} {gd : Option (List Code)} {cn : Str} {cs : Scope} {a : Addr} {ccd : Value} {cl : List (Str × Addr)} {outer : List Env} {A₀ : Around} {base h₀ : Heap} {L : Addr} {m : Str → Option Value} {s : Shared} {Q : Option Value → Shared → Prop} {E : Value → Shared → Prop}
    (hs : Sgs rem ks) (hrl : rem.length ≤ 3000) (hord : cel < sgl ∧ sgl < sd ∧ sd < st ∧ st < f ∧ c' ≠ sgl ∧ c' < f ∧ f < ld ∧ ld < lx ∧ lx < q ∧ q < it) (hr1 : ∀ p ∈ rest, p.1 ≠ sgl) (hr2 : ∀ p ∈ rest, p.1 ≠ ld) (hr3 : ∀ p ∈ rest, p.1 ≠ it)
    (hlam : LamDoes w p loose mean mg mb f sgl [(f, kla_obj fname fqual fparams fbody fscope fclos fpm c' fct), (cel, oc), (c', oc')])
    (B : Below A₀ base outer h₀) (F : Fr h₀ L s.heap m) (X : (hd.heap_39 w.params).In h₀)
    (N : News h₀ L s.heap ((it, ciObj (.ref q) (.str se te) false) :: (q, methodObj (.ref 67) (.ref lx)) :: LX w cel sgl sd st c' f ld lx pb1 pb2 k1 k2 k3 k4 wt j1 j2 j3 j4 j5 jt jw jno (kla_obj fname fqual fparams fbody fscope fclos fpm c' fct) oc oc' lno lt rem nn rest))
    (T : Top p loose mean mg mb h₀) (hk : cs.kind = .function) (hdp : dp + 4 < recursionLimit) (hun : un + 22 < cLine)
    (hQ0 : ks = [] → ∀ h' tk' nn' lt', Fr h₀ L h' m → News h₀ L h' ((it, ciObj .none .none true) :: (q, methodObj (.ref 67) (.ref lx)) :: LX w cel sgl sd st c' f ld lx pb1 pb2 k1 k2 k3 k4 wt j1 j2 j3 j4 j5 jt jw jno (kla_obj fname fqual fparams fbody fscope fclos fpm c' fct) oc oc' lno lt' [] nn' rest) → Q none { s with heap := h', toks := tk' })
    (hQ1 : ∀ k r t us h' tk' nn' lt', ks = k :: r → Sgs us r → Fr h₀ L h' m → News h₀ L h' ((it, ciObj (.ref q) (.str se te) false) :: (q, methodObj (.ref 67) (.ref lx)) :: LX w cel sgl sd st c' f ld lx pb1 pb2 k1 k2 k3 k4 wt j1 j2 j3 j4 j5 jt jw jno (kla_obj fname fqual fparams fbody fscope fclos fpm c' fct) oc oc' (lno + cnt [k]) lt' us nn' rest) → Q (some (.str ⟨#[k]⟩ t)) { s with heap := h', toks := tk' }) :
    wpAny (model PySem.Challenge.rw_pm0007_01.row.prog w) (ktrTop dp un gd cn cs L a ccd cl outer) (pyNext (.ref it)) Q E s := by
  obtain ⟨og, fd, hlk, hfd⟩ := fn_of (fn67 w)
  obtain ⟨p1, o2, o3, p4, p5, o5, p6, p7, p8, o9⟩ := id hord
  have o8 : lx < it := Nat.lt_trans p8 o9
  have o7 : ld < it := Nat.lt_trans p7 o8
  have o6 : f < it := Nat.lt_trans p6 o7
  have o4 : st < it := Nat.lt_trans p4 o6
  have o1 : cel < it := Nat.lt_trans p1 (Nat.lt_trans o2 (Nat.lt_trans o3 o4))
  have o10 : sgl < q := Nat.lt_trans o2 (Nat.lt_trans o3 (Nat.lt_trans p4 (Nat.lt_trans p6 (Nat.lt_trans p7 p8))))
  have hog := (X.keeps F.keep) _ _ hlk
  refine pyNext_ci rfl (N _ (.head _)).1 (N _ (.tail _ (.head _))).1 hog hfd ?_
  have C := rdch_does w p loose mean mg mb cel sgl sd st c' f ld lx pb1 pb2 k1 k2 k3 k4 lt wt j1 j2 j3 j4 j5 jt jw lno jno nn rem ks ((it, ciObj (.ref q) (.str se te) false) :: (q, methodObj (.ref 67) (.ref lx)) :: rest)
    fname fqual fparams fbody fscope fclos fpm fct oc oc' hs hrl (by omega)
    (List.forall_mem_cons.mpr ⟨Nat.ne_of_gt (Nat.lt_trans o10 o9), List.forall_mem_cons.mpr ⟨Nat.ne_of_gt o10, hr1⟩⟩)
    (List.forall_mem_cons.mpr ⟨Nat.ne_of_gt o7, List.forall_mem_cons.mpr ⟨Nat.ne_of_gt (Nat.lt_trans p7 p8), hr2⟩⟩) hlam
  have N2 : News h₀ L s.heap ((ld, lexD w k1 k2 k3 k4 lt wt lno st pb2) :: (lx, instObj 84 ld) :: (sd, strD w j1 j2 j3 j4 j5 jt jw jno pb1 f) :: (st, instObj 84 sd) :: (f, kla_obj fname fqual fparams fbody fscope fclos fpm c' fct) :: (sgl, W.listOf rem.reverse.toArray nn) :: (cel, oc) :: (c', oc') :: (it, ciObj (.ref q) (.str se te) false) :: (q, methodObj (.ref 67) (.ref lx)) :: rest) := by
    intro e he
    exact N e (mem_rot he)
  refine codeAny_mono (C dp (un + 1) gd cn cs a ccd cl outer A₀ base h₀ L m s (fun v s' => ∃ x t', v = .str x t' ∧ s'.heap.get? it = some (ciObj (.ref q) (.str se te) false) ∧ s'.heap.get? q = some (methodObj (.ref 67) (.ref lx)) ∧ s'.heap.get? 67 = some og ∧
          (x ≠ se → Q (some v) s') ∧ (x = se → ∀ h', (∀ b o, b ≠ it → s'.heap.get? b = some o → h'.get? b = some o) → h'.get? it = some (ciObj .none .none true) → Q none { s' with heap := h' })) (fun _ _ => False)
        B F X N2 T hk hdp (by omega) ?_) ?_
  · rintro r news' h' tk' F' N' ⟨us, nn', lt', y, t', rfl, rfl, hus, hy⟩
    refine ⟨y, t', rfl, (N' (it, _) mem_at9).1, (N' (q, _) mem_at10).1, (X.keeps F'.keep) _ _ hlk, fun hne => ?_, fun he h'' hk1 hk2 => ?_⟩
    · cases ks with
      | nil => exact absurd (cp_inj (x := y) (y := se) (hy.trans hse.symm)) hne
      | cons k r =>
        have ey : y = ⟨#[k]⟩ := cp_inj (hy.trans rfl)
        subst ey
        refine hQ1 k r t' us h' tk' nn' lt' rfl hus F' ?_
        intro e he
        exact N' e (mem_rot' he)
    · cases ks with
      | cons k r =>
        have := congrArg cp he
        rw [hy, hse] at this
        cases this
      | nil =>
        have := hus.nil_iff
        subst this
        have hLit := (N' (it, ciObj (.ref q) (.str se te) false) mem_at9).2
        refine hQ0 rfl h'' tk' nn' lt' ⟨F'.ns.at' fun o e => hk1 _ o (Ne.symm hLit.1) e, fun b o e => hk1 b o (fun e2 => ?_) (F'.keep b o e), F'.above⟩ ?_
        · rw [e2, hLit.2] at e; cases e
        · intro e he
          rw [show lno + cnt (List.take 1 []) = lno from Int.add_zero _] at N'
          rcases List.mem_cons.mp he with rfl | he
          · exact ⟨hk2, hLit⟩
          · have e1 : e.1 ≠ it := ne9 (Nat.ne_of_lt o9) (Nat.ne_of_lt o7) (Nat.ne_of_lt o8) (Nat.ne_of_lt (Nat.lt_trans o3 o4)) (Nat.ne_of_lt o4) (Nat.ne_of_lt o6) (Nat.ne_of_lt (Nat.lt_trans o2 (Nat.lt_trans o3 o4))) (Nat.ne_of_lt o1) (Nat.ne_of_lt (Nat.lt_trans o5 o6)) hr3 e he
            have h2 := N' e (mem_rot' (List.mem_cons_of_mem _ he))
            exact ⟨hk1 _ _ e1 h2.1, h2.2⟩
  · intro r s' hr
    match r, hr with
    | .ok (.ret v), hr => exact hr
end
end
section
open PySem PySem.W PySem.Calls PySem.Spec PyProof.Rows
section
variable {prog : Program} {w : World} {A : Around} {E : Value → Shared → Prop} {s : Shared} {env : Env}
theorem forTurn_of {x : Str} {px : Pos} {body : List Stmt} {it : Value} {Q : Flow → Shared → Prop} {Again : Shared → Prop} {P : Flow → Shared → Prop}
    (h : wpAny (model prog w) A (pyNext it) (fun r s₁ => match r with
      | none => Q .next s₁
      | some v => wpAny (model prog w) A (assign (.Name x px) env v) (fun _ s₂ => wpAny (model prog w) A (execs body env) P E s₂) E s₁) E s)
    (hP : ∀ f s₃, P f s₃ → match f with | .next | .cont => Again s₃ | .brk => Q .next s₃ | .ret v => Q (.ret v) s₃) : ForTurn prog w A env x px body it E Q Again s := by
  refine wpAny_mono h (fun r s₁ h₁ => ?_) fun _ _ e => e
  cases r with
  | none => exact h₁
  | some v =>
    refine wpAny_mono h₁ (fun _ s₂ h₂ => wpAny_mono h₂ (fun f s₃ h₃ => ?_) fun _ _ e => e) fun _ _ e => e
    have := hP f s₃ h₃
    cases f <;> exact this
def LoopG (prog : Program) (w : World) (A : Around) (env : Env) (x : Str) (px : Pos) (body : List Stmt) (it : Value) (E : Value → Shared → Prop) (Q : Flow → Shared → Prop) (s : Shared) : Prop :=
  ∃ (I : Nat → Shared → Prop) (n : Nat), I n s ∧ ∀ n s', I n s' → ForTurn prog w A env x px body it E Q (fun s₃ => ∃ k, k < n ∧ I k s₃) s'
theorem forG2 {x : Str} {px pos : Pos} {iter : PySem.Expr} {body : List Stmt} {Q : Flow → Shared → Prop}
    (h : wpAny (model prog w) A (eval iter env) (fun xv s₁ => wpAny (model prog w) A (pyIter xv) (fun it s₂ => LoopG prog w A env x px body it E Q s₂) E s₁) E s)
    (hs : ∀ x, foldedSetIterable iter env x = pure x := by intro _; rfl)
    (hE : PassesOwn (model prog w) A env E := by passes_own) :
    wpAny (model prog w) A (exec (.For (.Name x px) iter body [] pos) env) Q E s := forG h hs hE
theorem iterC {σ : Type} {h₀ : Heap} {L : Addr} {m₀ : Str → Option Value} {x : Str} {px : Pos} {body : List Stmt} {it : Value} {Q : Flow → Shared → Prop} (ps : σ → List (Str × Value)) (ld : σ → Led) (P : σ → Prop) (μ : σ → Nat) (c₀ : σ)
    (F : Fr h₀ L s.heap m₀) (N : News h₀ L s.heap (ld c₀)) (hk : ∀ p ∈ ps c₀, m₀ p.1 = some p.2) (hp : P c₀)
    (turn : ∀ (c : σ) (u : Str → Option Value) h tk, P c → Fr h₀ L h (kstB u (ps c)) → News h₀ L h (ld c) →
      wpAny (model prog w) A (pyNext it) (fun r s₁ => match r with
        | none => Q .next s₁
        | some v => wpAny (model prog w) A (assign (.Name x px) env v) (fun _ s₂ => wpAny (model prog w) A (execs body env) (TPost h₀ L [] ps ld (fun _ => True) (fun c' => P c' ∧ μ c' < μ c) { s with heap := h, toks := tk } Q) E s₂) E s₁) E { s with heap := h, toks := tk }) :
    LoopG prog w A env x px body it E Q s := by
  refine ⟨fun n s' => ∃ (c : σ) (h : Heap) (tk : Nat) (m' : Str → Option Value), s' = { s with heap := h, toks := tk } ∧ Fr h₀ L h m' ∧ News h₀ L h (ld c) ∧ (∀ p ∈ ps c, m' p.1 = some p.2) ∧ P c ∧ μ c = n, μ c₀, ⟨c₀, s.heap, s.toks, m₀, rfl, F, N, hk, hp, rfl⟩, ?_⟩
  rintro n s' ⟨c, h, tk, m', rfl, F', N', hk', hp', rfl⟩
  have hF : Fr h₀ L h (kstB m' (ps c)) := by rw [kstB_id hk']; exact F'
  refine forTurn_of (turn c m' h tk hp' hF N') ?_
  intro f s₃ q
  have fin : TEnd h₀ L [] ps ld (fun _ => True) (fun c' => P c' ∧ μ c' < μ c) { s with heap := h, toks := tk } s₃ → ∃ k, k < μ c ∧ ∃ (c : σ) (h : Heap) (tk : Nat) (m' : Str → Option Value), s₃ = { s with heap := h, toks := tk } ∧ Fr h₀ L h m' ∧ News h₀ L h (ld c) ∧ (∀ p ∈ ps c, m' p.1 = some p.2) ∧ P c ∧ μ c = k := by
    rintro ⟨c', h', tk', m'', rfl, F'', N'', _, hk'', hp'', hm''⟩
    exact ⟨μ c', hm'', c', h', tk', m'', rfl, F'', N'', hk'', hp'', rfl⟩
  cases f with
  | ret v => exact q
  | brk => exact q
  | next => exact fin q
  | cont => exact fin q
end
/-! the token, in plain words -/
def ws : List Nat := [10, 9, 13, 32]
def scan (stop : Nat → Bool) : Bool → List Nat → List Nat × List Nat
  | _, [] => ([], [])
  | true, c :: r => (c :: (scan stop false r).1, (scan stop false r).2)
  | false, c :: r => if stop c then ([], r) else if c = 92 then scan stop true r else (c :: (scan stop false r).1, (scan stop false r).2)
def isQ (c : Nat) : Bool := c == 34
def isW (c : Nat) : Bool := ws.contains c
def tokM : List Nat → List Nat × List Nat
  | [] => ([], [])
  | c :: r => if isW c then tokM r else if isQ c then scan isQ false r else scan isW false (c :: r)
theorem scan_true (stop : Nat → Bool) (r : List Nat) : scan stop true r = (r.take 1 ++ (scan stop false (r.drop 1)).1, (scan stop false (r.drop 1)).2) := by
  cases r <;> simp [scan]
theorem cnt_cons (k : Nat) (r : List Nat) : cnt (k :: r) = cnt [k] + cnt r := by
  simp only [cnt, List.count_cons, List.count_nil]; omega
theorem cnt_split (r : List Nat) : cnt r = cnt (r.take 1) + cnt (r.drop 1) := by
  cases r with
  | nil => rfl
  | cons k r => exact cnt_cons k r
end
section
open PySem PySem.W PySem.Calls PySem.Spec PyProof.Rows
def rawSt (mk : List Nat) (a : List Nat × Bool) (c : Nat) : List Nat × Bool := ((if c ∈ mk ∧ a.2 = false then a.1 ++ [92] else a.1) ++ [c], decide (c = 92) && !a.2)
def RInv (x mk : Str) (i : Nat) (r : Str) (h : Bool) : Prop := (cp r, h) = ((cp x).take i).foldl (rawSt (cp mk)) ([], false) ∧ r.length ≤ 2 * i
theorem in_no {mk : Str} {k : Nat} (h : (Builtin.Str.occurrences mk { cps := #[k] } 0 mk.length 1).isEmpty = true) : ¬ k ∈ cp mk := by
  have e := StrLaws.found_one mk k
  rw [h] at e
  simpa using e.symm
theorem in_yes {mk : Str} {k : Nat} (h : (Builtin.Str.occurrences mk { cps := #[k] } 0 mk.length 1).isEmpty = false) : k ∈ cp mk := by
  have e := StrLaws.found_one mk k
  rw [h] at e
  simpa using e.symm
theorem cp_one (k : Nat) : cp (Str.mk #[k]) = [k] := rfl
theorem rinv_step {x mk r r' : Str} {i k : Nat} {h h' : Bool} (ik : x.cps[i]? = some k) (iv : RInv x mk i r h) (e1 : cp r' = (if k ∈ cp mk ∧ h = false then cp r ++ [92] else cp r) ++ [k])
    (e2 : h' = !h ∧ (Str.mk #[k] == Str.ofString "\\") = true ∨ h' = (Str.mk #[k] == Str.ofString "\\") ∧ (Str.mk #[k] == Str.ofString "\\") = false) (e3 : r'.length ≤ r.length + 2) : RInv x mk (i + 1) r' h' := by
  obtain ⟨i1, i2⟩ := iv
  have hk : (cp x)[i]? = some k := by simpa [cp] using ik
  have e4 : h' = (decide (k = 92) && !h) := by
    rcases e2 with ⟨a, b⟩ | ⟨a, b⟩
    · rw [one_is (cp_one k) cp_slash] at b
      simp only [decide_eq_true_eq] at b
      subst b; simp [a]
    · have b' := b
      rw [one_is (cp_one k) cp_slash] at b'
      rw [a, b, b']; rfl
  refine ⟨?_, by omega⟩
  rw [List.take_add_one, hk, List.foldl_append, ← i1]
  show (cp r', h') = rawSt (cp mk) (cp r, h) k
  unfold rawSt
  rw [e1, e4]
theorem rinv_a {x mk r : Str} {i k : Nat} {h h' : Bool} (ik : x.cps[i]? = some k) (iv : RInv x mk i r h) (hm : (Builtin.Str.occurrences mk { cps := #[k] } 0 mk.length 1).isEmpty = true ∨ h = true)
    (e2 : h' = !h ∧ (Str.mk #[k] == Str.ofString "\\") = true ∨ h' = (Str.mk #[k] == Str.ofString "\\") ∧ (Str.mk #[k] == Str.ofString "\\") = false) : RInv x mk (i + 1) (r ++ Str.mk #[k]) h' := by
  have : ¬ (k ∈ cp mk ∧ h = false) := by
    rintro ⟨a, b⟩
    rcases hm with hm | hm
    · exact in_no hm a
    · rw [hm] at b; cases b
  refine rinv_step ik iv ?_ e2 ?_
  · rw [if_neg this, cp_append, cp_one]
  · rw [Str.length_append]; show r.length + 1 ≤ _; omega
theorem rinv_b {x mk r : Str} {i k : Nat} {h h' : Bool} (ik : x.cps[i]? = some k) (iv : RInv x mk i r h) (hm : (Builtin.Str.occurrences mk { cps := #[k] } 0 mk.length 1).isEmpty = false) (hh : h = false)
    (e2 : h' = !h ∧ (Str.mk #[k] == Str.ofString "\\") = true ∨ h' = (Str.mk #[k] == Str.ofString "\\") ∧ (Str.mk #[k] == Str.ofString "\\") = false) : RInv x mk (i + 1) (r ++ Str.ofString "\\" ++ Str.mk #[k]) h' := by
  refine rinv_step ik iv ?_ e2 ?_
  · rw [if_pos ⟨in_yes hm, hh⟩, cp_append, cp_append, cp_one, cp_slash]
  · rw [Str.length_append, Str.length_append]; show r.length + (Str.ofString "\\").length + 1 ≤ _
    have : (Str.ofString "\\").length = 1 := by decide +kernel
    omega
theorem raw_does (w : World) (p : Program) (loose : List Str) (mean : ExcName → Option Value) (mg mb : Str → Option Value) (news : Led) (x mk : Str) (t tm : Tok) (hx : x.length ≤ 1000) (hm : mk.length ≤ 10) :
   Does w p loose mean mg mb 2 16 116 news [.str x t, .str mk tm] (fun r news' => ∃ a y h t', r = .ref a ∧ news' = (a, W.listOf #[.str y t', .bool h] 0) :: news ∧ (∀ q ∈ news, q.1 < a) ∧ RInv x mk x.length y h) := by
  k_with_none
  k_with "TPost" => (dsimp only [TPost])
  k_with "exec While Compare cons nil" => (k_extra "MyWhile")
  k_with "exec For Name Name cons nil" => (walk_at "MY for")
  k_with "exec For Name Call cons nil" => (walk_at "MY for")
  k_with "exec For Name List cons nil" => (walk_at "MY for")
  k_with "pyIter str" => (k_extra "MyIter")
  k_with "pyIter ref" => (k_extra "MyIter")
  k_with "call ref" => (k_extra "MyCall")
  k_with "call builtin:list.append" => (k_extra "MyAppend")
  k_with "callWith ref" => (k_here; first | (refine' callWith_K (by k_asm) (by k_is) ?_; k_whole) | (refine' callWith_K0 (by (first | (with_reducible assumption) | exact Frag.In.keeps (by with_reducible assumption) (Fr.keep (by with_reducible assumption)) | k_in)) (by k_is) ?_; k_whole) | ((refine' callWith_M0 (by k_meth) (by k_is) ?_; k_whole); try dsimp only [List.nil_append, List.cons_append]) | (refine' callWith_M (by k_asm) (by k_asm) (by k_mem) (by k_is) ?_; k_whole))
  w_top off
  unfold Does
  k_fill
  intros dp un gd cn cs a ccd cl outer A₀ base h₀ L m s Q E iB iF iX iN iT ik id iu hret
  walk_at "MY enter"
  generalize s.toks + List.length _ = tk0
  rename Fr _ _ _ (fun y => List.lookup y _) => F
  replace F := fr_map F (m' := fun y => if y = Str.ofString "marks" then some (.str mk tm) else if y = Str.ofString "text" then some (.str x t) else none) (fun y => look2 _ _ _ _ y)
  k_with "MyIter" => (
    rename Fr _ _ _ _ => lF'
    rename News _ _ _ _ => lN'
    refine' iterT_text (σ := Str × Bool × Tok) (fun c => [(Str.ofString "marks", .str mk tm), (Str.ofString "raw", .str c.1 c.2.2), (Str.ofString "hides", .bool c.2.1)]) (fun _ => news) (fun i c => RInv x mk i c.1 c.2.1) (Str.ofString "", false, _) (by rfl) lF' lN' ?ka ?kb ?kc ?kd
    case ka => kst_all
    case kb => exact ⟨by rw [cp_nil]; rfl, Nat.zero_le _⟩
    all_goals clear lF' lN'
    case' kc =>
      rintro i k tt I ⟨r, hd, t1⟩ u oI h tk ik ⟨iv1, iv2⟩ hoff lF lN
      dsimp only [kstB] at lF iv1 iv2 ⊢
      k_fold
      have hil : i < x.length := (Array.getElem?_eq_some_iff.mp ik).1
      have hk1 : (Str.mk #[k]).length = 1 := rfl
    case' kd =>
      rintro ⟨r, hd, t1⟩ u h tk iv lF lN
      dsimp only [kstB] at lF iv ⊢)
  k_steps
  · exact hret _ _ _ _ (by k_asm) (by k_asm) ⟨_, _, _, _, rfl, rfl, by assumption, iv⟩
  all_goals (
    refine' tEnd (_, _, _) (by assumption) (by assumption) ?es hoff ?ek ?ep
    case ek => kst_all
    case es => exact fun p hp => hp
    case ep => first
      | exact rinv_a ik ⟨iv1, iv2⟩ (.inl (by assumption)) (.inl ⟨rfl, by assumption⟩)
      | exact rinv_a ik ⟨iv1, iv2⟩ (.inl (by assumption)) (.inr ⟨rfl, by assumption⟩)
      | exact rinv_a ik ⟨iv1, iv2⟩ (.inr (by assumption)) (.inl ⟨rfl, by assumption⟩)
      | exact rinv_a ik ⟨iv1, iv2⟩ (.inr (by assumption)) (.inr ⟨rfl, by assumption⟩)
      | exact rinv_b ik ⟨iv1, iv2⟩ (by assumption) (by assumption) (.inl ⟨rfl, by assumption⟩)
      | exact rinv_b ik ⟨iv1, iv2⟩ (by assumption) (by assumption) (.inr ⟨rfl, by assumption⟩))
end
section
open PySem PySem.W PySem.Calls PySem.Spec PyProof.Rows
local macro_rules | `(tactic| k_all) => `(tactic| with_reducible assumption)
def Live (q : Addr) (io : Obj) : Prop := ∃ te, io = ciObj (.ref q) (.str (Str.ofString "") te) false
def OutP (live : Obj → Prop) (ks : List Nat) (lno : Int) (tok : Str) (io : Obj) (rm : List Value) (ln : Int) : Prop :=
  (live io ∧ cp tok = [] ∧ ∃ js, Sgs rm js ∧ tokM js = tokM ks ∧ ln + cnt js = lno + cnt ks ∧ js.length ≤ ks.length) ∨ (io = ciObj .none .none true ∧ cp tok = (tokM ks).1 ∧ rm = [] ∧ (tokM ks).2 = [] ∧ ln = lno + cnt ks)
def InP (live : Obj → Prop) (stop : Nat → Bool) (ks : List Nat) (lno : Int) (tok : Str) (io : Obj) (rm : List Value) (ln : Int) : Prop :=
  live io ∧ ∃ js, Sgs rm js ∧ cp tok ++ (scan stop false js).1 = (tokM ks).1 ∧ (scan stop false js).2 = (tokM ks).2 ∧ ln + cnt js = lno + cnt ks ∧ tok.length + js.length ≤ ks.length
theorem w_no {k : Nat} (h : (Builtin.Str.occurrences (Str.ofString "\n\t\r ") { cps := #[k] } 0 (Str.ofString "\n\t\r ").length 1).isEmpty = true) : isW k = false := by
  have := in_no h
  rw [show cp (Str.ofString "\n\t\r ") = [10, 9, 13, 32] by decide +kernel] at this
  cases e : isW k with
  | false => rfl
  | true =>
    unfold isW ws at e
    exact absurd (List.contains_iff_mem.mp e) this
theorem w_yes {k : Nat} (h : (Builtin.Str.occurrences (Str.ofString "\n\t\r ") { cps := #[k] } 0 (Str.ofString "\n\t\r ").length 1).isEmpty = false) : isW k = true := by
  have := in_yes h
  rw [show cp (Str.ofString "\n\t\r ") = [10, 9, 13, 32] by decide +kernel] at this
  exact List.contains_iff_mem.mpr this
theorem q_yes {k : Nat} (h : (({ cps := #[k] } : Str) == Str.ofString "\"") = true) : isQ k = true := by
  rw [one_is (x := ⟨#[k]⟩) (c := k) rfl cp_quote] at h
  simpa [isQ] using h
theorem q_no {k : Nat} (h : (({ cps := #[k] } : Str) == Str.ofString "\"") = false) : isQ k = false := by
  rw [one_is (x := ⟨#[k]⟩) (c := k) rfl cp_quote] at h
  simpa [isQ] using h
theorem s_yes {k : Nat} (h : (({ cps := #[k] } : Str) == Str.ofString "\\") = true) : k = 92 := by
  rw [one_is (x := ⟨#[k]⟩) (c := k) rfl cp_slash] at h
  simpa using h
theorem s_no {k : Nat} (h : (({ cps := #[k] } : Str) == Str.ofString "\\") = false) : k ≠ 92 := by
  rw [one_is (x := ⟨#[k]⟩) (c := k) rfl cp_slash] at h
  simpa using h
theorem cnt_nil : cnt [] = 0 := rfl
section
variable {live : Obj → Prop} {ks r js : List Nat} {k : Nat} {lno ln : Int} {tok y : Str} {io : Obj} {us us2 rm : List Value}
/-- a blank ahead of the word -/
theorem out_w (hl : live io) (hw : isW k = true) (hct : cp tok = []) (hus : Sgs us r) (hjs : Sgs rm (k :: r)) (hjt : tokM (k :: r) = tokM ks) (hjc : ln + cnt (k :: r) = lno + cnt ks) (hjl : (k :: r).length ≤ ks.length) :
    OutP live ks lno tok io us (ln + cnt [k]) ∧ us.length < rm.length := by
  rw [cnt_cons] at hjc
  have := hus.len; have := hjs.len
  simp only [List.length_cons] at *
  exact ⟨.inl ⟨hl, hct, r, hus, by rw [← hjt, tokM, if_pos hw], by omega, by omega⟩, by omega⟩
/-- into the quotes -/
theorem in_q (hl : live io) (hw : isW k = false) (hq : isQ k = true) (hct : cp tok = []) (hus : Sgs us r) (hjt : tokM (k :: r) = tokM ks) (hjc : ln + cnt (k :: r) = lno + cnt ks) (hjl : (k :: r).length ≤ ks.length) :
    InP live isQ ks lno tok io us (ln + cnt [k]) := by
  rw [cnt_cons] at hjc
  rw [tokM, if_neg (by rw [hw]; decide), if_pos hq] at hjt
  have ht : tok.length = 0 := by rw [← cp_len, hct]; rfl
  simp only [List.length_cons] at hjl
  exact ⟨hl, r, hus, by rw [hct, hjt]; rfl, by rw [hjt], by omega, by omega⟩
/-- into a bare word -/
theorem in_w (hl : live io) (hw : isW k = false) (hq : isQ k = false) (hk : k ≠ 92) (hct : cp tok = []) (hus : Sgs us r) (hjt : tokM (k :: r) = tokM ks) (hjc : ln + cnt (k :: r) = lno + cnt ks) (hjl : (k :: r).length ≤ ks.length) :
    InP live isW ks lno (tok ++ ⟨#[k]⟩) io us (ln + cnt [k]) := by
  rw [cnt_cons] at hjc
  rw [tokM, if_neg (by rw [hw]; decide), if_neg (by rw [hq]; decide), scan, if_neg (by rw [hw]; decide), if_neg hk] at hjt
  have ht : tok.length = 0 := by rw [← cp_len, hct]; rfl
  simp only [List.length_cons] at hjl
  exact ⟨hl, r, hus, by rw [cp_append, hct, ← hjt]; rfl, by rw [← hjt], by omega, by rw [Str.length_append]; show _ + 1 + _ ≤ _; omega⟩
theorem in_w92 (hl : live io) (hw : isW k = false) (hq : isQ k = false) (hk : k = 92) (hct : cp tok = []) (hus : Sgs us2 (r.drop 1)) (hy : cp y = r.take 1) (hjt : tokM (k :: r) = tokM ks) (hjc : ln + cnt (k :: r) = lno + cnt ks) (hjl : (k :: r).length ≤ ks.length) :
    InP live isW ks lno (tok ++ y) io us2 (ln + cnt [k] + cnt (r.take 1)) := by
  rw [cnt_cons] at hjc
  rw [tokM, if_neg (by rw [hw]; decide), if_neg (by rw [hq]; decide), scan, if_neg (by rw [hw]; decide), if_pos hk, scan_true] at hjt
  have ht : tok.length = 0 := by rw [← cp_len, hct]; rfl
  have h1 := cnt_split r
  have hy2 : y.length = (r.take 1).length := by rw [← cp_len, hy]
  simp only [List.length_cons, List.length_take] at hjl hy2
  exact ⟨hl, r.drop 1, hus, by rw [cp_append, hct, ← hjt, hy]; rfl, by rw [← hjt], by omega, by rw [Str.length_append, List.length_drop]; omega⟩
/-- amid a word -/
theorem in_s {stop : Nat → Bool} (hl : live io) (hw : stop k = false) (hk : k ≠ 92) (hus : Sgs us js) (hjs : Sgs rm (k :: js)) (h1 : cp tok ++ (scan stop false (k :: js)).1 = (tokM ks).1) (h2 : (scan stop false (k :: js)).2 = (tokM ks).2) (h3 : ln + cnt (k :: js) = lno + cnt ks) (h4 : tok.length + (k :: js).length ≤ ks.length) :
    InP live stop ks lno (tok ++ ⟨#[k]⟩) io us (ln + cnt [k]) ∧ us.length < rm.length := by
  rw [cnt_cons] at h3
  rw [scan, if_neg (by rw [hw]; decide), if_neg hk] at h1 h2
  have := hus.len; have := hjs.len
  simp only [List.length_cons] at *
  exact ⟨⟨hl, js, hus, by rw [cp_append, ← h1]; show (cp tok ++ [k]) ++ _ = _; simp, h2, by omega, by rw [Str.length_append]; show _ + 1 + _ ≤ _; omega⟩, by omega⟩
theorem in_s92 {stop : Nat → Bool} (hl : live io) (hw : stop k = false) (hk : k = 92) (hus : Sgs us2 (js.drop 1)) (hy : cp y = js.take 1) (hjs : Sgs rm (k :: js)) (h1 : cp tok ++ (scan stop false (k :: js)).1 = (tokM ks).1) (h2 : (scan stop false (k :: js)).2 = (tokM ks).2) (h3 : ln + cnt (k :: js) = lno + cnt ks) (h4 : tok.length + (k :: js).length ≤ ks.length) :
    InP live stop ks lno (tok ++ y) io us2 (ln + cnt [k] + cnt (js.take 1)) ∧ us2.length < rm.length := by
  rw [cnt_cons] at h3
  rw [scan, if_neg (by rw [hw]; decide), if_pos hk, scan_true] at h1 h2
  have h5 := cnt_split js
  have := hus.len; have := hjs.len
  have hy2 : y.length = (js.take 1).length := by rw [← cp_len, hy]
  simp only [List.length_cons, List.length_take, List.length_drop] at *
  exact ⟨⟨hl, js.drop 1, hus, by rw [cp_append, ← h1, hy, List.append_assoc], h2, by omega, by rw [Str.length_append, List.length_drop]; omega⟩, by omega⟩
/-- the text ends amid a word -/
theorem in_end {stop : Nat → Bool} (h1 : cp tok ++ (scan stop false []).1 = (tokM ks).1) (h2 : (scan stop false []).2 = (tokM ks).2) (h3 : ln + cnt [] = lno + cnt ks) :
    OutP live ks lno tok (ciObj .none .none true) [] ln :=
  .inr ⟨rfl, by rw [← h1]; simp [scan], rfl, h2.symm.trans rfl, by rw [cnt_nil] at h3; omega⟩
/-- the sign that ends a word -/
theorem in_stop {stop : Nat → Bool} (hw : stop k = true) (hus : Sgs us js) (h1 : cp tok ++ (scan stop false (k :: js)).1 = (tokM ks).1) (h2 : (scan stop false (k :: js)).2 = (tokM ks).2) (h3 : ln + cnt (k :: js) = lno + cnt ks) :
    ln + cnt [k] = lno + cnt ks - cnt (tokM ks).2 ∧ Sgs us (tokM ks).2 ∧ cp tok = (tokM ks).1 := by
  rw [cnt_cons] at h3
  rw [scan, if_pos hw] at h1 h2
  refine ⟨by rw [← h2]; show _ = _ - cnt js; omega, h2 ▸ hus, by rw [← h1]; simp⟩
theorem out_nil (hct : cp tok = []) (hjt : tokM [] = tokM ks) (hjc : ln + cnt [] = lno + cnt ks) : ln = lno + cnt ks - cnt (tokM ks).2 ∧ Sgs [] (tokM ks).2 ∧ cp tok = (tokM ks).1 := by
  rw [← hjt]
  rw [cnt_nil] at hjc
  exact ⟨by show ln = _ - cnt []; rw [cnt_nil]; omega, rfl, hct⟩
theorem out_end (hct : cp tok = (tokM ks).1) (hT2 : (tokM ks).2 = []) (hln : ln = lno + cnt ks) : ln = lno + cnt ks - cnt (tokM ks).2 ∧ Sgs [] (tokM ks).2 ∧ cp tok = (tokM ks).1 := by
  rw [hT2, cnt_nil]
  exact ⟨by omega, rfl, hct⟩
end
theorem get_does (w : World) (p : Program) (loose : List Str) (mean : ExcName → Option Value) (mg mb : Str → Option Value)
    (cel sgl sd st c' f ld lx pb1 pb2 : Nat) (k1 k2 k3 k4 lt wt j1 j2 j3 j4 j5 jt jw : Tok) (lno jno : Int) (nn : Nat) (rem : List Value) (ks : List Nat) (rest : Led)
    (fname fqual : Str) (fparams : Arguments) (fbody : PySem.Expr) (fscope : Scope) (fclos : List (Str × Addr)) (fpm fct : Value) (oc oc' : Obj)
    (hs : Sgs rem ks) (hks : ks.length ≤ 3000) (hord : cel < sgl ∧ sgl < sd ∧ sd < st ∧ st < f ∧ c' ≠ sgl ∧ c' < f ∧ f < ld ∧ ld < lx ∧ lx < pb2) (hr1 : ∀ p ∈ rest, p.1 ≠ sgl) (hr2 : ∀ p ∈ rest, p.1 ≠ ld)
    (hlam : LamDoes w p loose mean mg mb f sgl [(f, kla_obj fname fqual fparams fbody fscope fclos fpm c' fct), (cel, oc), (c', oc')]) :
   Does w p loose mean mg mb 6 40 74 ((pb2, W.listOf #[] 0) :: LX w cel sgl sd st c' f ld lx pb1 pb2 k1 k2 k3 k4 wt j1 j2 j3 j4 j5 jt jw jno (kla_obj fname fqual fparams fbody fscope fclos fpm c' fct) oc oc' lno lt rem nn rest) [.ref lx]
     (fun r news' => ∃ us nn' lt' y t', r = .str y t' ∧ news' = (pb2, W.listOf #[] 0) :: LX w cel sgl sd st c' f ld lx pb1 pb2 k1 k2 k3 k4 wt j1 j2 j3 j4 j5 jt jw jno (kla_obj fname fqual fparams fbody fscope fclos fpm c' fct) oc oc' (lno + cnt ks - cnt (tokM ks).2) lt' us nn' rest ∧ Sgs us (tokM ks).2 ∧ cp y = (tokM ks).1) := by
  k_with_none
  k_with "TPost" => (dsimp only [TPost])
  k_with "exec While Compare cons nil" => (k_extra "MyWhile")
  k_with "exec For Name Name cons nil" => (walk_at "MY for")
  k_with "exec For Name Call cons nil" => (walk_at "MY for")
  k_with "exec For Name List cons nil" => (walk_at "MY for")
  k_with "pyIter str" => (k_extra "MyIter")
  k_with "pyIter ref" => (k_extra "MyIter")
  k_with "call ref" => (k_extra "MyCall")
  k_with "call builtin:list.append" => (k_extra "MyAppend")
  k_with "callWith ref" => (k_here; first | (refine' callWith_K (by k_asm) (by k_is) ?_; k_whole) | (refine' callWith_K0 (by (first | (with_reducible assumption) | exact Frag.In.keeps (by with_reducible assumption) (Fr.keep (by with_reducible assumption)) | k_in)) (by k_is) ?_; k_whole) | ((refine' callWith_M0 (by k_meth) (by k_is) ?_; k_whole); try dsimp only [List.nil_append, List.cons_append]) | (refine' callWith_M (by k_asm) (by k_asm) (by k_mem) (by k_is) ?_; k_whole))
  k_with "exec For Name Name cons nil" => (k_extra "MyFor")
  k_with "call builtin:iter" => (k_extra "MyIt2")
  w_top off
  unfold Does
  k_fill
  intros dp un gd cn cs a ccd cl outer A₀ base h₀ L m s Q E iB iF iX iN iT ik id iu hret
  have codeHd : CodeHd h₀ 129 125 := codeHd_of_K (c := 129) (P := 125) iX (by kernel_rfl)
  k_with_none
  k_with "TPost" => (dsimp only [TPost])
  k_with "exec While Compare cons nil" => (k_extra "MyWhile")
  k_with "exec For Name Name cons nil" => (walk_at "MY for")
  k_with "exec For Name Call cons nil" => (walk_at "MY for")
  k_with "exec For Name List cons nil" => (walk_at "MY for")
  k_with "pyIter str" => (k_extra "MyIter")
  k_with "pyIter ref" => (k_extra "MyIter")
  k_with "call ref" => (k_extra "MyCall")
  k_with "call builtin:list.append" => (k_extra "MyAppend")
  k_with "callWith ref" => (k_here; first | (refine' callWith_K (by k_asm) (by k_is) ?_; k_whole) | (refine' callWith_K0 (by (first | (with_reducible assumption) | exact Frag.In.keeps (by with_reducible assumption) (Fr.keep (by with_reducible assumption)) | k_in)) (by k_is) ?_; k_whole) | ((refine' callWith_M0 (by k_meth) (by k_is) ?_; k_whole); try dsimp only [List.nil_append, List.cons_append]) | (refine' callWith_M (by k_asm) (by k_asm) (by k_mem) (by k_is) ?_; k_whole))
  k_with "exec For Name Name cons nil" => (k_extra "MyFor")
  k_with "call builtin:iter" => (k_extra "MyIt2")
  have kM := kstMark
  k_with "Sub" => ((repeat (refine List.forall_mem_cons.mpr (And.intro ?_ ?_); k_mem)); (intro p hp; (repeat (first | exact hp | apply List.mem_cons_of_mem)); done))
  k_with "MyIt2" => (    rename Addr => q9
                         refine' iter2 (by k_asm) (by k_asm) (by k_mem) ?_; intro it9 h9 F9 N9 l9
                         have hrC : ∀ p ∈ ((pb2, W.listOf #[] 0) :: rest : Led), p.1 ≠ it9 := List.forall_mem_cons.mpr ⟨Nat.ne_of_lt (l9 _ (by k_mem)), fun p hp => Nat.ne_of_lt (l9 p (by (repeat (first | exact hp | apply List.mem_cons_of_mem))))⟩
                         (try k_lt l9); (try dsimp only); (try k_fold)
                         have hord9 : cel < sgl ∧ sgl < sd ∧ sd < st ∧ st < f ∧ c' ≠ sgl ∧ c' < f ∧ f < ld ∧ ld < lx ∧ @LT.lt Nat _ lx q9 ∧ @LT.lt Nat _ q9 it9 := by omega
                         have hordR : cel < sgl ∧ sgl < sd ∧ sd < st ∧ st < f ∧ c' ≠ sgl ∧ c' < f ∧ f < ld ∧ ld < lx := by omega
                         have hrA : ∀ p ∈ ((pb2, W.listOf #[] 0) :: rest : Led), p.1 ≠ sgl := List.forall_mem_cons.mpr ⟨by show pb2 ≠ sgl; omega, hr1⟩
                         have hrB : ∀ p ∈ ((pb2, W.listOf #[] 0) :: rest : Led), p.1 ≠ ld := List.forall_mem_cons.mpr ⟨by show pb2 ≠ ld; omega, hr2⟩
                         have hrD : ∀ io : Obj, ∀ p ∈ ((it9, io) :: (q9, methodObj (.ref 67) (.ref lx)) :: (pb2, W.listOf #[] 0) :: rest : Led), p.1 ≠ sgl := fun io => List.forall_mem_cons.mpr ⟨Ne.symm (neN (a := sgl) (b := it9) (by omega)), List.forall_mem_cons.mpr ⟨Ne.symm (neN (a := sgl) (b := q9) (by omega)), hrA⟩⟩
                         have hrE : ∀ io : Obj, ∀ p ∈ ((it9, io) :: (q9, methodObj (.ref 67) (.ref lx)) :: (pb2, W.listOf #[] 0) :: rest : Led), p.1 ≠ ld := fun io => List.forall_mem_cons.mpr ⟨Ne.symm (neN (a := ld) (b := it9) (by omega)), List.forall_mem_cons.mpr ⟨Ne.symm (neN (a := ld) (b := q9) (by omega)), hrB⟩⟩)
  k_with "MyFor" => (refine' forG2 ?_ ?_ ?_)
  k_with "MyIter" => (refine' pyIter_ci (News.get (by k_asm) (by k_mem)) rfl ?_)
  k_with "MyCall" => (
    first
    | (    refine' does_use (rdch_does w p loose mean mg mb cel sgl sd st c' f ld lx pb1 pb2 k1 k2 k3 k4 _ wt j1 j2 j3 j4 j5 jt jw _ jno _ _ _ ((it9, _) :: (q9, methodObj (.ref 67) (.ref lx)) :: (pb2, W.listOf #[] 0) :: rest) fname fqual fparams fbody fscope fclos fpm fct oc oc' hus (by rw [hus.len]; omega) hordR (hrD _) (hrE _) hlam).does (by k_asm) (by k_asm) (by k_asm) (cb_drop (by assumption) (by k_extra "Sub")) (by k_asm) (by first | exact rfl | assumption) (by ktr_room) (by ktr_units) ?_
           rintro r9 news9 h9 tk9 F9 N9 ⟨us2, nn2, lt2, y2, t2, rfl, rfl, hus2, hy2⟩
           (try dsimp only)
           (try k_fold)
           have hyl := congrArg List.length hy2
           simp only [cp_len, List.length_take] at hyl))
  walk_at "MY enter"
  generalize s.toks + List.length _ = tk0
  rename Fr _ _ _ (fun y => List.lookup y _) => F
  replace F := fr_map F (fun y => look1 _ _ y)
  k_steps
  rename Fr _ _ _ _ => lF'
  rename News _ _ _ _ => lN'
  refine' iterC (σ := Str × Tok × Obj × List Value × Nat × Int × Tok) (fun (tok, tt, io, rm, n9, ln, l9) => [(Str.ofString "token", .str tok tt), (Str.ofString "self", .ref lx), (Str.ofString "fiter", .ref it9)])
    (fun (tok, tt, io, rm, n9, ln, l9) => (it9, io) :: (q9, methodObj (.ref 67) (.ref lx)) :: LX w cel sgl sd st c' f ld lx pb1 pb2 k1 k2 k3 k4 wt j1 j2 j3 j4 j5 jt jw jno (kla_obj fname fqual fparams fbody fscope fclos fpm c' fct) oc oc' ln l9 rm n9 ((pb2, W.listOf #[] 0) :: rest))
    (fun (tok, tt, io, rm, n9, ln, l9) => OutP (Live q9) ks lno tok io rm ln) (fun (tok, tt, io, rm, n9, ln, l9) => rm.length) (_, _, _, _, _, _, _) ?oF ?oN ?ok ?op ?ot
  case oF => exact lF'
  case oN => exact cb_drop lN' (by dsimp only; k_extra "Sub")
  case ok => kst_all
  case op => exact .inl ⟨⟨_, rfl⟩, by decide +kernel, ks, hs, rfl, rfl, Nat.le_refl _⟩
  clear lF' lN'
  case' ot =>
    rintro ⟨tok, tt, io, rm, n9, ln, l9⟩ u h tk iv lF lN
    dsimp only [kstB] at lF iv lN ⊢
    revert lF lN
    repeat (rename News _ _ _ _ => oldN; clear oldN)
    repeat (rename Fr _ _ _ _ => oldF; clear oldF)
    intro lF lN
    rcases iv with ⟨⟨te, rfl⟩, hct, js, hjs, hjt, hjc, hjl⟩ | ⟨rfl, hct, rfl, hT2, hln⟩
  case' ot.inl =>
    refine' lexNext (by decide +kernel) hjs (by rw [hjs.len]; omega) hord9 hrA hrB hrC hlam (by k_asm) lF (by k_asm) lN (by k_asm) (by first | exact rfl | assumption) (by ktr_room) (by ktr_units) ?q0 ?q1
  case' q0 =>
    rintro rfl h' tk' nn' lt' F' N'
    dsimp only
    clear lF lN
    (try k_fold)
  case' q1 =>
    rintro k r t us h' tk' nn' lt' rfl hus F' N'
    dsimp only
    clear lF lN
    (try k_fold)
    have htl : tok.length = 0 := by rw [← cp_len, hct]; rfl
    have hz1 : (⟨#[k]⟩ : Str).length = 1 := rfl
    simp only [List.length_cons] at hjl
  case' ot.inr =>
    refine' pyNext_ci_end rfl (News.get lN (by k_mem)) ?_
    intro h' hk'
    have lF2 := lF.keeps hk'
    have lN2 : News _ _ h' _ := fun p hp => ⟨hk' _ _ (lN p hp).1, (lN p hp).2⟩
    clear lF lN
    dsimp only
    (try k_fold)
  k_steps
  all_goals first
    | (refine' tEnd (_, _, _, _, _, _, _) (by assumption) (by assumption) ?es (fun _ _ => trivial) ?ek ?ep
       case ek => kst_all
       case es => (dsimp only; k_extra "Sub")
       case ep => (dsimp only; exact out_w ⟨_, rfl⟩ (w_yes (by with_reducible assumption)) hct hus hjs hjt hjc (by simpa using hjl)))
    | (refine' hret _ _ _ _ (by k_asm) ?_ ⟨_, _, _, _, _, rfl, rfl, (out_nil hct hjt hjc).2⟩
       rw [← (out_nil hct hjt hjc).1]
       exact cb_drop (by assumption) (by k_extra "Sub"))
    | (refine' hret _ _ _ _ (by k_asm) ?_ ⟨_, _, _, _, _, rfl, rfl, (out_end hct hT2 hln).2⟩
       rw [← (out_end hct hT2 hln).1]
       exact cb_drop (by assumption) (by k_extra "Sub"))
    | skip
  all_goals (
    rename Fr _ _ _ _ => lF'
    rename News _ _ _ _ => lN'
    first
    | (have hstop := q_yes (k := k) (by with_reducible assumption)
       refine' iterC (σ := Str × Tok × Obj × List Value × Nat × Int × Tok) (fun (tok, tt, io, rm, n9, ln, l9) => [(Str.ofString "token", .str tok tt), (Str.ofString "self", .ref lx), (Str.ofString "fiter", .ref it9)])
        (fun (tok, tt, io, rm, n9, ln, l9) => (it9, io) :: (q9, methodObj (.ref 67) (.ref lx)) :: LX w cel sgl sd st c' f ld lx pb1 pb2 k1 k2 k3 k4 wt j1 j2 j3 j4 j5 jt jw jno (kla_obj fname fqual fparams fbody fscope fclos fpm c' fct) oc oc' ln l9 rm n9 ((pb2, W.listOf #[] 0) :: rest))
        (fun (tok, tt, io, rm, n9, ln, l9) => InP (Live q9) isQ ks lno tok io rm ln) (fun (tok, tt, io, rm, n9, ln, l9) => rm.length) (_, _, _, _, _, _, _) (by exact lF') (by exact cb_drop lN' (by dsimp only; k_extra "Sub")) (by kst_all) (by exact in_q ⟨_, rfl⟩ (w_no (by with_reducible assumption)) hstop hct hus hjt hjc hjl) ?_)
    | (have hstop := q_no (k := k) (by with_reducible assumption)
       refine' iterC (σ := Str × Tok × Obj × List Value × Nat × Int × Tok) (fun (tok, tt, io, rm, n9, ln, l9) => [(Str.ofString "token", .str tok tt), (Str.ofString "self", .ref lx), (Str.ofString "fiter", .ref it9)])
        (fun (tok, tt, io, rm, n9, ln, l9) => (it9, io) :: (q9, methodObj (.ref 67) (.ref lx)) :: LX w cel sgl sd st c' f ld lx pb1 pb2 k1 k2 k3 k4 wt j1 j2 j3 j4 j5 jt jw jno (kla_obj fname fqual fparams fbody fscope fclos fpm c' fct) oc oc' ln l9 rm n9 ((pb2, W.listOf #[] 0) :: rest))
        (fun (tok, tt, io, rm, n9, ln, l9) => InP (Live q9) isW ks lno tok io rm ln) (fun (tok, tt, io, rm, n9, ln, l9) => rm.length) (_, _, _, _, _, _, _) (by exact lF') (by exact cb_drop lN' (by dsimp only; k_extra "Sub")) (by kst_all) (by first | exact in_w ⟨_, rfl⟩ (w_no (by with_reducible assumption)) hstop (s_no (by with_reducible assumption)) hct hus hjt hjc hjl | exact in_w92 ⟨_, rfl⟩ (w_no (by with_reducible assumption)) hstop (s_yes (by with_reducible assumption)) hct hus2 hy2 hjt hjc hjl) ?_)
    clear lF' lN'
    rintro ⟨tok2, tt2, io2, rm2, n2, ln2, l2⟩ u2 hh2 tk2 iv lF lN
    dsimp only [kstB] at lF iv lN ⊢
    revert lF lN
    repeat (rename News _ _ _ _ => oldN; clear oldN)
    repeat (rename Fr _ _ _ _ => oldF; clear oldF)
    intro lF lN
    obtain ⟨⟨te2, rfl⟩, js2, hjs2, i1, i2, i3, i4⟩ := iv
    have hrm := hjs.len
    refine' lexNext (by decide +kernel) hjs2 (by rw [hjs2.len]; omega) hord9 hrA hrB hrC hlam (by k_asm) lF (by k_asm) lN (by k_asm) (by first | exact rfl | assumption) (by ktr_room) (by ktr_units) ?_ ?_
    all_goals first
    | (rintro rfl h' tk' nn' lt' F' N'
       dsimp only
       clear lF lN
       (try k_fold))
    | (rintro kk r2 t2 us' h' tk' nn' lt' rfl hus F' N'
       dsimp only
       clear lF lN
       (try k_fold)
       have hz2 : (⟨#[kk]⟩ : Str).length = 1 := rfl
       simp only [List.length_cons] at i4))
  k_steps
  all_goals first
    | exact tEnd (_, _, _, _, _, _, _) (by assumption) (by assumption) (by dsimp only; k_extra "Sub") (fun _ _ => trivial) (by kst_all) (by
         dsimp only
         first
         | exact ⟨in_end i1 i2 i3, by rw [hrm]; exact Nat.succ_pos _⟩
         | exact in_s92 ⟨_, rfl⟩ (by first | exact w_no (by assumption) | exact q_no (by assumption)) (s_yes (by assumption)) hus2 hy2 hjs2 i1 i2 i3 i4
         | exact in_s ⟨_, rfl⟩ (by first | exact w_no (by assumption) | exact q_no (by assumption)) (s_no (by assumption)) hus hjs2 i1 i2 i3 i4)
    | (have hst := in_stop (stop := isW) (w_yes (by assumption)) hus i1 i2 i3
       refine' hret _ _ _ _ (by k_asm) ?_ ⟨_, _, _, _, _, rfl, rfl, hst.2⟩
       rw [← hst.1]
       exact cb_drop (by assumption) (by k_extra "Sub"))
    | (have hst := in_stop (stop := isQ) (q_yes (by assumption)) hus i1 i2 i3
       refine' hret _ _ _ _ (by k_asm) ?_ ⟨_, _, _, _, _, rfl, rfl, hst.2⟩
       rw [← hst.1]
       exact cb_drop (by assumption) (by k_extra "Sub"))
end
section
open PySem PySem.W PySem.Calls PySem.Spec PyProof.Rows
/-- the code table of a def with one lambda: empty, or with the lambda's code -/
def TabG (qual : Str) (pos : Pos) (tb : Obj) (cd : Led) : Prop :=
  tb = tabObj #[] ∨ ∃ c' oc vs t, tb = tabObj #[rawInt pos.line, rawInt pos.col, .ref c'] ∧ (c', oc) ∈ cd ∧ oc.data = .fields vs ∧ vs[1]? = some (.str qual t) ∧ c' ≠ 125
section
variable {M : Model} {A : Around} {E : Value → Shared → Prop} {s : Shared} {h₀ : Heap} {L a c : Addr} {m mg mb : Str → Option Value} {cn : Str} {cs : Scope} {ccd : Value} {cl : List (Str × Addr)} {news : List (Addr × Obj)} {g : Obj → List (Addr × Obj)}
  {p : Program} {loose : List Str} {mean : ExcName → Option Value} {name qual : Str} {params : Arguments} {body : PySem.Expr} {scope : Scope} {pos : Pos} {firstLine : Nat} {clos : List (Str × Addr)}
theorem lam_any {Q : Value → Shared → Prop} {cd : Led} {tb : Obj} (F : Fr h₀ L s.heap m) (N : News h₀ L s.heap news) (T : Top p loose mean mg mb h₀) (C : CodeHd h₀ c 125) (hcd : ccd = .ref c) (U : UpdF 125 tb news g) (ht : TabG qual pos tb cd) (hsub : ∀ q ∈ cd, q ∈ news)
    (hcl : closureFor scope (envX cn cs L a ccd cl) = pure clos)
    (h : ∀ f c' oc vs t ctv h' tk, Fr h₀ L h' m →
      News h₀ L h' ((f, kla_obj name qual params body scope clos ((mg "__name__").getD .none) c' ctv) :: (c', oc) :: g (tabObj #[rawInt pos.line, rawInt pos.col, .ref c'])) →
      oc.data = .fields vs → vs[1]? = some (.str qual t) → (∀ q ∈ news, q.1 < f) → c' < f ∧ c' ≠ 125 ∧ (∀ b o, (b, o) ∈ news → (∀ q ∈ cd, q.1 < b) → c' ≠ b) ∧ ((c', oc) ∈ cd ∨ ∀ q ∈ news, q.1 < c') → Q (.ref f) { s with heap := h', toks := tk }) :
    wpAny M A (makeFunction name qual params (.expr body) scope (envX cn cs L a ccd cl) [] [] [] pos firstLine) Q E s := by
  rcases ht with rfl | ⟨c', oc, vs, t, rfl, hm, hd, hv, hne⟩
  · refine kla_nest F N T C hcd U True.intro rfl hcl ?_
    intro f c' oc vs t ctv h' tk F' N' hd hv l1 l2
    obtain ⟨own, rest, e, hgr, h1, h2⟩ := U.split
    have l125 : 125 < c' := l1 (125, tabObj #[]) (by rw [e]; exact List.mem_append_right _ (.head _))
    exact h f c' oc vs t ctv h' tk F' N' hd hv (fun q hq => Nat.lt_trans (l1 q hq) l2) ⟨l2, Nat.ne_of_gt l125, fun b o hb _ => Nat.ne_of_gt (l1 _ hb), .inr l1⟩
  · obtain ⟨own, rest, e, hgr, h1, h2⟩ := U.split
    have hP : (125, tabObj #[rawInt pos.line, rawInt pos.col, .ref c']) ∈ news := by rw [e]; exact List.mem_append_right _ (.head _)
    refine kla_hit (c' := c') F N T C hcd hP (by simp [TriplesOk, rawInt]) (by simp [codeAmong, rawInt]) hcl ?_
    intro f ctv h' tk F' N' l1
    refine h f c' oc vs t ctv h' tk F' ?_ hd hv l1 ⟨l1 _ (hsub _ hm), hne, fun b o _ hb => Nat.ne_of_lt (hb _ hm), .inl hm⟩
    rw [hgr, ← e]
    intro q hq
    rcases List.mem_cons.mp hq with rfl | hq
    · exact N' _ (.head _)
    · rcases List.mem_cons.mp hq with rfl | hq
      · exact N' _ (.tail _ (hsub _ hm))
      · exact N' _ (.tail _ hq)
end
theorem scan_len (stop : Nat → Bool) : ∀ (l : List Nat) (h : Bool), (scan stop h l).2.length ≤ l.length
  | [], _ => by simp [scan]
  | c :: r, true => by
    have := scan_len stop r false
    rw [scan]; simp only [List.length_cons]; omega
  | c :: r, false => by
    have h1 := scan_len stop r false
    have h2 := scan_len stop r true
    rw [scan]
    split
    · simp only [List.length_cons]; omega
    · split
      · simp only [List.length_cons]; omega
      · simp only [List.length_cons]; omega
theorem tokM_len : ∀ (l : List Nat), (tokM l).2.length ≤ l.length
  | [] => by simp [tokM]
  | c :: r => by
    have h1 := tokM_len r
    have h2 := scan_len isQ r false
    have h3 := scan_len isW (c :: r) false
    rw [tokM]
    split
    · simp only [List.length_cons]; omega
    · split
      · simp only [List.length_cons]; omega
      · exact h3
end
section
open PySem PySem.W PySem.Calls PySem.Spec PyProof.Rows
theorem occ_count (x : Str) (c : Nat) : ∀ (m a : Nat) (st : Array Nat × Nat), a + m = x.length + 1 → st.2 ≤ a → st.1.size ≤ a →
    (forIn (List.range' a m) st (StrLaws.occBody x ⟨#[c]⟩ x.length (x.length + 1))).run.fst.size = st.1.size + ((cp x).drop a).count c
  | 0, a, st, h, _, _ => by
    have : (cp x).drop a = [] := List.drop_eq_nil_of_le (by rw [cp_len]; omega)
    rw [this]
    show st.1.size = _
    simp
  | m + 1, a, st, h, h1, h2 => by
    rw [List.range'_succ, List.forIn_cons]
    unfold StrLaws.occBody
    by_cases hc : a + (⟨#[c]⟩ : Str).length ≤ x.length ∧ Builtin.Str.subAt x ⟨#[c]⟩ a = true
    · have hg := (StrLaws.subAt_one x c a).mp hc
      have hd : (cp x).drop a = c :: (cp x).drop (a + 1) := drop_at hg
      have c1 : (((st.fst.size < x.length + 1 ∧ st.snd ≤ a)) ∧ a + (⟨#[c]⟩ : Str).length ≤ x.length) ∧ Builtin.Str.subAt x ⟨#[c]⟩ a = true := ⟨⟨⟨by omega, h1⟩, hc.1⟩, hc.2⟩
      rw [if_pos c1, hd]
      have ih := occ_count x c m (a + 1) (st.1.push a, a + 1) (by omega) (Nat.le_refl _) (by rw [Array.size_push]; omega)
      rw [Array.size_push] at ih
      rw [List.count_cons_self]
      refine Eq.trans ih ?_
      omega
    · have c2 : ¬ ((((st.fst.size < x.length + 1 ∧ st.snd ≤ a)) ∧ a + (⟨#[c]⟩ : Str).length ≤ x.length) ∧ Builtin.Str.subAt x ⟨#[c]⟩ a = true) := fun h => hc ⟨h.1.2, h.2⟩
      rw [if_neg c2]
      have ih := occ_count x c m (a + 1) (st.1, st.2) (by omega) (by show st.2 ≤ _; omega) (by show st.1.size ≤ _; omega)
      have hg : ¬ (cp x)[a]? = some c := fun e => hc ((StrLaws.subAt_one x c a).mpr e)
      refine Eq.trans ih ?_
      show st.1.size + _ = _
      by_cases hl : a < (cp x).length
      · rw [List.drop_eq_getElem_cons hl, List.count_cons_of_ne]
        intro e
        exact hg (List.getElem?_eq_some_iff.mpr ⟨hl, e⟩)
      · rw [List.drop_eq_nil_of_le (by omega), List.drop_eq_nil_of_le (by omega)]
theorem count_cp (x : Str) (c : Nat) : Txt.count x ⟨#[c]⟩ = (((cp x).count c : Nat) : Int) := by
  show (((Builtin.Str.occurrences x ⟨#[c]⟩ 0 x.length (x.length + 1)).length : Nat) : Int) = _
  congr 1
  rw [StrLaws.occ_eq, Array.length_toList]
  have := occ_count x c (x.length + 1 - 0) 0 (#[], 0) (by omega) (Nat.le_refl _) (Nat.zero_le _)
  rw [List.drop_zero] at this
  simpa using this
theorem count_nl (x : Str) : Txt.count x (Str.ofString "\n") = cnt (cp x) := by
  have e : Str.ofString "\n" = ⟨#[10]⟩ := by decide +kernel
  rw [e, count_cp]; rfl
theorem Sgs.carried {us : List Value} {ks : List Nat} (h : Sgs us ks) : CarriedAll us ((ks.map fun k => (⟨#[k]⟩ : Str)).map PyData.str) := by
  induction ks generalizing us with
  | nil => rw [h.nil_iff]; exact .nil
  | cons k r ih =>
    obtain ⟨t, us', rfl, h'⟩ := h.inv_cons
    exact .cons (.str _ _) (ih h')
theorem cp_joined (ks : List Nat) : cp (Txt.join (Str.ofString "") (ks.map fun k => (⟨#[k]⟩ : Str))) = ks := by
  show cp (Builtin.Str.glued (Str.ofString "") _) = _
  rw [StrLaws.glued_eq_join]
  have z : Str.ofString "" = ⟨#[]⟩ := by decide +kernel
  rw [z]
  induction ks with
  | nil => rfl
  | cons k r ih =>
    cases r with
    | nil => rfl
    | cons k2 r2 =>
      have e : Str.join ⟨#[]⟩ (List.map (fun k => (⟨#[k]⟩ : Str)) (k :: k2 :: r2)) = ⟨#[k]⟩ ++ ⟨#[]⟩ ++ Str.join ⟨#[]⟩ (List.map (fun k => (⟨#[k]⟩ : Str)) (k2 :: r2)) := rfl
      rw [e, cp_append, ih, cp_append]
      rfl
section
variable {prog : Program} {w : World} {A : Around} {E : Value → Shared → Prop} {s : Shared} {h₀ : Heap} {L : Addr} {news : Led} {Q : Value → Shared → Prop}
theorem join_sgs {D : Addr} {us : List Value} {ks : List Nat} {n : Nat} {t : Tok} (N : News h₀ L s.heap news) (hl : (D, W.listOf us.toArray n) ∈ news) (hs : Sgs us ks) (hn : ks.length ≤ 3000)
    (h : ∀ y t' k, cp y = ks → Q (.str y t') { s with toks := k }) : wpAny (model prog w) A (call (.builtin "str.join") [.str (Str.ofString "") t, .ref D]) Q E s :=
  join_madeW (α := Nat) (items := us.toArray) (l := ks) (g := fun k => (⟨#[k]⟩ : Str)) 1 ⟨_, (N _ hl).1, rfl, n, rfl⟩ hs.carried (fun a _ => by show (1 : Nat) ≤ 1; omega) (by omega) (by decide) fun t' k => h _ t' k (cp_joined ks)
end
end
section
open PySem PySem.W PySem.Calls PySem.Spec PyProof.Rows
local macro_rules | `(tactic| walk_at "eval Lambda") => `(tactic| (k_here; kn_here; k_dflt (k_extra "MyLam")))
local macro_rules | `(tactic| walk_at "MY enterL") => `(tactic| (refine wpAny_call ?_; k_dflt (refine' kla_code ?k1 ?k2 ?k3 ?k4 ?k5 ?kA ?kF ?kK ?k6 ?k7 ?k8 ?k9 ?kB ?_ ?c2 ?c3 ?c4 ?c5; (case kA => exact rfl); (case kF => exact rfl); (case kK => assumption); (case k1 => k_asm); (case k2 => k_asm); (case k3 => k_asm); (case k4 => k_asm); (case k5 => k_asm); (case k6 => k_mem); (case k7 => exact codeRec_news (by k_asm) (by k_mem) (by assumption) (by assumption)); (case k8 => k_room); (case k9 => exact rfl); (case c5 => decide); (case kB => exact locs rfl); (case c2 => exact rfl); (case c3 => exact rfl); (case c4 => exact rfl); k_whole; intro g' L' h' FG' F' N' B' X' T'; (try dsimp only); (try k_lift B'); (try k_fold))))
theorem truth_led {prog : Program} {w : World} {A : Around} {E : Value → Shared → Prop} {s : Shared} {h₀ : Heap} {L : Addr} {news : Led} {l : Addr} {us : List Value} {n : Nat} {Q : Bool → Shared → Prop} (N : News h₀ L s.heap news) (hm : (l, W.listOf us.toArray n) ∈ news) (hz : us.length ≤ 4000)
    (h : Q (decide (us ≠ [])) { s with toks := s.toks + 1 + 1 }) : wpAny (model prog w) A (truthy (.ref l)) Q E s := by
  refine wpAny_truthy_list ⟨_, (N _ hm).1, rfl, n, rfl⟩ (by rw [List.size_toArray]; omega) ?_
  have e : (!(us.toArray).isEmpty) = decide (us ≠ []) := by cases us <;> simp
  rw [e]
  exact h
theorem pop_first {prog : Program} {w : World} {A : Around} {E : Value → Shared → Prop} {s : Shared} {h₀ : Heap} {L D : Addr} {m : Str → Option Value} {news news' : Led} {n : Nat} {v : Value} {vs : List Value} {u : Tok} {Q : Value → Shared → Prop} (F : Fr h₀ L s.heap m) (N : News h₀ L s.heap news)
    (U : Upd D (W.listOf (v :: vs).toArray n) (W.listOf vs.toArray (n + 1)) news news') (hz : (v :: vs).length ≤ 4000) (h : ∀ h', Fr h₀ L h' m → News h₀ L h' news' → Q v { s with heap := h' }) :
    wpAny (model prog w) A (call (.builtin "list.pop") [.ref D, .int 0 u]) Q E s :=
  kl_popAt (k := 0) (p := []) (q := vs) F N rfl (by show seqIndex? 0 (v :: vs).length = some 0; simp [seqIndex?]) rfl U (by rw [PySem.sizeLine_eq]; show (v :: vs).length ≤ _; omega) h
local macro_rules | `(tactic| k_all) => `(tactic| with_reducible assumption)
theorem allLt_up {a b : Nat} {l : Led} (h : a < b ∧ AllLt b l) : a < b + 1 ∧ AllLt (b + 1) l := ⟨Nat.lt_succ_of_lt h.1, allLt_of fun p hp => Nat.lt_succ_of_lt (kst_ltOf h.2 p hp)⟩
def LamQ : Str := Str.ofString "_law_read.<locals>.<lambda>"
theorem read_does (w : World) (p : Program) (loose : List Str) (mean : ExcName → Option Value) (mg mb : Str → Option Value) (news cdl : Led) (tb : Obj) (x : Str) (t : Tok) (hx : x.length ≤ 3000) (hcdl : ∀ q ∈ cdl, q ∈ news) (h125 : ∀ p ∈ news, p.1 ≠ 125) (htab : TabG LamQ { line := 133, col := 18, endLine := 133, endCol := 75 } tb cdl) :
   Does w p loose mean mg mb 10 64 130 ((125, tb) :: news) [.str x t] (fun r news' => ∃ (a ag c' : Nat) (oc : Obj) (y : Str) (t1 t2 t3 t4 t5 : Tok) (yr : Str), r = .ref a ∧
     news' = (a, W.listOf #[.str y t1, .ref ag, .int (1 + cnt (cp x) - cnt (tokM (cp x)).2) t2, .str yr t3] 0) :: (ag, W.listOf #[.str (Str.ofString "") t4, .str y t5] 0) :: (125, tabObj #[rawInt ((133 : Nat) : Int), rawInt ((18 : Nat) : Int), .ref c']) :: (c', oc) :: news ∧
     cp y = (tokM (cp x)).1 ∧ cp yr = (tokM (cp x)).2 ∧ TabG LamQ { line := 133, col := 18, endLine := 133, endCol := 75 } (tabObj #[rawInt ((133 : Nat) : Int), rawInt ((18 : Nat) : Int), .ref c']) [(c', oc)] ∧ c' ≠ 125 ∧ ag < a ∧ c' < ag ∧ 125 < ag ∧ (∀ q ∈ news, q.1 < ag) ∧ ((c', oc) ∈ cdl ∨ ∀ q ∈ news, q.1 < c')) := by
  k_with_none
  k_with "TPost" => (dsimp only [TPost])
  k_with "exec While Compare cons nil" => (k_extra "MyWhile")
  k_with "exec For Name Name cons nil" => (walk_at "MY for")
  k_with "exec For Name Call cons nil" => (walk_at "MY for")
  k_with "exec For Name List cons nil" => (walk_at "MY for")
  k_with "pyIter str" => (k_extra "MyIter")
  k_with "pyIter ref" => (k_extra "MyIter")
  k_with "call ref" => (k_extra "MyCall")
  k_with "call builtin:list.append" => (k_extra "MyAppend")
  k_with "callWith ref" => (k_here; first | (refine' callWith_K (by k_asm) (by k_is) ?_; k_whole) | (refine' callWith_K0 (by (first | (with_reducible assumption) | exact Frag.In.keeps (by with_reducible assumption) (Fr.keep (by with_reducible assumption)) | k_in)) (by k_is) ?_; k_whole) | ((refine' callWith_M0 (by k_meth) (by k_is) ?_; k_whole); try dsimp only [List.nil_append, List.cons_append]) | (refine' callWith_M (by k_asm) (by k_asm) (by k_mem) (by k_is) ?_; k_whole))
  k_with "call type:list" => (k_extra "MyList")
  k_with "subscriptTail Name Slice ref ref" => (k_extra "MyRev")
  k_with "truthy ref" => (k_extra "MyTruth")
  k_with "call builtin:list.pop" => (k_extra "MyPop")
  k_with "call builtin:str.join" => (k_extra "MyJoin")
  w_top off
  unfold Does
  k_fill
  intros dp un gd cn cs a ccd cl outer A₀ base h₀ L m s Q E iB iF iX iN iT ik id iu hret
  have codeHd : CodeHd h₀ 129 125 := codeHd_of_K (c := 129) (P := 125) iX (by kernel_rfl)
  k_with_none
  k_with "TPost" => (dsimp only [TPost])
  k_with "exec While Compare cons nil" => (k_extra "MyWhile")
  k_with "exec For Name Name cons nil" => (walk_at "MY for")
  k_with "exec For Name Call cons nil" => (walk_at "MY for")
  k_with "exec For Name List cons nil" => (walk_at "MY for")
  k_with "pyIter str" => (k_extra "MyIter")
  k_with "pyIter ref" => (k_extra "MyIter")
  k_with "call ref" => (k_extra "MyCall")
  k_with "call builtin:list.append" => (k_extra "MyAppend")
  k_with "callWith ref" => (k_here; first | (refine' callWith_K (by k_asm) (by k_is) ?_; k_whole) | (refine' callWith_K0 (by (first | (with_reducible assumption) | exact Frag.In.keeps (by with_reducible assumption) (Fr.keep (by with_reducible assumption)) | k_in)) (by k_is) ?_; k_whole) | ((refine' callWith_M0 (by k_meth) (by k_is) ?_; k_whole); try dsimp only [List.nil_append, List.cons_append]) | (refine' callWith_M (by k_asm) (by k_asm) (by k_mem) (by k_is) ?_; k_whole))
  k_with "call type:list" => (k_extra "MyList")
  k_with "subscriptTail Name Slice ref ref" => (k_extra "MyRev")
  k_with "truthy ref" => (k_extra "MyTruth")
  k_with "call builtin:list.pop" => (k_extra "MyPop")
  k_with "call builtin:str.join" => (k_extra "MyJoin")
  k_with "Sz" => (first | (rw [List.size_toArray, Sgs.len (by assumption), cp_len]; show _ ≤ sizeLine; unfold sizeLine; omega) | (rw [List.size_toArray, List.length_reverse, Sgs.len (by assumption)]; show _ ≤ sizeLine; unfold sizeLine; omega))
  k_with "Sub" => ((repeat (refine List.forall_mem_cons.mpr (And.intro ?_ ?_); k_mem)); (intro p hp; (repeat (first | exact hp | apply List.mem_cons_of_mem)); done))
  k_with "MyList" => (
    first
    | (    refine' list_text ?lh ?lF ?lN ?lz ?_; (case lh => exact rfl); (case lF => k_asm); (case lN => k_asm); (case lz => (show _ ≤ sizeLine; unfold sizeLine; omega)); intro lD lvs ln lh' ltk lF' lN' lt1 lsg; (try k_lt lt1); (try dsimp only); (try k_fold)))
  k_with "MyRev" => (
    first
    | (    refine' slice_rev (by k_asm) (by k_asm) (by k_mem) (IsPart.int _ _) (by k_extra "Sz") ?_ (by with_unfolding_all rfl) (by kmk_pure); intro lD' lh' lF' lN' lt1; (try k_lt lt1); (try dsimp only); (try k_fold)))
  k_with "MyLam" => (
    first
    | (    refine' kla_eval (by exact rfl) ?_
           refine' lam_any (by k_asm) (by k_asm) (by k_asm) codeHd2 rfl (by k_updF) htab (by intro q hq; (repeat (first | exact hcdl q hq | apply List.mem_cons_of_mem))) rfl ?_
           intro f9 c9 oc9 vs9 t9 ct9 h9' tk9' F9' N9' d91 d92 l91 l92
           (try dsimp only at N9')
           have hD : ∀ q ∈ news, q.1 < lD' := fun q hq => kst_ltOf lt1.2.2.2 q hq
           have hDc : ∀ q ∈ cdl, q.1 < lD' := fun q hq => hD q (hcdl q hq)
           have l93 := neN (a := c9) <| l92.2.2.1 lD' _ (by k_mem) hDc
           have n1 := neN (a := c9) <| l92.2.2.1 _ _ (.head _) (fun q hq => Nat.lt_trans (hDc q hq) (by omega))
           have n2 := neN (a := c9) <| l92.2.2.1 _ _ (.tail _ (.head _)) (fun q hq => Nat.lt_trans (hDc q hq) (by omega))
           have n3 := neN (a := c9) <| l92.2.2.1 _ _ (.tail _ (.tail _ (.head _))) (fun q hq => Nat.lt_trans (hDc q hq) (by omega))
           have l96 : (c9, oc9) ∈ cdl ∨ ∀ q ∈ news, q.1 < c9 := l92.2.2.2.imp (fun h => h) (fun h q hq => h q (by (repeat (first | exact hq | apply List.mem_cons_of_mem))))
           have l94 := neN (a := c9) (b := 125) l92.2.1
           have l95 := ltN (a := c9) (b := f9) l92.1
           (try k_lt l91)
           clear l92))
  k_with "MyTruth" => (refine' truth_led (by k_asm) (by k_mem) (by simp only [List.length_append, List.length_reverse, List.length_cons, List.length_nil]; omega) ?_; (try simp only [ne_eq, List.append_eq_nil_iff, List.cons_ne_nil, and_false, not_false_eq_true, not_true_eq_false, decide_true, decide_false, List.reverse_nil]))
  k_with "MyPop" => (
    first
    | ((with_reducible show wpAny _ _ (call (Value.builtin _) [Value.ref _, Value.int _ _]) _ _ _)
       refine' pop_first (by k_asm) (by k_asm) (by k_upd) (by decide) ?_; intro h9 F9 N9; (try dsimp only); (try k_fold))
    | ((with_reducible show wpAny _ _ (call (Value.builtin _) [Value.ref _]) _ _ _)
       refine' kl_pop (by k_asm) (by k_asm) (kpa_last _ _) (by k_upd) (by rw [PySem.sizeLine_eq]; simp only [List.length_append, List.length_reverse, List.length_cons, List.length_nil]; omega) ?_; intro h9 F9 N9; (try dsimp only); (try k_fold)))
  k_with "MyJoin" => (
    first
    | (    refine' join_sgs (by k_asm) (by k_mem) (by rw [List.reverse_reverse]; exact hus1) (by omega) ?_; intro yr tr kr hyr; (try dsimp only); (try k_fold)))
  k_with "MyCall" => (
    first
    | (clear first9
       show wpAny _ _ (call (Value.ref 74) _) _ _ _
       (    refine' does_use (get_does w p loose mean mg mb (L9 + 1) lD' _ _ _ _ _ _ _ _ _ _ _ _ _ _ _ _ _ _ _ _ _ _ _ _ lvs (cp x) ((125, _) :: news) _ _ _ _ _ _ _ _ _ _ lsg ?gks ?gord ?g1 ?g2 ?glam) (by k_asm) (by k_asm) (by k_asm) ?gN (by k_asm) (by first | exact rfl | assumption) (by ktr_room) (by ktr_units) ?gpost
            case gN => exact cb_drop (by assumption) (by k_extra "Sub")
            case gks => (rw [cp_len]; omega)
            case gord => omega
            case g1 => k_all
            case g2 => k_all
            case' gpost =>
              rintro r9 news9 h9 tk9 F9 N9 ⟨us1, nn1, lt9, y1, t1, rfl, rfl, hus1, hy1⟩
              have hul := hus1.len
              have hjl := tokM_len (cp x)
              rw [cp_len] at hjl
              (try dsimp only)
              (try k_fold)
              revert F9 N9
              repeat (rename News _ _ _ _ => oldN; clear oldN)
              intro F9 N9))
    | fail "no")
  walk_at "MY enterC"
  rename_i g9 L9 h9 tk9 FG9 F9 B9 X9 T9 l19 o9 d19 N9
  have l9 := allLt_up l19
  have codeHd2 := codeHd.keeps FG9.keep
  have kM := kstMark
  have first9 : True := trivial
  k_steps
  case' glam =>
    intro rem9 n9 tt9 rest9 hrl9 hr9
    unfold Does
    k_fill
    clear hret
    repeat (rename News _ _ _ _ => oldN; clear oldN)
    intros dp2 un2 gd2 cn2 cs2 a2 ccd2 cl2 outer2 A₂ base2 h₂ L2 m2 s2 Q2 E2 jB jF jX jN jT jk jd ju hret
    dsimp only [List.cons_append, List.nil_append] at jN
    rcases rem9 with _ | ⟨v9, us9⟩
  all_goals (try simp only [List.reverse_cons] at jN)
  all_goals (try simp only [List.length_cons] at hrl9)
  all_goals (try walk_at "MY enterL")
  k_steps
  all_goals first
    | exact hret _ _ _ _ (by k_asm) (cb_drop (by assumption) (by dsimp only [List.cons_append, List.nil_append]; k_extra "Sub")) ⟨_, [], rfl, .inl ⟨rfl, rfl, _, _, rfl, by decide +kernel⟩⟩
    | exact hret _ _ _ _ (by k_asm) (cb_drop (by assumption) (by dsimp only [List.cons_append, List.nil_append]; k_extra "Sub")) ⟨_, us9, rfl, .inr rfl⟩
    | skip
  k_steps
  all_goals first
    | (    exact hret _ _ _ _ (by k_asm) (cb_drop (by assumption) (by k_extra "Sub")) ⟨_, _, _, _, _, _, _, _, _, _, _, rfl, rfl, hy1, hyr, .inr ⟨_, _, _, _, rfl, .head _, d91, d92, l94⟩, l94, by omega, by omega, by omega, fun q hq => Nat.lt_trans (hD q hq) (by omega), l96⟩)
end
section
open PySem PySem.W PySem.Calls PySem.Spec PyProof.Rows
structure LInv (x : Str) (e p g : Nat) (i : Nat) (out so : Str) (pe sn qn : Int) : Prop where
  s0 : 0 ≤ sn
  q0 : 0 ≤ qn
  e0 : 0 ≤ pe
  len : out.length ≤ i
  go : leftGo e p g ((cp x).drop i) i sn.toNat qn.toNat (cp out) (pe.toNat, cp so) = left e p g (cp x)
theorem linv0 (x : Str) (e p g : Nat) : LInv x e p g 0 (Str.ofString "") (Str.ofString "") 0 0 0 := ⟨by omega, by omega, by omega, by decide, by rw [cp_nil]; rfl⟩
theorem fmod_nat {a : Int} {n : Nat} (h : 0 ≤ a) : Int.fmod a (n : Int) = ((a.toNat % n : Nat) : Int) := by
  obtain ⟨k, rfl⟩ := Int.eq_ofNat_of_zero_le h
  rw [Int.fmod_eq_emod_of_nonneg _ (Int.natCast_nonneg n), Int.toNat_natCast, Int.natCast_emod]
theorem fmod_z {a : Int} {n : Nat} (h : 0 ≤ a) : Int.fmod a (n : Int) = 0 ↔ a.toNat % n = 0 := by rw [fmod_nat h]; omega
section
variable {x out so out' so' : Str} {e pk gp i : Nat} {pe pe' sn qn q0 : Int}
theorem linv_s (iv : LInv x e pk gp i out so pe sn qn) (hi : i < x.length) (hc : (Txt.item x i == Str.ofString "\\") = true) (ho : ((sn + 1).fmod e = 0 ∧ out' = out ++ Txt.item x i) ∨ ((sn + 1).fmod e ≠ 0 ∧ out' = out)) :
    LInv x e pk gp (i + 1) out' so pe (sn + 1) qn := by
  obtain ⟨v1, v2, v3, v4, v5⟩ := iv
  obtain ⟨c, h1, h2⟩ := cp_item (x := x) (i := (i : Int)) (by omega) (by omega)
  rw [one_is h1 cp_slash] at hc
  simp only [decide_eq_true_eq] at hc
  subst hc
  have e1 : (sn + 1).toNat = sn.toNat + 1 := by omega
  rw [Int.toNat_natCast] at h2
  have hl : (Txt.item x i).length = 1 := by rw [← cp_len, h1]; rfl
  refine ⟨by omega, v2, v3, ?_, ?_⟩
  · rcases ho with ⟨_, rfl⟩ | ⟨_, rfl⟩
    · rw [Str.length_append]; omega
    · omega
  · rw [← v5, drop_at h2, leftGo, if_pos rfl, e1]
    simp only [ne_eq, fmod_z (show 0 ≤ sn + 1 by omega), e1] at ho
    rcases ho with ⟨ha, rfl⟩ | ⟨ha, rfl⟩
    · rw [if_pos ha, cp_append, h1]
    · rw [if_neg ha]
theorem linv_o (iv : LInv x e pk gp i out so pe sn qn) (hi : i < x.length) (hc : (Txt.item x i == Str.ofString "\\") = false) (hq : (Txt.item x i != Str.ofString "\"") = true) (hm : qn.fmod pk = 0) :
    LInv x e pk gp (i + 1) (out ++ Txt.item x i) so pe 0 0 := by
  obtain ⟨v1, v2, v3, v4, v5⟩ := iv
  obtain ⟨c, h1, h2⟩ := cp_item (x := x) (i := (i : Int)) (by omega) (by omega)
  rw [one_is h1 cp_slash] at hc
  rw [one_ne h1 cp_quote] at hq
  simp only [decide_eq_false_iff_not] at hc
  simp only [decide_eq_true_eq] at hq
  rw [Int.toNat_natCast] at h2
  have hl : (Txt.item x i).length = 1 := by rw [← cp_len, h1]; rfl
  rw [fmod_z v2] at hm
  refine ⟨by omega, by omega, v3, ?_, ?_⟩
  · rw [Str.length_append]; omega
  · rw [← v5, drop_at h2, leftGo, if_neg hc, if_neg hq, if_neg (by omega), cp_append, h1]; rfl
theorem linv_q (iv : LInv x e pk gp i out so pe sn qn) (hi : i < x.length) (hq : (Txt.item x i != Str.ofString "\"") = false)
    (hb : ((gp : Int) ≤ sn ∧ qn.fmod pk = 0 ∧ q0 = 0) ∨ (¬ (gp : Int) ≤ sn ∧ q0 = qn)) (hs : (q0.fmod pk = 0 ∧ so' = out ∧ pe' = i) ∨ (q0.fmod pk ≠ 0 ∧ so' = so ∧ pe' = pe))
    (ho : ((q0 + 1).fmod pk = 0 ∧ out' = out ++ Txt.item x i) ∨ ((q0 + 1).fmod pk ≠ 0 ∧ out' = out)) : LInv x e pk gp (i + 1) out' so' pe' 0 (q0 + 1) := by
  obtain ⟨v1, v2, v3, v4, v5⟩ := iv
  obtain ⟨c, h1, h2⟩ := cp_item (x := x) (i := (i : Int)) (by omega) (by omega)
  rw [one_ne h1 cp_quote] at hq
  simp only [decide_eq_false_iff_not, Decidable.not_not] at hq
  subst hq
  rw [Int.toNat_natCast] at h2
  have hl : (Txt.item x i).length = 1 := by rw [← cp_len, h1]; rfl
  have q00 : 0 ≤ q0 := by omega
  have e1 : (q0 + 1).toNat = q0.toNat + 1 := by omega
  simp only [ne_eq, fmod_z q00] at hs
  simp only [ne_eq, fmod_z (show 0 ≤ q0 + 1 by omega), e1] at ho
  rw [fmod_z v2] at hb
  refine ⟨by omega, by omega, by omega, ?_, ?_⟩
  · rcases ho with ⟨_, rfl⟩ | ⟨_, rfl⟩
    · rw [Str.length_append]; omega
    · omega
  · have hn : ¬ (sn.toNat ≥ gp ∧ qn.toNat % pk ≠ 0) := by omega
    have hq0 : (if sn.toNat ≥ gp then 0 else qn.toNat) = q0.toNat := by
      rcases hb with ⟨a, b, c⟩ | ⟨a, b⟩
      · rw [if_pos (by omega), c]; rfl
      · rw [if_neg (by omega), b]
    rw [← v5, drop_at h2, leftGo, if_neg (by decide), if_pos rfl, if_neg hn]
    dsimp only
    rw [hq0, e1]
    have hsu : (if q0.toNat % pk = 0 then (i, cp out) else (pe.toNat, cp so)) = (pe'.toNat, cp so') := by
      rcases hs with ⟨a, rfl, rfl⟩ | ⟨a, rfl, rfl⟩
      · rw [if_pos a, Int.toNat_natCast]
      · rw [if_neg a]
    rw [hsu]
    rcases ho with ⟨ha, rfl⟩ | ⟨ha, rfl⟩
    · rw [if_pos ha, cp_append, h1]; rfl
    · rw [if_neg ha]; rfl
theorem linv_ret (iv : LInv x e pk gp i out so pe sn qn) (hi : i < x.length) (hc : (Txt.item x i == Str.ofString "\\") = false) (hm : qn.fmod pk ≠ 0)
    (hq : (Txt.item x i != Str.ofString "\"") = true ∨ ((Txt.item x i != Str.ofString "\"") = false ∧ (gp : Int) ≤ sn)) : (pe.toNat, cp so) = left e pk gp (cp x) := by
  obtain ⟨v1, v2, v3, v4, v5⟩ := iv
  obtain ⟨c, h1, h2⟩ := cp_item (x := x) (i := (i : Int)) (by omega) (by omega)
  rw [one_is h1 cp_slash] at hc
  rw [one_ne h1 cp_quote] at hq
  simp only [decide_eq_false_iff_not] at hc
  simp only [decide_eq_true_eq, decide_eq_false_iff_not, Decidable.not_not] at hq
  rw [Int.toNat_natCast] at h2
  rw [ne_eq, fmod_z v2] at hm
  rw [← v5, drop_at h2, leftGo, if_neg hc]
  rcases hq with hq | ⟨hq, hg⟩
  · rw [if_neg hq, if_pos hm]
  · rw [if_pos hq, if_pos ⟨by omega, hm⟩]
theorem linv_end1 (iv : LInv x e pk gp x.length out so pe sn qn) (hm : qn.fmod pk ≠ 0) : (pe.toNat, cp so) = left e pk gp (cp x) := by
  obtain ⟨v1, v2, v3, v4, v5⟩ := iv
  rw [ne_eq, fmod_z v2] at hm
  rw [← v5, List.drop_eq_nil_of_le (by rw [cp_len]; omega), leftGo, if_pos hm]
theorem linv_end2 (iv : LInv x e pk gp x.length out so pe sn qn) (hm : qn.fmod pk = 0) : (((x.length : Nat) : Int).toNat, cp out) = left e pk gp (cp x) := by
  obtain ⟨v1, v2, v3, v4, v5⟩ := iv
  rw [fmod_z v2] at hm
  rw [← v5, List.drop_eq_nil_of_le (by rw [cp_len]; omega), leftGo, if_neg (by omega), Int.toNat_natCast]
theorem quote_no {y : Str} (h1 : (y != Str.ofString "\"") = true) (h2 : (y == Str.ofString "\"") = true) : False := by
  have : (y != Str.ofString "\"") = !(y == Str.ofString "\"") := rfl
  rw [this, h2] at h1; cases h1
theorem quote_no2 {y : Str} (h1 : (y != Str.ofString "\"") = false) (h2 : (y == Str.ofString "\"") = false) : False := by
  have : (y != Str.ofString "\"") = !(y == Str.ofString "\"") := rfl
  rw [this, h2] at h1; cases h1
theorem zero_no {n : Nat} (h : Int.fmod 0 (n : Int) ≠ 0) : False := h (by simp)
end
theorem allLt2 {a d : Nat} {l : Led} (h : a < d ∧ AllLt d l) : ∀ p ∈ l, p.1 < d := kst_ltOf h.2
theorem allLt3 {a b d : Nat} {l : Led} (h : a < d ∧ b < d ∧ AllLt d l) : ∀ p ∈ l, p.1 < d := kst_ltOf h.2.2
theorem left_does (w : World) (p : Program) (loose : List Str) (mean : ExcName → Option Value) (mg mb : Str → Option Value) (news : Led) (x : Str) (e pk gp : Nat) (t t1 t2 t3 : Tok) (hx : x.length ≤ 1000) (he : 0 < e) (hp : 0 < pk) :
   Does w p loose mean mg mb 2 16 102 news [.str x t, .int (e : Int) t1, .int (pk : Int) t2, .int (gp : Int) t3] (fun r news' => ∃ a pe y t t', r = .ref a ∧ news' = (a, W.listOf #[.int pe t, .str y t'] 0) :: news ∧ (∀ q ∈ news, q.1 < a) ∧ 0 ≤ pe ∧ (pe.toNat, cp y) = left e pk gp (cp x)) := by
  k_with_none
  k_with "TPost" => (dsimp only [TPost])
  k_with "exec While Compare cons nil" => (k_extra "MyWhile")
  k_with "exec For Name Name cons nil" => (walk_at "MY for")
  k_with "exec For Name Call cons nil" => (walk_at "MY for")
  k_with "exec For Name List cons nil" => (walk_at "MY for")
  k_with "pyIter str" => (k_extra "MyIter")
  k_with "pyIter ref" => (k_extra "MyIter")
  k_with "call ref" => (k_extra "MyCall")
  k_with "call builtin:list.append" => (k_extra "MyAppend")
  k_with "callWith ref" => (k_here; first | (refine' callWith_K (by k_asm) (by k_is) ?_; k_whole) | (refine' callWith_K0 (by (first | (with_reducible assumption) | exact Frag.In.keeps (by with_reducible assumption) (Fr.keep (by with_reducible assumption)) | k_in)) (by k_is) ?_; k_whole) | ((refine' callWith_M0 (by k_meth) (by k_is) ?_; k_whole); try dsimp only [List.nil_append, List.cons_append]) | (refine' callWith_M (by k_asm) (by k_asm) (by k_mem) (by k_is) ?_; k_whole))
  w_top off
  unfold Does
  k_fill
  intros dp un gd cn cs a ccd cl outer A₀ base h₀ L m s Q E iB iF iX iN iT ik id iu hret
  walk_at "MY enter"
  generalize s.toks + List.length _ = tk0
  rename Fr _ _ _ (fun y => List.lookup y _) => F
  replace F := fr_map F (m' := fun y => if y = Str.ofString "gap" then some (.int (gp : Int) t3) else if y = Str.ofString "pack" then some (.int (pk : Int) t2) else if y = Str.ofString "each" then some (.int (e : Int) t1) else if y = Str.ofString "text" then some (.str x t) else none) (fun y => look4 _ _ _ _ _ _ _ _ y)
  k_with "MyIter" => (
    rename Fr _ _ _ _ => lF'
    rename News _ _ _ _ => lN'
    rename IsRange _ _ _ _ _ _ _ _ => rgX
    refine' iterT_range (σ := Str × Str × Int × Int × Int × Addr × Tok × Tok × Tok × Tok × Tok) (n := x.length) (fun (out, so, pe, sn, qn, sa, u1, u2, u3, u4, u5) => [(Str.ofString "text", .str x t), (Str.ofString "each", .int (e : Int) t1), (Str.ofString "pack", .int (pk : Int) t2), (Str.ofString "gap", .int (gp : Int) t3), (Str.ofString "out", .str out u1), (Str.ofString "sure", .ref sa), (Str.ofString "slashes", .int sn u2), (Str.ofString "quotes", .int qn u3)]) (fun (out, so, pe, sn, qn, sa, u1, u2, u3, u4, u5) => (sa, W.listOf #[.int pe u4, .str so u5] 0) :: news) (fun i (out, so, pe, sn, qn, sa, u1, u2, u3, u4, u5) => LInv x e pk gp i out so pe sn qn ∧ ∀ q ∈ news, q.1 < sa) (Str.ofString "", Str.ofString "", 0, 0, 0, _, _, _, _, _, _) (by rfl) rgX ?kr ?ks lF' lN' ?ka ?kb ?kc ?kd
    case ka => kst_all
    case kb => exact ⟨linv0 _ _ _ _, by assumption⟩
    case kr => exact small_one (by omega) (by omega) (by omega) (by omega)
    case ks => exact rangeSize_nat _ _
    all_goals clear lF' lN'
    case' kc =>
      rintro i tt I ⟨out, so, pe, sn, qn, sa, u1, u2, u3, u4, u5⟩ u oI h tk hil ⟨iv, iv6⟩ hoff lF lN
      dsimp only [kstB] at lF iv iv6 lN hoff ⊢
      k_fold
      have hlen := iv.len
      have hsn := iv.s0
      have hqn := iv.q0
    case' kd =>
      rintro ⟨out, so, pe, sn, qn, sa, u1, u2, u3, u4, u5⟩ u h tk ⟨iv, iv6⟩ lF lN
      dsimp only [kstB] at lF iv iv6 lN ⊢)
  k_steps
  all_goals first
    | (exfalso; first | exact quote_no (by assumption) (by assumption) | exact quote_no2 (by assumption) (by assumption) | exact zero_no (by assumption))
    | exact hret _ _ _ _ (by k_asm) (cb_drop (by assumption) (fun p hp => by first | exact hp | exact List.mem_cons_of_mem _ hp)) ⟨_, _, _, _, _, rfl, rfl, iv6, iv.e0, linv_ret iv (by assumption) (by assumption) (by assumption) (.inl (by assumption))⟩
    | exact hret _ _ _ _ (by k_asm) (cb_drop (by assumption) (fun p hp => by first | exact hp | exact List.mem_cons_of_mem _ hp)) ⟨_, _, _, _, _, rfl, rfl, iv6, iv.e0, linv_ret iv (by assumption) (by assumption) (by assumption) (.inr ⟨by assumption, by assumption⟩)⟩
    | exact hret _ _ _ _ (by k_asm) (by assumption) ⟨_, _, _, _, _, rfl, rfl, iv6, iv.e0, linv_end1 iv (by assumption)⟩
    | exact hret _ _ _ _ (by k_asm) (cb_drop (by assumption) (fun p hp => by first | exact hp | (rcases List.mem_cons.mp hp with rfl | hp; exact List.Mem.head _; exact List.mem_cons_of_mem _ (List.mem_cons_of_mem _ hp)))) ⟨_, _, _, _, _, rfl, rfl, allLt2 (by assumption), by omega, linv_end2 iv (by assumption)⟩
    | (refine' tEnd (_, _, _, _, _, _, _, _, _, _, _) (by assumption) (by assumption) ?es ?eo ?ek ?ep
       case ek => kst_all
       case es => (refine List.forall_mem_cons.mpr ⟨?_, List.forall_mem_cons.mpr ⟨?_, ?_⟩⟩; k_memK; k_memK; exact fun p hp => by first | exact List.mem_cons_of_mem _ (List.mem_cons_of_mem _ hp) | exact List.mem_cons_of_mem _ (List.mem_cons_of_mem _ (List.mem_cons_of_mem _ hp)))
       case eo => first | exact hoff | exact List.forall_mem_cons.mpr ⟨by k_ne, fun p hp => hoff p (List.mem_cons_of_mem _ hp)⟩
       case ep => (
         refine ⟨?_, ?_⟩
         · (try dsimp only); first
           | exact linv_s iv (by assumption) (by assumption) (.inl ⟨by assumption, rfl⟩)
           | exact linv_s iv (by assumption) (by assumption) (.inr ⟨by assumption, rfl⟩)
           | exact linv_o iv (by assumption) (by assumption) (by assumption) (by assumption)
           | exact linv_q iv (by assumption) (by assumption) (by first | exact .inl ⟨by assumption, by assumption, rfl⟩ | exact .inr ⟨by assumption, rfl⟩) (by first | exact .inl ⟨by assumption, rfl, rfl⟩ | exact .inl ⟨by simp, rfl, rfl⟩ | exact .inr ⟨by assumption, rfl, rfl⟩) (by first | exact .inl ⟨by assumption, rfl⟩ | exact .inr ⟨by assumption, rfl⟩)
         · first | exact iv6 | exact allLt3 (by assumption)))
end
section
open PySem PySem.W PySem.Calls PySem.Spec PyProof.Rows
theorem left_doesI (w : World) (p : Program) (loose : List Str) (mean : ExcName → Option Value) (mg mb : Str → Option Value) (news : Led) (x : Str) (e pk gp : Int) (t t1 t2 t3 : Tok) (hx : x.length ≤ 1000) (he : 0 < e) (hp : 0 < pk) (hg : 0 ≤ gp) :
   Does w p loose mean mg mb 2 16 102 news [.str x t, .int e t1, .int pk t2, .int gp t3] (fun r news' => ∃ a pe y t t', r = .ref a ∧ news' = (a, W.listOf #[.int pe t, .str y t'] 0) :: news ∧ (∀ q ∈ news, q.1 < a) ∧ 0 ≤ pe ∧ (pe.toNat, cp y) = left e.toNat pk.toNat gp.toNat (cp x)) := by
  obtain ⟨e, rfl⟩ := Int.eq_ofNat_of_zero_le (Int.le_of_lt he)
  obtain ⟨pk, rfl⟩ := Int.eq_ofNat_of_zero_le (Int.le_of_lt hp)
  obtain ⟨gp, rfl⟩ := Int.eq_ofNat_of_zero_le hg
  exact left_does w p loose mean mg mb news x e pk gp t t1 t2 t3 hx (by omega) (by omega)
def DeedsAre (dvs : List Value) (ds : List Nat) : Prop := dvs.length = ds.length ∧ ∀ (i : Nat) (v : Value), dvs[i]? = some v → ∃ (d : Nat) (tk : Tok), v = .int (d : Int) tk ∧ ds[i]? = some d
theorem pow_le16 {i : Nat} (h : i < 5) : (2 : Int) ^ i ≤ 16 := by
  have : i = 0 ∨ i = 1 ∨ i = 2 ∨ i = 3 ∨ i = 4 := by omega
  rcases this with rfl | rfl | rfl | rfl | rfl <;> decide
structure DInv (x : Str) (ds : List Nat) (i : Nat) (y : Str) (wd nm gp : Int) (us : List Value) (ws : List Str) : Prop where
  w0 : 0 < wd
  n0 : 0 < nm
  g0 : 0 ≤ gp
  w1 : wd ≤ 2 ^ i
  n1 : nm ≤ 2 ^ i
  len : y.length ≤ x.length
  are : StrsAre us ws
  num : ws.length = i
  go : ws.map cp ++ dueGo (cp y) (ds.drop i) wd.toNat nm.toNat gp.toNat = due (cp x) ds
theorem dinv0 (x : Str) (ds : List Nat) : DInv x ds 0 x 1 1 1 [] [] := ⟨by omega, by omega, by omega, by omega, by omega, by omega, .nil, rfl, rfl⟩
theorem dinv_step {x y ly : Str} {ds : List Nat} {i d : Nat} {wd nm gp wd' nm' gp' pe : Int} {us : List Value} {ws : List Str} {lt' : Tok} (iv : DInv x ds i y wd nm gp us ws) (hd : ds[i]? = some d)
    (hc : (d : Int) = 0 ∧ wd' = 2 * wd ∧ nm' = nm ∧ gp' = gp ∨ (d : Int) ≠ 0 ∧ wd' = wd ∧ nm' = 2 * nm ∧ gp' = wd) (h0 : 0 ≤ pe) (hl : (pe.toNat, cp ly) = left wd'.toNat nm'.toNat gp'.toNat (cp y)) :
    DInv x ds (i + 1) (Txt.slice y none (some pe)) wd' nm' gp' (us ++ [.str ly lt']) (ws ++ [ly]) := by
  obtain ⟨v1, v2, v3, v4, v5, v6, v7, v9, v8⟩ := iv
  have hle : pe.toNat ≤ (cp y).length := by
    have h1 : (left wd'.toNat nm'.toNat gp'.toNat (cp y)).1 ≤ 0 + (cp y).length := left_le _ (by simp)
    rw [← hl] at h1
    simpa using h1
  rw [cp_len] at hle
  have hcs := cp_slice_to (x := y) (j := pe) h0 (by omega)
  have hp : (2 : Int) ^ (i + 1) = 2 ^ i * 2 := Int.pow_succ 2 i
  refine ⟨by omega, by omega, by omega, by omega, by omega, ?_, KStt.strs_snoc v7, by simp [v9], ?_⟩
  · rw [← cp_len, hcs, List.length_take]; omega
  · rw [← v8, drop_at hd, hcs, List.map_append]
    show (ws.map cp ++ [cp ly]) ++ _ = _
    rw [List.append_assoc]
    congr 1
    rw [dueGo]
    rcases hc with ⟨a, rfl, rfl, rfl⟩ | ⟨a, rfl, rfl, rfl⟩
    · have hd0 : d = 0 := by omega
      have e1 : (2 * wd).toNat = 2 * wd.toNat := by omega
      simp only [if_pos hd0]
      rw [e1] at hl ⊢
      rw [← hl]; rfl
    · have hd0 : ¬ d = 0 := by omega
      have e1 : (2 * nm).toNat = 2 * nm.toNat := by omega
      simp only [if_neg hd0]
      rw [e1] at hl ⊢
      rw [← hl]; rfl
theorem dinv_end {x y : Str} {ds : List Nat} {wd nm gp : Int} {us : List Value} {ws : List Str} {dvs : List Value} (hda : DeedsAre dvs ds) (iv : DInv x ds dvs.length y wd nm gp us ws) : ws.map cp = due (cp x) ds := by
  have h := iv.go
  rw [hda.1, List.drop_length] at h
  simpa [dueGo] using h
theorem due_does (w : World) (p : Program) (loose : List Str) (mean : ExcName → Option Value) (mg mb : Str → Option Value) (news : Led) (x : Str) (ds : List Nat) (dl : Addr) (dvs : List Value) (dn : Nat) (t : Tok) (hx : x.length ≤ 1000) (hds : ds.length ≤ 5) (hdm : (dl, W.listOf dvs.toArray dn) ∈ news) (hda : DeedsAre dvs ds) :
   Does w p loose mean mg mb 4 32 109 news [.str x t, .ref dl] (fun r news' => ∃ a us ws n, r = .ref a ∧ news' = (a, W.listOf us.toArray n) :: news ∧ (∀ q ∈ news, q.1 < a) ∧ StrsAre us ws ∧ ws.map cp = due (cp x) ds) := by
  k_with_none
  k_with "TPost" => (dsimp only [TPost])
  k_with "exec While Compare cons nil" => (k_extra "MyWhile")
  k_with "exec For Name Name cons nil" => (walk_at "MY for")
  k_with "exec For Name Call cons nil" => (walk_at "MY for")
  k_with "exec For Name List cons nil" => (walk_at "MY for")
  k_with "pyIter str" => (k_extra "MyIter")
  k_with "pyIter ref" => (k_extra "MyIter")
  k_with "call ref" => (k_extra "MyCall")
  k_with "call builtin:list.append" => (k_extra "MyAppend")
  k_with "callWith ref" => (k_here; first | (refine' callWith_K (by k_asm) (by k_is) ?_; k_whole) | (refine' callWith_K0 (by (first | (with_reducible assumption) | exact Frag.In.keeps (by with_reducible assumption) (Fr.keep (by with_reducible assumption)) | k_in)) (by k_is) ?_; k_whole) | ((refine' callWith_M0 (by k_meth) (by k_is) ?_; k_whole); try dsimp only [List.nil_append, List.cons_append]) | (refine' callWith_M (by k_asm) (by k_asm) (by k_mem) (by k_is) ?_; k_whole))
  w_top off
  unfold Does
  k_fill
  intros dp un gd cn cs a ccd cl outer A₀ base h₀ L m s Q E iB iF iX iN iT ik id iu hret
  walk_at "MY enter"
  generalize s.toks + List.length _ = tk0
  rename Fr _ _ _ (fun y => List.lookup y _) => F
  replace F := fr_map F (m' := fun y => if y = Str.ofString "deeds" then some (.ref dl) else if y = Str.ofString "text" then some (.str x t) else none) (fun y => look2 _ _ _ _ y)
  k_with_none
  k_with "TPost" => (dsimp only [TPost])
  k_with "exec While Compare cons nil" => (k_extra "MyWhile")
  k_with "exec For Name Name cons nil" => (walk_at "MY for")
  k_with "exec For Name Call cons nil" => (walk_at "MY for")
  k_with "exec For Name List cons nil" => (walk_at "MY for")
  k_with "pyIter str" => (k_extra "MyIter")
  k_with "pyIter ref" => (k_extra "MyIter")
  k_with "call ref" => (k_extra "MyCall")
  k_with "call builtin:list.append" => (k_extra "MyAppend")
  k_with "callWith ref" => (k_here; first | (refine' callWith_K (by k_asm) (by k_is) ?_; k_whole) | (refine' callWith_K0 (by (first | (with_reducible assumption) | exact Frag.In.keeps (by with_reducible assumption) (Fr.keep (by with_reducible assumption)) | k_in)) (by k_is) ?_; k_whole) | ((refine' callWith_M0 (by k_meth) (by k_is) ?_; k_whole); try dsimp only [List.nil_append, List.cons_append]) | (refine' callWith_M (by k_asm) (by k_asm) (by k_mem) (by k_is) ?_; k_whole))
  k_with "MyCall" => (
    first
    | (refine' does_use (left_doesI w p loose mean mg mb _ _ _ _ _ _ _ _ _ (by omega) (by omega) (by omega) (by omega)) (by k_asm) (by k_asm) (by k_asm) (by k_asm) (by k_asm) (by first | exact rfl | assumption) (by ktr_room) (by ktr_units) ?_
       rintro r9 news9 h9 tk9 F9 N9 ⟨la, pe, ly, lt, lt', rfl, rfl, lhlt, lh0, lhl⟩
       have hla := ltN (a := da) (b := la) (lhlt _ (List.Mem.tail _ (List.Mem.head _)))
       (try dsimp only)
       (try k_fold)))
  k_with "MyAppend" => (
    first
    | (refine' append_K (by k_asm) (by k_asm) (by k_upd) ?_ (by rw [List.size_toArray, hul, PySem.sizeLine_eq]; omega)
       intro ha Fa Na
       simp only [List.push_toArray] at Na))
  k_with "MyIter" => (    
    rename Fr _ _ _ _ => lF'
    rename News _ _ _ _ => lN'
    refine' iterT_list (σ := Str × Int × Int × Int × List Value × List Str × Nat × Addr × Tok × Tok × Tok × Tok) (vs := dvs) (l := dl) (nn := dn) (fun (y, wd, nm, gp, us, ws, n, da, u1, u2, u3, u4) => [(Str.ofString "text", .str y u1), (Str.ofString "words", .int wd u2), (Str.ofString "names", .int nm u3), (Str.ofString "gap", .int gp u4), (Str.ofString "due", .ref da)]) (fun (y, wd, nm, gp, us, ws, n, da, u1, u2, u3, u4) => (da, W.listOf us.toArray n) :: news) (fun i (y, wd, nm, gp, us, ws, n, da, u1, u2, u3, u4) => DInv x ds i y wd nm gp us ws ∧ ∀ q ∈ news, q.1 < da) (x, 1, 1, 1, [], [], 0, _, _, _, _, _) (by rfl) ?kl lF' lN' ?ka ?kb ?kc ?kd
    case ka => kst_all
    case kb => exact ⟨dinv0 _ _, by assumption⟩
    case kl => exact fun c => List.mem_cons_of_mem _ hdm
    all_goals clear lF' lN'
    case' kc =>
      rintro i v I ⟨y, wd, nm, gp, us, ws, n, da, u1, u2, u3, u4⟩ u oI h tk hv ⟨iv, iv6⟩ hoff lF lN
      obtain ⟨d, tv, rfl, hd⟩ := hda.2 i v hv
      dsimp only [kstB] at lF iv iv6 lN hoff ⊢
      k_fold
      obtain ⟨v1, v2, v3, v4, v5, v6, v7, v9, v8⟩ := iv
      have hi5 : i < 5 := Nat.lt_of_lt_of_le (List.getElem?_eq_some_iff.mp hd).1 hds
      have hp2 : (2 : Int) ^ i ≤ 16 := pow_le16 hi5
      have hul : us.length = i := v7.length.trans v9
      have hdaI := neN (a := da) (b := I) (hoff _ (List.Mem.head _))
      have kM := kstMark
    case' kd =>
      rintro ⟨y, wd, nm, gp, us, ws, n, da, u1, u2, u3, u4⟩ u h tk ⟨iv, iv6⟩ lF lN
      dsimp only [kstB] at lF iv iv6 lN ⊢)
  k_steps
  · exact hret _ _ _ _ (by k_asm) (by k_asm) ⟨_, _, _, _, rfl, rfl, iv6, iv.are, dinv_end hda iv⟩
  all_goals (
    refine' tEnd (_, _, _, _, _, ws ++ [ly], _, _, _, _, _, _) (by assumption) (by assumption) ?es ?eo ?ek ?ep
    case ek => kst_all
    case es => (refine List.forall_mem_cons.mpr ⟨?_, List.forall_mem_cons.mpr ⟨?_, ?_⟩⟩; k_memK; k_memK; exact fun p hp => List.mem_cons_of_mem _ (List.mem_cons_of_mem _ (List.mem_cons_of_mem _ hp)))
    case eo => exact List.forall_mem_cons.mpr ⟨hdaI, fun p hp => hoff p (List.mem_cons_of_mem _ hp)⟩
    case ep => exact ⟨dinv_step ⟨v1, v2, v3, v4, v5, v6, v7, v9, v8⟩ hd (by first | exact .inl ⟨by assumption, rfl, rfl, rfl⟩ | exact .inr ⟨by assumption, rfl, rfl, rfl⟩) lh0 lhl, iv6⟩)
end
section
open PySem PySem.W PySem.Calls PySem.Spec PyProof.Rows

theorem parse_turn {x d : Str} {i : Int} (h0 : 0 ≤ i) (h1 : i < x.length) (hd : cp d ++ p257 ((cp x).drop i.toNat) = p257 ((cp x).drop 5)) (hn : (Txt.item x i == Str.ofString "\"") = false) :
    cp (d ++ Txt.item x i) ++ p257 ((cp x).drop (i + 1).toNat) = p257 ((cp x).drop 5) := by
  obtain ⟨c, hc, hx⟩ := cp_item h0 h1
  rw [one_is hc cp_quote] at hn
  have e : (i + 1).toNat = i.toNat + 1 := by omega
  rw [← hd, drop_at hx, e, cp_append, hc]
  simp only [decide_eq_false_iff_not] at hn
  simp [p257, pq, hn]
theorem parse_turn2 {x d : Str} {i : Int} (h0 : 0 ≤ i) (h1 : i < x.length) (h2 : ¬ (x.length : Int) ≤ i + 1) (hd : cp d ++ p257 ((cp x).drop i.toNat) = p257 ((cp x).drop 5)) (hn : (Txt.item x i == Str.ofString "\"") = true)
    (hm : (Txt.item x (i + 1) != Str.ofString "\"") = false) : cp (d ++ Txt.item x i) ++ p257 ((cp x).drop (i + 1 + 1).toNat) = p257 ((cp x).drop 5) := by
  obtain ⟨c, hc, hx⟩ := cp_item h0 h1
  obtain ⟨c2, hc2, hx2⟩ := cp_item (x := x) (i := i + 1) (by omega) (by omega)
  rw [one_is hc cp_quote] at hn
  rw [one_ne hc2 cp_quote] at hm
  have e1 : (i + 1).toNat = i.toNat + 1 := by omega
  have e2 : (i + 1 + 1).toNat = i.toNat + 1 + 1 := by omega
  rw [e1] at hx2
  simp only [decide_eq_true_eq, decide_eq_false_iff_not, Decidable.not_not] at hn hm
  subst hn hm
  rw [← hd, drop_at hx, drop_at hx2, e2, cp_append, hc]
  simp [p257, pq]
theorem parse_stop {x d : Str} {i : Int} (h0 : 0 ≤ i) (h1 : i < x.length) (hd : cp d ++ p257 ((cp x).drop i.toNat) = p257 ((cp x).drop 5)) (hn : (Txt.item x i == Str.ofString "\"") = true)
    (hm : (x.length : Int) ≤ i + 1 ∨ (¬ (x.length : Int) ≤ i + 1 ∧ (Txt.item x (i + 1) != Str.ofString "\"") = true)) : cp d = p257 ((cp x).drop 5) := by
  obtain ⟨c, hc, hx⟩ := cp_item h0 h1
  rw [one_is hc cp_quote] at hn
  simp only [decide_eq_true_eq] at hn
  subst hn
  have e1 : (i + 1).toNat = i.toNat + 1 := by omega
  rw [drop_at hx] at hd
  have : pq true ((cp x).drop (i.toNat + 1)) = [] := by
    rcases hm with hm | ⟨h2, hm⟩
    · rw [List.drop_eq_nil_of_le (by rw [cp_len]; omega)]; rfl
    · obtain ⟨c2, hc2, hx2⟩ := cp_item (x := x) (i := i + 1) (by omega) (by omega)
      rw [one_ne hc2 cp_quote] at hm
      rw [e1] at hx2
      simp only [decide_eq_true_eq] at hm
      rw [drop_at hx2]
      simp [pq, hm]
  rw [← hd]
  simp [p257, pq, this]
theorem parse_end {x d : Str} {i : Int} (h1 : ¬ i < x.length) (hd : cp d ++ p257 ((cp x).drop i.toNat) = p257 ((cp x).drop 5)) : cp d = p257 ((cp x).drop 5) := by
  rw [List.drop_eq_nil_of_le (by rw [cp_len]; omega)] at hd
  simpa [p257, pq] using hd

def PInv (x d : Str) (i : Int) : Prop := 5 ≤ i ∧ i ≤ x.length ∧ cp d ++ p257 ((cp x).drop i.toNat) = p257 ((cp x).drop 5) ∧ (d.length : Int) ≤ i
theorem pinv0 {x : Str} (h : 5 ≤ x.length) : PInv x (Str.ofString "") 5 := ⟨Int.le_refl _, by omega, by rw [cp_nil]; rfl, by decide⟩
theorem parse_does (w : World) (p : Program) (loose : List Str) (mean : ExcName → Option Value) (mg mb : Str → Option Value) (news : Led) (x : Str) (t : Tok) (hx : x.length ≤ 1000) (len5 : 5 ≤ x.length)
   (h3 : (Txt.slice x none (some 3) != Str.ofString "257") = false) (h5 : (Txt.slice x (some 3) (some 5) != Str.ofString " \"") = false) :
   Does w p loose mean mg mb 2 16 46 news [.str x t] (fun r news' => news' = news ∧ ∃ y t', r = .str y t' ∧ cp y = p257 ((cp x).drop 5)) := by
  k_with_none
  k_with "TPost" => (dsimp only [TPost])
  k_with "exec While Compare cons nil" => (k_extra "MyWhile")
  k_with "exec For Name Name cons nil" => (walk_at "MY for")
  k_with "exec For Name Call cons nil" => (walk_at "MY for")
  k_with "exec For Name List cons nil" => (walk_at "MY for")
  k_with "pyIter str" => (k_extra "MyIter")
  k_with "pyIter ref" => (k_extra "MyIter")
  k_with "call ref" => (k_extra "MyCall")
  k_with "call builtin:list.append" => (k_extra "MyAppend")
  k_with "callWith ref" => (k_here; first | (refine' callWith_K (by k_asm) (by k_is) ?_; k_whole) | (refine' callWith_K0 (by (first | (with_reducible assumption) | exact Frag.In.keeps (by with_reducible assumption) (Fr.keep (by with_reducible assumption)) | k_in)) (by k_is) ?_; k_whole) | ((refine' callWith_M0 (by k_meth) (by k_is) ?_; k_whole); try dsimp only [List.nil_append, List.cons_append]) | (refine' callWith_M (by k_asm) (by k_asm) (by k_mem) (by k_is) ?_; k_whole))
  w_top off
  unfold Does
  k_fill
  intros dp un gd cn cs a ccd cl outer A₀ base h₀ L m s Q E iB iF iX iN iT ik id iu hret
  walk_at "MY enter"
  rename Fr _ _ _ (fun y => List.lookup y _) => F
  replace F := fr_map F (m' := fun y => if y = Str.ofString "resp" then some (.str x t) else none) (fun y => look1 _ _ y)
  k_with "MyWhile" => (
    rename Fr _ _ _ _ => lF'
    rename News _ _ _ _ => lN'
    refine' whileT (σ := Str × Int × Tok × Tok × Tok) (fun c => [(Str.ofString "resp", .str x t), (Str.ofString "dirname", .str c.1 c.2.2.1), (Str.ofString "i", .int c.2.1 c.2.2.2.1), (Str.ofString "n", .int (x.length : Int) c.2.2.2.2)]) (fun _ => news) (fun c => PInv x c.1 c.2.1) (fun c => ((x.length : Int) - c.2.1).toNat) (Str.ofString "", 5, _, _, _) lF' lN' ?ka ?kb ?kc ?kd
    case ka => kst_all
    case kb => exact pinv0 len5
    case kd => passes_own
    clear lF' lN'
    rintro ⟨d, i, t1, t2, t3⟩ u h tk ⟨iv1, iv2, iv3, iv4⟩ lF lN
    dsimp only [kstB] at lF iv1 iv2 iv3 iv4 ⊢
    k_fold
    )
  k_steps
  · exact hret _ _ _ _ (by k_asm) (by k_asm) ⟨rfl, _, _, rfl, parse_stop (by omega) (by assumption) iv3 (by assumption) (.inl (by assumption))⟩
  · exact hret _ _ _ _ (by k_asm) (by k_asm) ⟨rfl, _, _, rfl, parse_stop (by omega) (by assumption) iv3 (by assumption) (.inr ⟨by assumption, by assumption⟩)⟩
  · refine' tEnd (_, _, _, _, _) (by assumption) (by assumption) ?es (fun _ _ => trivial) ?ek ?ep
    case ek => kst_all
    case es => exact fun p hp => hp
    case ep => exact ⟨⟨by dsimp only; omega, by dsimp only; omega, parse_turn2 (by omega) (by assumption) (by assumption) iv3 (by assumption) (by assumption), by dsimp only; rw [Str.length_append]; omega⟩, by dsimp only; omega⟩
  · refine' tEnd (_, _, _, _, _) (by assumption) (by assumption) ?es (fun _ _ => trivial) ?ek ?ep
    case ek => kst_all
    case es => exact fun p hp => hp
    case ep => exact ⟨⟨by dsimp only; omega, by dsimp only; omega, parse_turn (by omega) (by assumption) iv3 (by assumption), by dsimp only; rw [Str.length_append]; omega⟩, by dsimp only; omega⟩
  · exact hret _ _ _ _ (by k_asm) (by k_asm) ⟨rfl, _, _, rfl, parse_end (by assumption) iv3⟩
end
section
open PySem PySem.W PySem.Calls PySem.Spec PyProof.Rows
def marksOf (wy : Nat) : List Nat := if wy = 1 then [34] else [32, 9, 10, 13]
def frontOf (wy : Nat) : List Nat := [32, 9, 13, 10] ++ (if wy = 0 then [] else if wy = 1 then [34] else [92, 34])
def IsPage (x : Str) (wy : Nat) (pg rs : List Nat) : Prop :=
  ∃ raw hides b, (raw, hides) = (cp x).foldl (rawSt (marksOf wy)) ([], false) ∧ b ∈ [32, 9, 10, 13] ∧
    (if hides = true then pg = frontOf wy ++ raw ∧ rs = [] else if wy = 1 then pg = frontOf wy ++ raw ++ [34] ∧ rs = [34] else pg = frontOf wy ++ raw ++ [b] ∧ rs = [9])
theorem rinv_all {x mk r : Str} {h : Bool} (iv : RInv x mk x.length r h) : (cp r, h) = (cp x).foldl (rawSt (cp mk)) ([], false) := by
  have h1 := iv.1
  rw [← cp_len, List.take_length] at h1
  exact h1
theorem len_le {x : Str} {l : List Nat} (h : cp x = l) : x.length = l.length := by rw [← cp_len, h]
theorem front_len (wy : Nat) : (frontOf wy).length ≤ 6 := by
  unfold frontOf
  split
  · decide
  · split <;> decide
section
variable {x mk ly F e1 e2 : Str} {lh : Bool} {wy : Nat}
theorem isPage_h (iv : RInv x mk x.length ly lh) (hx : x.length ≤ 1000) (hm : cp mk = marksOf wy) (hf : cp F = frontOf wy) (h1 : cp e1 = []) (h2 : cp e2 = []) (hh : lh = true) :
    (F ++ ly ++ e1).length ≤ 2010 ∧ e2.length ≤ 1 ∧ IsPage x wy (cp (F ++ ly ++ e1)) (cp e2) := by
  have ha := rinv_all iv
  have hl := iv.2
  rw [hm] at ha
  have h3 := front_len wy
  have h4 := len_le hf
  have h5 := len_le h1
  have h6 := len_le h2
  simp only [List.length_nil] at h5 h6
  refine ⟨by rw [Str.length_append, Str.length_append]; omega, by omega, cp ly, lh, 32, ha, by simp, ?_⟩
  rw [if_pos hh, cp_append, cp_append, hf, h1, h2]
  simp
theorem isPage_q (iv : RInv x mk x.length ly lh) (hx : x.length ≤ 1000) (hm : cp mk = marksOf 1) (hf : cp F = frontOf 1) (h1 : cp e1 = [34]) (h2 : cp e2 = [34]) (hh : lh = false) :
    (F ++ ly ++ e1).length ≤ 2010 ∧ e2.length ≤ 1 ∧ IsPage x 1 (cp (F ++ ly ++ e1)) (cp e2) := by
  have ha := rinv_all iv
  have hl := iv.2
  rw [hm] at ha
  have h3 := front_len 1
  have h4 := len_le hf
  have h5 := len_le h1
  have h6 := len_le h2
  simp only [List.length_cons, List.length_nil] at h5 h6
  refine ⟨by rw [Str.length_append, Str.length_append]; omega, by omega, cp ly, lh, 32, ha, by simp, ?_⟩
  rw [if_neg (by rw [hh]; decide), if_pos rfl, cp_append, cp_append, hf, h1, h2]
  simp
theorem isPage_b {W T : Str} (iv : RInv x mk x.length ly lh) (hx : x.length ≤ 1000) (hm : cp mk = marksOf wy) (hf : cp F = frontOf wy) (hW : cp W = [32, 9, 10, 13]) (hT : cp T = [9]) (hw : wy ≠ 1) (hh : lh = false) :
    (F ++ ly ++ Txt.slice (Txt.item W (Int.fmod (x.length : Int) 4) ++ T) none (some 1)).length ≤ 2010 ∧ (Txt.slice (Txt.item W (Int.fmod (x.length : Int) 4) ++ T) (some 1) none).length ≤ 1 ∧
      IsPage x wy (cp (F ++ ly ++ Txt.slice (Txt.item W (Int.fmod (x.length : Int) 4) ++ T) none (some 1))) (cp (Txt.slice (Txt.item W (Int.fmod (x.length : Int) 4) ++ T) (some 1) none)) := by
  have ha := rinv_all iv
  have hl := iv.2
  rw [hm] at ha
  have h3 := front_len wy
  have h4 := len_le hf
  have hWl := len_le hW
  simp only [List.length_cons, List.length_nil] at hWl
  have e0 : Int.fmod (x.length : Int) 4 = (x.length : Int) % 4 := Int.fmod_eq_emod_of_nonneg _ (by decide)
  obtain ⟨c, hc, hx2⟩ := cp_item (x := W) (i := Int.fmod (x.length : Int) 4) (by omega) (by omega)
  rw [hW] at hx2
  have hmem := List.mem_of_getElem? hx2
  have hs : cp (Txt.item W (Int.fmod (x.length : Int) 4) ++ T) = [c, 9] := by rw [cp_append, hc, hT]; rfl
  have hsl := len_le hs
  simp only [List.length_cons, List.length_nil] at hsl
  have k1 := cp_slice_to (x := Txt.item W (Int.fmod (x.length : Int) 4) ++ T) (j := 1) (by decide) (by omega)
  have k2 := cp_slice_from (x := Txt.item W (Int.fmod (x.length : Int) 4) ++ T) (j := 1) (by decide) (by omega)
  rw [hs] at k1 k2
  have k1' := len_le k1
  have k2' := len_le k2
  simp at k1' k2'
  refine ⟨by rw [Str.length_append, Str.length_append]; omega, by omega, cp ly, lh, c, ha, hmem, ?_⟩
  rw [if_neg (by rw [hh]; decide), if_neg hw, cp_append, cp_append, hf, k1, k2]
  simp
end
theorem allLt_3 {a b d : Nat} {l : Led} (h : a < d ∧ b < d ∧ AllLt d l) : ∀ p ∈ l, p.1 < d := kst_ltOf h.2.2
theorem allLt_4 {a b c d : Nat} {l : Led} (h : a < d ∧ b < d ∧ c < d ∧ AllLt d l) : ∀ p ∈ l, p.1 < d := kst_ltOf h.2.2.2
theorem page_does (w : World) (p : Program) (loose : List Str) (mean : ExcName → Option Value) (mg mb : Str → Option Value) (news : Led) (x : Str) (t tw : Tok) (wy : Nat) (hw : wy < 3) (hx : x.length ≤ 1000) :
   Does w p loose mean mg mb 4 32 123 news [.str x t, .int (wy : Int) tw] (fun r news' => ∃ a pg rs t1 t2, r = .ref a ∧ news' = (a, W.listOf #[.str pg t1, .str rs t2] 0) :: news ∧ (∀ q ∈ news, q.1 < a) ∧ pg.length ≤ 2010 ∧ rs.length ≤ 1 ∧ IsPage x wy (cp pg) (cp rs)) := by
  k_with_none
  k_with "TPost" => (dsimp only [TPost])
  k_with "exec While Compare cons nil" => (k_extra "MyWhile")
  k_with "exec For Name Name cons nil" => (walk_at "MY for")
  k_with "exec For Name Call cons nil" => (walk_at "MY for")
  k_with "exec For Name List cons nil" => (walk_at "MY for")
  k_with "pyIter str" => (k_extra "MyIter")
  k_with "pyIter ref" => (k_extra "MyIter")
  k_with "call ref" => (k_extra "MyCall")
  k_with "call builtin:list.append" => (k_extra "MyAppend")
  k_with "callWith ref" => (k_here; first | (refine' callWith_K (by k_asm) (by k_is) ?_; k_whole) | (refine' callWith_K0 (by (first | (with_reducible assumption) | exact Frag.In.keeps (by with_reducible assumption) (Fr.keep (by with_reducible assumption)) | k_in)) (by k_is) ?_; k_whole) | ((refine' callWith_M0 (by k_meth) (by k_is) ?_; k_whole); try dsimp only [List.nil_append, List.cons_append]) | (refine' callWith_M (by k_asm) (by k_asm) (by k_mem) (by k_is) ?_; k_whole))
  w_top off
  unfold Does
  k_fill
  intros dp un gd cn cs a ccd cl outer A₀ base h₀ L m s Q E iB iF iX iN iT ik id iu hret
  have hw3 : wy = 0 ∨ wy = 1 ∨ wy = 2 := by omega
  k_with_none
  k_with "TPost" => (dsimp only [TPost])
  k_with "exec While Compare cons nil" => (k_extra "MyWhile")
  k_with "exec For Name Name cons nil" => (walk_at "MY for")
  k_with "exec For Name Call cons nil" => (walk_at "MY for")
  k_with "exec For Name List cons nil" => (walk_at "MY for")
  k_with "pyIter str" => (k_extra "MyIter")
  k_with "pyIter ref" => (k_extra "MyIter")
  k_with "call ref" => (k_extra "MyCall")
  k_with "call builtin:list.append" => (k_extra "MyAppend")
  k_with "callWith ref" => (k_here; first | (refine' callWith_K (by k_asm) (by k_is) ?_; k_whole) | (refine' callWith_K0 (by (first | (with_reducible assumption) | exact Frag.In.keeps (by with_reducible assumption) (Fr.keep (by with_reducible assumption)) | k_in)) (by k_is) ?_; k_whole) | ((refine' callWith_M0 (by k_meth) (by k_is) ?_; k_whole); try dsimp only [List.nil_append, List.cons_append]) | (refine' callWith_M (by k_asm) (by k_asm) (by k_mem) (by k_is) ?_; k_whole))
  k_with "MyCall" => (
    first
    | (refine' does_use (raw_does w p loose mean mg mb _ _ _ _ _ (by omega) (by decide +kernel)) (by k_asm) (by k_asm) (by k_asm) (by k_asm) (by k_asm) (by first | exact rfl | assumption) (by ktr_room) (by ktr_units) ?_
       rintro r9 news9 h9 tk9 F9 N9 ⟨la, ly, lh, lt, rfl, rfl, lhlt, lhl⟩
       have lln := lhl.2
       (try dsimp only)
       (try k_fold)))
  rcases hw3 with rfl | rfl | rfl
  all_goals (
    walk_at "MY enter"
    generalize s.toks + List.length _ = tk0
    rename Fr _ _ _ (fun y => List.lookup y _) => F
    replace F := fr_map F (fun y => look2 _ _ _ _ y))
  all_goals k_steps
  all_goals exact hret _ _ _ _ (by k_asm) (cb_drop (by assumption) (by (intro p hp; rcases List.mem_cons.mp hp with rfl | hp; exact List.Mem.head _; (repeat (first | exact hp | apply List.mem_cons_of_mem))))) ⟨_, _, _, _, _, rfl, rfl, by first | exact allLt_3 (by assumption) | exact allLt_4 (by assumption), by first
    | exact isPage_h lhl hx (by decide +kernel) (by decide +kernel) (by decide +kernel) (by decide +kernel) (by assumption)
    | exact isPage_q lhl hx (by decide +kernel) (by decide +kernel) (by decide +kernel) (by decide +kernel) (by assumption)
    | exact isPage_b lhl hx (by decide +kernel) (by decide +kernel) (by decide +kernel) (by decide +kernel) (by decide) (by assumption)⟩
end
section
open PySem PySem.W PySem.Calls PySem.Spec PyProof.Rows
def rwS (mk : List Nat) : Bool → List Nat → List Nat × Bool
  | h, [] => ([], h)
  | h, c :: r => ((if c ∈ mk ∧ h = false then [92, c] else [c]) ++ (rwS mk (decide (c = 92) && !h) r).1, (rwS mk (decide (c = 92) && !h) r).2)
theorem foldl_rwS (mk : List Nat) : ∀ (l a : List Nat) (h : Bool), l.foldl (rawSt mk) (a, h) = (a ++ (rwS mk h l).1, (rwS mk h l).2)
  | [], a, h => by simp [rwS]
  | c :: r, a, h => by
    rw [List.foldl_cons]
    show List.foldl (rawSt mk) ((if c ∈ mk ∧ h = false then a ++ [92] else a) ++ [c], decide (c = 92) && !h) r = _
    rw [foldl_rwS mk r]
    rw [rwS]
    by_cases e : c ∈ mk ∧ h = false
    · simp [if_pos e]
    · simp [if_neg e]
theorem scan_rwS {stop : Nat → Bool} {mk : List Nat} (hst : ∀ c, stop c = true ↔ c ∈ mk) (h92 : 92 ∉ mk) : ∀ (l tail : List Nat) (h : Bool),
    scan stop h ((rwS mk h l).1 ++ tail) = (unesc h l ++ (scan stop (rwS mk h l).2 tail).1, (scan stop (rwS mk h l).2 tail).2)
  | [], tail, h => by simp [rwS, unesc]
  | c :: r, tail, true => by
    have ih := scan_rwS hst h92 r tail false
    rw [rwS]
    simp only [Bool.not_true, Bool.and_false, Bool.true_eq_false, and_false, if_false, List.cons_append, List.nil_append, scan, unesc]
    rw [ih]
  | c :: r, tail, false => by
    rw [rwS]
    simp only [Bool.not_false, Bool.and_true, and_true, List.append_assoc]
    by_cases e : c ∈ mk
    · have hc : c ≠ 92 := fun e2 => h92 (e2 ▸ e)
      have ih := scan_rwS hst h92 r tail false
      have h2 : stop 92 = false := by
        cases e3 : stop 92 with
        | false => rfl
        | true => exact absurd ((hst 92).mp e3) h92
      have hd : decide (c = 92) = false := by simp [hc]
      rw [hd]
      simp only [if_pos e, List.cons_append, List.nil_append, scan, unesc, h2, hc, if_true, if_false, Bool.false_eq_true]
      rw [ih]
    · have hs : stop c = false := by
        cases e3 : stop c with
        | false => rfl
        | true => exact absurd ((hst c).mp e3) e
      by_cases hc : c = 92
      · have ih := scan_rwS hst h92 r tail true
        have hd : decide (c = 92) = true := by simp [hc]
        rw [hd]
        simp only [if_neg e, List.cons_append, List.nil_append, scan, unesc, hs, if_pos hc, Bool.false_eq_true, if_false]
        rw [ih]
      · have ih := scan_rwS hst h92 r tail false
        have hd : decide (c = 92) = false := by simp [hc]
        rw [hd]
        simp only [if_neg e, List.cons_append, List.nil_append, scan, unesc, hs, if_neg hc, Bool.false_eq_true, if_false]
        rw [ih]
theorem isW_iff (c : Nat) : isW c = true ↔ c ∈ [32, 9, 10, 13] := by
  unfold isW ws
  rw [List.contains_iff_mem]
  simp only [List.mem_cons, List.not_mem_nil, or_false]
  omega
theorem isQ_iff (c : Nat) : isQ c = true ↔ c ∈ [34] := by
  unfold isQ
  simp
theorem tokM_ws {c : Nat} (h : isW c = true) (r : List Nat) : tokM (c :: r) = tokM r := by rw [tokM, if_pos h]
theorem tokM_front (r : List Nat) : tokM (32 :: 9 :: 13 :: 10 :: r) = tokM r := by
  rw [tokM_ws (by decide), tokM_ws (by decide), tokM_ws (by decide), tokM_ws (by decide)]
def opening : List Nat := [50, 53, 55, 32, 34]
theorem unesc_op (l : List Nat) : unesc false (opening ++ l) = opening ++ unesc false l := by
  simp [opening, unesc]
theorem rwS_op (l : List Nat) {mk : List Nat} (h : 50 ∉ mk) : ∃ t, (rwS mk false (opening ++ l)).1 = 50 :: t := by
  have e : (rwS mk false (opening ++ l)).1 = [50] ++ (rwS mk (decide (50 = 92) && !false) ([53, 55, 32, 34] ++ l)).1 := by
    rw [opening, List.cons_append, rwS, if_neg (by simp [h])]
  exact ⟨_, e⟩
def markOf (wy : Nat) : List Nat := if wy = 2 then [34] else []
/-- the page is read back as the word, up to the rest -/
theorem page_read {x : Str} {t pg rs : List Nat} {wy : Nat} (hw : wy < 3) (hx : cp x = opening ++ t) (h : IsPage x wy pg rs) : tokM (pg ++ rs) = (markOf wy ++ opening ++ unesc false t, rs) := by
  obtain ⟨raw, hides, b, h1, hb, h2⟩ := h
  rw [foldl_rwS, List.nil_append] at h1
  obtain ⟨hr, hh⟩ := Prod.mk.inj h1
  have hW := scan_rwS isW_iff (by decide) (cp x)
  have hQ := scan_rwS isQ_iff (by decide) (cp x)
  have hu : unesc false (cp x) = opening ++ unesc false t := by rw [hx, unesc_op]
  have h3 : wy = 0 ∨ wy = 1 ∨ wy = 2 := by omega
  have bw : isW b = true := (isW_iff b).mpr hb
  rcases h3 with rfl | rfl | rfl
  · have e : pg ++ rs = 32 :: 9 :: 13 :: 10 :: ((rwS [32, 9, 10, 13] false (cp x)).1 ++ (if hides = true then [] else [b, 9])) ∧ rs = if hides = true then [] else [9] := by
      have hm : marksOf 0 = [32, 9, 10, 13] := rfl
      rw [hm] at hr hh
      rw [← hr]
      by_cases e2 : hides = true
      · rw [if_pos e2] at h2 ⊢; rw [if_pos e2]; rw [h2.1, h2.2]; exact ⟨by simp [frontOf], rfl⟩
      · rw [if_neg e2] at h2 ⊢; rw [if_neg e2]; rw [if_neg (by decide)] at h2; rw [h2.1, h2.2]; exact ⟨by simp [frontOf], rfl⟩
    obtain ⟨e, e4⟩ := e
    rw [e, tokM_front]
    obtain ⟨u, hu2⟩ := rwS_op t (mk := [32, 9, 10, 13]) (by decide)
    rw [← hx] at hu2
    have e5 : tokM ((rwS [32, 9, 10, 13] false (cp x)).1 ++ (if hides = true then [] else [b, 9])) = scan isW false ((rwS [32, 9, 10, 13] false (cp x)).1 ++ (if hides = true then [] else [b, 9])) := by
      rw [hu2, List.cons_append, tokM, if_neg (by decide), if_neg (by decide)]
    rw [e5, hW _ false, hu]
    have hm : marksOf 0 = [32, 9, 10, 13] := rfl
    rw [hm] at hh
    rw [← hh, e4]
    cases hides <;> simp [scan, bw, markOf]
  · have e : pg ++ rs = 32 :: 9 :: 13 :: 10 :: 34 :: ((rwS [34] false (cp x)).1 ++ (if hides = true then [] else [34, 34])) ∧ rs = if hides = true then [] else [34] := by
      have hm : marksOf 1 = [34] := rfl
      rw [hm] at hr hh
      rw [← hr]
      by_cases e2 : hides = true
      · rw [if_pos e2] at h2 ⊢; rw [if_pos e2]; rw [h2.1, h2.2]; exact ⟨by simp [frontOf], rfl⟩
      · rw [if_neg e2] at h2 ⊢; rw [if_neg e2]; rw [if_pos rfl] at h2; rw [h2.1, h2.2]; exact ⟨by simp [frontOf], rfl⟩
    obtain ⟨e, e4⟩ := e
    rw [e, tokM_front, tokM, if_neg (by decide), if_pos (by decide), hQ _ false, hu]
    have hm : marksOf 1 = [34] := rfl
    rw [hm] at hh
    rw [← hh, e4]
    cases hides <;> simp [scan, isQ, markOf]
  · have e : pg ++ rs = 32 :: 9 :: 13 :: 10 :: 92 :: 34 :: ((rwS [32, 9, 10, 13] false (cp x)).1 ++ (if hides = true then [] else [b, 9])) ∧ rs = if hides = true then [] else [9] := by
      have hm : marksOf 2 = [32, 9, 10, 13] := rfl
      rw [hm] at hr hh
      rw [← hr]
      by_cases e2 : hides = true
      · rw [if_pos e2] at h2 ⊢; rw [if_pos e2]; rw [h2.1, h2.2]; exact ⟨by simp [frontOf], rfl⟩
      · rw [if_neg e2] at h2 ⊢; rw [if_neg e2]; rw [if_neg (by decide)] at h2; rw [h2.1, h2.2]; exact ⟨by simp [frontOf], rfl⟩
    obtain ⟨e, e4⟩ := e
    rw [e, tokM_front, tokM, if_neg (by decide), if_neg (by decide), scan, if_neg (by decide), if_pos rfl, scan, hW _ false, hu]
    have hm : marksOf 2 = [32, 9, 10, 13] := rfl
    rw [hm] at hh
    rw [← hh, e4]
    cases hides <;> simp [scan, bw, markOf]
theorem cnt_append (a b : List Nat) : cnt (a ++ b) = cnt a + cnt b := by simp [cnt]
end
section
open PySem PySem.W PySem.Calls PySem.Spec PyProof.Rows

/-- a call of a def of the text that raises an exception of the text's own -/
def Raises (w : World) (p : Program) (loose : List Str) (mean : ExcName → Option Value) (mg mb : Str → Option Value) (kd ku : Nat) (f : Addr) (news : Led) (vs : List Value) (C : Addr) (us : List Value) : Prop :=
  ∀ (dp un : Nat) (gd : Option (List Code)) (cn : Str) (cs : Scope) (a : Addr) (ccd : Value) (cl : List (Str × Addr)) (outer : List Env) (A₀ : Around) (base h₀ : Heap) (L : Addr) (m : Str → Option Value) (s : Shared) (Q E : Value → Shared → Prop),
    Below A₀ base outer h₀ → Fr h₀ L s.heap m → (hd.heap_39 w.params).In h₀ → News h₀ L s.heap news → Top p loose mean mg mb h₀ → cs.kind = .function → dp + kd < recursionLimit → un + ku < cLine →
    (∀ G e tu h' tk', RaisedS base G (envX cn cs L a ccd cl :: outer) e (.ref C) tu us news h' → Fr h₀ L G m → G.UpToSlots h' → E (.ref e) { s with heap := h', toks := tk' }) →
    wpAny (model PySem.Challenge.rw_pm0007_01.row.prog w) (ktrTop dp un gd cn cs L a ccd cl outer) (call (.ref f) vs) Q E s
theorem parse_raises (w : World) (p : Program) (loose : List Str) (mean : ExcName → Option Value) (mg mb : Str → Option Value) (news : Led) (x : Str) (t : Tok) (hx : x.length ≤ 2000)
   (h3 : (Txt.slice x none (some 3) != Str.ofString "257") = true) :
   Raises w p loose mean mg mb 4 16 46 news [.str x t] 37 [.str x t] := by
  k_with_none
  k_with "TPost" => (dsimp only [TPost])
  k_with "exec While Compare cons nil" => (k_extra "MyWhile")
  k_with "exec For Name Name cons nil" => (walk_at "MY for")
  k_with "exec For Name Call cons nil" => (walk_at "MY for")
  k_with "exec For Name List cons nil" => (walk_at "MY for")
  k_with "pyIter str" => (k_extra "MyIter")
  k_with "pyIter ref" => (k_extra "MyIter")
  k_with "call ref" => (k_extra "MyCall")
  k_with "call builtin:list.append" => (k_extra "MyAppend")
  k_with "callWith ref" => (k_here; first | (refine' callWith_K (by k_asm) (by k_is) ?_; k_whole) | (refine' callWith_K0 (by (first | (with_reducible assumption) | exact Frag.In.keeps (by with_reducible assumption) (Fr.keep (by with_reducible assumption)) | k_in)) (by k_is) ?_; k_whole) | ((refine' callWith_M0 (by k_meth) (by k_is) ?_; k_whole); try dsimp only [List.nil_append, List.cons_append]) | (refine' callWith_M (by k_asm) (by k_asm) (by k_mem) (by k_is) ?_; k_whole))
  k_with "leaving ref" => (k_extra "MyLeave")
  w_top off
  unfold Raises
  k_fill
  intros dp un gd cn cs a ccd cl outer A₀ base h₀ L m s Q E iB iF iX iN iT ik id iu hraise
  k_with_none
  k_with "TPost" => (dsimp only [TPost])
  k_with "exec While Compare cons nil" => (k_extra "MyWhile")
  k_with "exec For Name Name cons nil" => (walk_at "MY for")
  k_with "exec For Name Call cons nil" => (walk_at "MY for")
  k_with "exec For Name List cons nil" => (walk_at "MY for")
  k_with "pyIter str" => (k_extra "MyIter")
  k_with "pyIter ref" => (k_extra "MyIter")
  k_with "call ref" => (k_extra "MyCall")
  k_with "call builtin:list.append" => (k_extra "MyAppend")
  k_with "callWith ref" => (k_here; first | (refine' callWith_K (by k_asm) (by k_is) ?_; k_whole) | (refine' callWith_K0 (by (first | (with_reducible assumption) | exact Frag.In.keeps (by with_reducible assumption) (Fr.keep (by with_reducible assumption)) | k_in)) (by k_is) ?_; k_whole) | ((refine' callWith_M0 (by k_meth) (by k_is) ?_; k_whole); try dsimp only [List.nil_append, List.cons_append]) | (refine' callWith_M (by k_asm) (by k_asm) (by k_mem) (by k_is) ?_; k_whole))
  k_with "leaving ref" => (k_extra "MyLeave")
  k_with "MyLeave" => (refine' leave_raiseS (by assumption) (by assumption) (by assumption) (by k_asm) ?_; intro h9 t9 S9 R9 U9; (try dsimp only at S9 R9 U9 ⊢))
  walk_at "MY enter"
  rename Fr _ _ _ (fun y => List.lookup y _) => F
  replace F := fr_map F (m' := fun y => if y = Str.ofString "resp" then some (.str x t) else none) (fun y => look1 _ _ y)
  k_steps
  exact hraise _ _ _ _ _ S9 (by assumption) U9
end
section
open PySem PySem.W PySem.Calls PySem.Spec PyProof.Rows
section
variable {prog : Program} {w : World} {A₀ : Around} {E : Value → Shared → Prop} {s' : Shared} {base g g₀ G : Heap} {outer : List Env} {L a e t C : Addr} {m : Str → Option Value} {name : Str} {scope : Scope} {cd : Value} {cl : List (Str × Addr)}
  {vs : List Value} {n : Str} {b₀ : Stmt} {suite : List Stmt} {pos np : Pos} {rest : List ExceptHandler} {Q : Flow → Shared → Prop} {news : Led} {KF : Frag}
  {p : Program} {loose : List Str} {mean : ExcName → Option Value} {mg mb : Str → Option Value} {x : Str}
/-- the ground behind a caught exception: the callers' frames may hold their frame objects now -/
structure Gnd (KF : Frag) (p : Program) (loose : List Str) (mean : ExcName → Option Value) (mg mb : Str → Option Value) (A₀ : Around) (base : Heap) (outer : List Env) (g₀ g : Heap) : Prop where
  turn : KtsTurn (outer.filterMap (·.frame)) g₀ g
  below : Below A₀ base outer g
  inn : KF.In g
  top : Top p loose mean mg mb g
  dicts : KtsDicts (outer.filterMap (·.frame)) g
theorem caught_X (R : RaisedS base G (envX name scope L a cd cl :: outer) e (.ref C) t vs news s'.heap) (F : Fr g L G m) (hsm : G.UpToSlots s'.heap) (XB : KF.In base) (TB : Top p loose mean mg mb base)
    (GG : Gnd KF p loose mean mg mb A₀ base outer g₀ g) (ex : nsIn KF mainGlobals x = some (some (.ref C))) (q : ktsIn KF C "BaseException" = true)
    (k : ∀ h' g' news₂ tk, Gnd KF p loose mean mg mb A₀ base outer g₀ g' → Fr g' L h' (fun y => if y = n then some (.ref e) else m y) → News g' L h' news₂ → Got news₂ e t (.ref C) vs → News g' L h' news →
      wpAny (model prog w) ((A₀.deeper (envX name scope L a cd cl)).mark (some (.ref e))) (execs (b₀ :: suite) (envX name scope L a cd cl))
        (fun f s₄ => wpAny (model prog w) (A₀.deeper (envX name scope L a cd cl)) (do bindName (envX name scope L a cd cl) n .none; unbindBehindTheSuite (envX name scope L a cd cl) n pos) (fun _ s₅ => Q f s₅) E s₄)
        (AsSuiteRaised (model prog w) ((A₀.deeper (envX name scope L a cd cl)).mark (some (.ref e))) (envX name scope L a cd cl) n pos (notedBy (model prog w) ((A₀.deeper (envX name scope L a cd cl)).mark (some (.ref e))) (envX name scope L a cd cl) (cameBackBy (model prog w) (A₀.deeper (envX name scope L a cd cl)) (envX name scope L a cd cl) E)))
        { s' with heap := h', toks := tk })
    (hk : scope.kind = .function := by rfl) (hlo : (envX name scope L a cd cl).kindOf n = some .local := by rfl) (hx : (envX name scope L a cd cl).kindOf x = some .globalImplicit := by rfl) (hd : (x == ("__debug__" : Str)) = false := by decide) :
    wpAny (model prog w) (A₀.deeper (envX name scope L a cd cl)) (noteFrame (.ref e) (envX name scope L a cd cl))
      (fun _ s₂ => wpAny (model prog w) (A₀.deeper (envX name scope L a cd cl)) (setFlight (.ref e) none) (fun _ s₃ =>
        wpAny (model prog w) (A₀.deeper (envX name scope L a cd cl)) (handleBy (.ref e) (envX name scope L a cd cl) (.ExceptHandler (some (.Name x np)) (some n) (b₀ :: suite) pos :: rest)) Q E s₃) E s₂) E s' := by
  obtain ⟨T0, K, _, _, D⟩ := GG
  obtain ⟨⟨B, hB, hBG, hl, hfl, hnew⟩, htup⟩ := R
  have hL : B.get? L = none := by
    obtain ⟨_, ⟨L', _, hf, hn', _⟩, _⟩ := hfl.2.2.1
    obtain rfl : L = L' := Option.some.inj hf
    exact hn'
  have ground : ∀ {h₅ : Heap}, B.StaysIn h₅ → G.UpToSlots h₅ → ∃ g', KtsTurn (outer.filterMap (·.frame)) g g' ∧ Fr g' L h₅ m ∧ Below A₀ base outer g' := fun st sm => kts_ground (name := name) (scope := scope) (a := a) (cd := cd) K F hBG st sm
  have fresh : ∀ {b : Addr}, B.get? b = none → (∀ o, g.get? b = some o → b ∈ outer.filterMap (·.frame) → False) → g.get? b = none := fun hb hn => kts_fresh (name := name) (scope := scope) (a := a) (cd := cd) F hBG hb hn
  refine wpAny_looks_onW (Around.frames_deeper K.stack) rfl hfl fun h₄ held₄ sm₄ => ?_
  refine wpAny_landsW held₄ fun h₅ held₅ sm₅ => ?_
  have up₅ := hsm.trans (sm₄.trans sm₅)
  obtain ⟨g₅, T₅, F₅, K₅⟩ := ground held₅.1 up₅
  have P₅ : Top p loose mean mg mb g₅ := TB.keeps K₅.stays
  have X₅ : KF.In g₅ := XB.keeps K₅.stays
  obtain ⟨ob, hob, hobc⟩ := held₅.there
  obtain ⟨nm, q', N, bs, bm, hdct, sn, sub, ab, col, dd, k0, k1, k2, k3, k5, newId, hC, hbase, hbT⟩ := kts_cls X₅ q
  refine wpAny_handleBy_cons (codeAny_handlers_test (Name_function_global (env := envX name scope L a cd cl) hk hx (loadGlobal_global (env := envX name scope L a cd cl) (P₅.keeps F₅.keep).g (mg_of X₅ P₅.g ex) ?_) hd)) (by intro z; cases z)
  refine wpAny_excMatches_sub_self (F₅.keep _ _ hC) hob hobc hbase (codeAny_handlers_suite_as ?_)
  refine lands_againW held₅ fun h₆ fl₆ sm₆ => ?_
  have up₆ := up₅.trans sm₆
  obtain ⟨g₆, T₆, F₆, K₆⟩ := ground fl₆.1 up₆
  obtain ⟨oe, ws, hoe, hoec, hoed, hoe0⟩ := fl₆.first
  obtain ⟨ot, nt, hot, hotc, hotd⟩ := (htup.of_slots (sm₄.trans sm₅)).of_slots sm₆
  have ne₆ : g₆.get? e = none := T₆.none_ _ (fresh fl₆.2.1 fun o ho hm => by
    obtain ⟨_, o', ho', hd'⟩ := K.frames.mem hm
    rw [ho] at ho'
    cases ho'
    obtain ⟨sl, hs⟩ := up₆ _ _ (F.keep _ _ ho) hd'
    rw [hoe] at hs
    cases hs
    exact hd' _ hoed)
  have nt₆ : g₆.get? t = none := T₆.none_ _ (fresh hnew fun o ho hm => by
    obtain ⟨o', es, n', ho', hd'⟩ := D _ hm
    rw [ho] at ho'
    cases ho'
    obtain ⟨sl, hs⟩ := up₆ _ _ (F.keep _ _ ho) (fun vs z => by rw [hd'] at z; cases z)
    rw [hot] at hs
    cases hs
    cases hd'.symm.trans hotd)
  have N₆ := News.more F₆ (News.more F₆ News.nil hot (fun es n z => by rw [hotd] at z; cases z) nt₆) hoe (fun es n z => by rw [hoed] at z; cases z) ne₆
  have Nl : News g₆ L h₆ news := fun z hz => ⟨fl₆.1 _ _ (hl z hz).1, (fun y => by have := (hl z hz).1; rw [y, hL] at this; cases this), T₆.none_ _ (kts_none F.keep (hl z hz).2.1)⟩
  refine storeX_L F₆ (news := _ ++ news) (fun z hz => (List.mem_append.mp hz).elim (N₆ z) (Nl z)) (fun h₇ F₇ N₇ => ?_) hk hlo
  exact k h₇ g₆ _ _ ⟨T0.trans T₆, K₆, XB.keeps K₆.stays, TB.keeps K₆.stays, D.turn T₆⟩ F₇ (fun z hz => N₇ z (List.mem_append_left _ hz)) ⟨oe, ot, ws, nt, .head _, .tail _ (.head _), hoec, hoed, hoe0, hotc, hotd⟩ (fun z hz => N₇ z (List.mem_append_right _ hz))
end
end
section
open PySem PySem.W PySem.Calls PySem.Spec PyProof.Rows
section
variable {prog : Program} {w : World} {A₀ A : Around} {s : Shared} {base h₀ g₀ : Heap} {outer : List Env} {L : Addr} {m : Str → Option Value} {env : Env} {news : Led} {K : Frag} {p : Program} {loose : List Str} {mean : ExcName → Option Value} {mg mb : Str → Option Value}
  {R : Result → Shared → Prop} {name qual : Str} {params : Arguments} {body : List Stmt} {scope : Scope} {dV kV doc pm cdv ct oc : Value} {an od : Option Addr} {osl : Array (Option Value)} {f : Addr} {args : Args} {binds : List (Str × Value)}
/-- the way back out of a def in which an exception was caught -/
def LeaveG (K : Frag) (p : Program) (loose : List Str) (mean : ExcName → Option Value) (mg mb : Str → Option Value) (A₀ : Around) (base : Heap) (env : Env) (outer : List Env) (g₀ : Heap) (L : Addr) (m : Str → Option Value) (g : Heap) (R : Result → Shared → Prop) (v : Value) (s' : Shared) : Prop :=
  ∃ g' L' m' news', KtsTurn ((env :: outer).filterMap (·.frame)) g g' ∧ Fr g' L' s'.heap m' ∧ News g' L' s'.heap news' ∧
    ∀ h₁, Gnd K p loose mean mg mb A₀ base outer g₀ h₁ → Fr h₁ L s'.heap m → News h₁ L s'.heap news' → R (.ok (.ret v)) s'
theorem leaveG_back {g : Heap} {v : Value} {s' : Shared} (B : Below A₀ base outer h₀) (F : Fr h₀ L s.heap m) (XB : K.In base) (TB : Top p loose mean mg mb base) (D : KtsDicts (outer.filterMap (·.frame)) h₀) (T0 : KtsTurn (outer.filterMap (·.frame)) g₀ h₀) (hf : env.frame = some L)
    (FG : Fr h₀ L g m) (st : h₀.StaysIn g) (l : LeaveG K p loose mean mg mb A₀ base env outer g₀ L m g R v s') : R (.ok (.ret v)) s' := by
  obtain ⟨g', L', m', news', T', F', N', k⟩ := l
  obtain ⟨oL, es, ep, hLg, hLd, hLk, hLf⟩ := FG.ns
  have nL : h₀.get? L = none := kts_self F
  have hfs : (env :: outer).filterMap (·.frame) = L :: outer.filterMap (·.frame) := List.filterMap_cons_some hf
  rw [hfs] at T'
  obtain ⟨sl, hs⟩ := T'.up hLg
  obtain ⟨T₁, S₁⟩ := kts_turn_at (h := s'.heap) (fs := outer.filterMap (·.frame)) (g := h₀)
    (fun b hb => let ⟨_, o, ho, _⟩ := B.frames.mem hb; ⟨o, ho⟩)
    (fun b o e nm => F'.keep b o (T'.other b o (st b o e) fun q => by
      rcases List.mem_cons.mp q with rfl | q
      · rw [nL] at e; cases e
      · exact nm q))
    (fun b o e _ => let ⟨sl', hs'⟩ := T'.up (st b o e); ⟨sl', F'.keep _ _ hs'⟩)
  have B₁ : Below A₀ base outer (ktsHeap s'.heap (outer.filterMap (·.frame)) h₀) := by
    refine ⟨B.stack, fun b o e => T₁.other b o (B.stays b o e) fun hm => ?_, B.frames.of_keeps fun b o e _ => ?_⟩
    · rw [(B.frames.mem hm).1] at e; cases e
    · obtain ⟨sl', hs'⟩ := T₁.up e
      exact ⟨_, hs', rfl⟩
  refine k _ ⟨T0.trans T₁, B₁, XB.keeps B₁.stays, TB.keeps B₁.stays, D.turn T₁⟩ ⟨⟨_, es, ep, F'.keep _ _ hs, hLd, hLk, hLf⟩, S₁, by rw [T₁.size]; exact F.above⟩ fun q hq => ⟨(N' q hq).1, fun z => ?_, T₁.none_ _ ?_⟩
  · have := (N' q hq).2.2
    rw [z, hs] at this; cases this
  · cases z : h₀.get? q.1 with
    | none => rfl
    | some o =>
      obtain ⟨sl', hs'⟩ := T'.up (st _ _ z)
      have := (N' q hq).2.2
      rw [hs'] at this; cases this
theorem dicts_in {g : Heap} (FG : Fr h₀ L g m) (D : KtsDicts (outer.filterMap (·.frame)) h₀) (st : h₀.StaysIn g) (hf : env.frame = some L) : KtsDicts ((env :: outer).filterMap (·.frame)) g := by
  rw [show (env :: outer).filterMap (·.frame) = L :: outer.filterMap (·.frame) from List.filterMap_cons_some hf]
  intro b hb
  rcases List.mem_cons.mp hb with rfl | hb
  · obtain ⟨oL, es, ep, hLg, hLd, _⟩ := FG.ns
    exact ⟨oL, es, ep, hLg, hLd⟩
  · obtain ⟨o, es, n, ho, hd⟩ := D b hb
    exact ⟨o, es, n, st b o ho, hd⟩
theorem code_defG (B : Below A₀ base outer h₀) (F : Fr h₀ L s.heap m) (X₀ : K.In h₀) (N : News h₀ L s.heap news) (T : Top p loose mean mg mb h₀) (XB : K.In base) (TB : Top p loose mean mg mb base) (D : KtsDicts (outer.filterMap (·.frame)) h₀) (T0 : KtsTurn (outer.filterMap (·.frame)) g₀ h₀)
    (hA : A.frames = some (env :: outer)) (hf : env.frame = some L) (hke : env.scope.kind = .function)
    (ho : K.lookup f = some ⟨oc, od, .func (fnOf name qual params body scope dV kV doc pm an cdv ct), osl⟩) (hcd : codeIn K cdv qual = true) (hroom : A.depth < recursionLimit)
    (hbind : BindsTo s (fnOf name qual params body scope dV kV doc pm an cdv ct) args binds) (hkind : (binds.all fun y => scope.names.lookup y.1 == some .local || scope.names.lookup y.1 == some .cell) = true)
    (hnd : ((cellsFrom 0 scope.names []).map (·.1)).Nodup)
    (h : ∀ g L' h₁ tk cells, Fr h₀ L g m → Fr g L' h₁ (bindL (envOfC qual scope L' f cdv).kindOf binds fun _ => none) → News g L' h₁ (cells ++ news) →
      CellsAre (bindC (envOfC qual scope L' f cdv).kindOf binds fun _ => none) (cellsFrom (L' + 1) scope.names []) cells → Below A base (env :: outer) g → K.In g → Top p loose mean mg mb g → KtsDicts ((env :: outer).filterMap (·.frame)) g → (∀ p ∈ news, p.1 < L') →
      wpAny (model prog w) (A.deeper (envOfC qual scope L' f cdv)) (execs body (envOfC qual scope L' f cdv))
        (fun fl s' => LeaveG K p loose mean mg mb A₀ base env outer g₀ L m g R (match fl with | .ret v => v | _ => .none) s')
        (fun e s' => wpAny (model prog w) (A.deeper (envOfC qual scope L' f cdv)) (leaving (envOfC qual scope L' f cdv) e) (fun _ s'' => R (.error e) s'') (fun e' s'' => R (.error e') s'') s')
        { s with heap := h₁, toks := tk })
    (hco : scope.isCoroutine = false) (hgen : scope.isGenerator = false) (hk : scope.kind = .function) : codeAny (model prog w) A (.call (.ref f) args) R s := by
  obtain ⟨FG, BG, st, _⟩ := groundX (R := R) B F N hA hf hke
  refine codeAny_call_function hroom ((X₀.keeps F.keep) _ _ ho) rfl hco hgen rfl (codeRec_of (X₀.keeps F.keep) hcd) (hbind _ _ _ _ ?_)
  refine wpAny_newFunctionEnv_cells hk (kindsX hkind _) fun env' he s' x => ?_
  subst he
  refine ⟨(T.nolimit.keeps F.keep).keeps x.toInCall.keep, codeAny_func ?_⟩
  obtain ⟨h₁, tk, rfl, _⟩ := x.done
  have hk₁ := x.toInCall.keep
  obtain ⟨cells, NC, Y⟩ := Cl.news (h₀ := s.heap) (Nat.le_refl _) fun n c hm => ⟨x.cell n c (lookup_of_mem_nodup (cellsFrom_names scope.names 0 (s.heap.objs.size + 1) [] [] rfl ▸ hnd) hm), x.above n c hm⟩
  refine wpAny_mono (h _ s.heap.objs.size h₁ tk cells FG ⟨x.toInCall.ns, fun b o e => hk₁ b o (of_hideAll _ e), Nat.le_of_eq (hideAll_size _ _)⟩ (fun q hq => ?_) Y BG (X₀.keeps st) (T.keeps st) (dicts_in FG D st hf) (fun q hq => Heap.lt_size (N q hq).1))
    (fun fl s' hl => leaveG_back B F XB TB D T0 hf FG st hl) fun _ _ y => y
  rcases List.mem_append.mp hq with hq | hq
  · refine ⟨(NC q hq).1, (NC q hq).2.1, ?_⟩
    cases z : (hideAll s.heap (news.map (·.1))).get? q.1 with
    | none => rfl
    | some o => have := of_hideAll _ z; rw [(NC q hq).2.2] at this; cases this
  · exact ⟨hk₁ _ _ (N q hq).1, Nat.ne_of_lt (Heap.lt_size (N q hq).1), hideAll_none _ (List.mem_map_of_mem hq)⟩
end
end
section
open PySem PySem.W PySem.Calls PySem.Spec PyProof.Rows
open Builtin Builtin.Str Builtin.BaseException Builtin.Exceptions
/-- an exception of the text's own, with its arguments' tuple -/
def OwnExc (h : Heap) (e C t : Addr) (vs : List Value) : Prop := (∃ o ws, h.get? e = some o ∧ o.cls = .ref C ∧ o.data = .fields ws ∧ ws[0]? = some (.ref t)) ∧ h.TupAt t vs
theorem ownExc_of {h₀ h : Heap} {L e t C : Addr} {news : Led} {vs : List Value} (N : News h₀ L h news) (G : Got news e t (.ref C) vs) : OwnExc h e C t vs := by
  obtain ⟨oe, ot, ws, nt, h1, h2, hc, hd, h0, hcT, hdT⟩ := G
  exact ⟨⟨oe, ws, (N _ h1).1, hc, hd, h0⟩, ot, nt, (N _ h2).1, hcT, hdT⟩
section
variable {prog : Program} {w : World} {A : Around} {E : Value → Shared → Prop} {s : Shared} {e t C : Addr} {K : Frag} {m : Str} {u : Tok}
theorem own_bexcArgs {M : Model} {vs : List Value} {Q : Value × List Value → Shared → Prop} (x : OwnExc s.heap e C t vs) (hq : Q (.ref t, vs) s) : wpAny M A (bexcArgs (.ref e)) Q E s := by
  obtain ⟨⟨o, ws, ho, _, hd, h0⟩, ot, k, hto, _, htd⟩ := x
  unfold bexcArgs
  refine wpAny_bind (wpAny_field ho hd h0 (wpAny_bind (wpAny_seqItems hto htd ?_)))
  have : vs.toArray.toList = vs := by simp
  show wpAny M A (pure (Value.ref t, vs.toArray.toList)) Q E s
  rw [this]; exact wpAny_pure hq
theorem own_str_entry {Q : Fin → Shared → Prop} (x : OwnExc s.heap e C t [.str m u]) (hq : Q (.done (.ret (.str m u))) s) : wpAny (model prog w) A (Builtin.«BaseException.__str__» ⟨[.ref e], []⟩) Q E s := by
  unfold Builtin.«BaseException.__str__»
  repeat (first | with_reducible refine own_bexcArgs x ?_ | wp_step)
  exact hq
theorem own_type {M : Model} {vs : List Value} (x : OwnExc s.heap e C t vs) : Looks M s.heap (typeOf (.ref e)) (.ref C) := by
  obtain ⟨⟨o, ws, ho, hc, _⟩, _⟩ := x
  rw [← hc]
  exact (Looks.ld ho).andThen .now
theorem own_check {Q : Unit → Shared → Prop} {vs : List Value} (X : K.In s.heap) (x : OwnExc s.heap e C t vs) (hb : subIn K (.ref C) (.type "BaseException") = some true) (hq : Q () s) : wpAny (model prog w) A (checkBuiltinCall "BaseException.__str__" ⟨[.ref e], []⟩) Q E s := by
  unfold checkBuiltinCall
  rw [show builtinKind "BaseException.__str__" = some .slot from by kernel_rfl, show splitId "BaseException.__str__" = some ("BaseException", "__str__") from by kernel_rfl]
  dsimp only
  refine wpAny_bind ?_
  simp only [isInstance]
  refine wpAny_bind ((own_type x).here ((looks_subIn X hb).here ?_))
  simp only [Bool.not_true, Bool.false_eq_true, if_false]
  have ha := F.args_bexc_str (.ref e)
  unfold argsOk at ha
  cases hsig : Manifest.signature? "BaseException.__str__" with
  | none => exact wpAny_pure hq
  | some sig =>
    rw [hsig] at ha
    have h2 : Bind.checkArgs "BaseException.__str__" sig ⟨[.ref e], []⟩ = pure () := ha
    show wpAny _ A (Bind.checkArgs "BaseException.__str__" sig ⟨[.ref e], []⟩) Q E s
    rw [h2]; exact wpAny_pure hq
theorem own_strOf (X : K.In s.heap) (x : OwnExc s.heap e C t [.str m u]) (hs : findIn K (.ref C) "__str__" = some (some (.builtin "BaseException.__str__"))) (hb : subIn K (.ref C) (.type "BaseException") = some true) (hu : A.units < cLine) {Q : Value → Shared → Prop} (hq : Q (.str m u) s) :
    wpAny (model prog w) A (PySem.Builtin.Str.strOf (.ref e)) Q E s := by
  unfold PySem.Builtin.Str.strOf
  rw [show isExactStr (.ref e) = false from rfl]
  refine wpAny_bind (m := cRoomFor _ _) (wpAny_cRoomFor hu ?_)
  refine wpAny_bind (m := callSpecial? (.ref e) (Str.ofString "__str__")) ?_
  simp only [callSpecial?]
  refine wpAny_bind ?_
  unfold specialOf
  refine wpAny_bind ((own_type x).here ((looks_findIn X hs).here ?_))
  simp only [PySem.F.excStr_Exception.str.bind]
  refine wpAny_holding (wpAny_bind (wpAny_pure (wpAny_bind ?_)))
  refine wpAny_call (codeAny_call_builtin (by decide +kernel) F.entry_bexc_str (own_check X x hb ?_))
  refine own_str_entry x ?_
  exact wpAny_pure (by first | exact wpAny_pure hq | exact hq)
theorem str_own (X : K.In s.heap) (x : OwnExc s.heap e C t [.str m u]) (hs : findIn K (.ref C) "__str__" = some (some (.builtin "BaseException.__str__"))) (hb : subIn K (.ref C) (.type "BaseException") = some true) (hu : A.units + 2 < cLine) {Q : Value → Shared → Prop} (hq : Q (.str m u) s) :
    wpAny (model prog w) A (call (.type "str") [.ref e]) Q E s :=
  callType_new F.called_str (by decide) (F.typeCall_str_1 _) (F.newCall_str_1 _) (fun obj => F.args_object_init_2 obj _) F.entry_str_new
    (meets_str_new (S := fun A' R s' => A'.units + 1 < cLine ∧ K.In s'.heap ∧ OwnExc s'.heap e C t [.str m u] ∧ R (.ok (.ret (.str m u))) s')
      fun _ _ A' _ _ h => own_strOf (A := A'.in1) h.2.1 h.2.2.1 hs hb h.1 h.2.2.2)
    ⟨(show A.units + 1 + 1 < cLine from hu), X, x, typeIs_str _ _ _, hq⟩
end
end
section
open PySem PySem.W PySem.Calls PySem.Spec PyProof.Rows
/-! loops in which the ground may change (a caught exception leaves frame objects in the callers' frames) -/
def GEnd {σ : Type} (Gp : Heap → Prop) (L : Addr) (pre : Led) (ps : σ → List (Str × Value)) (ld : σ → Led) (Off : Addr → Prop) (P : σ → Prop) (s s₂ : Shared) : Prop :=
  ∃ (c : σ) (g h' : Heap) (tk : Nat) (m' : Str → Option Value), s₂ = { s with heap := h', toks := tk } ∧ Gp g ∧ Fr g L h' m' ∧ News g L h' (pre ++ ld c) ∧ (∀ p ∈ ld c, Off p.1) ∧ (∀ p ∈ ps c, m' p.1 = some p.2) ∧ P c
def GPost {σ : Type} (Gp : Heap → Prop) (L : Addr) (pre : Led) (ps : σ → List (Str × Value)) (ld : σ → Led) (Off : Addr → Prop) (P : σ → Prop) (s : Shared) (Q : Flow → Shared → Prop) (f : Flow) (s₂ : Shared) : Prop :=
  match f with
  | .ret v => Q (.ret v) s₂
  | .brk => Q .next s₂
  | _ => GEnd Gp L pre ps ld Off P s s₂
theorem gEnd {σ : Type} {Gp : Heap → Prop} {g : Heap} {L : Addr} {pre : Led} {ps : σ → List (Str × Value)} {ld : σ → Led} {Off : Addr → Prop} {P : σ → Prop} {s : Shared} {h' : Heap} {tk : Nat} {m' : Str → Option Value} {news' : Led} (c : σ)
    (hg : Gp g) (F : Fr g L h' m') (N : News g L h' news') (hs : ∀ p ∈ pre ++ ld c, p ∈ news') (ho : ∀ p ∈ ld c, Off p.1) (hk : ∀ p ∈ ps c, m' p.1 = some p.2) (hp : P c) :
    GEnd Gp L pre ps ld Off P s { s with heap := h', toks := tk } := ⟨c, g, h', tk, m', rfl, hg, F, fun p hp => N p (hs p hp), ho, hk, hp⟩
section
variable {prog : Program} {w : World} {A : Around} {E : Value → Shared → Prop} {s : Shared} {env : Env} {L : Addr} {x : Str} {px : Pos} {body : List Stmt} {Q : Flow → Shared → Prop}
theorem loopG {σ : Type} {I : Addr} {fp : List Addr} {n : Nat} {Pv : Nat → Value → Prop} {St : Nat → Heap → Prop} {m₀ : Str → Option Value} {Gp : Heap → Prop} {g₀ : Heap} {oI₀ : Obj} (ps : σ → List (Str × Value)) (ld : σ → Led) (P : Nat → σ → Prop) (c₀ : σ)
    (W : Walks prog w A I fp [I] n Pv St) (hlive : ∀ i h, St i h → ∃ o, h.get? I = some o)
    (hown : ∀ (c : σ) b, b ∈ fp → b = I ∨ ∃ o, (b, o) ∈ ld c ∧ ∀ c' : σ, (b, o) ∈ ld c')
    (hst : St 0 s.heap) (hg : Gp g₀) (F : Fr g₀ L s.heap m₀) (N : News g₀ L s.heap ((I, oI₀) :: ld c₀)) (hne : ∀ p ∈ ld c₀, p.1 ≠ I) (hk : ∀ p ∈ ps c₀, m₀ p.1 = some p.2) (hp : P 0 c₀)
    (turn : ∀ i v (c : σ) (u : Str → Option Value) g oI h tk, i < n → Pv i v → P i c → (∀ p ∈ ld c, p.1 ≠ I) → Gp g → Fr g L h (kstB u (ps c)) → News g L h ((I, oI) :: ld c) →
      wpAny (model prog w) A (assign (.Name x px) env v) (fun _ s₂ => wpAny (model prog w) A (execs body env) (GPost Gp L [(I, oI)] ps ld (fun a => a ≠ I) (P (i + 1)) { s with heap := h, toks := tk } Q) E s₂) E { s with heap := h, toks := tk })
    (done : ∀ (c : σ) (u : Str → Option Value) g h tk, P n c → Gp g → Fr g L h (kstB u (ps c)) → News g L h (ld c) → Q .next { s with heap := h, toks := tk }) :
    LoopG prog w A env x px body (.ref I) E Q s := by
  let J : Nat → Shared → Prop := fun i s' => ∃ (c : σ) (g h : Heap) (tk : Nat) (m' : Str → Option Value) (oI : Obj), s' = { s with heap := h, toks := tk } ∧ Gp g ∧ Fr g L h m' ∧ News g L h ((I, oI) :: ld c) ∧ (∀ p ∈ ld c, p.1 ≠ I) ∧ St i h ∧ (∀ p ∈ ps c, m' p.1 = some p.2) ∧ P i c
  refine ⟨fun k s' => ∃ i, k = n - i ∧ i ≤ n ∧ J i s', n, ⟨0, rfl, Nat.zero_le _, c₀, g₀, s.heap, s.toks, m₀, oI₀, rfl, hg, F, N, hne, hst, hk, hp⟩, ?_⟩
  rintro k s' ⟨i, rfl, hi, c, g, h, tk, m', oI, rfl, hG, F', N', hne', hst', hk', hp'⟩
  have hIL := (N' (I, oI) (.head _)).2.1
  have hIg := (N' (I, oI) (.head _)).2.2
  have N1 : News g L h (ld c) := fun p hp => N' p (List.mem_cons_of_mem _ hp)
  by_cases hin : i < n
  · refine forTurn_of (P := fun f s₃ => match f with | .ret v => Q (.ret v) s₃ | .brk => Q .next s₃ | _ => J (i + 1) s₃) ?_ ?_
    · refine W.item i _ _ _ hin hst' fun v h' tk' hv hst2 hkeep => ?_
      obtain ⟨oI', hoI'⟩ := hlive _ _ hst2
      have F2 : Fr g L h' (kstB m' (ps c)) := by
        rw [kstB_id hk']
        exact LCg.fr_but F' hkeep (Ne.symm hIL) hIg
      have N2 : News g L h' ((I, oI') :: ld c) := by
        intro p hp
        rcases List.mem_cons.mp hp with rfl | hp
        · exact ⟨hoI', hIL, hIg⟩
        · exact LCg.news_but N1 hkeep hne' p hp
      refine wpAny_mono (turn i v c m' g oI' h' tk' hin hv hp' hne' hG F2 N2) (fun _ s₂ h₂ => wpAny_mono h₂ (fun f s₃ h₃ => ?_) fun _ _ e => e) fun _ _ e => e
      have fin : GEnd Gp L [(I, oI')] ps ld (fun a => a ≠ I) (P (i + 1)) { s with heap := h', toks := tk' } s₃ → J (i + 1) s₃ := by
        rintro ⟨c', g', h'', tk'', m'', e, hG', F'', N'', ho'', hk'', hp''⟩
        refine ⟨c', g', h'', tk'', m'', oI', e, hG', F'', N'', ho'', W.frame _ _ _ hst2 fun b hb o ho => ?_, hk'', hp''⟩
        rcases hown c b hb with rfl | ⟨o1, ho1, ho2⟩
        · rw [hoI'] at ho
          cases ho
          exact (N'' (b, oI') (.head _)).1
        · have := (N2 (b, o1) (List.mem_cons_of_mem _ ho1)).1
          rw [ho] at this
          cases this
          exact (N'' (b, _) (List.mem_cons_of_mem _ (ho2 c'))).1
      cases f with
      | ret v => exact h₃
      | brk => exact h₃
      | next => exact fin h₃
      | cont => exact fin h₃
    · intro f s₃ h₃
      have fin : J (i + 1) s₃ → ∃ k, k < n - i ∧ ∃ i, k = n - i ∧ i ≤ n ∧ J i s₃ := fun hJ => ⟨n - (i + 1), by omega, i + 1, rfl, hin, hJ⟩
      cases f with
      | ret v => exact h₃
      | brk => exact h₃
      | next => exact fin h₃
      | cont => exact fin h₃
  · have hin' : i = n := by omega
    subst hin'
    refine forTurn_of (P := fun _ _ => False) ?_ (fun f s₃ h => h.elim)
    refine W.done _ _ _ hst' fun h' tk' hkeep => ?_
    refine done c m' g h' tk' hp' hG ?_ (LCg.news_but N1 hkeep hne')
    rw [kstB_id hk']
    exact LCg.fr_but F' hkeep (Ne.symm hIL) hIg
theorem iterG_range {σ : Type} {r : Addr} {n : Nat} {t₀ u₀ v₀ : Tok} {m₀ : Str → Option Value} {Gp : Heap → Prop} {g₀ : Heap} (ps : σ → List (Str × Value)) (ld : σ → Led) (P : Nat → σ → Prop) (c₀ : σ)
    (hh : A.handled = none) (hr : IsRange s.heap r 0 (n : Int) 1 t₀ u₀ v₀) (hsmall : Builtin.Range.small 0 (n : Int) 1 = true) (hn : Builtin.Range.rangeSize 0 (n : Int) 1 = (n : Int)) (hg : Gp g₀) (F : Fr g₀ L s.heap m₀) (N : News g₀ L s.heap (ld c₀)) (hk : ∀ p ∈ ps c₀, m₀ p.1 = some p.2) (hp : P 0 c₀)
    (turn : ∀ (i : Nat) t I (c : σ) (u : Str → Option Value) g oI h tk, i < n → P i c → (∀ p ∈ ld c, p.1 ≠ I) → Gp g → Fr g L h (kstB u (ps c)) → News g L h ((I, oI) :: ld c) →
      wpAny (model prog w) A (assign (.Name x px) env (.int (i : Int) t)) (fun _ s₂ => wpAny (model prog w) A (execs body env) (GPost Gp L [(I, oI)] ps ld (fun a => a ≠ I) (P (i + 1)) { s with heap := h, toks := tk } Q) E s₂) E { s with heap := h, toks := tk })
    (done : ∀ (c : σ) (u : Str → Option Value) g h tk, P n c → Gp g → Fr g L h (kstB u (ps c)) → News g L h (ld c) → Q .next { s with heap := h, toks := tk }) :
    wpAny (model prog w) A (pyIter (.ref r)) (fun it s₂ => LoopG prog w A env x px body it E Q s₂) E s := by
  refine wpAny_pyIter_range hr hsmall ?_
  have W : Walks prog w A s.heap.objs.size [s.heap.objs.size] [s.heap.objs.size] n (fun i v => i < n ∧ ∃ t, v = .int (0 + i * 1) t)
      (fun i h => IsRangeIter h s.heap.objs.size (0 + (i : Nat) * 1) ((n : Int) - (i : Nat)) 1) := (Walks.range hh _ 0 1 n).bound
  have hnew := next_is_new F
  have hI0 : s.heap.objs.size ≠ L := fun e => absurd F.ns.lt (e ▸ Nat.lt_irrefl _)
  refine loopG (Gp := Gp) (oI₀ := { cls := .type "range_iterator", data := .fields #[rawInt 0, rawInt (Builtin.Range.rangeSize 0 (n : Int) 1), rawInt 1] }) ps ld P c₀ W ?_ ?_ (by show IsRangeIter _ _ _ _ _; rw [hn]; simpa using Heap.get?_push_size _ rfl) hg (F.push _) (fun p hp => ?_) ?_ hk hp ?_ done
  · intro i h hs
    exact ⟨_, hs⟩
  · intro c b hb
    exact .inl (List.mem_singleton.mp hb)
  · rcases List.mem_cons.mp hp with rfl | hp
    · exact ⟨Heap.get?_push_size _ rfl, hI0, hnew⟩
    · exact ⟨Heap.get?_push_of_some _ (N p hp).1, (N p hp).2⟩
  · intro p hp e
    exact absurd (Heap.lt_size (N p hp).1) (e ▸ Nat.lt_irrefl _)
  · rintro i v c u g oI h tk hi ⟨_, t, rfl⟩ hP hoff hg' F₁ N₁
    have e1 : (0 : Int) + (i : Int) * 1 = (i : Int) := by omega
    rw [e1]
    exact turn i t _ c u g oI h tk hi hP hoff hg' F₁ N₁
theorem iterG_list {σ : Type} {l : Addr} {vs : List Value} {nn : Nat} {m₀ : Str → Option Value} {Gp : Heap → Prop} {g₀ : Heap} (ps : σ → List (Str × Value)) (ld : σ → Led) (P : Nat → σ → Prop) (c₀ : σ)
    (hh : A.handled = none) (hl : ∀ c : σ, (l, W.listOf vs.toArray nn) ∈ ld c) (hg : Gp g₀) (F : Fr g₀ L s.heap m₀) (N : News g₀ L s.heap (ld c₀)) (hk : ∀ p ∈ ps c₀, m₀ p.1 = some p.2) (hp : P 0 c₀)
    (turn : ∀ (i : Nat) v I (c : σ) (u : Str → Option Value) g oI h tk, vs[i]? = some v → P i c → (∀ p ∈ ld c, p.1 ≠ I) → Gp g → Fr g L h (kstB u (ps c)) → News g L h ((I, oI) :: ld c) →
      wpAny (model prog w) A (assign (.Name x px) env v) (fun _ s₂ => wpAny (model prog w) A (execs body env) (GPost Gp L [(I, oI)] ps ld (fun a => a ≠ I) (P (i + 1)) { s with heap := h, toks := tk } Q) E s₂) E { s with heap := h, toks := tk })
    (done : ∀ (c : σ) (u : Str → Option Value) g h tk, P vs.length c → Gp g → Fr g L h (kstB u (ps c)) → News g L h (ld c) → Q .next { s with heap := h, toks := tk }) :
    wpAny (model prog w) A (pyIter (.ref l)) (fun it s₂ => LoopG prog w A env x px body it E Q s₂) E s := by
  have hls : s.heap.IsList l vs.toArray := ⟨_, (N _ (hl c₀)).1, rfl, nn, rfl⟩
  have hne : l ≠ s.heap.objs.size := Nat.ne_of_lt (Heap.lt_size (N _ (hl c₀)).1)
  refine wpAny_pyIter_list hls ?_
  have W := Walks.list (prog := prog) (w := w) hh s.heap.objs.size l hne vs.toArray
  have e9 : vs.toArray.size = vs.length := by simp
  rw [e9] at W
  have hnew := next_is_new F
  have hI0 : s.heap.objs.size ≠ L := fun e => absurd F.ns.lt (e ▸ Nat.lt_irrefl _)
  refine loopG (Gp := Gp) (oI₀ := { cls := .type "list_iterator", data := .fields #[.ref l, .int 0 0] }) ps ld P c₀ W ?_ ?_ ⟨⟨_, Heap.get?_push_size _ rfl, rfl, rfl⟩, hls.at fun o e => Heap.get?_push_of_some _ e⟩ hg (F.push _) (fun p hp => ?_) ?_ hk hp ?_ done
  · rintro i h ⟨⟨o, ho, _⟩, _⟩
    exact ⟨o, ho⟩
  · intro c b hb
    rcases List.mem_cons.mp hb with e | hb
    · exact .inl e
    · rw [List.mem_singleton.mp hb]; exact .inr ⟨_, hl c, hl⟩
  · rcases List.mem_cons.mp hp with rfl | hp
    · exact ⟨Heap.get?_push_size _ rfl, hI0, hnew⟩
    · exact ⟨Heap.get?_push_of_some _ (N p hp).1, (N p hp).2⟩
  · intro p hp e
    exact absurd (Heap.lt_size (N p hp).1) (e ▸ Nat.lt_irrefl _)
  · rintro i v c u g oI h tk hi hv hP hoff hg' F₁ N₁
    exact turn i v _ c u g oI h tk (by simpa using hv) hP hoff hg' F₁ N₁
end
end
section
open PySem PySem.W PySem.Calls PySem.Spec PyProof.Rows
/-- a call of a def of the text in which exceptions may be caught: the callers' frames may hold their frame objects afterwards -/
def DoesG (w : World) (p : Program) (loose : List Str) (mean : ExcName → Option Value) (mg mb : Str → Option Value) (kd ku : Nat) (f : Addr) (news : Led) (vs : List Value) (Post : Value → Led → Prop) : Prop :=
  ∀ (dp un : Nat) (gd : Option (List Code)) (cn : Str) (cs : Scope) (a : Addr) (ccd : Value) (cl : List (Str × Addr)) (outer : List Env) (A₀ : Around) (base h₀ : Heap) (L : Addr) (m : Str → Option Value) (s : Shared) (Q E : Value → Shared → Prop),
    Below A₀ base outer h₀ → Fr h₀ L s.heap m → (hd.heap_39 w.params).In h₀ → News h₀ L s.heap news → Top p loose mean mg mb h₀ → (hd.heap_39 w.params).In base → Top p loose mean mg mb base → KtsDicts (outer.filterMap (·.frame)) h₀ → cs.kind = .function → dp + kd < recursionLimit → un + ku < cLine →
    (∀ h₁ r news' h' tk', Gnd (hd.heap_39 w.params) p loose mean mg mb A₀ base outer h₀ h₁ → Fr h₁ L h' m → News h₁ L h' news' → Post r news' → Q r { s with heap := h', toks := tk' }) →
    wpAny (model PySem.Challenge.rw_pm0007_01.row.prog w) (ktrTop dp un gd cn cs L a ccd cl outer) (call (.ref f) vs) Q E s
section
variable {prog : Program} {w : World} {A₀ A : Around} {s : Shared} {base h₀ g₀ : Heap} {outer : List Env} {L : Addr} {m : Str → Option Value} {env : Env} {news : Led} {K : Frag} {p : Program} {loose : List Str} {mean : ExcName → Option Value} {mg mb : Str → Option Value}
  {R : Result → Shared → Prop} {name qual : Str} {params : Arguments} {body : List Stmt} {scope : Scope} {dV kV doc pm cdv ct oc : Value} {an od : Option Addr} {osl : Array (Option Value)} {f : Addr} {args : Args} {binds : List (Str × Value)}
theorem code_defGp (B : Below A₀ base outer h₀) (F : Fr h₀ L s.heap m) (X₀ : K.In h₀) (N : News h₀ L s.heap news) (T : Top p loose mean mg mb h₀) (XB : K.In base) (TB : Top p loose mean mg mb base) (D : KtsDicts (outer.filterMap (·.frame)) h₀) (T0 : KtsTurn (outer.filterMap (·.frame)) g₀ h₀)
    (hA : A.frames = some (env :: outer)) (hf : env.frame = some L) (hke : env.scope.kind = .function)
    (ho : K.lookup f = some ⟨oc, od, .func (fnOf name qual params body scope dV kV doc pm an cdv ct), osl⟩) (hcd : codeIn K cdv qual = true) (hroom : A.depth < recursionLimit)
    (hbind : BindsTo s (fnOf name qual params body scope dV kV doc pm an cdv ct) args binds) (hloc : ∀ y ∈ binds, scope.names.lookup y.1 = some .local)
    (h : ∀ g L' h₁, Fr h₀ L g m → Fr g L' h₁ (fun y => binds.reverse.lookup y) → News g L' h₁ news → Below A base (env :: outer) g → K.In g → Top p loose mean mg mb g → KtsDicts ((env :: outer).filterMap (·.frame)) g →
      wpAny (model prog w) (A.deeper (envOf qual scope L' f cdv)) (execs body (envOf qual scope L' f cdv))
        (fun fl s' => LeaveG K p loose mean mg mb A₀ base env outer g₀ L m g R (match fl with | .ret v => v | _ => .none) s')
        (fun e s' => wpAny (model prog w) (A.deeper (envOf qual scope L' f cdv)) (leaving (envOf qual scope L' f cdv) e) (fun _ s'' => R (.error e) s'') (fun e' s'' => R (.error e') s'') s')
        { s with heap := h₁, toks := s.toks + binds.length })
    (hco : scope.isCoroutine = false) (hgen : scope.isGenerator = false) (hk : scope.kind = .function)
    (hcell : ∀ x ∈ scope.names, x.2 ≠ .cell) : codeAny (model prog w) A (.call (.ref f) args) R s := by
  obtain ⟨FG, BG, st, _⟩ := groundX (R := R) B F N hA hf hke
  refine codeAny_call_def (fd := fnOf name qual params body scope dV kV doc pm an cdv ct) (body := body) (binds := binds) hroom ((X₀.keeps F.keep) _ _ ho) rfl (T.nolimit.keeps F.keep) (codeRec_of (X₀.keeps F.keep) hcd) rfl hbind hcell hloc (fun h₁ hns hk₁ => ?_) hco hgen hk
  exact wpAny_mono (h _ s.heap.objs.size h₁ FG ⟨hns, fun b o e => hk₁ b o (of_hideAll _ e), Nat.le_of_eq (hideAll_size _ _)⟩
    (fun q hq => ⟨hk₁ _ _ (N q hq).1, Nat.ne_of_lt (Heap.lt_size (N q hq).1), hideAll_none _ (List.mem_map_of_mem hq)⟩) BG (X₀.keeps st) (T.keeps st) (dicts_in FG D st hf))
    (fun fl s' hl => leaveG_back B F XB TB D T0 hf FG st hl) fun _ _ y => y
end
end
section
open PySem PySem.W PySem.Calls PySem.Spec PyProof.Rows
theorem sliceIdx_hi_clamp (l : Option Int) {j : Int} {len : Nat} (h : (len : Int) ≤ j) : Builtin.Str.strSliceIndices l (some j) 1 len = Builtin.Str.strSliceIndices l (some (len : Int)) 1 len := by
  have e1 : max (0 : Int) (min j (len : Int)) = len := by omega
  have e2 : max (0 : Int) (min (len : Int) (len : Int)) = len := by omega
  have e3 : ¬ j < 0 := by omega
  have e4 : ¬ (len : Int) < 0 := by omega
  unfold Builtin.Str.strSliceIndices
  simp only [if_neg e3, if_neg e4, e1, e2]
  simp [e1]
theorem cp_slice35 {x : Str} (h : 3 ≤ x.length) : cp (Txt.slice x (some 3) (some 5)) = ((cp x).drop 3).take 2 := by
  have hl : x.cps.toList.length = x.length := cp_len x
  by_cases h5 : 5 ≤ x.length
  · have e := StrLaws.sliceText_plain (x := x) (i := 3) (j := 5) ⟨by decide, by decide, by rw [hl]; omega⟩
    have e2 : Txt.slice x (some 3) (some 5) = StrLaws.sliceText x (some 3) (some 5) := rfl
    rw [e2, e]
    simp [cp]
  · have e2 : Txt.slice x (some 3) (some 5) = Txt.slice x (some 3) none := by
      show StrLaws.sliceText x (some 3) (some 5) = StrLaws.sliceText x (some 3) none
      unfold StrLaws.sliceText
      rw [sliceIdx_hi_clamp (some 3) (j := 5) (by omega), ← StrLaws.sliceIdx_none_hi]
    rw [e2, cp_slice_from (by decide) (by omega)]
    have : ((cp x).drop (Int.toNat 3)).length ≤ 2 := by rw [List.length_drop, cp_len]; show x.length - 3 ≤ 2; omega
    exact (List.take_of_length_le this).symm
theorem none_facts {y : Str} {l r : List Nat} (hc : cp y = l ++ r) (h0 : 3 ≤ y.length) (h3 : (l ++ r).take 3 = [50, 53, 55]) (h5 : ((l ++ r).drop 3).take 2 ≠ [32, 34]) :
    (Txt.slice y none (some 3) != Str.ofString "257") = false ∧ (Txt.slice y (some 3) (some 5) != Str.ofString " \"") = true := by
  constructor
  · have : Txt.slice y none (some 3) = Str.ofString "257" := by
      apply cp_inj
      rw [cp_slice_to (by decide) (by omega), hc]
      show (l ++ r).take 3 = _
      rw [h3]; decide +kernel
    simp [this]
  · have : Txt.slice y (some 3) (some 5) ≠ Str.ofString " \"" := by
      intro e
      have e2 := congrArg cp e
      rw [cp_slice35 h0, hc] at e2
      exact h5 (e2.trans (by decide +kernel))
    simp [this]
end
section
open PySem PySem.W PySem.Calls PySem.Spec PyProof.Rows
local macro_rules | `(tactic| walk_at "MY enterG") => `(tactic| (refine wpAny_call ?_; k_dflt (refine' code_defG ?k1 ?k2 ?k3 ?k4 ?k5 ?XB ?TB ?D ?T0 ?kA ?kF ?kK ?k6 ?k7 ?k8 ?k9 ?kB ?kD ?_ ?c2 ?c3 ?c4; (case kA => exact rfl); (case kF => exact rfl); (case kK => assumption); (case k1 => k_asm); (case k2 => k_asm); (case k3 => k_asm); (case k4 => k_asm); (case k5 => k_asm); (case XB => assumption); (case TB => assumption); (case D => assumption); (case T0 => exact KtsTurn.refl); (case k6 => k_is); (case k7 => k_is); (case k8 => ktr_room); (case k9 => exact BindsTo.of_eq rfl); (case kB => exact rfl); (case kD => decide +kernel); (case c2 => exact rfl); (case c3 => exact rfl); (case c4 => exact rfl); k_whole; intro g' L' h' tk' cells' FG' F' N' Y' B' X' T' D' l1; (try k_lt l1); k_cells Y'; (try simp only [List.cons_append, List.nil_append] at N'); (try dsimp only); (try k_lift B'); (try k_fold))))
theorem parse_none (w : World) (p : Program) (loose : List Str) (mean : ExcName → Option Value) (mg mb : Str → Option Value) (news : Led) (x : Str) (t : Tok) (hx : x.length ≤ 2000)
   (h3 : (Txt.slice x none (some 3) != Str.ofString "257") = false) (h5 : (Txt.slice x (some 3) (some 5) != Str.ofString " \"") = true) :
   Does w p loose mean mg mb 2 16 46 news [.str x t] (fun r news' => news' = news ∧ ∃ t', r = .str (Str.ofString "") t') := by
  k_with_none
  k_with "TPost" => (dsimp only [TPost])
  k_with "exec While Compare cons nil" => (k_extra "MyWhile")
  k_with "exec For Name Name cons nil" => (walk_at "MY for")
  k_with "exec For Name Call cons nil" => (walk_at "MY for")
  k_with "exec For Name List cons nil" => (walk_at "MY for")
  k_with "pyIter str" => (k_extra "MyIter")
  k_with "pyIter ref" => (k_extra "MyIter")
  k_with "call ref" => (k_extra "MyCall")
  k_with "call builtin:list.append" => (k_extra "MyAppend")
  k_with "callWith ref" => (k_here; first | (refine' callWith_K (by k_asm) (by k_is) ?_; k_whole) | (refine' callWith_K0 (by (first | (with_reducible assumption) | exact Frag.In.keeps (by with_reducible assumption) (Fr.keep (by with_reducible assumption)) | k_in)) (by k_is) ?_; k_whole) | ((refine' callWith_M0 (by k_meth) (by k_is) ?_; k_whole); try dsimp only [List.nil_append, List.cons_append]) | (refine' callWith_M (by k_asm) (by k_asm) (by k_mem) (by k_is) ?_; k_whole))
  k_with "exec For Name List cons nil" => (k_extra "MyFor")
  k_with "noteFrame ref" => (k_extra "MyNote")
  k_with "GPost" => (dsimp only [GPost])
  k_with "eval ListComp" => (k_extra "MyComp")
  k_with "binaryOp Mult ref int" => (k_extra "MyMul")
  k_with "compareOp Eq ref ref" => (k_extra "MyEq")
  k_with "CompEnd" => (k_extra "MyEnd")
  k_with "call type:str" => (k_extra "MyStr")
  k_with "bind" => (k_extra "MyBind")
  w_top off
  unfold Does
  k_fill
  intros dp un gd cn cs a ccd cl outer A₀ base h₀ L m s Q E iB iF iX iN iT ik id iu hret
  k_with_none
  k_with "TPost" => (dsimp only [TPost])
  k_with "exec While Compare cons nil" => (k_extra "MyWhile")
  k_with "exec For Name Name cons nil" => (walk_at "MY for")
  k_with "exec For Name Call cons nil" => (walk_at "MY for")
  k_with "exec For Name List cons nil" => (walk_at "MY for")
  k_with "pyIter str" => (k_extra "MyIter")
  k_with "pyIter ref" => (k_extra "MyIter")
  k_with "call ref" => (k_extra "MyCall")
  k_with "call builtin:list.append" => (k_extra "MyAppend")
  k_with "callWith ref" => (k_here; first | (refine' callWith_K (by k_asm) (by k_is) ?_; k_whole) | (refine' callWith_K0 (by (first | (with_reducible assumption) | exact Frag.In.keeps (by with_reducible assumption) (Fr.keep (by with_reducible assumption)) | k_in)) (by k_is) ?_; k_whole) | ((refine' callWith_M0 (by k_meth) (by k_is) ?_; k_whole); try dsimp only [List.nil_append, List.cons_append]) | (refine' callWith_M (by k_asm) (by k_asm) (by k_mem) (by k_is) ?_; k_whole))
  k_with "exec For Name List cons nil" => (k_extra "MyFor")
  k_with "noteFrame ref" => (k_extra "MyNote")
  k_with "GPost" => (dsimp only [GPost])
  k_with "eval ListComp" => (k_extra "MyComp")
  k_with "binaryOp Mult ref int" => (k_extra "MyMul")
  k_with "compareOp Eq ref ref" => (k_extra "MyEq")
  k_with "CompEnd" => (k_extra "MyEnd")
  k_with "call type:str" => (k_extra "MyStr")
  k_with "bind" => (k_extra "MyBind")
  walk_at "MY enter"
  rename Fr _ _ _ (fun y => List.lookup y _) => F
  replace F := fr_map F (m' := fun y => if y = Str.ofString "resp" then some (.str x t) else none) (fun y => look1 _ _ y)
  k_steps
  exact hret _ _ _ _ (by k_asm) (by k_asm) ⟨rfl, _, rfl⟩
local macro_rules | `(tactic| walk_at "exec Try cons cons nil nil") => `(tactic| (refine wpAny_Try_except ?_))
theorem name_goesX {M : Model} {A : Around} {E : Value → Shared → Prop} {s : Shared} {h₀ : Heap} {L a : Addr} {m : Str → Option Value} {name : Str} {scope : Scope} {cd : Value} {cl : List (Str × Addr)} {n : Str} {pos : Pos} {news : Led} {Q : Unit → Shared → Prop} (F : Fr h₀ L s.heap m) (N : News h₀ L s.heap news)
    (h : ∀ h' v, Fr h₀ L h' (fun x => if x = n then v else m x) → News h₀ L h' news → Q () { s with heap := h', toks := s.toks + 1 })
    (hk : scope.kind = .function) (hl : (envX name scope L a cd cl).kindOf n = some .local) :
    wpAny M A (do bindName (envX name scope L a cd cl) n .none; unbindBehindTheSuite (envX name scope L a cd cl) n pos) Q E s :=
  wpAny_nameGoes_keeps hl F.ns (by show (scope.kind == .class || (scope.kind == .module && L != mainGlobals)) = false; rw [hk]; rfl) fun h' v hn hs => h h' v (F.set hn hs) (N.set hs)
def isCode (c : Str) : Prop := c.length = 5 ∧ (Txt.slice c none (some 3) != Str.ofString "257") = true
theorem slice_app {c x : Str} (h : c.length = 5) : Txt.slice (c ++ x) none (some 3) = Txt.slice c none (some 3) := by
  apply cp_inj
  rw [cp_slice_to (by decide) (by rw [Str.length_append]; omega), cp_slice_to (by decide) (by omega), cp_append, List.take_append_of_le_length (by rw [cp_len, h]; decide)]
theorem codes6 {a b c d e f : Tok} {i : Nat} {v : Value} (h : [Value.str (Str.ofString "157 \"") a, .str (Str.ofString "247 \"") b, .str (Str.ofString "250 \"") c, .str (Str.ofString "258 \"") d, .str (Str.ofString "267 \"") e, .str (Str.ofString "357 \"") f][i]? = some v) :
    ∃ x t, v = .str x t ∧ isCode x := by
  have := List.mem_of_getElem? h
  simp only [List.mem_cons, List.not_mem_nil, or_false] at this
  rcases this with rfl | rfl | rfl | rfl | rfl | rfl
  all_goals exact ⟨_, _, rfl, by unfold isCode; decide +kernel⟩
theorem op5 (c x : Str) (h : cp c ∈ [[50, 53, 55, 45, 34], [50, 53, 55, 9, 34], [50, 53, 55, 32, 39], [50, 53, 55, 34], [50, 53, 55, 32, 32, 34]]) :
    (c ++ x).length ≤ x.length + 6 ∧ (Txt.slice (c ++ x) none (some 3) != Str.ofString "257") = false ∧ (Txt.slice (c ++ x) (some 3) (some 5) != Str.ofString " \"") = true := by
  have key : ∀ l : List Nat, cp c = l → 3 ≤ l.length → l.length ≤ 6 → (l ++ cp x).take 3 = [50, 53, 55] → ((l ++ cp x).drop 3).take 2 ≠ [32, 34] → (c ++ x).length ≤ x.length + 6 ∧ (Txt.slice (c ++ x) none (some 3) != Str.ofString "257") = false ∧ (Txt.slice (c ++ x) (some 3) (some 5) != Str.ofString " \"") = true := by
    intro l e h1 h2 h3 h5
    have hl : c.length = l.length := by rw [← cp_len, e]
    have hn := none_facts (y := c ++ x) (l := l) (r := cp x) (by rw [cp_append, e]) (by rw [Str.length_append]; omega) h3 h5
    exact ⟨by rw [Str.length_append]; omega, hn⟩
  simp only [List.mem_cons, List.not_mem_nil, or_false] at h
  rcases h with h | h | h | h | h <;> exact key _ h (by decide) (by decide) (by simp) (by simp)
theorem strict_does (w : World) (p : Program) (loose : List Str) (mean : ExcName → Option Value) (mg mb : Str → Option Value) (news : Led) (x : Str) (t : Tok) (hx : x.length ≤ 1000) :
   DoesG w p loose mean mg mb 8 200 135 news [.str x t] (fun r news' => news' = news ∧ r = .bool true) := by
  k_with_none
  k_with "TPost" => (dsimp only [TPost])
  k_with "exec While Compare cons nil" => (k_extra "MyWhile")
  k_with "exec For Name Name cons nil" => (walk_at "MY for")
  k_with "exec For Name Call cons nil" => (walk_at "MY for")
  k_with "exec For Name List cons nil" => (walk_at "MY for")
  k_with "pyIter str" => (k_extra "MyIter")
  k_with "pyIter ref" => (k_extra "MyIter")
  k_with "call ref" => (k_extra "MyCall")
  k_with "call builtin:list.append" => (k_extra "MyAppend")
  k_with "callWith ref" => (k_here; first | (refine' callWith_K (by k_asm) (by k_is) ?_; k_whole) | (refine' callWith_K0 (by (first | (with_reducible assumption) | exact Frag.In.keeps (by with_reducible assumption) (Fr.keep (by with_reducible assumption)) | k_in)) (by k_is) ?_; k_whole) | ((refine' callWith_M0 (by k_meth) (by k_is) ?_; k_whole); try dsimp only [List.nil_append, List.cons_append]) | (refine' callWith_M (by k_asm) (by k_asm) (by k_mem) (by k_is) ?_; k_whole))
  k_with "exec For Name List cons nil" => (k_extra "MyFor")
  k_with "noteFrame ref" => (k_extra "MyNote")
  k_with "GPost" => (dsimp only [GPost])
  k_with "eval ListComp" => (k_extra "MyComp")
  k_with "binaryOp Mult ref int" => (k_extra "MyMul")
  k_with "compareOp Eq ref ref" => (k_extra "MyEq")
  k_with "CompEnd" => (k_extra "MyEnd")
  k_with "call type:str" => (k_extra "MyStr")
  k_with "bind" => (k_extra "MyBind")
  w_top off
  unfold DoesG
  k_fill
  intros dp un gd cn cs a ccd cl outer A₀ base h₀ L m s Q E iB iF iX iN iT iXB iTB iD ik id iu hret
  have codeHd : CodeHd h₀ 129 125 := codeHd_of_K (c := 129) (P := 125) iX (by kernel_rfl)
  k_with_none
  k_with "TPost" => (dsimp only [TPost])
  k_with "exec While Compare cons nil" => (k_extra "MyWhile")
  k_with "exec For Name Name cons nil" => (walk_at "MY for")
  k_with "exec For Name Call cons nil" => (walk_at "MY for")
  k_with "exec For Name List cons nil" => (walk_at "MY for")
  k_with "pyIter str" => (k_extra "MyIter")
  k_with "pyIter ref" => (k_extra "MyIter")
  k_with "call ref" => (k_extra "MyCall")
  k_with "call builtin:list.append" => (k_extra "MyAppend")
  k_with "callWith ref" => (k_here; first | (refine' callWith_K (by k_asm) (by k_is) ?_; k_whole) | (refine' callWith_K0 (by (first | (with_reducible assumption) | exact Frag.In.keeps (by with_reducible assumption) (Fr.keep (by with_reducible assumption)) | k_in)) (by k_is) ?_; k_whole) | ((refine' callWith_M0 (by k_meth) (by k_is) ?_; k_whole); try dsimp only [List.nil_append, List.cons_append]) | (refine' callWith_M (by k_asm) (by k_asm) (by k_mem) (by k_is) ?_; k_whole))
  k_with "exec For Name List cons nil" => (k_extra "MyFor")
  k_with "noteFrame ref" => (k_extra "MyNote")
  k_with "GPost" => (dsimp only [GPost])
  k_with "eval ListComp" => (k_extra "MyComp")
  k_with "binaryOp Mult ref int" => (k_extra "MyMul")
  k_with "compareOp Eq ref ref" => (k_extra "MyEq")
  k_with "CompEnd" => (k_extra "MyEnd")
  k_with "call type:str" => (k_extra "MyStr")
  k_with "bind" => (k_extra "MyBind")
  walk_at "MY enterG"
  rename_i g9 L9 h9 tk9 FG9 F9 B9 X9 T9 D9 l9 o9 d19 N9
  k_with "Sub" => ((repeat (refine List.forall_mem_cons.mpr (And.intro ?_ ?_); k_mem)); (intro p hp; (repeat (first | exact hp | apply List.mem_cons_of_mem)); done))
  k_with "MyFor" => (refine' forG2 ?_ ?_ ?_)
  k_with "MyNote" => (
    first
    | (    refine' caught_X R8 F8 U8 iXB iTB ⟨gT, gB, gX, gP, gD⟩ (by k_is) (by kernel_rfl) ?_
           clear R8 F8 U8 gB gX gP gD gT
           intro h7 g7 n7 tk7 ⟨gT, gB, gX, gP, gD⟩ F7 N7n G7n N7
           (try dsimp only)))
  k_with "MyStr" => (
    first
    | (    refine' str_own (gX.keeps F7.keep) (ownExc_of N7n G7n) (by kernel_rfl) (by kernel_rfl) (by ktr_units) ?_
           clear N7n G7n))
  k_with "MyBind" => (
    first
    | (    refine' name_goesX (by k_asm) (by k_asm) ?_ (by exact rfl) (by exact rfl)
           intro h6 v6 F6 N6
           (try dsimp only)))
  k_with "MyCall" => (
    first
    | (    clear mark9
           refine' parse_raises w p loose mean mg mb _ (c ++ x) _ (by rw [Str.length_append]; omega) hsl _ _ _ _ _ _ _ _ _ _ _ _ _ _ _ _ _ (by k_asm) (by k_asm) (by k_asm) (by k_asm) (by k_asm) (by first | exact rfl | assumption) (by ktr_room) (by ktr_units) ?_
           intro G8 e8 t8 h8 tk8 R8 F8 U8
           (try dsimp only))
    | (    refine' does_use (parse_none w p loose mean mg mb _ _ _ (by first | decide +kernel | exact Nat.le_trans (op5 _ x (by decide +kernel)).1 (by omega)) (by first | decide +kernel | exact (op5 _ x (by decide +kernel)).2.1) (by first | decide +kernel | exact (op5 _ x (by decide +kernel)).2.2)) (by k_asm) (by k_asm) (by k_asm) (by k_asm) (by k_asm) (by first | exact rfl | assumption) (by ktr_room) (by ktr_units) ?_
           rintro r5 news5 h5 tk5 F5 N5 ⟨rfl, t5, rfl⟩
           (try dsimp only))
    | fail "no")
  k_with "MyIter" => (    
    rename Fr _ _ _ _ => lF'
    rename News _ _ _ _ => lN'
    refine' iterG_list (σ := Unit) (Gp := fun g => Gnd (hd.heap_39 w.params) p loose mean mg mb (ktrTop dp un gd cn cs L a ccd cl outer) base (envX cn cs L a ccd cl :: outer) g9 g) (fun _ => []) (fun _ => (_, W.listOf _ 0) :: (L9 + 1, o9) :: news) (fun i _ => True) () (by rfl) ?kl ?kg lF' lN' ?ka ?kb ?kc ?kd
    case ka => kst_all
    case kb => trivial
    case kl => exact fun c => .head _
    case kg => exact ⟨KtsTurn.refl, B9, X9, T9, D9⟩
    all_goals clear lF' lN'
    case' kc =>
      rintro i v I ⟨⟩ u g oI h tk hv - hoff ⟨gT, gB, gX, gP, gD⟩ lF lN
      obtain ⟨c, tc, rfl, hc5, hc3⟩ := codes6 hv
      dsimp only [kstB] at lF lN hoff ⊢
      k_fold
      have hsl : (Txt.slice (c ++ x) none (some 3) != Str.ofString "257") = true := by rw [slice_app hc5]; exact hc3
      have kM := kstMark
      have hxx : (c ++ x != c ++ x) = false := by simp
      have mark9 : True := trivial
    case' kd =>
      rintro ⟨⟩ u g h tk - ⟨gT, gB, gX, gP, gD⟩ lF lN
      dsimp only [kstB] at lF lN ⊢
      k_fold)
  k_with "MyComp" => (
    first
    | (    refine LCg.ListComp_U (F₀ := by k_asm) (by with_unfolding_all rfl) (by decide) (by rfl) (by decide) (by rfl) ?_)
    | fail "no")
  k_with "MyMul" => (
    first
    | (    refine' KMa.mul (by k_asm) (by k_asm) (by exact ⟨_, News.get (by k_asm) (by k_mem), rfl, _, rfl⟩) (by decide) (by decide) (by exact Nat.le_of_ble_eq_true rfl) (by exact rfl) ?_
           intro lm hm Fm Nm lm1
           (try k_lt lm1)))
  k_with "MyEq" => (
    first
    | (    refine' eq_dataH (by ke_read) (by ke_read) (by ke_shaped) (by ke_shaped) (by ktr_units) ?_
           ke_norm))
  k_with "MyEnd" => (
    first
    | (    refine' LCg.CompEnd.intro (by assumption) (by assumption) _ (fun p hp => hp) (by first | assumption | (simp only [LCg.Off3, and_true]; assumption)) (by lcg_src) ?_))
  k_steps
  all_goals first
    | (    exact ⟨_, _, _, _, gT, by k_asm, cb_drop (by assumption) (by k_extra "Sub"), fun h1 G1 F1 N1 => hret h1 _ _ _ _ G1 F1 N1 ⟨rfl, rfl⟩⟩)
    | exact gEnd () ⟨gT, gB, gX, gP, gD⟩ (by assumption) (by assumption) (by dsimp only [List.cons_append, List.nil_append]; exact fun p hp => hp) hoff (by kst_all) trivial
end
section
open PySem PySem.W PySem.Calls PySem.Spec PyProof.Rows PyProof.V
def OkT (l : List Nat) : Prop := ∀ c ∈ l, c < 1114112
theorem ok_str {x : Str} (h : OkT (cp x)) : PyData.strOk x = true := by
  unfold PyData.strOk
  rw [← Array.all_toList, List.all_eq_true]
  intro c hc
  exact decide_eq_true (h c hc)
theorem ne_same {prog : Program} {w : World} {A : Around} {E : Value → Shared → Prop} {s : Shared} {h₀ : Heap} {L : Addr} {news : Led} {a b c d : Addr} {y z e : Str} {i : Int} {t1 t2 t3 t4 t5 u1 u2 u3 u4 u5 : Tok} {n1 n2 n3 n4 : Nat} {Q : Value → Shared → Prop} (N : News h₀ L s.heap news)
    (ha : (a, W.listOf #[.str y t1, .ref b, .int i t2, .str z t3] n1) ∈ news) (hb : (b, W.listOf #[.str e t4, .str y t5] n2) ∈ news) (hc : (c, W.listOf #[.str y u1, .ref d, .int i u2, .str z u3] n3) ∈ news) (hd : (d, W.listOf #[.str e u4, .str y u5] n4) ∈ news)
    (oy : PyData.strOk y = true) (oz : PyData.strOk z = true) (oe : PyData.strOk e = true) (hu : A.units + 64 < cLine) (hq : Q (.bool false) s) : wpAny (model prog w) A (compareOp .NotEq (.ref a) (.ref c)) Q E s := by
  have rb : Reads s.heap (.ref b) _ _ := reads_list_at (News.get N hb) rfl rfl (ReadsAll.cons (Reads.str _ _) (ReadsAll.cons (Reads.str _ _) ReadsAll.nil))
  have rd : Reads s.heap (.ref d) _ _ := reads_list_at (News.get N hd) rfl rfl (ReadsAll.cons (Reads.str _ _) (ReadsAll.cons (Reads.str _ _) ReadsAll.nil))
  have ra : Reads s.heap (.ref a) _ _ := reads_list_at (News.get N ha) rfl rfl (ReadsAll.cons (Reads.str _ _) (ReadsAll.cons rb (ReadsAll.cons (Reads.int _ _) (ReadsAll.cons (Reads.str _ _) ReadsAll.nil))))
  have rc : Reads s.heap (.ref c) _ _ := reads_list_at (News.get N hc) rfl rfl (ReadsAll.cons (Reads.str _ _) (ReadsAll.cons rd (ReadsAll.cons (Reads.int _ _) (ReadsAll.cons (Reads.str _ _) ReadsAll.nil))))
  have sh : SeqAt.shaped (PyData.list [PyData.str y, PyData.list [PyData.str e, PyData.str y], PyData.int i, PyData.str z]) = true := by
    simp [SeqAt.shaped, PyData.canLay0, PyData.canLayAll0, PyData.depth, PyData.depthAll, oy, oz, oe]
  refine ne_dataH ra rc sh sh hu ?_
  simp only [PyData.eqv, PyData.eqvAll, beq_self_eq_true, decide_true, Bool.and_true, Bool.true_and, Bool.not_true]
  exact hq
end
section
open PySem PySem.W PySem.Calls PySem.Spec PyProof.Rows
theorem unesc_len : ∀ (l : List Nat) (h : Bool), (unesc h l).length ≤ l.length
  | [], _ => by simp [unesc]
  | c :: r, true => by have := unesc_len r false; simp only [unesc, List.length_cons]; omega
  | c :: r, false => by
    have h1 := unesc_len r false
    have h2 := unesc_len r true
    rw [unesc]
    split <;> simp only [List.length_cons] <;> omega
theorem pq_len : ∀ (l : List Nat) (h : Bool), (pq h l).length ≤ l.length
  | [], h => by cases h <;> simp [pq]
  | c :: r, false => by
    have h1 := pq_len r false
    have h2 := pq_len r true
    rw [pq]
    split <;> simp only [List.length_cons] <;> omega
  | c :: r, true => by
    have h1 := pq_len r false
    rw [pq]
    split <;> simp only [List.length_cons, List.length_nil] <;> omega
theorem step_len (d : Nat) (l : List Nat) : (step d l).length ≤ l.length := by
  unfold step p257
  split
  · exact unesc_len _ _
  · exact pq_len _ _
abbrev LPos : Pos := { line := 133, col := 18, endLine := 133, endCol := 75 }
theorem TabG.mono {q : Str} {ps : Pos} {tb : Obj} {cd cd' : Led} (h : TabG q ps tb cd) (hs : ∀ p ∈ cd, p ∈ cd') : TabG q ps tb cd' := by
  rcases h with h | ⟨c', oc, vs, t, h1, h2, h3⟩
  · exact .inl h
  · exact .inr ⟨c', oc, vs, t, h1, hs _ h2, h3⟩
theorem drop_atG {α : Type} {l : List α} {i : Nat} {c : α} (h : l[i]? = some c) : l.drop i = c :: l.drop (i + 1) := by
  obtain ⟨hi, rfl⟩ := List.getElem?_eq_some_iff.mp h
  exact List.drop_eq_getElem_cons hi
theorem unesc_sub : ∀ (l : List Nat) (h : Bool), ∀ c ∈ unesc h l, c ∈ l
  | [], _, c, hc => by simp [unesc] at hc
  | a :: r, true, c, hc => by
    simp only [unesc, List.mem_cons] at hc ⊢
    exact hc.imp id (unesc_sub r false c)
  | a :: r, false, c, hc => by
    rw [unesc] at hc
    split at hc
    · exact List.mem_cons_of_mem _ (unesc_sub r true c hc)
    · simp only [List.mem_cons] at hc ⊢
      exact hc.imp id (unesc_sub r false c)
theorem pq_sub : ∀ (l : List Nat) (h : Bool), ∀ c ∈ pq h l, c ∈ l ∨ c = 34
  | [], h, c, hc => by cases h <;> simp [pq] at hc
  | a :: r, false, c, hc => by
    rw [pq] at hc
    split at hc
    · exact (pq_sub r true c hc).imp (List.mem_cons_of_mem _) id
    · rcases List.mem_cons.mp hc with rfl | hc
      · exact .inl (.head _)
      · exact (pq_sub r false c hc).imp (List.mem_cons_of_mem _) id
  | a :: r, true, c, hc => by
    rw [pq] at hc
    split at hc
    · rcases List.mem_cons.mp hc with rfl | hc
      · exact .inr rfl
      · exact (pq_sub r false c hc).imp (List.mem_cons_of_mem _) id
    · cases hc
theorem step_ok {d : Nat} {l : List Nat} (h : OkT l) : OkT (step d l) := by
  intro c hc
  unfold step p257 at hc
  split at hc
  · exact h c (unesc_sub _ _ c hc)
  · rcases pq_sub _ _ c hc with hc | rfl
    · exact h c hc
    · decide
theorem ok_append {a b : List Nat} (h1 : OkT a) (h2 : OkT b) : OkT (a ++ b) := fun c hc => (List.mem_append.mp hc).elim (h1 c) (h2 c)
theorem ok_op : OkT opening := by unfold OkT opening; decide
theorem ok_mark (i : Nat) : OkT (markOf i) := by unfold markOf; split <;> (unfold OkT; decide)
theorem ok_rest {x : Str} {wy : Nat} {pg rs : List Nat} (h : IsPage x wy pg rs) : OkT rs := by
  obtain ⟨raw, hides, b, _, _, h⟩ := h
  split at h
  · rw [h.2]; unfold OkT; decide
  · split at h
    · rw [h.2]; unfold OkT; decide
    · rw [h.2]; unfold OkT; decide
structure AInv (x : Str) (ds : List Nat) (ws : List Str) (i : Nat) (y : Str) (tb : Obj) (cd news : Led) : Prop where
  go : steps (cp y) (ds.drop i) = (ws.map cp).drop i
  len : y.length ≤ x.length
  ok : OkT (cp y)
  tab : TabG LamQ LPos tb cd
  off : ∀ q ∈ cd, q.1 ≠ 125
  sub : ∀ q ∈ news, q ∈ cd
theorem ainv_at {x y : Str} {ds : List Nat} {ws : List Str} {i : Nat} {tb : Obj} {cd news : Led} (iv : AInv x ds ws i y tb cd news) (hi : i < ds.length) :
    ∃ d v, ds[i]? = some d ∧ ws[i]? = some v ∧ cp v = step d (cp y) ∧ v.length ≤ x.length ∧ OkT (cp v) ∧ ∀ tb' cd', TabG LamQ LPos tb' cd' → (∀ q ∈ cd', q.1 ≠ 125) → (∀ q ∈ cd, q ∈ cd') → AInv x ds ws (i + 1) v tb' cd' news := by
  obtain ⟨v1, v2, v6, v3, v4, v5⟩ := iv
  have h1 := List.getElem?_eq_getElem hi
  rw [drop_at h1, steps] at v1
  have h2 : ((ws.map cp).drop i)[0]? = some (step ds[i] (cp y)) := by rw [← v1]; rfl
  rw [List.getElem?_drop, Nat.add_zero, List.getElem?_map] at h2
  obtain ⟨v, hv, hv2⟩ := Option.map_eq_some_iff.mp h2
  have h3 : (ws.map cp)[i]? = some (cp v) := by rw [List.getElem?_map, hv]; rfl
  rw [drop_atG h3] at v1
  have hl : v.length ≤ x.length := by
    have := step_len ds[i] (cp y)
    rw [← hv2, cp_len, cp_len] at this
    omega
  refine ⟨ds[i], v, h1, hv, hv2, hl, hv2 ▸ step_ok v6, fun tb' cd' a b c => ⟨?_, hl, hv2 ▸ step_ok v6, a, b, fun q hq => c q (v5 q hq)⟩⟩
  rw [hv2]
  exact (List.cons.inj v1).2
theorem doesG_use {w : World} {p : Program} {loose : List Str} {mean : ExcName → Option Value} {mg mb : Str → Option Value} {kd ku : Nat} {f : Addr} {news : Led} {vs : List Value} {Post : Value → Led → Prop}
    {dp un : Nat} {gd : Option (List Code)} {cn : Str} {cs : Scope} {a : Addr} {ccd : Value} {cl : List (Str × Addr)} {outer : List Env} {A₀ : Around} {base h₀ : Heap} {L : Addr} {m : Str → Option Value} {s : Shared} {Q E : Value → Shared → Prop}
    (C : DoesG w p loose mean mg mb kd ku f news vs Post) (B : Below A₀ base outer h₀) (F : Fr h₀ L s.heap m) (X : (hd.heap_39 w.params).In h₀) (N : News h₀ L s.heap news) (T : Top p loose mean mg mb h₀) (XB : (hd.heap_39 w.params).In base) (TB : Top p loose mean mg mb base) (D : KtsDicts (outer.filterMap (·.frame)) h₀)
    (hk : cs.kind = .function) (hdp : dp + kd < recursionLimit) (hu : un + ku < cLine)
    (ret : ∀ h₁ r news' h' tk', Gnd (hd.heap_39 w.params) p loose mean mg mb A₀ base outer h₀ h₁ → Fr h₁ L h' m → News h₁ L h' news' → Post r news' → Q r { s with heap := h', toks := tk' }) :
    wpAny (model PySem.Challenge.rw_pm0007_01.row.prog w) (ktrTop dp un gd cn cs L a ccd cl outer) (call (.ref f) vs) Q E s := C _ _ _ _ _ _ _ _ _ _ _ _ _ _ _ _ _ B F X N T XB TB D hk hdp hu ret
theorem strs_get {us : List Value} {ws : List Str} (h : StrsAre us ws) : ∀ {i : Nat} {v : Str}, ws[i]? = some v → ∃ t, us[i]? = some (.str v t) := by
  induction h with
  | nil => intro i v h; simp at h
  | cons x t r ih =>
    intro i v hv
    cases i with
    | zero => simp at hv; subst hv; exact ⟨t, rfl⟩
    | succ i => exact ih (by simpa using hv)
theorem item_mark {prog : Program} {w : World} {A : Around} {E : Value → Shared → Prop} {s : Shared} {value slice : PySem.Expr} {l : Addr} {a b c : Str} {ta tb tc u : Tok} {i : Nat} {Q : Value → Shared → Prop} (hl : s.heap.IsList l [Value.str a ta, .str b tb, .str c tc].toArray)
    (ha : cp a = []) (hb : cp b = []) (hc : cp c = [34]) (h : ∀ z tz, cp z = markOf (i % 3) → z.length ≤ 1 → Q (.str z tz) s)
    (hs : subscripted slice false (.ref l) (.int (Int.fmod (i : Int) 3) u) = operate [.ref l, .int (Int.fmod (i : Int) 3) u] (getItem (.ref l) (.int (Int.fmod (i : Int) 3) u))) :
    wpAny (model prog w) A (subscriptTail value slice (.ref l) (.int (Int.fmod (i : Int) 3) u)) Q E s := by
  have e0 : Int.fmod (i : Int) 3 = ((i % 3 : Nat) : Int) := by rw [Int.fmod_eq_emod_of_nonneg _ (by decide)]; omega
  have e1 : (Int.fmod (i : Int) 3).toNat = i % 3 := by rw [e0]; rfl
  have h3 : i % 3 = 0 ∨ i % 3 = 1 ∨ i % 3 = 2 := by omega
  have key : ∀ z tz, [Value.str a ta, .str b tb, .str c tc][i % 3]? = some (.str z tz) → cp z = markOf (i % 3) → z.length ≤ 1 → wpAny (model prog w) A (subscriptTail value slice (.ref l) (.int (Int.fmod (i : Int) 3) u)) Q E s :=
    fun z tz hz h1 h2 => item_litK hl (by omega) (by omega) (by rw [e1]; exact hz) (h z tz h1 h2) hs
  rcases h3 with h3 | h3 | h3
  · exact key a ta (by rw [h3]; rfl) (by rw [h3, ha]; rfl) (by rw [← cp_len, ha]; simp)
  · exact key b tb (by rw [h3]; rfl) (by rw [h3, hb]; rfl) (by rw [← cp_len, hb]; simp)
  · exact key c tc (by rw [h3]; rfl) (by rw [h3, hc]; rfl) (by rw [← cp_len, hc]; simp)
def OP : Str := Str.ofString "257 \""
theorem cp_op : cp (Str.ofString "257 \"") = opening := by decide +kernel
theorem op_facts (y : Str) : (Str.ofString "257 \"" ++ y).length = y.length + 5 ∧ (Txt.slice (Str.ofString "257 \"" ++ y) none (some 3) != Str.ofString "257") = false ∧ (Txt.slice (Str.ofString "257 \"" ++ y) (some 3) (some 5) != Str.ofString " \"") = false ∧ (cp (Str.ofString "257 \"" ++ y)).drop 5 = cp y := by
  have hl : (Str.ofString "257 \"").length = 5 := by decide +kernel
  have hc : cp (Str.ofString "257 \"" ++ y) = opening ++ cp y := by rw [cp_append, cp_op]
  refine ⟨by rw [Str.length_append, hl]; omega, ?_, ?_, by rw [hc]; rfl⟩
  · have : Txt.slice (Str.ofString "257 \"" ++ y) none (some 3) = Str.ofString "257" := by
      apply cp_inj
      rw [cp_slice_to (by decide) (by rw [Str.length_append, hl]; omega), hc]
      show (opening ++ cp y).take 3 = _
      rw [show cp (Str.ofString "257") = [50, 53, 55] by decide +kernel]; rfl
    simp [this]
  · have : Txt.slice (Str.ofString "257 \"" ++ y) (some 3) (some 5) = Str.ofString " \"" := by
      apply cp_inj
      rw [cp_slice35 (by rw [Str.length_append, hl]; omega), hc]
      rw [show cp (Str.ofString " \"") = [32, 34] by decide +kernel]; rfl
    simp [this]
end
section
open PySem PySem.W PySem.Calls PySem.Spec PyProof.Rows
local macro_rules | `(tactic| walk_at "MY enterGp") => `(tactic| (refine wpAny_call ?_; k_dflt (refine' code_defGp ?k1 ?k2 ?k3 ?k4 ?k5 ?XB ?TB ?D ?T0 ?kA ?kF ?kK ?k6 ?k7 ?k8 ?k9 ?kB ?_ ?c2 ?c3 ?c4 ?c5; (case kA => exact rfl); (case kF => exact rfl); (case kK => assumption); (case k1 => k_asm); (case k2 => k_asm); (case k3 => k_asm); (case k4 => k_asm); (case k5 => k_asm); (case XB => assumption); (case TB => assumption); (case D => assumption); (case T0 => exact KtsTurn.refl); (case k6 => k_is); (case k7 => k_is); (case k8 => ktr_room); (case k9 => exact BindsTo.of_eq rfl); (case c5 => decide); (case kB => exact locs rfl); (case c2 => exact rfl); (case c3 => exact rfl); (case c4 => exact rfl); k_whole; intro g' L' h' FG' F' N' B' X' T' D'; (try dsimp only); (try k_lift B'); (try k_fold))))
theorem page_doesI (w : World) (p : Program) (loose : List Str) (mean : ExcName → Option Value) (mg mb : Str → Option Value) (news : Led) (x : Str) (t tw : Tok) (v : Int) (wy : Nat) (hv : v = (wy : Int)) (hw : wy < 3) (hx : x.length ≤ 1000) :
   Does w p loose mean mg mb 4 32 123 news [.str x t, .int v tw] (fun r news' => ∃ a pg rs t1 t2, r = .ref a ∧ news' = (a, W.listOf #[.str pg t1, .str rs t2] 0) :: news ∧ (∀ q ∈ news, q.1 < a) ∧ pg.length ≤ 2010 ∧ rs.length ≤ 1 ∧ IsPage x wy (cp pg) (cp rs)) := by
  subst hv
  exact page_does w p loose mean mg mb news x t tw wy hw hx
theorem agree_does (w : World) (p : Program) (loose : List Str) (mean : ExcName → Option Value) (mg mb : Str → Option Value) (news : Led) (tb : Obj) (x : Str) (ds : List Nat) (dl : Nat) (dvs : List Value) (dn : Nat) (t : Tok) (hx : x.length ≤ 900) (hds : ds.length ≤ 5) (h01 : ∀ d ∈ ds, d = 0 ∨ d = 1)
   (hdm : (dl, W.listOf dvs.toArray dn) ∈ news) (hda : DeedsAre dvs ds) (h125 : ∀ p ∈ news, p.1 ≠ 125) (htab : TabG LamQ LPos tb news) (hok : OkT (cp x)) :
   DoesG w p loose mean mg mb 20 300 142 ((125, tb) :: news) [.str x t, .ref dl] (fun r news' => r = .bool true ∧ ∃ tb' cd, news' = (125, tb') :: cd ∧ (∀ q ∈ news, q ∈ cd) ∧ (∀ q ∈ cd, q.1 ≠ 125) ∧ TabG LamQ LPos tb' cd) := by
  k_with_none
  k_with "TPost" => (dsimp only [TPost])
  k_with "exec While Compare cons nil" => (k_extra "MyWhile")
  k_with "exec For Name Name cons nil" => (walk_at "MY for")
  k_with "exec For Name Call cons nil" => (walk_at "MY for")
  k_with "exec For Name List cons nil" => (walk_at "MY for")
  k_with "pyIter str" => (k_extra "MyIter")
  k_with "pyIter ref" => (k_extra "MyIter")
  k_with "call ref" => (k_extra "MyCall")
  k_with "call builtin:list.append" => (k_extra "MyAppend")
  k_with "callWith ref" => (k_here; first | (refine' callWith_K (by k_asm) (by k_is) ?_; k_whole) | (refine' callWith_K0 (by (first | (with_reducible assumption) | exact Frag.In.keeps (by with_reducible assumption) (Fr.keep (by with_reducible assumption)) | k_in)) (by k_is) ?_; k_whole) | ((refine' callWith_M0 (by k_meth) (by k_is) ?_; k_whole); try dsimp only [List.nil_append, List.cons_append]) | (refine' callWith_M (by k_asm) (by k_asm) (by k_mem) (by k_is) ?_; k_whole))
  k_with "exec For Name Call cons nil" => (k_extra "MyFor")
  k_with "call builtin:len" => (k_extra "MyLen")
  k_with "subscriptTail Name Name ref int" => (k_extra "MyItem")
  k_with "subscriptTail List cons BinOp ref int" => (k_extra "MyItem")
  k_with "call builtin:str.count" => (k_extra "MyCount")
  k_with "compareOp NotEq ref ref" => (k_extra "MyNe")
  k_with "GPost" => (dsimp only [GPost])
  w_top off
  unfold DoesG
  k_fill
  intros dp un gd cn cs a ccd cl outer A₀ base h₀ L m s Q E iB iF iX iN iT iXB iTB iD ik id iu hret
  have codeHd : CodeHd h₀ 129 125 := codeHd_of_K (c := 129) (P := 125) iX (by kernel_rfl)
  k_with_none
  k_with "TPost" => (dsimp only [TPost])
  k_with "exec While Compare cons nil" => (k_extra "MyWhile")
  k_with "exec For Name Name cons nil" => (walk_at "MY for")
  k_with "exec For Name Call cons nil" => (walk_at "MY for")
  k_with "exec For Name List cons nil" => (walk_at "MY for")
  k_with "pyIter str" => (k_extra "MyIter")
  k_with "pyIter ref" => (k_extra "MyIter")
  k_with "call ref" => (k_extra "MyCall")
  k_with "call builtin:list.append" => (k_extra "MyAppend")
  k_with "callWith ref" => (k_here; first | (refine' callWith_K (by k_asm) (by k_is) ?_; k_whole) | (refine' callWith_K0 (by (first | (with_reducible assumption) | exact Frag.In.keeps (by with_reducible assumption) (Fr.keep (by with_reducible assumption)) | k_in)) (by k_is) ?_; k_whole) | ((refine' callWith_M0 (by k_meth) (by k_is) ?_; k_whole); try dsimp only [List.nil_append, List.cons_append]) | (refine' callWith_M (by k_asm) (by k_asm) (by k_mem) (by k_is) ?_; k_whole))
  k_with "exec For Name Call cons nil" => (k_extra "MyFor")
  k_with "call builtin:len" => (k_extra "MyLen")
  k_with "subscriptTail Name Name ref int" => (k_extra "MyItem")
  k_with "subscriptTail List cons BinOp ref int" => (k_extra "MyItem")
  k_with "call builtin:str.count" => (k_extra "MyCount")
  k_with "compareOp NotEq ref ref" => (k_extra "MyNe")
  k_with "GPost" => (dsimp only [GPost])
  have hd125 : dl ≠ 125 := h125 _ hdm
  have hdl5 := hda.1
  walk_at "MY enterGp"
  generalize s.toks + List.length _ = tk0
  rename_i g9 L9 h9 FG9 F9 N9 B9 X9 T9 D9
  replace N9 : News g9 L9 h9 ((dl, W.listOf dvs.toArray dn) :: (125, tb) :: news) := cb_drop N9 (List.forall_mem_cons.mpr ⟨List.mem_cons_of_mem _ hdm, fun p hp => hp⟩)
  replace F9 := fr_map F9 (m' := fun y => if y = Str.ofString "deeds" then some (.ref dl) else if y = Str.ofString "text" then some (.str x t) else none) (fun y => look2 _ _ _ _ y)
  k_with "MyFor" => (refine' forG2 ?_ ?_ ?_)
  k_with "MyLen" => (refine' kst_len (k := dvs.length) (by k_asm) (by k_mem) rfl (by rw [hda.1]; omega) ?_)
  k_with "MyCall" => (
    first
    | (show wpAny _ _ (call (Value.ref 109) _) _ _ _
       (    refine' does_use (due_does w p loose mean mg mb ((dl, W.listOf dvs.toArray dn) :: (125, tb) :: news) x ds dl dvs dn t (by omega) hds (by k_mem) hda) (by k_asm) (by k_asm) (by k_asm) (by k_asm) (by k_asm) (by first | exact rfl | assumption) (by ktr_room) (by ktr_units) ?_
            rintro r9 news9 h9 tk9 F9 N9 ⟨da, us, ws, nn, rfl, rfl, hdal, hus, hws⟩
            have hda125 : da ≠ 125 := Nat.ne_of_gt (hdal (125, tb) (.tail _ (.head _)))
            (try dsimp only)
            (try k_fold)))
    | (show wpAny _ _ (call (Value.ref 123) _) _ _ _
       (    refine' does_use (page_doesI w p loose mean mg mb _ _ _ _ _ (i % 3) hm3 (Nat.mod_lt _ (by decide)) (by omega)) (by k_asm) (by k_asm) (by k_asm) (by k_asm) (by k_asm) (by first | exact rfl | assumption) (by ktr_room) (by ktr_units) ?_
            rintro r9 news9 h9 tk9 F9 N9 ⟨pa, pg, rs, pt1, pt2, rfl, rfl, hpa, hpl, hrl, hpage⟩
            (try dsimp only)
            (try k_fold)))
    | (show wpAny _ _ (call (Value.ref 130) _) _ _ _
       (    refine' does_use (read_does w p loose mean mg mb ((I, oI) :: (dl, W.listOf dvs.toArray dn) :: (da, W.listOf us.toArray nn) :: cd) cd tb1 (pg ++ rs) _ (by rw [Str.length_append]; omega) (fun q hq => List.mem_cons_of_mem _ (List.mem_cons_of_mem _ (List.mem_cons_of_mem _ hq))) hoffR iv.tab) (by k_asm) (by k_asm) (by k_asm) (cb_drop (by assumption) (by k_extra "Sub")) (by k_asm) (by first | exact rfl | assumption) (by ktr_room) (by ktr_units) ?_
            rintro r9 news9 h9 tk9 F9 N9 ⟨ra, rg, rc, roc, ry, q1, q2, q3, q4, q5, yr, rfl, rfl, hry, hyr, htab', hc125, hl1, hl2, hl3, hl4, hl5⟩
            have hrcI : rc ≠ I := by
              rcases hl5 with hm | hm
              · exact hI4 _ hm
              · exact Nat.ne_of_gt (hm (I, oI) (.head _))
            have hpr := page_read (Nat.mod_lt i (by decide : 0 < 3)) (by rw [cp_append, cp_op]) hpage
            have hcnt : 1 + cnt (cp (pg ++ rs)) - cnt (tokM (cp (pg ++ rs))).2 = 1 + Txt.count pg (Str.ofString "\n") := by (rw [count_nl, cp_append, hpr, cnt_append]; dsimp only; omega)
            rw [hcnt] at N9
            rw [cp_append, hpr] at hry hyr
            obtain rfl : yr = rs := cp_inj hyr
            obtain rfl : ry = z ++ Str.ofString "257 \"" ++ v := cp_inj (by rw [hry, cp_append, cp_append, hz, cp_op, hstep]; rfl)
            (try dsimp only)
            (try k_fold)))
    | (show wpAny _ _ (call (Value.ref 46) _) _ _ _
       (    refine' does_use (parse_does w p loose mean mg mb _ (Str.ofString "257 \"" ++ y) _ (by omega) (by omega) hopf.2.1 hopf.2.2.1) (by k_asm) (by k_asm) (by k_asm) (by k_asm) (by k_asm) (by first | exact rfl | assumption) (by ktr_room) (by ktr_units) ?_
            rintro r9 news9 h9 tk9 F9 N9 ⟨rfl, yv, yt, rfl, hyv⟩
            rw [hopf.2.2.2] at hyv
            obtain rfl : v = yv := (cp_inj (by rw [hyv, hstep]; rfl)).symm
            (try dsimp only)
            (try k_fold)))
    | (show wpAny _ _ (call (Value.ref 135) _) _ _ _
       (    refine' doesG_use (strict_does w p loose mean mg mb _ y _ (by omega)) (by k_asm) (by k_asm) (by k_asm) (by k_asm) (by k_asm) (by assumption) (by assumption) (by assumption) (by first | exact rfl | assumption) (by ktr_room) (by ktr_units) ?_
            rintro g7 r9 news9 h9 tk9 ⟨gT', gB', gX', gP', gD'⟩ F9 N9 ⟨rfl, rfl⟩
            have gT7 := gT.trans gT'
            clear gT gT' gB gX gP gD
            have gT := gT7
            have gB := gB'
            have gX := gX'
            have gP := gP'
            have gD := gD'
            clear gT7 gB' gX' gP' gD'
            (try dsimp only)
            (try k_fold))))
  k_with "MyCount" => (refine' SC.count ?_)
  k_with "MyNe" => (
    first
    | (    refine' ne_same (by k_asm) (by k_mem) (by k_mem) (by k_mem) (by k_mem) (ok_str (by rw [cp_append, cp_append, cp_op, hz]; exact ok_append (ok_append (ok_mark _) ok_op) hvok)) (ok_str (ok_rest hpage)) (by decide +kernel) (by ktr_units) ?_))
  k_with "MyItem" => (
    first
    | ((with_reducible show wpAny _ _ (subscriptTail _ _ (Value.ref _) (Value.int (Int.fmod _ _) _)) _ _ _)
       refine' item_mark (by exact ⟨_, News.get (by k_asm) (by k_mem), rfl, _, rfl⟩) (by decide +kernel) (by decide +kernel) (by decide +kernel) ?_ (by with_unfolding_all rfl); intro z tz hz hzl; (try dsimp only))
    | ((with_reducible show wpAny _ _ (subscriptTail _ _ (Value.ref dl) (Value.int _ _)) _ _ _)
       (    refine' item_litK (vs := dvs) (by exact ⟨_, News.get (by k_asm) (by k_mem), rfl, _, rfl⟩) (by omega) (by omega) hdv ?_ (by with_unfolding_all rfl); (try dsimp only)))
    | ((with_reducible show wpAny _ _ (subscriptTail _ _ (Value.ref da) (Value.int _ _)) _ _ _)
       (    refine' item_litK (vs := us) (by exact ⟨_, News.get (by k_asm) (by k_mem), rfl, _, rfl⟩) (by omega) (by omega) huv ?_ (by with_unfolding_all rfl); (try dsimp only))))
  k_with "MyIter" => (    
    rename Fr _ _ _ _ => lF'
    rename News _ _ _ _ => lN'
    rename IsRange _ _ _ _ _ _ _ _ => rgX
    refine' iterG_range (σ := Str × Tok × Obj × Led) (n := dvs.length) (Gp := fun g => Gnd (hd.heap_39 w.params) p loose mean mg mb (ktrTop dp un gd cn cs L a ccd cl outer) base (envX cn cs L a ccd cl :: outer) g9 g)
      (fun (y, u1, tb, cd) => [(Str.ofString "text", .str y u1), (Str.ofString "deeds", .ref dl), (Str.ofString "due", .ref da)])
      (fun (y, u1, tb, cd) => (dl, W.listOf dvs.toArray dn) :: (da, W.listOf us.toArray nn) :: (125, tb) :: cd) (fun i (y, u1, tb, cd) => AInv x ds ws i y tb cd news) (x, _, tb, news) (by rfl) rgX ?kr ?ks ?kg lF' ?kN ?ka ?kb ?kc ?kd
    case ka => kst_all
    case kb => exact ⟨by rw [hws, due_steps]; rfl, Nat.le_refl _, hok, htab, h125, fun _ h => h⟩
    case kr => exact small_one (by omega) (by omega) (by rw [hda.1]; omega) (by rw [hda.1]; omega)
    case ks => exact rangeSize_nat _ _
    case kg => exact ⟨KtsTurn.refl, B9, X9, T9, D9⟩
    case kN => exact cb_drop lN' (by dsimp only; k_extra "Sub")
    all_goals clear lF' lN'
    case' kc =>
      rintro i tt I ⟨y, u1, tb1, cd⟩ u g oI h tk hil iv hoff ⟨gT, gB, gX, gP, gD⟩ lF lN
      dsimp only [kstB] at lF iv lN hoff ⊢
      (try k_fold)
      have hids : i < ds.length := by rw [← hda.1]; exact hil
      obtain ⟨d, v, hdi, hvi, hstep, hvl, hvok, hnext⟩ := ainv_at iv hids
      have hyl := iv.len
      have hlenv : v.length ≤ 900 := by omega
      obtain ⟨tv, huv⟩ := strs_get hus hvi
      have hopf := op_facts y
      have hopl := hopf.1
      have hm3 : Int.fmod (i : Int) 3 = ((i % 3 : Nat) : Int) := by rw [Int.fmod_eq_emod_of_nonneg _ (by decide)]; omega
      have hvv : (v != v) = false := by simp
      have hI1 := neN (a := dl) (b := I) (hoff _ (.head _))
      have hI2 := neN (a := da) (b := I) (hoff _ (.tail _ (.head _)))
      have hI3 := neN (a := 125) (b := I) (hoff _ (.tail _ (.tail _ (.head _))))
      have hI4 : ∀ q ∈ cd, q.1 ≠ I := fun q hq => hoff q (.tail _ (.tail _ (.tail _ hq)))
      have hoffR : ∀ q ∈ (I, oI) :: (dl, W.listOf dvs.toArray dn) :: (da, W.listOf us.toArray nn) :: cd, q.1 ≠ 125 := List.forall_mem_cons.mpr ⟨Ne.symm hI3, List.forall_mem_cons.mpr ⟨hd125, List.forall_mem_cons.mpr ⟨hda125, iv.off⟩⟩⟩
      have hdv : ∃ tv, (d = 0 ∧ dvs[i]? = some (.int 0 tv)) ∨ (d = 1 ∧ dvs[i]? = some (.int 1 tv)) := by
        have hiv := List.getElem?_eq_getElem hil
        obtain ⟨d', tv, e1, e2⟩ := hda.2 i _ hiv
        rw [hdi] at e2
        cases e2
        rw [e1] at hiv
        rcases h01 d (List.mem_of_getElem? hdi) with rfl | rfl
        · exact ⟨tv, .inl ⟨rfl, hiv⟩⟩
        · exact ⟨tv, .inr ⟨rfl, hiv⟩⟩
      have kM := kstMark
      rcases hdv with ⟨tv2, ⟨rfl, hdv⟩ | ⟨rfl, hdv⟩⟩
    case' kd =>
      rintro ⟨y, u1, tb1, cd⟩ u g h tk iv ⟨gT, gB, gX, gP, gD⟩ lF lN
      dsimp only [kstB] at lF iv lN ⊢
      (try k_fold))
  k_with "Sub" => ((repeat (refine List.forall_mem_cons.mpr (And.intro ?_ ?_); k_mem)); (intro p hp; (repeat (first | exact hp | apply List.mem_cons_of_mem)); done))
  k_steps
  all_goals first
    | (    exact ⟨_, _, _, _, gT, by k_asm, cb_drop (by assumption) (by k_extra "Sub"), fun h1 G1 F1 N1 => hret h1 _ _ _ _ G1 F1 N1 ⟨rfl, _, _, rfl, iv.sub, iv.off, iv.tab⟩⟩)
    | (    exact gEnd (v, tv, _, (rc, roc) :: cd) ⟨gT, gB, gX, gP, gD⟩ (by assumption) (by assumption) (by dsimp only [List.cons_append, List.nil_append]; k_extra "Sub") (List.forall_mem_cons.mpr ⟨hI1, List.forall_mem_cons.mpr ⟨hI2, List.forall_mem_cons.mpr ⟨hI3, List.forall_mem_cons.mpr ⟨hrcI, hI4⟩⟩⟩⟩) (by kst_all) (hnext _ _ (htab'.mono (fun q hq => by rw [List.mem_singleton.mp hq]; exact .head _)) (List.forall_mem_cons.mpr ⟨hc125, iv.off⟩) (fun q hq => .tail _ hq)))
    | (    exact gEnd (v, tv, tb1, cd) ⟨gT, gB, gX, gP, gD⟩ (by assumption) (by assumption) (by dsimp only [List.cons_append, List.nil_append]; k_extra "Sub") hoff (by kst_all) (hnext _ _ iv.tab iv.off (fun q hq => hq)))
end
section
open PySem PySem.W PySem.Calls PySem.Spec PyProof.Rows
section
variable {prog : Program} {w : World} {A : Around} {s : Shared} {h₀ : Heap} {L : Addr} {m : Str → Option Value} {env : Env} {elt : PySem.Expr} {x : Str} {scope : Scope} {cl : List (Str × Addr)} {S : Led → Prop} {P : Nat → Value → Prop} {Fin : List Value → Led → Prop} {news : Led}
/-- a comprehension of any length -/
theorem compRest_ind {n : Nat} (J : Nat → List Value → Prop) (hfin : ∀ ys, J n ys → Fin ys news)
    (step : ∀ i ys, i < n → J i ys → ∀ v I oI C oC D m₂ h tk (E' : Value → Shared → Prop), P i v → LCg.NsObj oC m₂ → m₂ x = some v → Fr h₀ L h m → News h₀ L h ((I, oI) :: (C, oC) :: (D, LCg.lst ys) :: news) → LCg.Off3 I C D news → ((@Ne Nat I C) ∧ (@Ne Nat I D) ∧ (@Ne Nat C D)) →
      wpAny (model prog w) A (eval elt (compEnvC scope cl C env)) (LCg.CompEnd h₀ L m { s with heap := h, toks := tk } I oI C oC D (LCg.lst ys) S (fun y news' => news' = news ∧ J (i + 1) (ys ++ [y]))) E' { s with heap := h, toks := tk }) :
    ∀ k i ys, i + k = n → J i ys → LCg.CompRest prog w A h₀ L m env elt x scope cl s S P Fin k i ys news := by
  intro k
  induction k with
  | zero =>
    intro i ys e hJ
    have : i = n := by omega
    exact LCg.CompRest.zero (hfin ys (this ▸ hJ))
  | succ k ih =>
    intro i ys e hJ
    refine LCg.CompRest.succ fun v I oI C oC D m₂ h tk E' hP hC hx F N off ne => ?_
    refine wpAny_mono (step i ys (by omega) hJ v I oI C oC D m₂ h tk E' hP hC hx F N off ne) (fun y s₂ h₂ => ?_) fun _ _ e => e
    obtain ⟨h', tk', news', e1, F', N', off', hS, rfl, hJ'⟩ := h₂
    exact ⟨h', tk', news', e1, F', N', off', hS, ih (i + 1) (ys ++ [y]) (by omega) hJ'⟩
end
def Small (y : Str) : Prop := y.length ≤ 6 ∧ OkT (cp y)
theorem strs_snoc' {us : List Value} {ws : List Str} {y : Str} {t : Tok} (h : StrsAre us ws) : StrsAre (us ++ [.str y t]) (ws ++ [y]) := KStt.strs_snoc h
theorem cp_join (ws : List Str) : cp (Txt.join (Str.ofString "") ws) = (ws.map cp).flatten := by
  show cp (Builtin.Str.glued (Str.ofString "") _) = _
  rw [StrLaws.glued_eq_join]
  have z : Str.ofString "" = ⟨#[]⟩ := by decide +kernel
  rw [z]
  induction ws with
  | nil => rfl
  | cons a r ih =>
    cases r with
    | nil => simp [Str.join]
    | cons b r2 =>
      have e : Str.join ⟨#[]⟩ (a :: b :: r2) = a ++ ⟨#[]⟩ ++ Str.join ⟨#[]⟩ (b :: r2) := rfl
      rw [e, cp_append, ih, cp_append]
      simp [cp]
theorem sum_small : ∀ (ws : List Str), (∀ y ∈ ws, Small y) → (ws.map (·.length)).sum ≤ 6 * ws.length
  | [], _ => by simp
  | a :: r, h => by
    have h1 := (h a (.head _)).1
    have h2 := sum_small r fun y hy => h y (.tail _ hy)
    simp only [List.map_cons, List.sum_cons, List.length_cons]
    omega
theorem flat_len : ∀ (ws : List Str), ((ws.map cp).flatten).length = (ws.map (·.length)).sum
  | [] => rfl
  | a :: r => by
    simp only [List.map_cons, List.flatten_cons, List.length_append, List.sum_cons, flat_len r, cp_len]
theorem flat_ok {ws : List Str} (h : ∀ y ∈ ws, Small y) : OkT (ws.map cp).flatten := by
  intro c hc
  obtain ⟨l, hl, hc⟩ := List.mem_flatten.mp hc
  obtain ⟨y, hy, rfl⟩ := List.mem_map.mp hl
  exact (h y hy).2 c hc
section
variable {prog : Program} {w : World} {A : Around} {E : Value → Shared → Prop} {s : Shared} {Q : Value → Shared → Prop}
theorem join_small {D : Addr} {ys : List Value} {ws : List Str} {t : Tok} (hl : s.heap.IsList D ys.toArray) (hy : StrsAre ys ws) (hs : ∀ y ∈ ws, Small y) (hn : ws.length ≤ 4)
    (h : ∀ y t' k, y.length ≤ 24 → OkT (cp y) → Q (.str y t') { s with toks := k }) : wpAny (model prog w) A (call (.builtin "str.join") [.str (Str.ofString "") t, .ref D]) Q E s := by
  have h1 := sum_small ws hs
  refine join_listW hl (by simpa using hy) (by decide +kernel) (by omega) fun t' k => h _ t' k ?_ ?_
  · rw [← cp_len, cp_join, flat_len]; omega
  · rw [cp_join]; exact flat_ok hs
end
theorem deeds_of {dvs : List Value} {is : List Int} (h : IntsAre dvs is) : (∀ a ∈ is, a = 0 ∨ a = 1) → DeedsAre dvs (is.map Int.toNat) ∧ ∀ d ∈ is.map Int.toNat, d = 0 ∨ d = 1 := by
  intro h01
  refine ⟨⟨by rw [List.length_map]; exact h.length, ?_⟩, fun d hd => ?_⟩
  · induction h with
    | nil => intro i v hv; simp at hv
    | cons a t r ih =>
      intro i v hv
      cases i with
      | zero =>
        simp at hv
        subst hv
        refine ⟨a.toNat, t, ?_, rfl⟩
        rcases h01 a (.head _) with rfl | rfl <;> rfl
      | succ i =>
        obtain ⟨d, tk, e1, e2⟩ := ih (fun b hb => h01 b (.tail _ hb)) i v (by simpa using hv)
        exact ⟨d, tk, e1, by simpa using e2⟩
  · obtain ⟨a, ha, rfl⟩ := List.mem_map.mp hd
    rcases h01 a ha with rfl | rfl
    · exact .inl rfl
    · exact .inr rfl
theorem deeds01 (ns : List Int) : ∀ a ∈ (ns.map (fun a : Int => a.fmod 2) ++ [0, 1, 0, 1]).take 5, a = 0 ∨ a = 1 := by
  intro a ha
  rcases List.mem_append.mp (List.mem_of_mem_take ha) with h | h
  · obtain ⟨b, _, rfl⟩ := List.mem_map.mp h
    show b.fmod 2 = 0 ∨ b.fmod 2 = 1
    rw [Int.fmod_eq_emod_of_nonneg _ (by decide)]
    omega
  · simp at h
    rcases h with rfl | rfl | rfl | rfl <;> simp
theorem ok_slice (n : Nat) (hn : n ≤ 4) : (Txt.slice (Str.ofString "\"\"\\\"\"\n\\\\\"\\\"\\") (some (3 * (n : Int))) none).length ≤ 12 ∧ OkT (cp (Txt.slice (Str.ofString "\"\"\\\"\"\n\\\\\"\\\"\\") (some (3 * (n : Int))) none)) := by
  have hl : (Str.ofString "\"\"\\\"\"\n\\\\\"\\\"\\").length = 12 := by decide +kernel
  have hok : ∀ c ∈ cp (Str.ofString "\"\"\\\"\"\n\\\\\"\\\"\\"), c < 1114112 := by decide +kernel
  have e := cp_slice_from (x := Str.ofString "\"\"\\\"\"\n\\\\\"\\\"\\") (j := 3 * (n : Int)) (by omega) (by rw [hl]; omega)
  refine ⟨?_, fun c hc => ?_⟩
  · rw [← cp_len, e, List.length_drop, cp_len, hl]; omega
  · rw [e] at hc
    exact hok c (List.mem_of_mem_drop hc)
/-- the ground of a call from the outermost frame is what it was -/
theorem fr_back {h₀ h₁ h : Heap} {L : Addr} {m : Str → Option Value} (T : KtsTurn [] h₀ h₁) (F : Fr h₁ L h m) : Fr h₀ L h m :=
  ⟨F.ns, fun b o e => F.keep b o (T.other b o e (by simp)), by rw [← T.size]; exact F.above⟩
theorem news_back {h₀ h₁ h : Heap} {L : Addr} {news : Led} (T : KtsTurn [] h₀ h₁) (N : News h₁ L h news) : News h₀ L h news := fun q hq => ⟨(N q hq).1, (N q hq).2.1, by
  cases z : h₀.get? q.1 with
  | none => rfl
  | some o =>
    have := T.other _ o z (by simp)
    rw [(N q hq).2.2] at this
    cases this⟩
end
section
open PySem PySem.W PySem.Calls PySem.Spec PyProof.Rows
theorem getD5 (j : Nat) : 0 ≤ [(2 : Int), 1, 4, 3, 6].getD j 0 ∧ [(2 : Int), 1, 4, 3, 6].getD j 0 ≤ 6 := by
  rcases j with _ | _ | _ | _ | _ | j <;> simp
theorem getD4 (j : Nat) : 0 ≤ [(1 : Int), 2, 3, 5].getD j 0 ∧ [(1 : Int), 2, 3, 5].getD j 0 ≤ 6 := by
  rcases j with _ | _ | _ | _ | j <;> simp
theorem quote1 : Str.ofString "\"" = ⟨#[34]⟩ := by decide +kernel
theorem slash1 : Str.ofString "\\" = ⟨#[92]⟩ := by decide +kernel
theorem ok_mul {y : Str} {c : Nat} {n : Int} (hy : y = ⟨#[c]⟩) (hc : c < 1114112) : OkT (cp (Txt.mul y n)) := by
  subst hy
  intro k hk
  have e : cp (Txt.mul ⟨#[c]⟩ n) = List.replicate n.toNat c := mul_one_list c n
  rw [e] at hk
  rw [List.eq_of_mem_replicate hk]; exact hc
theorem fm (v : Int) (n : Nat) (h : 0 < n) : 0 ≤ v.fmod (n : Int) ∧ v.fmod (n : Int) < (n : Int) := by
  rw [Int.fmod_eq_emod_of_nonneg _ (by omega)]
  exact ⟨Int.emod_nonneg _ (by omega), Int.emod_lt_of_pos _ (by omega)⟩
theorem item5 (v : Int) : (Txt.item (Str.ofString "a \n\t\r") (v.fmod 5)).length ≤ 6 ∧ OkT (cp (Txt.item (Str.ofString "a \n\t\r") (v.fmod 5))) := by
  have h5 := fm v 5 (by decide)
  have hc : cp (Str.ofString "a \n\t\r") = [97, 32, 10, 9, 13] := by decide +kernel
  have hl : (Str.ofString "a \n\t\r").length = 5 := by decide +kernel
  obtain ⟨c, h1, h2⟩ := cp_item (x := Str.ofString "a \n\t\r") (i := v.fmod 5) h5.1 (by rw [hl]; exact h5.2)
  rw [hc] at h2
  have hm := List.mem_of_getElem? h2
  refine ⟨by rw [← cp_len, h1]; simp, fun k hk => ?_⟩
  rw [h1] at hk
  rw [List.mem_singleton.mp hk]
  simp only [List.mem_cons, List.not_mem_nil, or_false] at hm
  omega
theorem chr_ok (v : Int) : OkT (cp ⟨#[(v.fmod 1114112).toNat]⟩) := by
  have h5 := fm v 1114112 (by decide)
  intro k hk
  have : k = (v.fmod 1114112).toNat := List.mem_singleton.mp hk
  have h6 : v.fmod 1114112 < 1114112 := h5.2
  have h7 : 0 ≤ v.fmod 1114112 := h5.1
  omega
theorem piece_does (w : World) (p : Program) (loose : List Str) (mean : ExcName → Option Value) (mg mb : Str → Option Value) (news : Led) (r : Int) (t : Tok) :
   Does w p loose mean mg mb 2 64 95 news [.int r t] (fun v news' => news' = news ∧ ∃ y t', v = .str y t' ∧ y.length ≤ 6 ∧ OkT (cp y)) := by
  k_with_none
  k_with "TPost" => (dsimp only [TPost])
  k_with "exec While Compare cons nil" => (k_extra "MyWhile")
  k_with "exec For Name Name cons nil" => (walk_at "MY for")
  k_with "exec For Name Call cons nil" => (walk_at "MY for")
  k_with "exec For Name List cons nil" => (walk_at "MY for")
  k_with "pyIter str" => (k_extra "MyIter")
  k_with "pyIter ref" => (k_extra "MyIter")
  k_with "call ref" => (k_extra "MyCall")
  k_with "call builtin:list.append" => (k_extra "MyAppend")
  k_with "callWith ref" => (k_here; first | (refine' callWith_K (by k_asm) (by k_is) ?_; k_whole) | (refine' callWith_K0 (by (first | (with_reducible assumption) | exact Frag.In.keeps (by with_reducible assumption) (Fr.keep (by with_reducible assumption)) | k_in)) (by k_is) ?_; k_whole) | ((refine' callWith_M0 (by k_meth) (by k_is) ?_; k_whole); try dsimp only [List.nil_append, List.cons_append]) | (refine' callWith_M (by k_asm) (by k_asm) (by k_mem) (by k_is) ?_; k_whole))
  k_with "binaryOp Mult str int" => (k_extra "MyMulS")
  w_top off
  unfold Does
  k_fill
  intros dp un gd cn cs a ccd cl outer A₀ base h₀ L m s Q E iB iF iX iN iT ik id iu hret
  k_with_none
  k_with "TPost" => (dsimp only [TPost])
  k_with "exec While Compare cons nil" => (k_extra "MyWhile")
  k_with "exec For Name Name cons nil" => (walk_at "MY for")
  k_with "exec For Name Call cons nil" => (walk_at "MY for")
  k_with "exec For Name List cons nil" => (walk_at "MY for")
  k_with "pyIter str" => (k_extra "MyIter")
  k_with "pyIter ref" => (k_extra "MyIter")
  k_with "call ref" => (k_extra "MyCall")
  k_with "call builtin:list.append" => (k_extra "MyAppend")
  k_with "callWith ref" => (k_here; first | (refine' callWith_K (by k_asm) (by k_is) ?_; k_whole) | (refine' callWith_K0 (by (first | (with_reducible assumption) | exact Frag.In.keeps (by with_reducible assumption) (Fr.keep (by with_reducible assumption)) | k_in)) (by k_is) ?_; k_whole) | ((refine' callWith_M0 (by k_meth) (by k_is) ?_; k_whole); try dsimp only [List.nil_append, List.cons_append]) | (refine' callWith_M (by k_asm) (by k_asm) (by k_mem) (by k_is) ?_; k_whole))
  k_with "binaryOp Mult str int" => (k_extra "MyMulS")
  k_with "Sub" => ((repeat (refine List.forall_mem_cons.mpr (And.intro ?_ ?_); k_mem)); (intro p hp; (repeat (first | exact hp | apply List.mem_cons_of_mem)); done))
  have hg5 := getD5 ((r.fdiv 4).fmod 5).toNat
  have hg4 := getD4 ((r.fdiv 4).fmod 4).toNat
  k_with "MyMulS" => (
    first
    | (refine' SB.mul (mulOk_of 16 1048576 (by decide +kernel) (by omega) (by omega) (by decide) (by decide)) ?_; intro t9 k9))
  walk_at "MY enter"
  rename Fr _ _ _ (fun y => List.lookup y _) => F
  replace F := fr_map F (m' := fun y => if y = Str.ofString "r" then some (.int r t) else none) (fun y => look1 _ _ y)
  k_steps
  all_goals first
    | (    exact hret _ _ _ _ (by k_asm) (cb_drop (by assumption) (by k_extra "Sub")) ⟨rfl, _, _, rfl, len_mul_one (N := 6) quote1 (by exact hg5.2), ok_mul quote1 (by decide)⟩)
    | (    exact hret _ _ _ _ (by k_asm) (cb_drop (by assumption) (by k_extra "Sub")) ⟨rfl, _, _, rfl, len_mul_one (N := 6) slash1 (by exact hg4.2), ok_mul slash1 (by decide)⟩)
    | exact hret _ _ _ _ (by k_asm) (cb_drop (by assumption) (by k_extra "Sub")) ⟨rfl, _, _, rfl, item5 _⟩
    | exact hret _ _ _ _ (by k_asm) (cb_drop (by assumption) (by k_extra "Sub")) ⟨rfl, _, _, rfl, by show (1 : Nat) ≤ 6; decide, chr_ok _⟩
end
end Mine
end
section
open PySem PySem.W PySem.Calls PySem.Spec PyProof.Rows
namespace Mine
theorem ints_item {vs : List Value} {ns : List Int} (h : IntsAre vs ns) : ∀ {i : Nat} {v : Value}, vs.toArray[i]? = some v → ∃ a t, v = .int a t := by
  intro i v hv
  have hv' : vs[i]? = some v := by simpa using hv
  clear hv
  induction h generalizing i with
  | nil => simp at hv'
  | cons a t r ih =>
    cases i with
    | zero => simp at hv'; exact ⟨a, t, hv'.symm⟩
    | succ i => exact ih (by simpa using hv')
theorem flip01 {l : List Int} (h : ∀ a ∈ l, a = 0 ∨ a = 1) : ∀ a ∈ l.map (fun a : Int => 1 - a), a = 0 ∨ a = 1 := by
  intro a ha
  obtain ⟨b, hb, rfl⟩ := List.mem_map.mp ha
  rcases h b hb with rfl | rfl <;> simp
theorem agree_law {w : World} {p : Program} {loose : List Str} {mean : ExcName → Option Value} {mg mb : Str → Option Value} {dp un : Nat} {gd : Option (List Code)} {cn : Str} {cs : Scope} {a : Addr} {ccd : Value} {cl : List (Str × Addr)} {A₀ : Around} {base h₀ : Heap} {L : Addr} {m : Str → Option Value} {s : Shared} {Q E : Value → Shared → Prop}
    {led cd : Led} {tb : Obj} {dl : Nat} {dvs : List Value} {dn : Nat} {is : List Int} {x : Str} {t : Tok}
    (B : Below A₀ base [] h₀) (F : Fr h₀ L s.heap m) (X : (hd.heap_39 w.params).In h₀) (N : News h₀ L s.heap led) (T : Top p loose mean mg mb h₀) (XB : (hd.heap_39 w.params).In base) (TB : Top p loose mean mg mb base)
    (hm125 : (125, tb) ∈ led) (hdm : (dl, W.listOf dvs.toArray dn) ∈ led) (hne : dl ≠ 125) (hcd : ∀ q ∈ cd, q ∈ led) (hoff : ∀ q ∈ cd, q.1 ≠ 125) (htab : TabG LamQ LPos tb cd) (hI : IntsAre dvs is) (h01 : ∀ a ∈ is, a = 0 ∨ a = 1) (h5 : is.length ≤ 5) (hx : x.length ≤ 900) (hok : OkT (cp x))
    (hk : cs.kind = .function) (hdp : dp + 20 < recursionLimit) (hu : un + 300 < cLine)
    (ret : ∀ ps cd' h' tk', Fr h₀ L h' m → News h₀ L h' ((dl, W.listOf dvs.toArray dn) :: (125, tabObj ps) :: cd') → (∀ q ∈ cd', q.1 ≠ 125) → TabG LamQ LPos (tabObj ps) cd' → Q (.bool true) { s with heap := h', toks := tk' }) :
    wpAny (model PySem.Challenge.rw_pm0007_01.row.prog w) (ktrTop dp un gd cn cs L a ccd cl []) (call (.ref 142) [.str x t, .ref dl]) Q E s := by
  have hd1 := deeds_of hI h01
  refine doesG_use (agree_does w p loose mean mg mb ((dl, W.listOf dvs.toArray dn) :: cd) tb x (is.map Int.toNat) dl dvs dn t hx (by rw [List.length_map]; exact h5) hd1.2 (.head _) hd1.1 (List.forall_mem_cons.mpr ⟨hne, hoff⟩) (htab.mono fun q hq => .tail _ hq) hok)
    B F X (cb_drop N (List.forall_mem_cons.mpr ⟨hm125, List.forall_mem_cons.mpr ⟨hdm, hcd⟩⟩)) T XB TB ktsDicts_nil hk hdp hu ?_
  rintro h₁ r news' h' tk' G F' N' ⟨rfl, tb', cd', rfl, h1, h2, h3⟩
  obtain ⟨ps, rfl⟩ : ∃ ps, tb' = tabObj ps := by
    rcases h3 with e | ⟨_, _, _, _, e, _⟩
    · exact ⟨_, e⟩
    · exact ⟨_, e⟩
  exact ret ps cd' h' tk' (fr_back G.turn F') (cb_drop (news_back G.turn N') (List.forall_mem_cons.mpr ⟨List.mem_cons_of_mem _ (h1 _ (.head _)), fun q hq => hq⟩)) h2 h3
end Mine
open Mine
local macro_rules | `(tactic| walk_at $s:str) => `(tactic| k_dflt (k_extra $s))
theorem PySem.Challenge.cw_pm0007_01_holds : PySem.Challenge.rw_pm0007_01.Holds :=
  hd (by
  k_with_none
  k_with "TPost" => (dsimp only [TPost])
  k_with "exec While Compare cons nil" => (k_extra "MyWhile")
  k_with "exec For Name Name cons nil" => (walk_at "MY for")
  k_with "exec For Name Call cons nil" => (walk_at "MY for")
  k_with "exec For Name List cons nil" => (walk_at "MY for")
  k_with "pyIter str" => (k_extra "MyIter")
  k_with "pyIter ref" => (k_extra "MyIter")
  k_with "call ref" => (k_extra "MyCall")
  k_with "call builtin:list.append" => (k_extra "MyAppend")
  k_with "callWith ref" => (k_here; first | (refine' callWith_K (by k_asm) (by k_is) ?_; k_whole) | (refine' callWith_K0 (by (first | (with_reducible assumption) | exact Frag.In.keeps (by with_reducible assumption) (Fr.keep (by with_reducible assumption)) | k_in)) (by k_is) ?_; k_whole) | ((refine' callWith_M0 (by k_meth) (by k_is) ?_; k_whole); try dsimp only [List.nil_append, List.cons_append]) | (refine' callWith_M (by k_asm) (by k_asm) (by k_mem) (by k_is) ?_; k_whole))
  k_with "eval ListComp" => (k_extra "MyComp")
  k_with "CompSrc Call nil ref" => (k_extra "MySrc")
  k_with "CompEnd" => (k_extra "MyEnd")
  k_with "call builtin:str.join" => (k_extra "MyJoin")
  k_with "subscriptTail BinOp ListComp Add List Slice ref ref" => (k_extra "MySlice")
  k_with "subscriptTail Name Slice ref ref" => (k_extra "MySlice")
  k_with "call builtin:len" => (k_extra "MyLen")
  k_go0
  all_goals (try k_fold)
  have mark1 : True := trivial
  k_with "Sub" => ((repeat (refine List.forall_mem_cons.mpr (And.intro ?_ ?_); k_mem)); (intro p hp; (repeat (first | exact hp | apply List.mem_cons_of_mem)); done))
  k_with "MySlice" => (
    first
    | (    refine kba_turn (value' := PySem.Expr.Name (Str.ofString "x") { line := 0, col := 0, endLine := 0, endCol := 0 }) (by intro _; with_unfolding_all rfl) ?_
           refine' kmk_slice_ints (by k_asm) (by k_asm) (by kmk_list) (by kmk_part) (by kmk_part) (by l_ints) (by kmk_nums) (by kmk_len) ?_ (by with_unfolding_all rfl) (by kmk_pure) (by kmk_size)
           intro D7 ws7 h7 F7 N7 l7 hI7 hC7 hL7
           (try simp only [Int.reduceNeg, Int.neg_neg, Int.reduceToNat] at hI7 hC7 hL7)
           (try k_lt l7))
    | fail "no")
  k_with "MyComp" => (
    first
    | ((with_reducible show wpAny _ _ (eval (PySem.Expr.ListComp (PySem.Expr.Call _ _ _ _) _ _ _) _) _ _ _)
       (    refine LCg.ListComp_U (F₀ := by k_asm) (by with_unfolding_all rfl) (by decide) (by rfl) (by decide) (by rfl) ?_))
    | fail "no")
  k_with "MySrc" => (
    first
    | (    rename IntsAre _ _ => hI9
           have hIl := hI9.length
           simp only [List.length_take] at hIl
           refine LCg.CompSrc.ledger (by rfl) (by k_asm) (by k_asm) (by k_mem) (by rw [List.size_toArray, hIl]; show _ ≤ sizeLine; unfold sizeLine; omega) ?_
           intro g8
           refine compRest_ind (fun i ys => ∃ ws, StrsAre ys ws ∧ ws.length = i ∧ ∀ y ∈ ws, Small y) ?_ ?_ _ _ _ (Nat.zero_add _) ⟨[], .nil, rfl, by simp⟩
           rintro ys ⟨ws, hys, hwn, hws⟩
           rw [List.size_toArray, hIl] at hwn
           have hyl := hys.length
           have hw4 : ws.length ≤ 4 := by omega
           rotate_left
           rintro i ys hi ⟨ws, hys, hwn, hws⟩ v I oI C oC D m2 h2 tk2 E2 hP hC hx F2 N2 off2 ne2
           obtain ⟨a9, t9, rfl⟩ := ints_item hI9 hP))
  k_with "MyEnd" => (
    first
    | (    refine' LCg.CompEnd.intro (by assumption) (by assumption) _ (fun p hp => hp) (by first | assumption | (simp only [LCg.Off3, and_true] at *; assumption)) (by lcg_src) ⟨rfl, _, strs_snoc' hys, by simp [hwn], ?_⟩
           intro y9 hy9
           rcases List.mem_append.mp hy9 with hy9 | hy9
           exact hws _ hy9
           rw [List.mem_singleton.mp hy9]
           exact hsm9)
    | fail "no")
  k_with "MyJoin" => (
    first
    | (    refine' join_small (by exact ⟨_, News.get (by k_asm) (by k_mem), rfl, _, rfl⟩) hys hws hw4 ?_
           intro jy jt jk hjl hjo
           have hsl := ok_slice ys.length (by omega)
           (try dsimp only)))
  k_with "MyLen" => (
    first
    | (    refine' kst_len (k := ys.length) (by k_asm) (by k_mem) rfl (by omega) ?_))
  k_with "MyCall" => (
    first
    | ((with_reducible show wpAny _ _ (call (Value.ref 95) _) _ _ _)
       (    refine' does_use (piece_does _ _ _ _ _ _ _ _ _) (by k_asm) (by k_asm) (by k_asm) (by k_asm) (by k_asm) (by first | exact rfl | assumption) (by ktr_room) (by ktr_units) ?_
            rintro r9 news9 h9 tk9 F9 N9 ⟨rfl, y9, t9, rfl, hsm9⟩
            (try dsimp only)))
    | ((with_reducible show wpAny _ _ (call (Value.ref 142) _) _ _ _)
       clear mark1
       (    refine' agree_law (cd := []) (by k_asm) (by k_asm) (by k_asm) (by k_asm) (by k_asm) (by k_asm) (by k_asm) (by k_mem) (by k_mem) (by omega) (fun _ h => absurd h List.not_mem_nil) (fun _ h => absurd h List.not_mem_nil) (.inl rfl) (by assumption) (deeds01 _) (by simp only [List.length_take]; omega) (by rw [Str.length_append]; omega) (by rw [cp_append]; exact ok_append hjo hsl.2) (by first | exact rfl | assumption) (by ktr_room) (by ktr_units) ?_
            intro ps1 cd1 h9 tk9 F9 N9 hoff1 htab1
            (try dsimp only)))
    | ((with_reducible show wpAny _ _ (call (Value.ref 142) _) _ _ _)
       (    refine' agree_law (cd := cd1) (by k_asm) (by k_asm) (by k_asm) (by k_asm) (by k_asm) (by k_asm) (by k_asm) (by k_mem) (by k_mem) (by omega) (by k_extra "Sub") hoff1 htab1 (by assumption) (flip01 (deeds01 _)) (by simp only [List.length_map, List.length_take]; omega) (by rw [Str.length_append]; omega) (by rw [cp_append]; exact ok_append hjo hsl.2) (by first | exact rfl | assumption) (by ktr_room) (by ktr_units) ?_
            intro ps2 cd2 h9 tk9 F9 N9 hoff2 htab2
            (try dsimp only))))
  k_steps)
end
