import PyProof.Rows.All
import Wide.All
import OpenK.AllK
import Wide.FinOn
import PySem.Challenge.RW_mg0085_01
set_option Elab.async false
namespace Mine
section
open PySem PySem.W PyProof.Rows
set_option maxRecDepth 100000 in
set_option maxHeartbeats 8000000 in
open_top hd for PySem.Challenge.rw_mg0085_01
end
section
open PySem PySem.W PyProof.Rows PySem.Spec PySem.Calls
def Ct (k : Nat) (w : World) (f : Addr) (news : List (Addr × Obj)) (vs : List Value) (Post : Value → List (Addr × Obj) → Prop) : Prop :=
  ∀ (p₀ : Program) (lo₀ : List Str) (mean : ExcName → Option Value) (mg mb : Str → Option Value) (dp un : Nat) (gd : Option (List Code)) (cn : Str) (cs : Scope) (a : Addr) (ccd : Value) (cl : List (Str × Addr)) (outer : List Env) (A₀ : Around) (base h₀ : Heap) (L : Addr) (m : Str → Option Value) (s : Shared) (Q E : Value → Shared → Prop),
    Below A₀ base outer h₀ → Fr h₀ L s.heap m → (hd.heap_39 w.params).In h₀ → News h₀ L s.heap news → Top p₀ lo₀ mean mg mb h₀ → cs.kind = .function →
    dp + 4 * k < recursionLimit → un + 96 * k < cLine →
    (∀ r tl h' tk', Fr h₀ L h' m → News h₀ L h' (tl ++ news) → (∀ q ∈ news, ∀ p ∈ tl, q.1 < p.1) → Post r tl → Q r { s with heap := h', toks := tk' }) →
    wpAny (model PySem.Challenge.rw_mg0085_01.row.prog w) (ktrTop dp un gd cn cs L a ccd cl outer) (call (.ref f) vs) Q E s
end
section
open PySem PySem.W PyProof.Rows PyProof.V PySem.Spec PySem.Calls
section
variable {prog : Program} {w : World} {A : Around} {E : Value → Shared → Prop} {s : Shared} {env : Env} {h₀ : Heap} {x : Str} {body : List Stmt} {Q : Flow → Shared → Prop}

structure Go (h₀ : Heap) (L I : Addr) (J' : (Str → Option Value) → List (Addr × Obj) → Prop) (own : List (Addr × Obj)) (s₁ : Shared) (Q q : Flow → Shared → Prop) : Prop where
  ret : ∀ v s₂, Q (.ret v) s₂ → q (.ret v) s₂
  brk : ∀ s₂, Q .next s₂ → q .brk s₂
  next : ∀ h' tk m' nx, Fr h₀ L h' m' → News h₀ L h' (nx ++ own) → (∀ p ∈ nx, p.1 ≠ I) → J' m' nx → q .next { s₁ with heap := h', toks := tk }
  cont : ∀ h' tk m' nx, Fr h₀ L h' m' → News h₀ L h' (nx ++ own) → (∀ p ∈ nx, p.1 ≠ I) → J' m' nx → q .cont { s₁ with heap := h', toks := tk }

theorem news_swap {h₀ h : Heap} {L : Addr} {a b : List (Addr × Obj)} (N : News h₀ L h (a ++ b)) : News h₀ L h (b ++ a) := fun p hp => N p ((List.mem_append.mp hp).elim (fun h => List.mem_append.mpr (.inr h)) fun h => List.mem_append.mpr (.inl h))

theorem gloop {I : Addr} {fp : List Addr} {n : Nat} {P : Nat → Value → Prop} {St : Nat → Heap → Prop} {m₀ : Str → Option Value} {news : List (Addr × Obj)} (J : Nat → (Str → Option Value) → List (Addr × Obj) → Prop)
    (W : Walks prog w A I fp [I] n P St) (hI0 : h₀.get? I = none) (hob : ∀ i h, St i h → ∃ o, h.get? I = some o) (hLf : env.locals ∉ fp) (hnw : ∀ p ∈ news, p.1 ≠ I) (hst : St 0 s.heap)
    (F : Fr h₀ env.locals s.heap m₀) (N : News h₀ env.locals s.heap news) (hj : J 0 m₀ news)
    (turn : ∀ i v m₁ nx h tk own o (q : Flow → Shared → Prop), i < n → P i v → J i m₁ nx → (I, o) ∈ own → (∀ p ∈ own, p.1 ∈ fp) → (∀ p ∈ nx, p.1 ≠ I) →
      Fr h₀ env.locals h (fun y => if y = x then some v else m₁ y) → News h₀ env.locals h (nx ++ own) → Go h₀ env.locals I (J (i + 1)) own { s with heap := h, toks := tk } Q q →
      wpAny (model prog w) A (execs body env) q E { s with heap := h, toks := tk })
    (done : ∀ m₁ nx h tk, J n m₁ nx → Fr h₀ env.locals h m₁ → News h₀ env.locals h nx → Q .next { s with heap := h, toks := tk }) :
    LoopAtV prog w A h₀ env x body Q E (.ref I) s := by
  have hIw : I ∈ [I] := .head _
  refine ⟨I, fp, [I], n, P, St, m₀, news, J, rfl, W, hLf, fun b hb => by rw [List.mem_singleton.mp hb]; exact hI0, fun p hp hb => hnw p hp (List.mem_singleton.mp hb), hst, F, N, hj, ?_, ?_⟩
  · rintro i v m₁ nx s₁ own ⟨hh', tk', rfl⟩ hin hP hJ hoff hown _ hall hst' F₁ N₁
    obtain ⟨o, ho⟩ := hob _ _ hst'
    have hio : (I, o) ∈ own := hall I (W.sub _ hIw) hI0 o ho
    refine turn i v m₁ nx hh' tk' own o _ hin hP hJ hio hown (fun p hp e => hoff p hp (List.mem_singleton.mpr e)) F₁ (news_swap N₁) ?_
    refine ⟨fun v s₂ h => .ret h, fun s₂ h => .brk h, ?_, ?_⟩
    · intro h' tk m' nx' F' N' hne hJ'
      exact .next (.intro F' (news_swap N') (fun p hp hb => hne p hp (List.mem_singleton.mp hb)) hJ')
    · intro h' tk m' nx' F' N' hne hJ'
      exact .cont (.intro F' (news_swap N') (fun p hp hb => hne p hp (List.mem_singleton.mp hb)) hJ')
  · intro h' tk m' nx F' N' _ hJ
    exact done m' nx h' tk hJ F' N'

theorem gtext {xt : Str} {tx : Tok} {m₀ : Str → Option Value} {news : List (Addr × Obj)} (J : Nat → (Str → Option Value) → List (Addr × Obj) → Prop)
    (hh : A.handled = none) (F : Fr h₀ env.locals s.heap m₀) (N : News h₀ env.locals s.heap news) (hj : J 0 m₀ news)
    (turn : ∀ i (c : Nat) t m₁ nx h tk own I o (q : Flow → Shared → Prop), i < xt.cps.size → xt.cps[i]? = some c → J i m₁ nx → (I, o) ∈ own → (∀ p ∈ own, p.1 ∈ [I]) → (∀ p ∈ nx, p.1 ≠ I) →
      Fr h₀ env.locals h (fun y => if y = x then some (.str ⟨#[c]⟩ t) else m₁ y) → News h₀ env.locals h (nx ++ own) → Go h₀ env.locals I (J (i + 1)) own { s with heap := h, toks := tk } Q q →
      wpAny (model prog w) A (execs body env) q E { s with heap := h, toks := tk })
    (done : ∀ m₁ nx h tk, J xt.cps.size m₁ nx → Fr h₀ env.locals h m₁ → News h₀ env.locals h nx → Q .next { s with heap := h, toks := tk }) :
    wpAny (model prog w) A (pyIter (.str xt tx)) (fun it s₂ => LoopAtV prog w A h₀ env x body Q E it s₂) E s := by
  refine wpAny_pyIter_strU ?_
  have hlt : ∀ p ∈ news, p.1 ≠ s.heap.objs.size := fun p hp e => absurd (Heap.lt_size (N p hp).1) (e ▸ Nat.lt_irrefl _)
  have hL : env.locals ∉ [s.heap.objs.size] := fun hm => absurd F.ns.lt ((List.mem_singleton.mp hm) ▸ Nat.lt_irrefl _)
  have N' := fun o => (fun p hp => ⟨Heap.get?_push_of_some o (N p hp).1, (N p hp).2⟩ : News h₀ env.locals (s.heap.push o) news)
  cases ha : xt.cps.all (· < 128)
  · have e : strIterType xt = "str_iterator" := by simp [strIterType, ha]
    rw [e]
    refine gloop J (Walks.strWide hh _ xt tx) (next_is_new F) (fun i h st => let ⟨o, ho, _⟩ := st; ⟨o, ho⟩) hL hlt ⟨_, Heap.get?_push_size _ rfl, rfl, rfl⟩ (F.push _) (N' _) hj ?_ done
    rintro i v m₁ nx h tk own o q hi ⟨c, u, hc, rfl⟩ hJ hio hown hne F₁ N₁ G
    exact turn i c u m₁ nx h tk own _ o q hi hc hJ hio hown hne F₁ N₁ G
  · have e : strIterType xt = "str_ascii_iterator" := by simp [strIterType, ha]
    rw [e]
    refine gloop J (Walks.strAscii hh _ xt tx) (next_is_new F) (fun i h st => let ⟨o, ho, _⟩ := st; ⟨o, ho⟩) hL hlt ⟨_, Heap.get?_push_size _ rfl, rfl, rfl⟩ (F.push _) (N' _) hj ?_ done
    rintro i v m₁ nx h tk own o q hi ⟨c, u, hc, rfl⟩ hJ hio hown hne F₁ N₁ G
    exact turn i c u m₁ nx h tk own _ o q hi hc hJ hio hown hne F₁ N₁ G

theorem glist {l : Addr} {vs : Array Value} {nn : Nat} {m₀ : Str → Option Value} {news : List (Addr × Obj)} (J : Nat → (Str → Option Value) → List (Addr × Obj) → Prop)
    (hh : A.handled = none) (F : Fr h₀ env.locals s.heap m₀) (N : News h₀ env.locals s.heap news) (hl : (l, W.listOf vs nn) ∈ news) (hj : J 0 m₀ news)
    (turn : ∀ i v t m₁ nx h tk own I o (q : Flow → Shared → Prop), i < vs.size → vs[i]? = some v → J i m₁ nx → (I, o) ∈ own → (∀ p ∈ own, p.1 ∈ [I, l]) → (∀ p ∈ nx, p.1 ≠ I) →
      Fr h₀ env.locals h (fun y => if y = x then some v else m₁ y) → News h₀ env.locals h (nx ++ own) → Go h₀ env.locals I (J (i + 1)) own { s with heap := h, toks := tk } Q q → t = tk →
      wpAny (model prog w) A (execs body env) q E { s with heap := h, toks := tk })
    (done : ∀ m₁ nx h tk, J vs.size m₁ nx → Fr h₀ env.locals h m₁ → News h₀ env.locals h nx → Q .next { s with heap := h, toks := tk }) :
    wpAny (model prog w) A (pyIter (.ref l)) (fun it s₂ => LoopAtV prog w A h₀ env x body Q E it s₂) E s := by
  have hls : s.heap.IsList l vs := ⟨_, (N _ hl).1, rfl, nn, rfl⟩
  have hll : l ≠ s.heap.objs.size := Nat.ne_of_lt (Heap.lt_size (N _ hl).1)
  refine wpAny_pyIter_list hls ?_
  have hlt : ∀ p ∈ news, p.1 ≠ s.heap.objs.size := fun p hp e => absurd (Heap.lt_size (N p hp).1) (e ▸ Nat.lt_irrefl _)
  have hL : env.locals ∉ [s.heap.objs.size, l] := fun hm => by
    rcases List.mem_cons.mp hm with e | hm
    · exact absurd F.ns.lt (e ▸ Nat.lt_irrefl _)
    · exact (N _ hl).2.1 (List.mem_singleton.mp hm).symm
  have N' := fun o => (fun p hp => ⟨Heap.get?_push_of_some o (N p hp).1, (N p hp).2⟩ : News h₀ env.locals (s.heap.push o) news)
  refine gloop J (Walks.list hh _ l hll vs) (next_is_new F) (fun i h st => let ⟨⟨o, ho, _⟩, _⟩ := st; ⟨o, ho⟩) hL hlt ⟨⟨_, Heap.get?_push_size _ rfl, rfl, rfl⟩, hls.at fun o e => Heap.get?_push_of_some _ e⟩ (F.push _) (N' _) hj ?_ done
  intro i v m₁ nx h tk own o q hi hv hJ hio hown hne F₁ N₁ G
  exact turn i v _ m₁ nx h tk own _ o q hi hv hJ hio hown hne F₁ N₁ G rfl

theorem grange {r : Addr} {a₀ b₀ : Int} {t₀ u₀ v₀ : Tok} {n : Nat} {m₀ : Str → Option Value} {news : List (Addr × Obj)} (J : Nat → (Str → Option Value) → List (Addr × Obj) → Prop)
    (hh : A.handled = none) (hr : IsRange s.heap r a₀ b₀ 1 t₀ u₀ v₀) (hsmall : Builtin.Range.small a₀ b₀ 1 = true) (hn : Builtin.Range.rangeSize a₀ b₀ 1 = (n : Int)) (F : Fr h₀ env.locals s.heap m₀) (N : News h₀ env.locals s.heap news) (hj : J 0 m₀ news)
    (turn : ∀ i t m₁ nx h tk own I o (q : Flow → Shared → Prop), i < n → J i m₁ nx → (I, o) ∈ own → (∀ p ∈ own, p.1 ∈ [I]) → (∀ p ∈ nx, p.1 ≠ I) →
      Fr h₀ env.locals h (fun y => if y = x then some (.int (a₀ + (i : Int)) t) else m₁ y) → News h₀ env.locals h (nx ++ own) → Go h₀ env.locals I (J (i + 1)) own { s with heap := h, toks := tk } Q q →
      wpAny (model prog w) A (execs body env) q E { s with heap := h, toks := tk })
    (done : ∀ m₁ nx h tk, J n m₁ nx → Fr h₀ env.locals h m₁ → News h₀ env.locals h nx → Q .next { s with heap := h, toks := tk }) :
    wpAny (model prog w) A (pyIter (.ref r)) (fun it s₂ => LoopAtV prog w A h₀ env x body Q E it s₂) E s := by
  refine wpAny_pyIter_range hr hsmall ?_
  have W : Walks prog w A s.heap.objs.size [s.heap.objs.size] [s.heap.objs.size] n (fun i v => i < n ∧ ∃ t, v = .int (a₀ + i * 1) t)
      (fun i h => IsRangeIter h s.heap.objs.size (a₀ + (i : Nat) * 1) ((n : Int) - (i : Nat)) 1) := (Walks.range hh _ a₀ 1 n).bound
  have hlt : ∀ p ∈ news, p.1 ≠ s.heap.objs.size := fun p hp e => absurd (Heap.lt_size (N p hp).1) (e ▸ Nat.lt_irrefl _)
  have hL : env.locals ∉ [s.heap.objs.size] := fun hm => absurd F.ns.lt ((List.mem_singleton.mp hm) ▸ Nat.lt_irrefl _)
  have N' := fun o => (fun p hp => ⟨Heap.get?_push_of_some o (N p hp).1, (N p hp).2⟩ : News h₀ env.locals (s.heap.push o) news)
  refine gloop J W (next_is_new F) (fun i h st => ⟨_, st⟩) hL hlt (by show IsRangeIter _ _ _ _ _; rw [hn]; simpa using Heap.get?_push_size _ rfl) (F.push _) (N' _) hj ?_ done
  rintro i v m₁ nx h tk own o q hi ⟨_, t, rfl⟩ hJ hio hown hne F₁ N₁ G
  rw [Int.mul_one] at F₁
  exact turn i t m₁ nx h tk own _ o q hi hJ hio hown hne F₁ N₁ G

def GS {σ : Type} (Led : σ → List (Addr × Obj)) (ps : σ → List (Str × Value)) (x : Str) (stored : List Str) (m₀ : Str → Option Value) (P : σ → Prop) (m : Str → Option Value) (nx : List (Addr × Obj)) : Prop :=
  ∃ c : σ, nx = Led c ∧ P c ∧ (∀ p ∈ ps c, m p.1 = some p.2) ∧ (∀ z, z ≠ x → (∀ p ∈ ps c, z ≠ p.1) → stored.contains z = false → m z = m₀ z)

theorem ownOff_of {own nx : List (Addr × Obj)} {I : Addr} (h1 : ∀ p ∈ own, p.1 ∈ [I]) (h2 : ∀ p ∈ nx, p.1 ≠ I) : OwnOff own (nx.map (·.1)) := by
  intro p hp b hb e
  obtain ⟨q, hq, rfl⟩ := List.mem_map.mp hb
  exact h2 q hq (e ▸ List.mem_singleton.mp (h1 p hp))
/-- what a turn may end in -/
structure Gn {σ : Type} (Led : σ → List (Addr × Obj)) (ps : σ → List (Str × Value)) (x : Str) (stored : List Str) (m₀ : Str → Option Value) (P R : σ → Prop) (h₀ : Heap) (L I : Addr) (own : List (Addr × Obj)) (s₁ : Shared) (Q q : Flow → Shared → Prop) : Prop where
  ret : ∀ v s₂, Q (.ret v) s₂ → q (.ret v) s₂
  brk : ∀ s₂, Q .next s₂ → q .brk s₂
  out : ∀ h' tk m' (c : σ), Fr h₀ L h' m' → News h₀ L h' (Led c ++ own) → R c → (∀ p ∈ ps c, m' p.1 = some p.2) → (∀ z, z ≠ x → (∀ p ∈ ps c, z ≠ p.1) → stored.contains z = false → m' z = m₀ z) → q .brk { s₁ with heap := h', toks := tk }
  next : ∀ h' tk m' (c : σ), Fr h₀ L h' m' → News h₀ L h' (Led c ++ own) → (∀ p ∈ Led c, p.1 ≠ I) → P c → (∀ p ∈ ps c, m' p.1 = some p.2) → (∀ z, z ≠ x → (∀ p ∈ ps c, z ≠ p.1) → stored.contains z = false → m' z = m₀ z) → q .next { s₁ with heap := h', toks := tk }
theorem Go.gn {σ : Type} {Led : σ → List (Addr × Obj)} {ps : σ → List (Str × Value)} {stored : List Str} {m₀ : Str → Option Value} {P R : σ → Prop} {L I : Addr} {own : List (Addr × Obj)} {s₁ : Shared} {q : Flow → Shared → Prop}
    (G : Go h₀ L I (GS Led ps x stored m₀ P) own s₁ Q q)
    (done : ∀ (c : σ) (u : Str → Option Value) h tk, R c → Fr h₀ L h (fun y => if y = x then u y else kstB (fun z => if stored.contains z then u z else m₀ z) (ps c) y) → News h₀ L h (Led c) → Q .next { s₁ with heap := h, toks := tk }) : Gn Led ps x stored m₀ P R h₀ L I own s₁ Q q :=
  ⟨G.ret, G.brk, fun h' tk m' c F N hR h1 h2 => G.brk _ (done c m' h' tk hR (kst_frOut h1 h2 F) (kst_newsOf N fun p hp => List.mem_append.mpr (.inl hp))), fun h' tk m' c F N hne hp h1 h2 => G.next h' tk m' _ F N hne ⟨c, rfl, hp, h1, h2⟩⟩

theorem stext {σ : Type} {xt : Str} {tx : Tok} {m₀ : Str → Option Value} (Led : σ → List (Addr × Obj)) (ps : σ → List (Str × Value)) (stored : List Str) (P : Nat → σ → Prop) (R : σ → Prop) (c₀ : σ)
    (hh : A.handled = none) (F : Fr h₀ env.locals s.heap m₀) (N : News h₀ env.locals s.heap (Led c₀)) (hk : ∀ p ∈ ps c₀, m₀ p.1 = some p.2) (hp : P 0 c₀)
    (turn : ∀ i (cd : Nat) t (c : σ) (u : Str → Option Value) h tk own I o (q : Flow → Shared → Prop), i < xt.cps.size → xt.cps[i]? = some cd → P i c → (I, o) ∈ own → OwnOff own ((Led c).map (·.1)) → (∀ p ∈ Led c, p.1 ≠ I) →
      Fr h₀ env.locals h (fun y => if y = x then some (.str ⟨#[cd]⟩ t) else kstB (fun z => if stored.contains z then u z else m₀ z) (ps c) y) → News h₀ env.locals h (Led c ++ own) →
      Gn Led ps x stored m₀ (P (i + 1)) R h₀ env.locals I own { s with heap := h, toks := tk } Q q →
      wpAny (model prog w) A (execs body env) q E { s with heap := h, toks := tk })
    (hR : ∀ c, P xt.cps.size c → R c)
    (done : ∀ (c : σ) (u : Str → Option Value) h tk, R c → Fr h₀ env.locals h (fun y => if y = x then u y else kstB (fun z => if stored.contains z then u z else m₀ z) (ps c) y) → News h₀ env.locals h (Led c) → Q .next { s with heap := h, toks := tk }) :
    wpAny (model prog w) A (pyIter (.str xt tx)) (fun it s₂ => LoopAtV prog w A h₀ env x body Q E it s₂) E s := by
  refine gtext (fun i => GS Led ps x stored m₀ (P i)) hh F N ⟨c₀, rfl, hp, hk, fun _ _ _ _ => rfl⟩ ?_ ?_
  · rintro i cd t m₁ nx h tk own I o q hi hc ⟨c, rfl, hP, h1, h2⟩ hio hown hne F₁ N₁ G
    exact turn i cd t c m₁ h tk own I o q hi hc hP hio (ownOff_of hown hne) hne (kst_fr h1 h2 F₁) N₁ (G.gn (fun c u h tk r f n => done c u h tk r f n))
  · rintro m₁ nx h tk ⟨c, rfl, hP, h1, h2⟩ F₁ N₁
    exact done c m₁ h tk (hR _ hP) (kst_frOut h1 h2 F₁) N₁

theorem slist {σ : Type} {l : Addr} {vs : Array Value} {nn : Nat} {m₀ : Str → Option Value} (Led : σ → List (Addr × Obj)) (ps : σ → List (Str × Value)) (stored : List Str) (P : Nat → σ → Prop) (R : σ → Prop) (c₀ : σ)
    (hh : A.handled = none) (F : Fr h₀ env.locals s.heap m₀) (N : News h₀ env.locals s.heap (Led c₀)) (hl : (l, W.listOf vs nn) ∈ Led c₀) (hk : ∀ p ∈ ps c₀, m₀ p.1 = some p.2) (hp : P 0 c₀)
    (turn : ∀ i v (c : σ) (u : Str → Option Value) h tk own I o (q : Flow → Shared → Prop), i < vs.size → vs[i]? = some v → P i c → (I, o) ∈ own → (∀ p ∈ own, p.1 = I ∨ p.1 = l) → (∀ p ∈ Led c, p.1 ≠ I) →
      Fr h₀ env.locals h (fun y => if y = x then some v else kstB (fun z => if stored.contains z then u z else m₀ z) (ps c) y) → News h₀ env.locals h (Led c ++ own) →
      Gn Led ps x stored m₀ (P (i + 1)) R h₀ env.locals I own { s with heap := h, toks := tk } Q q →
      wpAny (model prog w) A (execs body env) q E { s with heap := h, toks := tk })
    (hR : ∀ c, P vs.size c → R c)
    (done : ∀ (c : σ) (u : Str → Option Value) h tk, R c → Fr h₀ env.locals h (fun y => if y = x then u y else kstB (fun z => if stored.contains z then u z else m₀ z) (ps c) y) → News h₀ env.locals h (Led c) → Q .next { s with heap := h, toks := tk }) :
    wpAny (model prog w) A (pyIter (.ref l)) (fun it s₂ => LoopAtV prog w A h₀ env x body Q E it s₂) E s := by
  refine glist (fun i => GS Led ps x stored m₀ (P i)) hh F N hl ⟨c₀, rfl, hp, hk, fun _ _ _ _ => rfl⟩ ?_ ?_
  · rintro i v t m₁ nx h tk own I o q hi hc ⟨c, rfl, hP, h1, h2⟩ hio hown hne F₁ N₁ G rfl
    exact turn i v c m₁ h _ own I o q hi hc hP hio (fun p hp => by simpa using hown p hp) hne (kst_fr h1 h2 F₁) N₁ (G.gn (fun c u h tk r f n => done c u h tk r f n))
  · rintro m₁ nx h tk ⟨c, rfl, hP, h1, h2⟩ F₁ N₁
    exact done c m₁ h tk (hR _ hP) (kst_frOut h1 h2 F₁) N₁

theorem srange {σ : Type} {r : Addr} {a₀ b₀ : Int} {t₀ u₀ v₀ : Tok} {n : Nat} {m₀ : Str → Option Value} (Led : σ → List (Addr × Obj)) (ps : σ → List (Str × Value)) (stored : List Str) (P : Nat → σ → Prop) (R : σ → Prop) (c₀ : σ)
    (hh : A.handled = none) (hr : IsRange s.heap r a₀ b₀ 1 t₀ u₀ v₀) (hsmall : Builtin.Range.small a₀ b₀ 1 = true) (hn : Builtin.Range.rangeSize a₀ b₀ 1 = (n : Int)) (F : Fr h₀ env.locals s.heap m₀) (N : News h₀ env.locals s.heap (Led c₀)) (hk : ∀ p ∈ ps c₀, m₀ p.1 = some p.2) (hp : P 0 c₀)
    (turn : ∀ i t (c : σ) (u : Str → Option Value) h tk own I o (q : Flow → Shared → Prop), i < n → P i c → (I, o) ∈ own → OwnOff own ((Led c).map (·.1)) → (∀ p ∈ Led c, p.1 ≠ I) →
      Fr h₀ env.locals h (fun y => if y = x then some (.int (a₀ + (i : Int)) t) else kstB (fun z => if stored.contains z then u z else m₀ z) (ps c) y) → News h₀ env.locals h (Led c ++ own) →
      Gn Led ps x stored m₀ (P (i + 1)) R h₀ env.locals I own { s with heap := h, toks := tk } Q q →
      wpAny (model prog w) A (execs body env) q E { s with heap := h, toks := tk })
    (hR : ∀ c, P n c → R c)
    (done : ∀ (c : σ) (u : Str → Option Value) h tk, R c → Fr h₀ env.locals h (fun y => if y = x then u y else kstB (fun z => if stored.contains z then u z else m₀ z) (ps c) y) → News h₀ env.locals h (Led c) → Q .next { s with heap := h, toks := tk }) :
    wpAny (model prog w) A (pyIter (.ref r)) (fun it s₂ => LoopAtV prog w A h₀ env x body Q E it s₂) E s := by
  refine grange (fun i => GS Led ps x stored m₀ (P i)) hh hr hsmall hn F N ⟨c₀, rfl, hp, hk, fun _ _ _ _ => rfl⟩ ?_ ?_
  · rintro i t m₁ nx h tk own I o q hi ⟨c, rfl, hP, h1, h2⟩ hio hown hne F₁ N₁ G
    exact turn i t c m₁ h tk own I o q hi hP hio (ownOff_of hown hne) hne (kst_fr h1 h2 F₁) N₁ (G.gn (fun c u h tk r f n => done c u h tk r f n))
  · rintro m₁ nx h tk ⟨c, rfl, hP, h1, h2⟩ F₁ N₁
    exact done c m₁ h tk (hR _ hP) (kst_frOut h1 h2 F₁) N₁
end
end
section
open PySem
/-- the letters of an indent -/
def Sp (l : List Nat) : Prop := ∀ c ∈ l, c = 9 ∨ c = 32
def grown (cnt : List Int) (b : Nat) : List Int := if cnt.length ≤ b then cnt ++ List.replicate (b - cnt.length + 1) 0 else cnt
/-- one more tab behind b blanks -/
def bump (cnt : List Int) (b : Nat) : List Int := (grown cnt b).set b ((grown cnt b).getD b 0 + 1)
structure WSt where
  cnt : List Int
  b : Nat
  n : Nat
  nt : Nat
def wstep (s : WSt) (c : Nat) : WSt := if c = 32 then ⟨s.cnt, s.b + 1, s.n + 1, s.nt⟩ else ⟨bump s.cnt s.b, 0, s.n + 1, s.nt + 1⟩
def wst (l : List Nat) : WSt := l.foldl wstep ⟨[], 0, 0, 0⟩

theorem wst_snoc (l : List Nat) (c : Nat) : wst (l ++ [c]) = wstep (wst l) c := by simp [wst]
theorem wst_take {l : List Nat} {i c : Nat} (h : l[i]? = some c) : wst (l.take (i + 1)) = wstep (wst (l.take i)) c := by
  rw [List.take_add_one, h]
  exact wst_snoc _ _
theorem grown_length (cnt : List Int) (b : Nat) : (grown cnt b).length = max cnt.length (b + 1) := by
  unfold grown
  split
  · simp; omega
  · omega
theorem bump_length (cnt : List Int) (b : Nat) : (bump cnt b).length = max cnt.length (b + 1) := by
  unfold bump
  rw [List.length_set, grown_length]
theorem wst_bounds (l : List Nat) : (wst l).cnt.length + (wst l).b ≤ l.length ∧ (wst l).n = l.length ∧ (wst l).nt ≤ l.length := by
  suffices h : ∀ (k : Nat) (l : List Nat), l.length = k → (wst l).cnt.length + (wst l).b ≤ l.length ∧ (wst l).n = l.length ∧ (wst l).nt ≤ l.length from h _ l rfl
  intro k
  induction k with
  | zero => intro l hl; rw [List.length_eq_zero_iff.mp hl]; simp [wst]
  | succ k ih =>
    intro l hl
    have hne : l ≠ [] := fun e => by rw [e] at hl; cases hl
    have e := (List.dropLast_concat_getLast hne).symm
    have hd : l.dropLast.length = k := by simp [hl]
    have h := ih l.dropLast hd
    rw [e, wst_snoc]
    unfold wstep
    split
    · simp only [List.length_append, List.length_cons, List.length_nil]; omega
    · simp only [List.length_append, List.length_cons, List.length_nil, bump_length]; omega
theorem flat_zero (k : Nat) : (List.replicate k [(0 : Int)]).flatten = List.replicate k 0 := by simp
theorem bump_ge {cnt : List Int} {b : Nat} (h : cnt.length ≤ b) :
    bump cnt b = (cnt ++ (List.replicate ((b : Int) - (cnt.length : Int) + 1).toNat [(0 : Int)]).flatten).set ((b : Int)).toNat ((cnt ++ (List.replicate ((b : Int) - (cnt.length : Int) + 1).toNat [(0 : Int)]).flatten).getD ((b : Int)).toNat 0 + 1) := by
  have e : ((b : Int) - (cnt.length : Int) + 1).toNat = b - cnt.length + 1 := by omega
  rw [flat_zero, e, Int.toNat_natCast]
  simp only [bump, grown, if_pos h]
theorem bump_lt {cnt : List Int} {b : Nat} (h : b < cnt.length) : bump cnt b = cnt.set ((b : Int)).toNat (cnt.getD ((b : Int)).toNat 0 + 1) := by
  rw [Int.toNat_natCast]
  simp only [bump, grown, if_neg (Nat.not_le.mpr h)]

theorem beq_blank {cd : Nat} : ((⟨#[cd]⟩ : Str) == Str.ofString " ") = decide (cd = 32) := by
  have e : Str.ofString " " = ⟨#[32]⟩ := by decide +kernel
  rw [e]
  by_cases h : cd = 32
  · subst h; simp
  · simp only [h, decide_false]
    rw [beq_eq_false_iff_ne]
    intro q
    exact h (by simpa using congrArg (fun x : Str => x.cps.toList) q)
theorem beq_tab {cd : Nat} : ((⟨#[cd]⟩ : Str) == Str.ofString "\t") = decide (cd = 9) := by
  have e : Str.ofString "\t" = ⟨#[9]⟩ := by decide +kernel
  rw [e]
  by_cases h : cd = 9
  · subst h; simp
  · simp only [h, decide_false]
    rw [beq_eq_false_iff_ne]
    intro q
    exact h (by simpa using congrArg (fun x : Str => x.cps.toList) q)

/-- where the letter lies -/
theorem letter_in {text : Str} {lead tail : List Nat} {i cd : Nat} (htx : text.cps.toList = lead ++ tail) (htl : ∀ c, tail.head? = some c → c ≠ 9 ∧ c ≠ 32) (hc : text.cps[i]? = some cd) (hi : i ≤ lead.length) (h : cd = 32 ∨ cd = 9) : i < lead.length ∧ lead[i]? = some cd := by
  have h1 : (lead ++ tail)[i]? = some cd := by rw [← htx, Array.getElem?_toList]; exact hc
  by_cases hlt : i < lead.length
  · exact ⟨hlt, by rwa [List.getElem?_append_left hlt] at h1⟩
  · have e : i = lead.length := by omega
    rw [List.getElem?_append_right (by omega), e, Nat.sub_self, ← List.head?_eq_getElem?] at h1
    have := htl _ h1
    omega
theorem letter_out {text : Str} {lead tail : List Nat} {i cd : Nat} (htx : text.cps.toList = lead ++ tail) (hsp : Sp lead) (hc : text.cps[i]? = some cd) (hi : i ≤ lead.length) (h1 : cd ≠ 32) (h2 : cd ≠ 9) : i = lead.length := by
  have h3 : (lead ++ tail)[i]? = some cd := by rw [← htx, Array.getElem?_toList]; exact hc
  by_cases hlt : i < lead.length
  · rw [List.getElem?_append_left hlt] at h3
    have := hsp cd (List.mem_of_getElem? h3)
    omega
  · omega
end
section
open PySem PySem.W PyProof.Rows PySem.Spec PySem.Calls
abbrev tupO (vs : Array Value) : Obj := { cls := Value.type "tuple", data := Data.seq vs }
/-- the entries of a Whitespace's dict -/
abbrev wsDict (w : World) (k1 k2 k3 k4 k5 : Tok) (raw n nt nm sim : Value) : Obj :=
  dictOf [{ hash := PyData.keyHash w.params (Str.ofString "raw"), key := Value.str (Str.ofString "raw") k1, val := raw },
    { hash := PyData.keyHash w.params (Str.ofString "n"), key := Value.str (Str.ofString "n") k2, val := n },
    { hash := PyData.keyHash w.params (Str.ofString "nt"), key := Value.str (Str.ofString "nt") k3, val := nt },
    { hash := PyData.keyHash w.params (Str.ofString "norm"), key := Value.str (Str.ofString "norm") k4, val := nm },
    { hash := PyData.keyHash w.params (Str.ofString "is_simple"), key := Value.str (Str.ofString "is_simple") k5, val := sim }] 5
/-- the ledger bears a Whitespace of the indent 'lead' at x -/
structure WsAt (w : World) (news : List (Addr × Obj)) (x : Addr) (raw : Str) (lead : List Nat) (d nm ct : Addr) (vs : List Value) (k1 k2 k3 k4 k5 t1 t2 t3 t4 : Tok) : Prop where
  inst : (x, instObj 76 d) ∈ news
  dict : (d, wsDict w k1 k2 k3 k4 k5 (.str raw t1) (.int ((wst lead).n : Int) t2) (.int ((wst lead).nt : Int) t3) (.ref nm) (.bool (decide (((wst lead).cnt.length : Int) ≤ 1)))) ∈ news
  norm : (nm, tupO #[.ref ct, .int ((wst lead).b : Int) t4]) ∈ news
  cnts : (ct, tupO vs.toArray) ∈ news
  hints : IntsAre vs (wst lead).cnt
  long : lead.length ≤ 6
def WsIn (w : World) (news : List (Addr × Obj)) (x : Addr) (raw : Str) (lead : List Nat) : Prop :=
  ∃ d nm ct vs k1 k2 k3 k4 k5 t1 t2 t3 t4, WsAt w news x raw lead d nm ct vs k1 k2 k3 k4 k5 t1 t2 t3 t4
theorem WsIn.mono {w : World} {news news' : List (Addr × Obj)} {x : Addr} {raw : Str} {lead : List Nat} (h : WsIn w news x raw lead) (hs : ∀ p ∈ news, p ∈ news') : WsIn w news' x raw lead := by
  obtain ⟨d, nm, ct, vs, k1, k2, k3, k4, k5, t1, t2, t3, t4, H⟩ := h
  exact ⟨d, nm, ct, vs, k1, k2, k3, k4, k5, t1, t2, t3, t4, ⟨hs _ H.inst, hs _ H.dict, hs _ H.norm, hs _ H.cnts, H.hints, H.long⟩⟩
theorem WsIn.elim {w : World} {news : List (Addr × Obj)} {x : Addr} {raw : Str} {lead : List Nat} {G : Prop} (h : WsIn w news x raw lead)
    (k : ∀ d nm ct vs k1 k2 k3 k4 k5 t1 t2 t3 t4, (x, instObj 76 d) ∈ news →
      (d, wsDict w k1 k2 k3 k4 k5 (.str raw t1) (.int ((wst lead).n : Int) t2) (.int ((wst lead).nt : Int) t3) (.ref nm) (.bool (decide (((wst lead).cnt.length : Int) ≤ 1)))) ∈ news →
      (nm, tupO #[.ref ct, .int ((wst lead).b : Int) t4]) ∈ news → (ct, tupO vs.toArray) ∈ news → IntsAre vs (wst lead).cnt → lead.length ≤ 6 → G) : G := by
  obtain ⟨d, nm, ct, vs, k1, k2, k3, k4, k5, t1, t2, t3, t4, H⟩ := h
  exact k d nm ct vs k1 k2 k3 k4 k5 t1 t2 t3 t4 H.inst H.dict H.norm H.cnts H.hints H.long
end
section
open PySem PySem.W PyProof.Rows PySem.Spec PySem.Calls
section
variable {prog : Program} {w : World} {A : Around} {E : Value → Shared → Prop} {s : Shared} {h₀ : Heap} {L : Addr} {news : List (Addr × Obj)}
theorem lenT {t : Addr} {vs : List Value} {ns : List Int} {Q : Value → Shared → Prop} (N : News h₀ L s.heap news) (hm : (t, tupO vs.toArray) ∈ news) (hi : IntsAre vs ns) (hfit : ns.length ≤ 1000)
    (h : Q (.int (ns.length : Int) (s.toks + 1)) { s with toks := s.toks + 1 + 1 }) : wpAny (model prog w) A (call (.builtin "len") [.ref t]) Q E s := by
  have ht : IsTup s.heap t vs.toArray := News.isTup N hm
  have e : vs.toArray.size = ns.length := by simp [hi.length]
  exact len_tuple ht (by rw [e]; omega) (by rw [e]; exact h)

theorem norm_reads {h : Heap} {nm ct : Addr} {b : Int} {t : Tok} {vs : List Value} {ns : List Int} (N : News h₀ L h news) (m3 : (nm, tupO #[.ref ct, .int b t]) ∈ news) (m4 : (ct, tupO vs.toArray) ∈ news) (hi : IntsAre vs ns) :
    Reads h (.ref nm) (.tuple [.tuple (ns.map .int), .int b]) ([] ++ ([] ++ [])) :=
  reads_tuple_at (N.get m3) rfl rfl (.cons (reads_newDataT (News.isTup N m4) (ke_carried hi)) (.cons (.int b t) .nil))
theorem norm_shaped (ns : List Int) (b : Int) : SeqAt.shaped (.tuple [.tuple (ns.map PyData.int), .int b]) = true := by
  simp [SeqAt.shaped, PyData.canLay0, PyData.canLayAll0, PyData.depth, PyData.depthAll, ke_canLayAll0, ke_depthAll]
theorem norm_eqv (ns ms : List Int) (b c : Int) : PyData.eqv (.tuple [.tuple (ns.map PyData.int), .int b]) (.tuple [.tuple (ms.map PyData.int), .int c]) = decide (ns = ms ∧ b = c) := by
  simp only [PyData.eqv, PyData.eqvAll, ked_eqvAll, Bool.and_true]
  by_cases h1 : ns = ms <;> by_cases h2 : b = c <;> simp [h1, h2]
theorem normEq {nm ct nm2 ct2 : Addr} {b b2 : Int} {t t2 : Tok} {vs vs2 : List Value} {ns ns2 : List Int} {Q : Value → Shared → Prop} (N : News h₀ L s.heap news) (m3 : (nm, tupO #[.ref ct, .int b t]) ∈ news) (m4 : (ct, tupO vs.toArray) ∈ news) (hi : IntsAre vs ns)
    (m3' : (nm2, tupO #[.ref ct2, .int b2 t2]) ∈ news) (m4' : (ct2, tupO vs2.toArray) ∈ news) (hi' : IntsAre vs2 ns2) (hu : A.units + 64 < cLine)
    (h : Q (.bool (decide (ns = ns2 ∧ b = b2))) s) : wpAny (model prog w) A (compareOp .Eq (.ref nm) (.ref nm2)) Q E s :=
  eq_dataH (norm_reads N m3 m4 hi) (norm_reads N m3' m4' hi') (norm_shaped _ _) (norm_shaped _ _) hu (by rw [norm_eqv]; exact h)
theorem normNe {nm ct nm2 ct2 : Addr} {b b2 : Int} {t t2 : Tok} {vs vs2 : List Value} {ns ns2 : List Int} {Q : Value → Shared → Prop} (N : News h₀ L s.heap news) (m3 : (nm, tupO #[.ref ct, .int b t]) ∈ news) (m4 : (ct, tupO vs.toArray) ∈ news) (hi : IntsAre vs ns)
    (m3' : (nm2, tupO #[.ref ct2, .int b2 t2]) ∈ news) (m4' : (ct2, tupO vs2.toArray) ∈ news) (hi' : IntsAre vs2 ns2) (hu : A.units + 64 < cLine)
    (h : Q (.bool (!decide (ns = ns2 ∧ b = b2))) s) : wpAny (model prog w) A (compareOp .NotEq (.ref nm) (.ref nm2)) Q E s :=
  ne_dataH (norm_reads N m3 m4 hi) (norm_reads N m3' m4' hi') (norm_shaped _ _) (norm_shaped _ _) hu (by rw [norm_eqv]; exact h)
end
end
section
open PySem PySem.W PyProof.Rows PySem.Spec PySem.Calls
theorem Ct.use {k : Nat} {w : World} {f : Addr} {news : List (Addr × Obj)} {vs : List Value} {Post : Value → List (Addr × Obj) → Prop} (C : Ct k w f news vs Post)
  {p₀ : Program} {lo₀ : List Str} {mean : ExcName → Option Value} {mg mb : Str → Option Value} {dp un : Nat} {gd : Option (List Code)} {cn : Str} {cs : Scope} {a : Addr} {ccd : Value} {cl : List (Str × Addr)} {outer : List Env} {A₀ : Around} {base h₀ : Heap} {L : Addr} {m : Str → Option Value} {s : Shared} {Q E : Value → Shared → Prop}
  (B : Below A₀ base outer h₀) (F : Fr h₀ L s.heap m) (X : (hd.heap_39 w.params).In h₀) (N : News h₀ L s.heap news) (T : Top p₀ lo₀ mean mg mb h₀) (hk : cs.kind = .function)
  (hd : dp + 4 * k < recursionLimit) (hu : un + 96 * k < cLine)
  (ret : ∀ r tl h' tk', Fr h₀ L h' m → News h₀ L h' (tl ++ news) → (∀ q ∈ news, ∀ p ∈ tl, q.1 < p.1) → Post r tl → Q r { s with heap := h', toks := tk' }) :
  wpAny (model PySem.Challenge.rw_mg0085_01.row.prog w) (ktrTop dp un gd cn cs L a ccd cl outer) (call (.ref f) vs) Q E s :=
  C _ _ _ _ _ _ _ _ _ _ _ _ _ _ _ _ _ _ _ _ _ _ B F X N T hk hd hu ret
theorem Ct.useV {k : Nat} {w : World} {f : Addr} {news : List (Addr × Obj)} {vs : List Value} {φ : Tok → Value} (C : Ct k w f news vs (fun r tl => tl = [] ∧ ∃ t, r = φ t))
  {p₀ : Program} {lo₀ : List Str} {mean : ExcName → Option Value} {mg mb : Str → Option Value} {dp un : Nat} {gd : Option (List Code)} {cn : Str} {cs : Scope} {a : Addr} {ccd : Value} {cl : List (Str × Addr)} {outer : List Env} {A₀ : Around} {base h₀ : Heap} {L : Addr} {m : Str → Option Value} {s : Shared} {Q E : Value → Shared → Prop}
  (B : Below A₀ base outer h₀) (F : Fr h₀ L s.heap m) (X : (hd.heap_39 w.params).In h₀) (N : News h₀ L s.heap news) (T : Top p₀ lo₀ mean mg mb h₀) (hk : cs.kind = .function)
  (hd : dp + 4 * k < recursionLimit) (hu : un + 96 * k < cLine)
  (ret : ∀ t h' tk', Fr h₀ L h' m → News h₀ L h' news → Q (φ t) { s with heap := h', toks := tk' }) :
  wpAny (model PySem.Challenge.rw_mg0085_01.row.prog w) (ktrTop dp un gd cn cs L a ccd cl outer) (call (.ref f) vs) Q E s :=
  C.use B F X N T hk hd hu (by
    rintro r tl h' tk' F' N' _ ⟨rfl, t, rfl⟩
    exact ret t h' tk' F' N')
theorem Ct.useT {k : Nat} {w : World} {f : Addr} {news : List (Addr × Obj)} {vs : List Value} {v : Value} (C : Ct k w f news vs (fun r tl => tl = [] ∧ r = v))
  {p₀ : Program} {lo₀ : List Str} {mean : ExcName → Option Value} {mg mb : Str → Option Value} {dp un : Nat} {gd : Option (List Code)} {cn : Str} {cs : Scope} {a : Addr} {ccd : Value} {cl : List (Str × Addr)} {outer : List Env} {A₀ : Around} {base h₀ : Heap} {L : Addr} {m : Str → Option Value} {s : Shared} {Q E : Value → Shared → Prop}
  (B : Below A₀ base outer h₀) (F : Fr h₀ L s.heap m) (X : (hd.heap_39 w.params).In h₀) (N : News h₀ L s.heap news) (T : Top p₀ lo₀ mean mg mb h₀) (hk : cs.kind = .function)
  (hd : dp + 4 * k < recursionLimit) (hu : un + 96 * k < cLine)
  (ret : ∀ h' tk', Fr h₀ L h' m → News h₀ L h' news → Q v { s with heap := h', toks := tk' }) :
  wpAny (model PySem.Challenge.rw_mg0085_01.row.prog w) (ktrTop dp un gd cn cs L a ccd cl outer) (call (.ref f) vs) Q E s :=
  C.use B F X N T hk hd hu (by
    rintro r tl h' tk' F' N' _ ⟨rfl, rfl⟩
    exact ret h' tk' F' N')
end
section
open PySem PySem.W PyProof.Rows PySem.Spec PySem.Calls
section
variable {prog : Program} {w : World} {A : Around} {h₀ : Heap} {L : Addr} {m : Str → Option Value} {env : Env} {ct elt : Expr} {x : Str} {scope : Scope} {cl : List (Str × Addr)} {s : Shared} {S : List (Addr × Obj) → Prop} {P : Nat → Value → Prop} {Fin : List Value → List (Addr × Obj) → Prop} {news : List (Addr × Obj)}
theorem comp_inv {n : Nat} (J : Nat → List Value → List (Addr × Obj) → Prop) (h0 : J 0 [] news)
    (turn : ∀ i v I oI C oC D m₂ ys nw h tk (E' : Value → Shared → Prop), i < n → P i v → J i ys nw → LCg.NsObj oC m₂ → m₂ x = some v → Fr h₀ L h m → News h₀ L h ((I, oI) :: (C, oC) :: (D, LCg.lst ys) :: nw) → LCg.Off3 I C D nw → ((@Ne Nat I C) ∧ (@Ne Nat I D) ∧ (@Ne Nat C D)) →
      wpAny (model prog w) A (eval elt (compEnvC scope cl C env)) (LCg.CompEnd h₀ L m { s with heap := h, toks := tk } I oI C oC D (LCg.lst ys) S (fun y news' => J (i + 1) (ys ++ [y]) news')) E' { s with heap := h, toks := tk })
    (fin : ∀ ys nw, J n ys nw → Fin ys nw) : LCg.CompRest prog w A h₀ L m env elt x scope cl s S P Fin n 0 [] news := by
  have key : ∀ (j i : Nat) (ys : List Value) nw, i + j = n → J i ys nw → LCg.CompRest prog w A h₀ L m env elt x scope cl s S P Fin j i ys nw := by
    intro j
    induction j with
    | zero =>
      intro i ys nw hi hy
      have e : i = n := by omega
      subst e
      exact LCg.CompRest.zero (fin ys nw hy)
    | succ j ih =>
      intro i ys nw hi hy
      refine LCg.CompRest.succ ?_
      intro v I oI C oC D m₂ h tk E' hv hC hx F N off ne
      refine wpAny_mono (turn i v I oI C oC D m₂ ys nw h tk E' (by omega) hv hy hC hx F N off ne) (fun y s₂ hq => ?_) fun _ _ e => e
      obtain ⟨h', tk', nw', e, F', N', off', hS, hJ⟩ := hq
      exact ⟨h', tk', nw', e, F', N', off', hS, ih (i + 1) _ nw' (by omega) hJ⟩
  exact key n 0 [] news (by omega) h0

theorem comp_invT {n : Nat} (J : Nat → List Value → List (Addr × Obj) → Prop) (h0 : J 0 [] news)
    (turn : ∀ i v I oI C oC D m₂ ys nw h tk (E' : Value → Shared → Prop), i < n → P i v → J i ys nw → LCg.NsObj oC m₂ → m₂ x = some v → Fr h₀ L h m → News h₀ L h ((I, oI) :: (C, oC) :: (D, LCg.lst ys) :: nw) → LCg.Off3 I C D nw → ((@Ne Nat I C) ∧ (@Ne Nat I D) ∧ (@Ne Nat C D)) →
      wpAny (model prog w) A (isTrue ct (compEnvC scope cl C env) (eval ct (compEnvC scope cl C env))) (fun ok s' => if ok = true then
        wpAny (model prog w) A (eval elt (compEnvC scope cl C env)) (LCg.CompEnd h₀ L m { s with heap := h, toks := tk } I oI C oC D (LCg.lst ys) S (fun y news' => J (i + 1) (ys ++ [y]) news')) E' s'
        else LCg.CompEnd h₀ L m { s with heap := h, toks := tk } I oI C oC D (LCg.lst ys) S (fun _ news' => J (i + 1) ys news') Value.none s') E' { s with heap := h, toks := tk })
    (fin : ∀ ys nw, J n ys nw → Fin ys nw) : LCt.CompRestT prog w A h₀ L m env ct elt x scope cl s S P Fin n 0 [] news := by
  have key : ∀ (j i : Nat) (ys : List Value) nw, i + j = n → J i ys nw → LCt.CompRestT prog w A h₀ L m env ct elt x scope cl s S P Fin j i ys nw := by
    intro j
    induction j with
    | zero =>
      intro i ys nw hi hy
      have e : i = n := by omega
      subst e
      exact LCt.CompRestT.zero (fin ys nw hy)
    | succ j ih =>
      intro i ys nw hi hy
      refine LCt.CompRestT.succ ?_
      intro v I oI C oC D m₂ h tk E' hv hC hx F N off ne
      refine wpAny_mono (turn i v I oI C oC D m₂ ys nw h tk E' (by omega) hv hy hC hx F N off ne) (fun ok s₂ hq => ?_) fun _ _ e => e
      cases ok with
      | true =>
        simp only [if_true] at hq ⊢
        refine wpAny_mono hq (fun y s₃ hq => ?_) fun _ _ e => e
        obtain ⟨h', tk', nw', e, F', N', off', hS, hJ⟩ := hq
        exact ⟨h', tk', nw', e, F', N', off', hS, ih (i + 1) _ nw' (by omega) hJ⟩
      | false =>
        simp only [Bool.false_eq_true, if_false] at hq ⊢
        obtain ⟨h', tk', nw', e, F', N', off', hS, hJ⟩ := hq
        exact ⟨h', tk', nw', e, F', N', off', hS, ih (i + 1) _ nw' (by omega) hJ⟩
  exact key n 0 [] news (by omega) h0
end
/-- a row of ints in the ledger -/
def RowAt (news : List (Addr × Obj)) (v : Value) (r : Int × Int × Int) : Prop := ∃ a t1 t2 t3, v = .ref a ∧ (a, tupO #[.int r.1 t1, .int r.2.1 t2, .int r.2.2 t3]) ∈ news
inductive RowsIn (news : List (Addr × Obj)) : List Value → List (Int × Int × Int) → Prop
  | nil : RowsIn news [] []
  | cons {v r vs rs} : RowAt news v r → RowsIn news vs rs → RowsIn news (v :: vs) (r :: rs)
theorem RowsIn.mono {a b : List (Addr × Obj)} (hs : ∀ p ∈ a, p ∈ b) {vs rs} (h : RowsIn a vs rs) : RowsIn b vs rs := by
  induction h with
  | nil => exact .nil
  | cons h _ ih => obtain ⟨x, t1, t2, t3, e, hm⟩ := h; exact .cons ⟨x, t1, t2, t3, e, hs _ hm⟩ ih
theorem RowsIn.snoc {a : List (Addr × Obj)} {vs rs v r} (h : RowsIn a vs rs) (hr : RowAt a v r) : RowsIn a (vs ++ [v]) (rs ++ [r]) := by
  induction h with
  | nil => exact .cons hr .nil
  | cons h _ ih => exact .cons h ih
theorem RowsIn.length {a : List (Addr × Obj)} {vs rs} (h : RowsIn a vs rs) : vs.length = rs.length := by
  induction h with
  | nil => rfl
  | cons _ _ ih => simp [ih]
theorem RowsIn.at {a : List (Addr × Obj)} {vs rs} (h : RowsIn a vs rs) : ∀ (i : Nat) (v : Value), vs[i]? = some v → ∃ r, rs[i]? = some r ∧ RowAt a v r := by
  induction h with
  | nil => intro i v hv; simp at hv
  | cons h _ ih =>
    intro i v hv
    cases i with
    | zero => simp at hv; subst hv; exact ⟨_, by simp, h⟩
    | succ i => simp at hv; simpa using ih i v hv
end
section
open PySem PySem.W PyProof.Rows PySem.Spec PySem.Calls
def longOf (lead : List Nat) : Int := if ((wst lead).b : Int) > ((wst lead).cnt.length : Int) - 1 then ((wst lead).b : Int) else ((wst lead).cnt.length : Int) - 1
set_option maxRecDepth 100000 in
set_option maxHeartbeats 8000000 in
theorem longest_c (w : World) (news) (x : Addr) (raw : Str) (lead : List Nat) (hW : WsIn w news x raw lead) : Ct 1 w 38 news [.ref x] (fun r tl => tl = [] ∧ ∃ t, r = .int (longOf lead) t) := by
  unfold Ct
  w_on
  k_fill
  intro p₀ lo₀ mean mg mb dp un gd cn cs a ccd cl outer A₀ base h₀ L m s Q E B F X N T hk hd' hu' hret
  refine WsIn.elim hW ?_
  intro d nm ct vs k1 k2 k3 k4 k5 u1 u2 u3 u4 M1 M2 M3 M4 hI hl6
  clear hW
  have hbd := wst_bounds lead
  have hvl : vs.length = (wst lead).cnt.length := hI.length
  refine wpAny_call ?_
  k_dflt cell_enter
  repeat' (first | (k_unfold; (try dsimp only)) | (k_here; (with_reducible show wpAny _ _ (call (Value.builtin "len") [Value.ref _]) _ _ _); k_dflt (refine' lenT ?k1 ?k2 ?k3 ?k4 ?_; (case k1 => k_asm); (case k2 => k_mem); (case k3 => assumption); (case k4 => omega); k_whole)) | (k_end; wrow_close) | walk1 | (dsimp only; first | (k_here; (with_reducible show wpAny _ _ (call (Value.builtin "len") [Value.ref _]) _ _ _); k_dflt (refine' lenT ?k1 ?k2 ?k3 ?k4 ?_; (case k1 => k_asm); (case k2 => k_mem); (case k3 => assumption); (case k4 => omega); k_whole)) | walk1) | (leave1; try dsimp only))
  rename_i kF kN Tc kX
  exact hret _ [] _ _ kF kN (fun _ _ _ h => nomatch h) ⟨rfl, _, rfl⟩
end
section
open PySem PySem.W PyProof.Rows PySem.Spec PySem.Calls
def levOf (cnt : List Int) (size : Int) (i : Nat) : Int := ((List.range i).map fun (k : Nat) => (size + (k : Int)).fdiv size * cnt.getD (size + (k : Int)).toNat 0).sum
/-- the column by the record -/
def levelOf (lead : List Nat) (size : Int) : Int := ((wst lead).b : Int) + size * (levOf (wst lead).cnt size (((wst lead).cnt.length : Int) - size).toNat + ((wst lead).nt : Int))
set_option maxRecDepth 100000 in
set_option maxHeartbeats 8000000 in
theorem level_c (w : World) (news) (x : Addr) (raw : Str) (lead : List Nat) (size : Int) (t2 : Tok) (hs : 1 ≤ size) (hs2 : size ≤ 2000000) (hW : WsIn w news x raw lead) : Ct 1 w 45 news [.ref x, .int size t2] (fun r tl => tl = [] ∧ ∃ t, r = .int (levelOf lead size) t) := by
  unfold Ct
  w_on
  k_fill
  intro p₀ lo₀ mean mg mb dp un gd cn cs a ccd cl outer A₀ base h₀ L m s Q E B F X N T hk hd' hu' hret
  refine WsIn.elim hW ?_
  intro d nm ct vs k1 k2 k3 k4 k5 u1 u2 u3 u4 M1 M2 M3 M4 hI hl6
  clear hW
  have hbd := wst_bounds lead
  have hvl : vs.length = (wst lead).cnt.length := hI.length
  refine wpAny_call ?_
  k_dflt cell_enter
  repeat' (fail_if_success (with_reducible show wpAny _ _ (pyIter _) _ _ _)); first | (k_unfold; (try dsimp only)) | (k_here; (with_reducible show wpAny _ _ (call (Value.builtin "len") [Value.ref _]) _ _ _); k_dflt (refine' lenT ?k1 ?k2 ?k3 ?k4 ?_; (case k1 => k_asm); (case k2 => k_mem); (case k3 => assumption); (case k4 => omega); k_whole)) | walk1 | (dsimp only; first | (k_here; (with_reducible show wpAny _ _ (call (Value.builtin "len") [Value.ref _]) _ _ _); k_dflt (refine' lenT ?k1 ?k2 ?k3 ?k4 ?_; (case k1 => k_asm); (case k2 => k_mem); (case k3 => assumption); (case k4 => omega); k_whole)) | walk1)
  rename_i h9 tk9 t₁ u₁ v₁ hR F9 N9 hK9
  have hc6 : (wst lead).cnt.length ≤ 6 := by omega
  with_unfolding_all
    refine' srange (σ := Int × Tok) (fun _ => news) (fun c => [(Str.ofString "il", .int c.1 c.2)]) [] (fun i c => c.1 = levOf (wst lead).cnt size i) (fun c => c.1 = levOf (wst lead).cnt size (((wst lead).cnt.length : Int) - size).toNat) (0, _) (by rfl) hR (small_one (by omega) (by omega) (by omega) (by omega)) (rangeSize_nat _ _) F9 N9 (by kst_all) ?_ ?_ ?_ ?_
  · rfl
  · rintro i t ⟨il, til⟩ u h tk own I o q hi hP hio hoff hne F₁ N₁ G
    dsimp only [kstB] at hP hne F₁ N₁
    have M4' := List.mem_append_left own M4
    have kM : KstMark := kstMark
    have b0 : 0 ≤ (size + (i : Int)).fdiv size := by rw [Int.fdiv_eq_ediv_of_nonneg _ (by omega)]; exact Int.ediv_nonneg (by omega) (by omega)
    have b1 : (size + (i : Int)).fdiv size ≤ 10 := by
      rw [Int.fdiv_eq_ediv_of_nonneg _ (by omega)]
      exact Int.le_of_lt_add_one (Int.ediv_lt_of_lt_mul (by omega) (by omega))
    repeat' (first | (k_unfold; (try dsimp only)) | (k_here; (with_reducible show wpAny _ _ (call (Value.builtin "len") [Value.ref _]) _ _ _); k_dflt (refine' lenT ?k1 ?k2 ?k3 ?k4 ?_; (case k1 => k_asm); (case k2 => k_mem); (case k3 => assumption); (case k4 => omega); k_whole)) | (k_end; wrow_close) | walk1 | (dsimp only; first | (k_here; (with_reducible show wpAny _ _ (call (Value.builtin "len") [Value.ref _]) _ _ _); k_dflt (refine' lenT ?k1 ?k2 ?k3 ?k4 ?_; (case k1 => k_asm); (case k2 => k_mem); (case k3 => assumption); (case k4 => omega); k_whole)) | walk1) | (leave1; try dsimp only))
    rename Fr _ _ _ _ => fE'
    rename News _ _ _ _ => nE'
    have hst : levOf (wst lead).cnt size (i + 1) = levOf (wst lead).cnt size i + (size + (i : Int)).fdiv size * (wst lead).cnt.getD (size + (i : Int)).toNat 0 := by
      simp [levOf, List.range_succ]
    refine G.next _ _ _ (_, _) fE' nE' hne ?_ (by kst_all) (by kst_same)
    dsimp only
    rw [hst, ← hP]
  · exact fun c h => h
  · rintro ⟨il, til⟩ u h tk hP F₁ N₁
    dsimp only [kstB] at hP F₁ N₁
    dsimp only
    repeat' (first | (k_unfold; (try dsimp only)) | (k_here; (with_reducible show wpAny _ _ (call (Value.builtin "len") [Value.ref _]) _ _ _); k_dflt (refine' lenT ?k1 ?k2 ?k3 ?k4 ?_; (case k1 => k_asm); (case k2 => k_mem); (case k3 => assumption); (case k4 => omega); k_whole)) | (k_end; wrow_close) | walk1 | (dsimp only; first | (k_here; (with_reducible show wpAny _ _ (call (Value.builtin "len") [Value.ref _]) _ _ _); k_dflt (refine' lenT ?k1 ?k2 ?k3 ?k4 ?_; (case k1 => k_asm); (case k2 => k_mem); (case k3 => assumption); (case k4 => omega); k_whole)) | walk1) | (leave1; try dsimp only))
    rename_i kF kN Tc kX
    subst hP
    exact hret _ [] _ _ kF kN (fun _ _ _ h => nomatch h) ⟨rfl, _, rfl⟩
end
section
open PySem PySem.W PyProof.Rows PySem.Spec PySem.Calls
theorem allLt_left {d : Addr} {a b : List (Addr × Obj)} (h : AllLt d (a ++ b)) : AllLt d a := allLt_of fun p hp => kst_ltOf h p (List.mem_append.mpr (.inl hp))
structure IS where
  a : Addr
  vs : List Value
  k : Nat
  tb : Tok
  tn : Tok
  tnt : Tok
set_option maxRecDepth 100000 in
set_option maxHeartbeats 8000000 in
theorem init_c (w : World) (news) (text : Str) (t1 : Tok) (lead tail : List Nat) (htx : text.cps.toList = lead ++ tail) (hl : lead.length ≤ 6) (hSp : Sp lead) (htl : ∀ c, tail.head? = some c → c ≠ 9 ∧ c ≠ 32) (hln : text.length ≤ 10) :
    Ct 1 w 76 news [.str text t1] (fun r tl => ∃ x, r = .ref x ∧ WsIn w tl x text lead) := by
  unfold Ct
  w_on
  k_fill
  intro p₀ lo₀ mean mg mb dp un gd cn cs a ccd cl outer A₀ base h₀ L m s Q E B F X N T hk hd' hu' hret
  k_dflt (refine' call_cls ?k1 ?k2 ?k3 ?k4 ?k5 ?k6 ?_; (case k1 => k_asm); (case k2 => k_asm); (case k3 => k_asm); (case k4 => k_is); (case k5 => k_is); (case k6 => k_is); k_whole; intro x' d' h' F' N' l1 l2; (try k_lt l1); (try k_lt2 l2); (try k_sweep))
  k_dflt cell_enter
  repeat' (first | (k_unfold; (try dsimp only)) | (k_here; (with_reducible show wpAny _ _ (call (Value.type _) [Value.ref _]) _ _ _); k_dflt (refine' kde_tupleOf ?k1 ?k2 ?k3 ?k4 ?k5 ?_; (case k1 => k_asm); (case k2 => k_asm); (case k3 => exact News.isList (by k_asm) (by k_mem)); (case k4 => (simp only [List.size_toArray]; omega)); (case k5 => exact List.toList_toArray); k_whole); intro ct h21 F' N' l21; (try k_lt l21); (try k_sweep)) | (k_end; wrow_close) | walk1 | (dsimp only; first | (k_here; (with_reducible show wpAny _ _ (call (Value.type _) [Value.ref _]) _ _ _); k_dflt (refine' kde_tupleOf ?k1 ?k2 ?k3 ?k4 ?k5 ?_; (case k1 => k_asm); (case k2 => k_asm); (case k3 => exact News.isList (by k_asm) (by k_mem)); (case k4 => (simp only [List.size_toArray]; omega)); (case k5 => exact List.toList_toArray); k_whole); intro ct h21 F' N' l21; (try k_lt l21); (try k_sweep)) | walk1) | (leave1; try dsimp only))
  rename_i D' h1 l1' h2 h3 h4 l' h5 l1'' h6 h7 h8 h9 lF' N'
  have hsz : text.cps.size = lead.length + tail.length := by rw [← Array.length_toList, htx, List.length_append]
  with_unfolding_all
    refine' stext (σ := IS × WSt)
      (fun c => (c.1.a, W.listOf c.1.vs.toArray c.1.k) :: (D', { cls := Value.type "tuple", data := Data.seq #[Value.str (Str.ofString " ") 202, Value.str (Str.ofString "\t") 203] }) :: (x', instObj 76 d') :: (d', dictOf [{ hash := PyData.keyHash w.params (Str.ofString "raw"), key := Value.str (Str.ofString "raw") (tk + 1), val := Value.str text t1 }] 1) :: news)
      (fun c => [(Str.ofString "count", .ref c.1.a), (Str.ofString "b", .int (c.2.b : Int) c.1.tb), (Str.ofString "n", .int (c.2.n : Int) c.1.tn), (Str.ofString "nt", .int (c.2.nt : Int) c.1.tnt)])
      []
      (fun i c => i ≤ lead.length ∧ c.2 = wst (lead.take i) ∧ IntsAre c.1.vs c.2.cnt ∧ (@LT.lt Nat _ D' c.1.a ∧ @LT.lt Nat _ x' c.1.a ∧ @LT.lt Nat _ d' c.1.a ∧ AllLt c.1.a news))
      (fun c => c.2 = wst lead ∧ IntsAre c.1.vs c.2.cnt ∧ (@LT.lt Nat _ D' c.1.a ∧ @LT.lt Nat _ x' c.1.a ∧ @LT.lt Nat _ d' c.1.a ∧ AllLt c.1.a news))
      (⟨l', [], 0, _, _, _⟩, ⟨[], 0, 0, 0⟩) (by rfl) lF' N' (by kst_all) ?_ ?_ ?_ ?_
  · dsimp only
    exact ⟨Nat.zero_le _, rfl, .nil, l1''⟩
  · rintro i cd t ⟨⟨a, vs, k, tb, tn, tnt⟩, ⟨cnt, b, n, nt⟩⟩ u h tk own I o q hi hcd hP hio hoff hne F₁ N₁ G
    dsimp only [kstB] at hP hne F₁ N₁
    dsimp only [List.map] at hoff
    simp only [List.cons_append] at N₁
    have hi1 := hP.1
    have hst := hP.2.1
    have hin := hP.2.2.1
    have hlt1 := hP.2.2.2.1
    have hlt2 := hP.2.2.2.2.1
    have hlt3 := hP.2.2.2.2.2.1
    have hlt4 := hP.2.2.2.2.2.2
    clear hP
    have kM : KstMark := kstMark
    have hvl : vs.length = cnt.length := hin.length
    have hbd := wst_bounds (lead.take i)
    rw [← hst] at hbd
    dsimp only at hbd
    rw [List.length_take] at hbd
    have hc6 : cnt.length + b ≤ 6 := by omega
    have hn6 : n ≤ 6 := by omega
    have hnt6 : nt ≤ 6 := by omega
    clear hbd
    repeat' (first | (k_unfold; (try dsimp only)) | (k_here; (with_reducible show wpAny _ _ (call (Value.type _) [Value.ref _]) _ _ _); k_dflt (refine' kde_tupleOf ?k1 ?k2 ?k3 ?k4 ?k5 ?_; (case k1 => k_asm); (case k2 => k_asm); (case k3 => exact News.isList (by k_asm) (by k_mem)); (case k4 => (simp only [List.size_toArray]; omega)); (case k5 => exact List.toList_toArray); k_whole); intro ct h21 F' N' l21; (try k_lt l21); (try k_sweep)) | (k_end; wrow_close) | walk1 | (dsimp only; first | (k_here; (with_reducible show wpAny _ _ (call (Value.type _) [Value.ref _]) _ _ _); k_dflt (refine' kde_tupleOf ?k1 ?k2 ?k3 ?k4 ?k5 ?_; (case k1 => k_asm); (case k2 => k_asm); (case k3 => exact News.isList (by k_asm) (by k_mem)); (case k4 => (simp only [List.size_toArray]; omega)); (case k5 => exact List.toList_toArray); k_whole); intro ct h21 F' N' l21; (try k_lt l21); (try k_sweep)) | walk1) | (leave1; try dsimp only))
    all_goals (try dsimp only)
    · rename ((_ : Str) == _) = true => hc
      have e32 : cd = 32 := by simpa [beq_blank] using hc
      have hAnd := letter_in htx htl hcd hi1 (.inl e32)
      have hlt' := hAnd.1
      have hget := hAnd.2
      clear hAnd
      rename Fr _ _ _ _ => fE'
      rename News _ _ _ _ => nE'
      have hw : wst (lead.take (i + 1)) = ⟨cnt, b + 1, n + 1, nt⟩ := by rw [wst_take hget, ← hst]; simp [wstep, e32]
      exact G.next _ _ _ (⟨a, vs, k, _, _, tnt⟩, ⟨cnt, b + 1, n + 1, nt⟩) fE' (kst_newsOf nE' (by kst_in)) hne ⟨hlt', hw.symm, hin, hlt1, hlt2, hlt3, hlt4⟩ (by kst_all) (by kst_same)
    · rename ((_ : Str) == _) = true => hc
      have e9 : cd = 9 := by simpa [beq_tab] using hc
      have hAnd := letter_in htx htl hcd hi1 (.inr e9)
      have hlt' := hAnd.1
      have hget := hAnd.2
      clear hAnd
      rename_i D9 ws9 h1 hI9 l9 h2 t9 h3 hi9 hl9 hs9 h4 fE' nE'
      have q1 := l9.1
      have q2 := l9.2.1
      have q3 := l9.2.2.1
      have q4 := l9.2.2.2.1
      have q5 := l9.2.2.2.2.1
      have q6 := l9.2.2.2.2.2.1
      have q7 := l9.2.2.2.2.2.2
      clear l9
      have hw : wst (lead.take (i + 1)) = ⟨bump cnt b, 0, n + 1, nt + 1⟩ := by rw [wst_take hget, ← hst]; simp [wstep, e9]
      have hb := hi9
      rw [← bump_ge (by omega)] at hb
      have hI : I ≠ D9 := Nat.ne_of_lt (kst_ltOf q7 (I, o) (List.mem_append.mpr (.inr hio)))
      exact G.next _ _ _ (⟨D9, _, _, _, _, _⟩, ⟨bump cnt b, 0, n + 1, nt + 1⟩) fE' (kst_newsOf nE' (by kst_in)) (List.forall_mem_cons.mpr ⟨hI.symm, (List.forall_mem_cons.mp hne).2⟩) ⟨hlt', hw.symm, hb, q4, q5, q6, allLt_left q7⟩ (by kst_all) (by kst_same)
    · rename ((_ : Str) == _) = true => hc
      have e9 : cd = 9 := by simpa [beq_tab] using hc
      have hAnd := letter_in htx htl hcd hi1 (.inr e9)
      have hlt' := hAnd.1
      have hget := hAnd.2
      clear hAnd
      rename_i hi9 hl9 hs9 h4 fE' nE'
      have hnA : a ≠ I := (List.forall_mem_cons.mp hne).1
      have hnB := (List.forall_mem_cons.mp hne).2
      have hw : wst (lead.take (i + 1)) = ⟨bump cnt b, 0, n + 1, nt + 1⟩ := by rw [wst_take hget, ← hst]; simp [wstep, e9]
      have hb := hi9
      rw [← bump_lt (by omega)] at hb
      exact G.next _ _ _ (⟨a, _, _, _, _, _⟩, ⟨bump cnt b, 0, n + 1, nt + 1⟩) fE' (kst_newsOf nE' (by kst_in)) (List.forall_mem_cons.mpr ⟨hnA, hnB⟩) ⟨hlt', hw.symm, hb, hlt1, hlt2, hlt3, hlt4⟩ (by kst_all) (by kst_same)
    · rename_i hc1 hc2
      have e1 : cd ≠ 32 := by simpa [beq_blank] using hc1
      have e2 : cd ≠ 9 := by simpa [beq_tab] using hc2
      have ei := letter_out htx hSp hcd hi1 e1 e2
      have et : lead.take i = lead := List.take_of_length_le (by omega)
      rw [et] at hst
      exact G.out _ _ _ (⟨a, vs, k, tb, tn, tnt⟩, ⟨cnt, b, n, nt⟩) F₁ (kst_newsOf N₁ (by kst_in)) ⟨hst, hin, hlt1, hlt2, hlt3, hlt4⟩ (by kst_all) (by kst_same)
  · rintro ⟨⟨a, vs, k, tb, tn, tnt⟩, st⟩ ⟨hi1, hst, hin, hlt⟩
    have e : lead.take text.cps.size = lead := List.take_of_length_le (by omega)
    rw [e] at hst
    exact ⟨hst, hin, hlt⟩
  · rintro ⟨⟨a, vs, k, tb, tn, tnt⟩, ⟨cnt, b, n, nt⟩⟩ u h tk hP F₁ N₁
    dsimp only [kstB] at hP F₁ N₁
    have hst := hP.1
    have hin := hP.2.1
    have hlt1 := hP.2.2.1
    have hlt2 := hP.2.2.2.1
    have hlt3 := hP.2.2.2.2.1
    have hlt4 := hP.2.2.2.2.2
    clear hP
    have kM : KstMark := kstMark
    have hvl : vs.length = cnt.length := hin.length
    have hbd := wst_bounds lead
    rw [← hst] at hbd
    dsimp only at hbd
    have hc6 : cnt.length + b ≤ 6 := by omega
    have hn6 : n ≤ 6 := by omega
    have hnt6 : nt ≤ 6 := by omega
    clear hbd
    dsimp only
    repeat' (first | (k_unfold; (try dsimp only)) | (k_here; (with_reducible show wpAny _ _ (call (Value.type _) [Value.ref _]) _ _ _); k_dflt (refine' kde_tupleOf ?k1 ?k2 ?k3 ?k4 ?k5 ?_; (case k1 => k_asm); (case k2 => k_asm); (case k3 => exact News.isList (by k_asm) (by k_mem)); (case k4 => (simp only [List.size_toArray]; omega)); (case k5 => exact List.toList_toArray); k_whole); intro ct h21 F' N' l21; (try k_lt l21); (try k_sweep)) | (k_end; wrow_close) | walk1 | (dsimp only; first | (k_here; (with_reducible show wpAny _ _ (call (Value.type _) [Value.ref _]) _ _ _); k_dflt (refine' kde_tupleOf ?k1 ?k2 ?k3 ?k4 ?k5 ?_; (case k1 => k_asm); (case k2 => k_asm); (case k3 => exact News.isList (by k_asm) (by k_mem)); (case k4 => (simp only [List.size_toArray]; omega)); (case k5 => exact List.toList_toArray); k_whole); intro ct h21 F' N' l21; (try k_lt l21); (try k_sweep)) | walk1) | (leave1; try dsimp only))
    all_goals (try dsimp only)
    rename_i nm h22 l22 h23 h24 fE nE kF kN Tc kX
    have p1 := l21.1
    have p2 := l21.2.1
    have p3 := l21.2.2.1
    have p4 := l21.2.2.2.1
    have p5 := l21.2.2.2.2
    clear l21
    have r1 := l22.1
    have r2 := l22.2.1
    have r3 := l22.2.2.1
    have r4 := l22.2.2.2.1
    have r5 := l22.2.2.2.2.1
    have r6 := l22.2.2.2.2.2
    clear l22
    refine hret (.ref x') [(nm, _), (ct, _), (x', _), (d', _)] _ _ kF (kst_newsOf kN (by kst_in)) ?_ ?_
    · intro q hq p hp
      rcases List.mem_cons.mp hp with rfl | hp
      · exact kst_ltOf r6 q hq
      rcases List.mem_cons.mp hp with rfl | hp
      · exact kst_ltOf p5 q hq
      rcases List.mem_cons.mp hp with rfl | hp
      · exact Nat.lt_trans (l1 q hq) l2
      rcases List.mem_cons.mp hp with rfl | hp
      · exact l1 q hq
      · cases hp
    · refine' ⟨x', rfl, d', nm, ct, vs, _, _, _, _, _, _, _, _, _, ⟨?c1, ?c2, ?c3, ?c4, ?c5, hl⟩⟩
      case c1 => exact .tail _ (.tail _ (.head _))
      case c2 => rw [← hst]; exact .tail _ (.tail _ (.tail _ (.head _)))
      case c3 => rw [← hst]; exact .head _
      case c4 => exact .tail _ (.head _)
      case c5 => rw [← hst]; exact hin
end
section
open PySem PySem.W PyProof.Rows PySem.Spec PySem.Calls
set_option maxRecDepth 100000 in
set_option maxHeartbeats 8000000 in
theorem equal_c (w : World) (news) (x : Addr) (raw : Str) (lead : List Nat) (x2 : Addr) (raw2 : Str) (lead2 : List Nat) (hW : WsIn w news x raw lead) (hW2 : WsIn w news x2 raw2 lead2) : Ct 1 w 52 news [.ref x, .ref x2] (fun r tl => tl = [] ∧ r = .bool (decide ((wst lead).cnt = (wst lead2).cnt ∧ ((wst lead).b : Int) = ((wst lead2).b : Int)))) := by
  unfold Ct
  w_on
  k_fill
  intro p₀ lo₀ mean mg mb dp un gd cn cs a ccd cl outer A₀ base h₀ L m s Q E B F X N T hk hd' hu' hret
  refine WsIn.elim hW ?_
  intro d nm ct vs k1 k2 k3 k4 k5 u1 u2 u3 u4 M1 M2 M3 M4 hI hl6
  clear hW
  refine WsIn.elim hW2 ?_
  intro xd xnm xct xvs xk1 xk2 xk3 xk4 xk5 xu1 xu2 xu3 xu4 xM1 xM2 xM3 xM4 xhI xhl6
  clear hW2
  have hbd := wst_bounds lead
  have hvl : vs.length = (wst lead).cnt.length := hI.length
  refine wpAny_call ?_
  k_dflt cell_enter
  k_steps
  k_dflt (refine' normEq ?k1 ?k2 ?k3 ?k4 ?k5 ?k6 ?k7 ?k8 ?_)
  (case k1 => k_asm)
  (case k2 => exact M3)
  (case k3 => exact M4)
  (case k4 => exact hI)
  (case k5 => exact xM3)
  (case k6 => exact xM4)
  (case k7 => exact xhI)
  (case k8 => ktr_units)
  dsimp only
  k_steps
  rename_i kF kN Tc kX
  exact hret _ [] _ _ kF kN (fun _ _ _ h => nomatch h) ⟨rfl, rfl⟩
end
section
open PySem PySem.W PyProof.Rows PySem.Spec PySem.Calls
def colStep (size : Int) (c : Int) (cd : Nat) : Int := if cd = 9 then c + size - c.fmod size else c + 1
def colOf (l : List Nat) (size : Int) : Int := l.foldl (colStep size) 0
theorem colOf_take {l : List Nat} {i c : Nat} {size : Int} (h : l[i]? = some c) : colOf (l.take (i + 1)) size = colStep size (colOf (l.take i) size) c := by
  rw [List.take_add_one, h]
  simp [colOf]
theorem colOf_fold (text : Str) (size : Int) : (List.foldl (fun (σ : Int × Unit) (k : Str) => if (k == Str.ofString "\t") = true then (σ.1 + size - σ.1.fmod size, ()) else (σ.1 + 1, ())) (0, ()) (signs text)).1 = colOf text.cps.toList size := by
  unfold colOf
  have e : signs text = text.cps.toList.map fun c => (⟨#[c]⟩ : Str) := by simp [signs]
  rw [e]
  generalize (0 : Int) = z
  induction text.cps.toList generalizing z with
  | nil => rfl
  | cons c l ih =>
    rw [List.map_cons, List.foldl_cons, List.foldl_cons, ← ih]
    congr 1
    congr 1
    rw [beq_tab, colStep]
    by_cases h : c = 9 <;> simp [h]
set_option maxRecDepth 100000 in
set_option maxHeartbeats 8000000 in
theorem column_c (w : World) (news) (text : Str) (t1 : Tok) (size : Int) (t2 : Tok) (hs : 1 ≤ size) (hs2 : size ≤ 2000000) : Ct 1 w 108 news [.str text t1, .int size t2] (fun r tl => tl = [] ∧ ∃ t, r = .int (colOf text.cps.toList size) t) := by
  unfold Ct
  w_on
  k_fill
  intro p₀ lo₀ mean mg mb dp un gd cn cs a ccd cl outer A₀ base h₀ L m s Q E B F X N T hk hd' hu' hret
  refine wpAny_call ?_
  k_dflt cell_enter
  k_steps
  rename_i kF kN Tc kX
  exact hret _ [] _ _ kF kN (fun _ _ _ h => nomatch h) ⟨rfl, _, congrArg (Value.int · _) (colOf_fold text size)⟩
end
section
open PySem PySem.W PyProof.Rows PySem.Spec PySem.Calls
theorem pick_dropLast (vs : List Value) : slicePick vs.toArray none (some (-1)) none = vs.dropLast.toArray := by
  have e : sliceBounds none (some (-1)) none vs.toArray.size = (((0 : Nat) : Int), ((vs.length - 1 : Nat) : Int), 1) := by
    simp only [sliceBounds, Option.getD_none, show (1 : Int) > 0 by decide, if_true, show (-1 : Int) < 0 by decide, List.size_toArray]
    congr 1
    congr 1
    omega
  rw [kmk_pick_nat _ e]
  show ((vs.drop 0).take (vs.length - 1 - 0)).toArray = _
  rw [List.drop_zero, Nat.sub_zero, List.dropLast_eq_take]
theorem strValues_dropLast (l : List (Str × Tok)) : (strValues l).dropLast = strValues l.dropLast := by simp [strValues, List.map_dropLast]
/-- the runs of blanks, the other way round -/
def turnFold (ps : List Str) : Str := ps.foldl (fun acc p => p ++ Str.ofString "\t" ++ acc) (Str.ofString "")
def turnOf (text : Str) : Str := turnFold (Txt.split text (Str.ofString "\t")).dropLast ++ (Txt.split text (Str.ofString "\t")).getLastD (Str.ofString "")
theorem turnFold_take {l : List Str} {i : Nat} {c : Str} (h : l[i]? = some c) : turnFold (l.take (i + 1)) = c ++ Str.ofString "\t" ++ turnFold (l.take i) := by
  rw [List.take_add_one, h]
  simp [turnFold]
section
variable {prog : Program} {w : World} {A : Around} {E : Value → Shared → Prop} {s : Shared} {h₀ : Heap} {L : Addr} {news : List (Addr × Obj)}
theorem lastItem {value slice : PySem.Expr} {l : Addr} {vs : List Value} {n : Nat} {u : Tok} {v : Value} {Q : Value → Shared → Prop} (N : News h₀ L s.heap news) (hm : (l, W.listOf vs.toArray n) ∈ news) (hx : vs[vs.length - 1]? = some v) (h : Q v s)
    (hs : subscripted slice false (.ref l) (.int (-1) u) = operate [.ref l, .int (-1) u] (getItem (.ref l) (.int (-1) u)) := by with_unfolding_all rfl) :
    wpAny (model prog w) A (subscriptTail value slice (.ref l) (.int (-1) u)) Q E s := by
  have hp : 1 ≤ vs.length := by
    cases vs with
    | nil => cases hx
    | cons a b => simp
  exact kde_neg (News.isList N hm) (by decide) (by decide) (j := vs.length - 1) (by unfold seqIndex?; simp only [show (-1 : Int) < 0 by decide, if_true]; split <;> simp_all <;> omega) hx h hs
end
set_option maxRecDepth 100000 in
set_option maxHeartbeats 8000000 in
theorem turned_c (w : World) (news) (text : Str) (t1 : Tok) (hl : text.length ≤ 6) : Ct 1 w 101 news [.str text t1] (fun r tl => tl = [] ∧ ∃ t, r = .str (turnOf text) t) := by
  unfold Ct
  w_on
  k_fill
  intro p₀ lo₀ mean mg mb dp un gd cn cs a ccd cl outer A₀ base h₀ L m s Q E B F X N T hk hd' hu' hret
  refine wpAny_call ?_
  k_dflt cell_enter
  repeat' (fail_if_success (with_reducible show wpAny _ _ (pyIter _) _ _ _)); first | (k_unfold; (try dsimp only)) | (k_here; (with_reducible show wpAny _ _ (subscriptTail _ _ (Value.ref _) (Value.int (-1) _)) _ _ _); (with_unfolding_all refine' lastItem ?k1 ?k2 ?k3 ?_ ?k6; (case k1 => k_asm); (case k2 => k_mem); (case k3 => assumption); (case k6 => with_unfolding_all rfl); k_whole)) | (k_here; (with_reducible show wpAny _ _ (exec (Stmt.For (Expr.Name _ _) (Expr.Subscript _ _ _) _ _ _) _) _ _ _); (rename Fr _ _ _ _ => lF'); (with_unfolding_all refine' For_invVF lF' ?k1 ?k2 ?_; (case k1 => exact rfl); (case k2 => exact rfl); k_whole)) | walk1 | (dsimp only; first | (k_here; (with_reducible show wpAny _ _ (subscriptTail _ _ (Value.ref _) (Value.int (-1) _)) _ _ _); (with_unfolding_all refine' lastItem ?k1 ?k2 ?k3 ?_ ?k6; (case k1 => k_asm); (case k2 => k_mem); (case k3 => assumption); (case k6 => with_unfolding_all rfl); k_whole)) | (k_here; (with_reducible show wpAny _ _ (exec (Stmt.For (Expr.Name _ _) (Expr.Subscript _ _ _) _ _ _) _) _ _ _); (rename Fr _ _ _ _ => lF'); (with_unfolding_all refine' For_invVF lF' ?k1 ?k2 ?_; (case k1 => exact rfl); (case k2 => exact rfl); k_whole)) | walk1)
  rename Fr _ _ _ _ => F9
  rename News _ _ _ _ => N9
  rename List.map _ _ = Txt.split _ _ => hsp
  rename ∀ a ∈ List.map _ _, _ => hle
  rename_i hA _ _ _ _ l hx kk hSA hIL hy hB N1 hC
  rw [pick_dropLast, strValues_dropLast] at N9
  have hll : l.length ≤ 8 := by
    have q := split_le text (Str.ofString "\t")
    rw [← hsp, List.length_map] at q
    omega
  have hge : ∀ (i : Nat) (v : Value), (strValues l.dropLast).toArray[i]? = some v → ∃ c t, v = .str c t ∧ (Txt.split text (Str.ofString "\t")).dropLast[i]? = some c ∧ c.length ≤ 6 := by
    intro i v hv
    rw [List.getElem?_toArray, strValues, List.getElem?_map] at hv
    cases hq : l.dropLast[i]? with
    | none => rw [hq] at hv; cases hv
    | some p =>
      rw [hq] at hv
      have hm : p.1 ∈ List.map (fun x => x.1) l := List.mem_map_of_mem (List.dropLast_subset _ (List.mem_of_getElem? hq))
      refine ⟨p.1, p.2, (Option.some.inj hv).symm, ?_, ?_⟩
      · rw [← hsp, ← List.map_dropLast, List.getElem?_map, hq]
        rfl
      · have := hle _ hm
        omega
  have hsz : (strValues l.dropLast).toArray.size = (Txt.split text (Str.ofString "\t")).dropLast.length := by
    rw [← hsp]
    simp [strValues]
  have hsz7 : (strValues l.dropLast).toArray.size ≤ 7 := by
    simp [strValues]
    omega
  with_unfolding_all
    refine' slist (σ := Str × Tok) (fun _ => (hB.objs.size + 1, W.listOf (strValues l.dropLast).toArray 0) :: (hA.objs.size, W.listOf (strValues l).toArray 0) :: news) (fun c => [(Str.ofString "turned", .str c.1 c.2)]) []
      (fun i c => c.1 = turnFold ((Txt.split text (Str.ofString "\t")).dropLast.take i) ∧ c.1.length ≤ 8 * i) (fun c => c.1 = turnFold (Txt.split text (Str.ofString "\t")).dropLast ∧ c.1.length ≤ 100) (Str.ofString "", _) (by rfl) F9 N9 (.head _) (by kst_all) ?_ ?_ ?_ ?_
  · exact ⟨rfl, Nat.le_refl _⟩
  · rintro i v ⟨tu, ttu⟩ u h tk own I o q hi hv hP hio hoff hne F₁ N₁ G
    dsimp only [kstB] at hP hne F₁ N₁
    have hP1 := hP.1
    have hP2 := hP.2
    clear hP
    obtain ⟨c, t, rfl, hc, hc6⟩ := hge i v hv
    have kM : KstMark := kstMark
    have h1 : Str.length (Str.ofString "\t") = 1 := by decide +kernel
    repeat' (first | (k_unfold; (try dsimp only)) | (k_here; (with_reducible show wpAny _ _ (subscriptTail _ _ (Value.ref _) (Value.int (-1) _)) _ _ _); (with_unfolding_all refine' lastItem ?k1 ?k2 ?k3 ?_ ?k6; (case k1 => k_asm); (case k2 => k_mem); (case k3 => assumption); (case k6 => with_unfolding_all rfl); k_whole)) | (k_here; (with_reducible show wpAny _ _ (exec (Stmt.For (Expr.Name _ _) (Expr.Subscript _ _ _) _ _ _) _) _ _ _); (rename Fr _ _ _ _ => lF'); (with_unfolding_all refine' For_invVF lF' ?k1 ?k2 ?_; (case k1 => exact rfl); (case k2 => exact rfl); k_whole)) | (k_end; wrow_close) | walk1 | (dsimp only; first | (k_here; (with_reducible show wpAny _ _ (subscriptTail _ _ (Value.ref _) (Value.int (-1) _)) _ _ _); (with_unfolding_all refine' lastItem ?k1 ?k2 ?k3 ?_ ?k6; (case k1 => k_asm); (case k2 => k_mem); (case k3 => assumption); (case k6 => with_unfolding_all rfl); k_whole)) | (k_here; (with_reducible show wpAny _ _ (exec (Stmt.For (Expr.Name _ _) (Expr.Subscript _ _ _) _ _ _) _) _ _ _); (rename Fr _ _ _ _ => lF'); (with_unfolding_all refine' For_invVF lF' ?k1 ?k2 ?_; (case k1 => exact rfl); (case k2 => exact rfl); k_whole)) | walk1) | (leave1; try dsimp only))
    rename Fr _ _ _ _ => fE'
    rename News _ _ _ _ => nE'
    refine G.next _ _ _ (_, _) fE' nE' hne ?_ (by kst_all) (by kst_same)
    dsimp only
    rw [turnFold_take hc, ← hP1]
    exact ⟨rfl, by omega⟩
  · rintro c ⟨hP, hP2⟩
    rw [hsz, List.take_length] at hP
    exact ⟨hP, by omega⟩
  · rintro ⟨tu, ttu⟩ u h tk hP F₁ N₁
    dsimp only [kstB] at hP F₁ N₁
    have hP1 := hP.1
    have hP2 := hP.2
    clear hP
    dsimp only
    have hpos : 1 ≤ l.length := by
      have q := split_pos text (Str.ofString "\t")
      rwa [← hsp, List.length_map] at q
    obtain ⟨pl, hpl⟩ : ∃ p, l[l.length - 1]? = some p := ⟨_, List.getElem?_eq_getElem (by omega)⟩
    have hlast : (strValues l)[(strValues l).length - 1]? = some (.str pl.1 pl.2) := by
      simp only [strValues, List.length_map, List.getElem?_map, hpl]; rfl
    have hlen : pl.1.length ≤ 6 := by
      have := hle pl.1 (List.mem_map_of_mem (List.mem_of_getElem? hpl))
      omega
    have hD : (Txt.split text (Str.ofString "\t")).getLastD (Str.ofString "") = pl.1 := by
      rw [← hsp, List.getLastD_eq_getLast?, List.getLast?_eq_getElem?, List.length_map, List.getElem?_map, hpl]; rfl
    repeat' (first | (k_unfold; (try dsimp only)) | (k_here; (with_reducible show wpAny _ _ (subscriptTail _ _ (Value.ref _) (Value.int (-1) _)) _ _ _); (with_unfolding_all refine' lastItem ?k1 ?k2 ?k3 ?_ ?k6; (case k1 => k_asm); (case k2 => k_mem); (case k3 => assumption); (case k6 => with_unfolding_all rfl); k_whole)) | (k_here; (with_reducible show wpAny _ _ (exec (Stmt.For (Expr.Name _ _) (Expr.Subscript _ _ _) _ _ _) _) _ _ _); (rename Fr _ _ _ _ => lF'); (with_unfolding_all refine' For_invVF lF' ?k1 ?k2 ?_; (case k1 => exact rfl); (case k2 => exact rfl); k_whole)) | (k_end; wrow_close) | walk1 | (dsimp only; first | (k_here; (with_reducible show wpAny _ _ (subscriptTail _ _ (Value.ref _) (Value.int (-1) _)) _ _ _); (with_unfolding_all refine' lastItem ?k1 ?k2 ?k3 ?_ ?k6; (case k1 => k_asm); (case k2 => k_mem); (case k3 => assumption); (case k6 => with_unfolding_all rfl); k_whole)) | (k_here; (with_reducible show wpAny _ _ (exec (Stmt.For (Expr.Name _ _) (Expr.Subscript _ _ _) _ _ _) _) _ _ _); (rename Fr _ _ _ _ => lF'); (with_unfolding_all refine' For_invVF lF' ?k1 ?k2 ?_; (case k1 => exact rfl); (case k2 => exact rfl); k_whole)) | walk1) | (leave1; try dsimp only))
    rename_i kF kN Tc kX
    have hfin : tu ++ pl.1 = turnOf text := by rw [turnOf, hD, ← hP1]
    exact hret _ [] _ _ kF (kst_newsOf kN (by kst_in)) (fun _ _ _ h => nomatch h) ⟨rfl, _, congrArg (Value.str · _) hfin⟩
end
section
open PySem PySem.W PyProof.Rows PySem.Spec PySem.Calls
section
variable {prog : Program} {w : World} {A : Around} {E : Value → Shared → Prop} {s : Shared} {h₀ : Heap} {L : Addr} {news : List (Addr × Obj)}
theorem lenL {l : Addr} {vs : List Value} {n : Nat} {Q : Value → Shared → Prop} (N : News h₀ L s.heap news) (hm : (l, W.listOf vs.toArray n) ∈ news) (hfit : vs.length ≤ 1000)
    (h : Q (.int (vs.length : Int) (s.toks + 1)) { s with toks := s.toks + 1 + 1 }) : wpAny (model prog w) A (call (.builtin "len") [.ref l]) Q E s := by
  have ht : s.heap.IsList l vs.toArray := News.isList N hm
  have e : vs.toArray.size = vs.length := by simp
  exact len_list ht (by rw [e]; omega) (by rw [e]; exact h)
theorem itemL {value slice : PySem.Expr} {l : Addr} {vs : List Value} {n : Nat} {k : Int} {u : Tok} {v : Value} {Q : Value → Shared → Prop} (N : News h₀ L s.heap news) (hm : (l, W.listOf vs.toArray n) ∈ news) (h0 : 0 ≤ k) (hhi : k < 2 ^ 63) (hx : vs[k.toNat]? = some v) (h : Q v s)
    (hs : subscripted slice false (.ref l) (.int k u) = operate [.ref l, .int k u] (getItem (.ref l) (.int k u)) := by with_unfolding_all rfl) :
    wpAny (model prog w) A (subscriptTail value slice (.ref l) (.int k u)) Q E s :=
  tail_any (News.isList N hm).typeIs slot_list_getitem.lookup (wpAny_getItem_list (News.isList N hm) h0 hhi (by simpa using hx) h) hs
theorem list_shaped (ns : List Int) : SeqAt.shaped (.list (ns.map PyData.int)) = true := by
  simp [SeqAt.shaped, PyData.canLay0, PyData.depth, ke_canLayAll0, ke_depthAll]
theorem list_eqv (ns ms : List Int) : PyData.eqv (.list (ns.map PyData.int)) (.list (ms.map PyData.int)) = decide (ns = ms) := by
  simp only [PyData.eqv, ked_eqvAll]
theorem listEq {l l2 : Addr} {vs vs2 : List Value} {n n2 : Nat} {ns ns2 : List Int} {Q : Value → Shared → Prop} (N : News h₀ L s.heap news) (m1 : (l, W.listOf vs.toArray n) ∈ news) (m2 : (l2, W.listOf vs2.toArray n2) ∈ news) (hi : IntsAre vs ns) (hi2 : IntsAre vs2 ns2) (hu : A.units + 64 < cLine)
    (h : Q (.bool (decide (ns = ns2))) s) : wpAny (model prog w) A (compareOp .Eq (.ref l) (.ref l2)) Q E s :=
  eq_dataH (reads_newData (News.isList N m1) (ke_carried hi)) (reads_newData (News.isList N m2) (ke_carried hi2)) (list_shaped _) (list_shaped _) hu (by rw [list_eqv]; exact h)
theorem listYes {l l2 : Addr} {vs vs2 : List Value} {n n2 : Nat} {ns ns2 : List Int} {Q : Value → Shared → Prop} (N : News h₀ L s.heap news) (m1 : (l, W.listOf vs.toArray n) ∈ news) (m2 : (l2, W.listOf vs2.toArray n2) ∈ news) (hi : IntsAre vs ns) (hi2 : IntsAre vs2 ns2) (he : ns = ns2) (hu : A.units + 64 < cLine)
    (h : Q (.bool true) s) : wpAny (model prog w) A (compareOp .Eq (.ref l) (.ref l2)) Q E s :=
  listEq N m1 m2 hi hi2 hu (by rw [decide_eq_true he]; exact h)
end
end
section
open PySem PySem.W PyProof.Rows PySem.Spec PySem.Calls
def CtB (Pre : Heap → Prop) (k : Nat) (w : World) (f : Addr) (news : List (Addr × Obj)) (vs : List Value) (Post : Value → List (Addr × Obj) → Prop) : Prop :=
  ∀ (p₀ : Program) (lo₀ : List Str) (mean : ExcName → Option Value) (mg mb : Str → Option Value) (dp un : Nat) (gd : Option (List Code)) (cn : Str) (cs : Scope) (a : Addr) (ccd : Value) (cl : List (Str × Addr)) (outer : List Env) (A₀ : Around) (base h₀ : Heap) (L : Addr) (m : Str → Option Value) (s : Shared) (Q E : Value → Shared → Prop),
    Below A₀ base outer h₀ → Fr h₀ L s.heap m → (hd.heap_39 w.params).In h₀ → News h₀ L s.heap news → Top p₀ lo₀ mean mg mb h₀ → cs.kind = .function →
    dp + 4 * k < recursionLimit → un + 96 * k < cLine → Pre h₀ →
    (∀ r tl h' tk', Fr h₀ L h' m → News h₀ L h' (tl ++ news) → (∀ q ∈ news, ∀ p ∈ tl, q.1 < p.1) → Post r tl → Q r { s with heap := h', toks := tk' }) →
    wpAny (model PySem.Challenge.rw_mg0085_01.row.prog w) (ktrTop dp un gd cn cs L a ccd cl outer) (call (.ref f) vs) Q E s
/-- an indent -/
structure Lead (x : Str) : Prop where
  len : x.length ≤ 6
  sp : Sp x.cps.toList
theorem lead_nil : Lead (Str.ofString "") := by
  have e : Str.ofString "" = ⟨#[]⟩ := by decide +kernel
  rw [e]
  exact ⟨by decide, fun c h => by simp at h⟩
theorem slice_six (n : Nat) : (Builtin.Str.strSliceIndices (some (-6)) none 1 n).length ≤ 6 := by
  unfold Builtin.Str.strSliceIndices sliceRange
  simp only [show (1 : Int) > 0 by decide, if_true, show (-6 : Int) < 0 by decide, List.length_map, List.length_range]
  split <;> (try split) <;> (try simp only [Int.ediv_one]) <;> omega
theorem lead_slice {x : Str} (h : Sp x.cps.toList) : Lead (Txt.slice x (some (-6)) none) := by
  unfold Txt.slice
  have h6 := slice_six x.length
  split
  · rename_i hc
    simp only [beq_self_eq_true, Bool.true_and, beq_iff_eq] at hc
    exact ⟨by omega, h⟩
  · refine ⟨?_, ?_⟩
    · show (List.filterMap _ _).toArray.size ≤ 6
      rw [List.size_toArray]
      exact Nat.le_trans (List.length_filterMap_le _ _) h6
    · intro c hc
      simp only [List.mem_filterMap] at hc
      obtain ⟨k, _, hk⟩ := hc
      exact h c (by rw [← Array.getElem?_toList] at hk; exact List.mem_of_getElem? hk)
theorem sp_add {x : Str} (hx : Lead x) {k : Int} (h0 : 0 ≤ k) (h2 : k < 2) : Sp (x ++ Txt.item (Str.ofString " \t") k).cps.toList := by
  have hk : k = 0 ∨ k = 1 := by omega
  have e : (x ++ Txt.item (Str.ofString " \t") k).cps.toList = x.cps.toList ++ (Txt.item (Str.ofString " \t") k).cps.toList := by rw [Str.cps_append]; simp
  rw [e]
  intro c hc
  rcases List.mem_append.mp hc with hc | hc
  · exact hx.sp c hc
  · rcases hk with rfl | rfl
    · rw [show Txt.item (Str.ofString " \t") 0 = ⟨#[32]⟩ by decide +kernel] at hc
      simp at hc; exact .inr hc
    · rw [show Txt.item (Str.ofString " \t") 1 = ⟨#[9]⟩ by decide +kernel] at hc
      simp at hc; exact .inl hc
theorem lead_next {x : Str} (hx : Lead x) (n : Int) : Lead (Txt.slice (x ++ Txt.item (Str.ofString " \t") ((n.fmod 1000000).fmod 2)) (some (-6)) none) :=
  lead_slice (sp_add hx (fmod_lo _ (by decide)) (fmod_hi _ (by decide)))
set_option maxRecDepth 100000 in
set_option maxHeartbeats 8000000 in
theorem drawn_c (w : World) (news) (sc : Addr) (vs : List Value) (ns : List Int) (hI : IntsAre vs ns) (hlen : ns.length ≤ 63) : CtB (fun h => h.IsList sc vs.toArray) 1 w 94 news [.ref sc]
    (fun r tl => ∃ x f g tally t1 t2 t3, r = .ref x ∧ tl = [(x, tupO #[.str f t1, .str g t2, .int tally t3])] ∧ Lead f ∧ Lead g ∧ 0 ≤ tally ∧ tally < 1000000) := by
  unfold CtB
  w_on
  k_fill
  intro p₀ lo₀ mean mg mb dp un gd cn cs a ccd cl outer A₀ base h₀ L m s Q E B F X N T hk hd' hu' hsc hret
  refine wpAny_call ?_
  k_dflt cell_enter
  rename Fr h₀ L _ _ => FG9
  have hsc' := stays_list FG9.keep hsc
  repeat' (fail_if_success (with_reducible show wpAny _ _ (pyIter _) _ _ _)); first | (k_unfold; (try dsimp only)) | (k_here; (with_reducible show wpAny _ _ (exec (Stmt.For (Expr.Name _ _) (Expr.Subscript _ _ _) _ _ _) _) _ _ _); (rename Fr _ _ _ _ => lF'); (with_unfolding_all refine' For_invVF lF' ?k1 ?k2 ?_; (case k1 => exact rfl); (case k2 => exact rfl); k_whole)) | walk1 | (dsimp only; first | (k_here; (with_reducible show wpAny _ _ (exec (Stmt.For (Expr.Name _ _) (Expr.Subscript _ _ _) _ _ _) _) _ _ _); (rename Fr _ _ _ _ => lF'); (with_unfolding_all refine' For_invVF lF' ?k1 ?k2 ?_; (case k1 => exact rfl); (case k2 => exact rfl); k_whole)) | walk1)
  rename Fr _ _ _ _ => F9
  rename News _ _ _ _ => N9
  rename_i D' ws' _ l1 hI' hC' hL'
  with_unfolding_all
    refine' slist (σ := (Str × Tok) × (Str × Tok) × (Int × Tok)) (fun _ => (D', W.listOf ws'.toArray 0) :: news) (fun c => [(Str.ofString "first", .str c.1.1 c.1.2), (Str.ofString "second", .str c.2.1.1 c.2.1.2), (Str.ofString "tally", .int c.2.2.1 c.2.2.2)]) [Str.ofString "value", Str.ofString "letter"]
      (fun i c => Lead c.1.1 ∧ Lead c.2.1.1 ∧ 0 ≤ c.2.2.1 ∧ c.2.2.1 < 1000000) (fun c => Lead c.1.1 ∧ Lead c.2.1.1 ∧ 0 ≤ c.2.2.1 ∧ c.2.2.1 < 1000000) ((_, _), (_, _), (_, _)) (by rfl) F9 N9 (.head _) (by kst_all) ?_ ?_ ?_ ?_
  · exact ⟨lead_nil, lead_nil, Int.le_refl 0, Int.lt_of_lt_of_le Int.zero_lt_one (show (1 : Int) ≤ 1000000 by decide)⟩
  · rintro i v ⟨⟨fi, tfi⟩, ⟨se, tse⟩, ⟨ta, tta⟩⟩ u h tk own I o q hi hv hP hio hoff hne F₁ N₁ G
    dsimp only [kstB] at hP hne F₁ N₁
    have hP1 := hP.1
    have hP2 := hP.2.1
    have hP3 := hP.2.2.1
    have hP4 := hP.2.2.2
    clear hP
    obtain ⟨n, t, rfl, hn⟩ := IntsAre.at hI' i v (by simpa using hv)
    have hL1 := hP1.len
    have hL2 := hP2.len
    have kM : KstMark := kstMark
    repeat' (first | (k_unfold; (try dsimp only)) | (k_here; (with_reducible show wpAny _ _ (exec (Stmt.For (Expr.Name _ _) (Expr.Subscript _ _ _) _ _ _) _) _ _ _); (rename Fr _ _ _ _ => lF'); (with_unfolding_all refine' For_invVF lF' ?k1 ?k2 ?_; (case k1 => exact rfl); (case k2 => exact rfl); k_whole)) | (k_end; wrow_close) | walk1 | (dsimp only; first | (k_here; (with_reducible show wpAny _ _ (exec (Stmt.For (Expr.Name _ _) (Expr.Subscript _ _ _) _ _ _) _) _ _ _); (rename Fr _ _ _ _ => lF'); (with_unfolding_all refine' For_invVF lF' ?k1 ?k2 ?_; (case k1 => exact rfl); (case k2 => exact rfl); k_whole)) | walk1) | (leave1; try dsimp only))
    · rename Fr _ _ _ _ => fE'
      rename News _ _ _ _ => nE'
      exact G.next _ _ _ ((_, _), (_, _), (_, _)) fE' nE' hne ⟨lead_next hP1 n, hP2, fmod_lo _ (by decide), fmod_hi _ (by decide)⟩ (by kst_all) (by kst_same)
    · rename Fr _ _ _ _ => fE'
      rename News _ _ _ _ => nE'
      exact G.next _ _ _ ((_, _), (_, _), (_, _)) fE' nE' hne ⟨hP1, lead_next hP2 n, fmod_lo _ (by decide), fmod_hi _ (by decide)⟩ (by kst_all) (by kst_same)
  · exact fun c h => h
  · rintro ⟨⟨fi, tfi⟩, ⟨se, tse⟩, ⟨ta, tta⟩⟩ u h tk hP F₁ N₁
    dsimp only [kstB] at hP F₁ N₁
    have hP1 := hP.1
    have hP2 := hP.2.1
    have hP3 := hP.2.2.1
    have hP4 := hP.2.2.2
    clear hP
    dsimp only
    repeat' (first | (k_unfold; (try dsimp only)) | (k_here; (with_reducible show wpAny _ _ (exec (Stmt.For (Expr.Name _ _) (Expr.Subscript _ _ _) _ _ _) _) _ _ _); (rename Fr _ _ _ _ => lF'); (with_unfolding_all refine' For_invVF lF' ?k1 ?k2 ?_; (case k1 => exact rfl); (case k2 => exact rfl); k_whole)) | (k_end; wrow_close) | walk1 | (dsimp only; first | (k_here; (with_reducible show wpAny _ _ (exec (Stmt.For (Expr.Name _ _) (Expr.Subscript _ _ _) _ _ _) _) _ _ _); (rename Fr _ _ _ _ => lF'); (with_unfolding_all refine' For_invVF lF' ?k1 ?k2 ?_; (case k1 => exact rfl); (case k2 => exact rfl); k_whole)) | walk1) | (leave1; try dsimp only))
    rename (@LT.lt Nat _ _ _ ∧ AllLt _ _) => l5
    rename_i D5 _ _ _ kF kN Tc kX
    refine hret _ [(D5, tupO #[.str fi tfi, .str se tse, .int ta tta])] _ _ kF (kst_newsOf kN (by kst_in)) ?_ ⟨D5, fi, se, ta, _, _, _, rfl, rfl, hP1, hP2, hP3, hP4⟩
    intro q hq p hp
    rw [List.mem_singleton.mp hp]
    exact kst_ltOf l5.2 q hq
end
section
open PySem PySem.W PyProof.Rows PySem.Spec PySem.Calls
theorem longOf_bounds {lead : List Nat} (h : lead.length ≤ 6) : -1 ≤ longOf lead ∧ longOf lead ≤ 1000 := by
  have := wst_bounds lead
  unfold longOf
  split <;> omega
/-- the greater of the longest runs, and one -/
def topOf (lead lead2 : List Nat) : Int := (if longOf lead2 > longOf lead then longOf lead2 else longOf lead) + 1
theorem topOf_bounds {lead lead2 : List Nat} (h : lead.length ≤ 6) (h2 : lead2.length ≤ 6) : 0 ≤ topOf lead lead2 ∧ topOf lead lead2 ≤ 1001 := by
  have := longOf_bounds h
  have := longOf_bounds h2
  unfold topOf
  split <;> omega
def lessLoop (lead lead2 : List Nat) (n : Nat) : Bool := (List.range n).all fun (k : Nat) => decide (levelOf lead (2 + (k : Int)) < levelOf lead2 (2 + (k : Int)))
def lessOf (lead lead2 : List Nat) : Bool :=
  if ((wst lead2).n : Int) ≤ ((wst lead).n : Int) then false else if ((wst lead).cnt.length : Int) ≤ 1 ∧ ((wst lead2).cnt.length : Int) ≤ 1 then decide (((wst lead).nt : Int) ≤ ((wst lead2).nt : Int)) else
    lessLoop lead lead2 (topOf lead lead2 + 1 - 2).toNat
theorem less1 {lead lead2 : List Nat} (h : ((wst lead2).n : Int) ≤ ((wst lead).n : Int)) : lessOf lead lead2 = false := by simp only [lessOf, if_pos h]
theorem less2 {lead lead2 : List Nat} (h : ¬ ((wst lead2).n : Int) ≤ ((wst lead).n : Int)) (h1 : ((wst lead).cnt.length : Int) ≤ 1) (h2 : ((wst lead2).cnt.length : Int) ≤ 1) : lessOf lead lead2 = decide (((wst lead).nt : Int) ≤ ((wst lead2).nt : Int)) := by simp only [lessOf, if_neg h, if_pos (And.intro h1 h2)]
theorem less3 {lead lead2 : List Nat} (h : ¬ ((wst lead2).n : Int) ≤ ((wst lead).n : Int)) (h2 : ¬ ((wst lead2).cnt.length : Int) ≤ 1) : lessOf lead lead2 = lessLoop lead lead2 (topOf lead lead2 + 1 - 2).toNat := by simp only [lessOf, if_neg h, h2, and_false, if_false]
theorem less4 {lead lead2 : List Nat} (h : ¬ ((wst lead2).n : Int) ≤ ((wst lead).n : Int)) (h1 : ¬ ((wst lead).cnt.length : Int) ≤ 1) : lessOf lead lead2 = lessLoop lead lead2 (topOf lead lead2 + 1 - 2).toNat := by simp only [lessOf, if_neg h, h1, false_and, if_false]
theorem lessLoop_succ {lead lead2 : List Nat} {i : Nat} (h : lessLoop lead lead2 i = true) (hl : levelOf lead (2 + (i : Int)) < levelOf lead2 (2 + (i : Int))) : lessLoop lead lead2 (i + 1) = true := by
  unfold lessLoop at *
  rw [List.range_succ, List.all_append, h]
  simpa using hl
theorem lessLoop_out {lead lead2 : List Nat} {i n : Nat} (hi : i < n) (hl : ¬ levelOf lead (2 + (i : Int)) < levelOf lead2 (2 + (i : Int))) : lessLoop lead lead2 n = false := by
  unfold lessLoop
  rw [List.all_eq_false]
  exact ⟨i, List.mem_range.mpr hi, by simpa using hl⟩
set_option maxRecDepth 100000 in
set_option maxHeartbeats 8000000 in
theorem less_c (w : World) (news) (x : Addr) (raw : Str) (lead : List Nat) (x2 : Addr) (raw2 : Str) (lead2 : List Nat) (hW : WsIn w news x raw lead) (hW2 : WsIn w news x2 raw2 lead2) : Ct 2 w 66 news [.ref x, .ref x2] (fun r tl => tl = [] ∧ r = .bool (lessOf lead lead2)) := by
  unfold Ct
  w_on
  k_fill
  intro p₀ lo₀ mean mg mb dp un gd cn cs a ccd cl outer A₀ base h₀ L m s Q E B F X N T hk hd' hu' hret
  refine WsIn.elim hW ?_
  intro d nm ct vs k1 k2 k3 k4 k5 u1 u2 u3 u4 M1 M2 M3 M4 hI hl6
  refine WsIn.elim hW2 ?_
  intro xd xnm xct xvs xk1 xk2 xk3 xk4 xk5 xu1 xu2 xu3 xu4 xM1 xM2 xM3 xM4 xhI xhl6
  have hb1 := longOf_bounds hl6
  have hb2 := longOf_bounds xhl6
  have hb3 := topOf_bounds hl6 xhl6
  refine wpAny_call ?_
  k_dflt cell_enter
  repeat' (fail_if_success (with_reducible show wpAny _ _ (pyIter _) _ _ _)); first | (k_unfold; (try dsimp only)) | (k_here; (try (dsimp only [List.cons_append, List.nil_append, List.append_nil])); (with_reducible show wpAny _ _ (call (Value.ref 38) [Value.ref _]) _ _ _); k_dflt (refine' Ct.useV (longest_c _ _ _ _ _ ?kW) ?k1 ?k2 ?k3 ?k4 ?k5 ?kK ?kd ?ku ?_; (case k1 => k_asm); (case k2 => k_asm); (case k3 => k_asm); (case k4 => k_asm); (case k5 => k_asm); (case kK => first | exact rfl | assumption); (case kd => ktr_room); (case ku => ktr_units); (case kW => first | assumption | exact WsIn.mono (by assumption) (by intro p hp; kst_mem)); k_whole); intro t9 h9 tk9 F9 N9; (try dsimp only); (try k_fold)) | (k_here; (try (dsimp only [List.cons_append, List.nil_append, List.append_nil])); (with_reducible show wpAny _ _ (call (Value.ref 45) [Value.ref _, Value.int _ _]) _ _ _); k_dflt (refine' Ct.useV (level_c _ _ _ _ _ _ _ ?kA ?kB ?kW) ?k1 ?k2 ?k3 ?k4 ?k5 ?kK ?kd ?ku ?_; (case k1 => k_asm); (case k2 => k_asm); (case k3 => k_asm); (case k4 => k_asm); (case k5 => k_asm); (case kK => first | exact rfl | assumption); (case kd => ktr_room); (case ku => ktr_units); (case kW => first | assumption | exact WsIn.mono (by assumption) (by intro p hp; kst_mem)); (case kA => omega); (case kB => omega); k_whole); intro t9 h9 tk9 F9 N9; (try dsimp only); (try k_fold)) | walk1 | (dsimp only; first | (k_here; (try (dsimp only [List.cons_append, List.nil_append, List.append_nil])); (with_reducible show wpAny _ _ (call (Value.ref 38) [Value.ref _]) _ _ _); k_dflt (refine' Ct.useV (longest_c _ _ _ _ _ ?kW) ?k1 ?k2 ?k3 ?k4 ?k5 ?kK ?kd ?ku ?_; (case k1 => k_asm); (case k2 => k_asm); (case k3 => k_asm); (case k4 => k_asm); (case k5 => k_asm); (case kK => first | exact rfl | assumption); (case kd => ktr_room); (case ku => ktr_units); (case kW => first | assumption | exact WsIn.mono (by assumption) (by intro p hp; kst_mem)); k_whole); intro t9 h9 tk9 F9 N9; (try dsimp only); (try k_fold)) | (k_here; (try (dsimp only [List.cons_append, List.nil_append, List.append_nil])); (with_reducible show wpAny _ _ (call (Value.ref 45) [Value.ref _, Value.int _ _]) _ _ _); k_dflt (refine' Ct.useV (level_c _ _ _ _ _ _ _ ?kA ?kB ?kW) ?k1 ?k2 ?k3 ?k4 ?k5 ?kK ?kd ?ku ?_; (case k1 => k_asm); (case k2 => k_asm); (case k3 => k_asm); (case k4 => k_asm); (case k5 => k_asm); (case kK => first | exact rfl | assumption); (case kd => ktr_room); (case ku => ktr_units); (case kW => first | assumption | exact WsIn.mono (by assumption) (by intro p hp; kst_mem)); (case kA => omega); (case kB => omega); k_whole); intro t9 h9 tk9 F9 N9; (try dsimp only); (try k_fold)) | walk1)
  · rename_i kF kN Tc kX
    refine hret _ [] _ _ kF kN (fun _ _ _ h => nomatch h) ⟨rfl, ?_⟩
    rw [less1 (by assumption)]
  · rename_i kF kN Tc kX
    refine hret _ [] _ _ kF kN (fun _ _ _ h => nomatch h) ⟨rfl, ?_⟩
    rw [less2 (by assumption) (by assumption) (by assumption)]
  all_goals
    (rename Fr _ _ _ _ => F9; rename News _ _ _ _ => N9; rename IsRange _ _ _ _ _ _ _ _ => hR
     have hE : lessOf lead lead2 = lessLoop lead lead2 (topOf lead lead2 + 1 - 2).toNat := by first | exact less3 (by assumption) (by assumption) | exact less4 (by assumption) (by assumption)
     change IsRange _ _ 2 (topOf lead lead2 + 1) 1 _ _ _ at hR
     with_unfolding_all
       refine' srange (σ := Unit) (fun _ => news) (fun c => []) [] (fun i c => lessLoop lead lead2 i = true) (fun c => lessOf lead lead2 = true) () (by rfl) hR (small_one (by omega) (by omega) (by omega) (by omega)) (rangeSize_nat _ _) F9 N9 (by kst_all) ?_ ?_ ?_ ?_
     · rfl
     · rintro i t ⟨⟩ u h tk own I o q hi hP hio hoff hne F₁ N₁ G
       dsimp only [kstB] at hP hne F₁ N₁
       have hW' := hW.mono (fun p hp => List.mem_append_left own hp)
       have hW2' := hW2.mono (fun p hp => List.mem_append_left own hp)
       have kM : KstMark := kstMark
       repeat' (first | (k_unfold; (try dsimp only)) | (k_here; (try (dsimp only [List.cons_append, List.nil_append, List.append_nil])); (with_reducible show wpAny _ _ (call (Value.ref 38) [Value.ref _]) _ _ _); k_dflt (refine' Ct.useV (longest_c _ _ _ _ _ ?kW) ?k1 ?k2 ?k3 ?k4 ?k5 ?kK ?kd ?ku ?_; (case k1 => k_asm); (case k2 => k_asm); (case k3 => k_asm); (case k4 => k_asm); (case k5 => k_asm); (case kK => first | exact rfl | assumption); (case kd => ktr_room); (case ku => ktr_units); (case kW => first | assumption | exact WsIn.mono (by assumption) (by intro p hp; kst_mem)); k_whole); intro t9 h9 tk9 F9 N9; (try dsimp only); (try k_fold)) | (k_here; (try (dsimp only [List.cons_append, List.nil_append, List.append_nil])); (with_reducible show wpAny _ _ (call (Value.ref 45) [Value.ref _, Value.int _ _]) _ _ _); k_dflt (refine' Ct.useV (level_c _ _ _ _ _ _ _ ?kA ?kB ?kW) ?k1 ?k2 ?k3 ?k4 ?k5 ?kK ?kd ?ku ?_; (case k1 => k_asm); (case k2 => k_asm); (case k3 => k_asm); (case k4 => k_asm); (case k5 => k_asm); (case kK => first | exact rfl | assumption); (case kd => ktr_room); (case ku => ktr_units); (case kW => first | assumption | exact WsIn.mono (by assumption) (by intro p hp; kst_mem)); (case kA => omega); (case kB => omega); k_whole); intro t9 h9 tk9 F9 N9; (try dsimp only); (try k_fold)) | (k_end; wrow_close) | walk1 | (dsimp only; first | (k_here; (try (dsimp only [List.cons_append, List.nil_append, List.append_nil])); (with_reducible show wpAny _ _ (call (Value.ref 38) [Value.ref _]) _ _ _); k_dflt (refine' Ct.useV (longest_c _ _ _ _ _ ?kW) ?k1 ?k2 ?k3 ?k4 ?k5 ?kK ?kd ?ku ?_; (case k1 => k_asm); (case k2 => k_asm); (case k3 => k_asm); (case k4 => k_asm); (case k5 => k_asm); (case kK => first | exact rfl | assumption); (case kd => ktr_room); (case ku => ktr_units); (case kW => first | assumption | exact WsIn.mono (by assumption) (by intro p hp; kst_mem)); k_whole); intro t9 h9 tk9 F9 N9; (try dsimp only); (try k_fold)) | (k_here; (try (dsimp only [List.cons_append, List.nil_append, List.append_nil])); (with_reducible show wpAny _ _ (call (Value.ref 45) [Value.ref _, Value.int _ _]) _ _ _); k_dflt (refine' Ct.useV (level_c _ _ _ _ _ _ _ ?kA ?kB ?kW) ?k1 ?k2 ?k3 ?k4 ?k5 ?kK ?kd ?ku ?_; (case k1 => k_asm); (case k2 => k_asm); (case k3 => k_asm); (case k4 => k_asm); (case k5 => k_asm); (case kK => first | exact rfl | assumption); (case kd => ktr_room); (case ku => ktr_units); (case kW => first | assumption | exact WsIn.mono (by assumption) (by intro p hp; kst_mem)); (case kA => omega); (case kB => omega); k_whole); intro t9 h9 tk9 F9 N9; (try dsimp only); (try k_fold)) | walk1) | (leave1; try dsimp only))
       · refine G.ret _ _ ?_
         dsimp only
         repeat' (first | (k_unfold; (try dsimp only)) | (k_here; (try (dsimp only [List.cons_append, List.nil_append, List.append_nil])); (with_reducible show wpAny _ _ (call (Value.ref 38) [Value.ref _]) _ _ _); k_dflt (refine' Ct.useV (longest_c _ _ _ _ _ ?kW) ?k1 ?k2 ?k3 ?k4 ?k5 ?kK ?kd ?ku ?_; (case k1 => k_asm); (case k2 => k_asm); (case k3 => k_asm); (case k4 => k_asm); (case k5 => k_asm); (case kK => first | exact rfl | assumption); (case kd => ktr_room); (case ku => ktr_units); (case kW => first | assumption | exact WsIn.mono (by assumption) (by intro p hp; kst_mem)); k_whole); intro t9 h9 tk9 F9 N9; (try dsimp only); (try k_fold)) | (k_here; (try (dsimp only [List.cons_append, List.nil_append, List.append_nil])); (with_reducible show wpAny _ _ (call (Value.ref 45) [Value.ref _, Value.int _ _]) _ _ _); k_dflt (refine' Ct.useV (level_c _ _ _ _ _ _ _ ?kA ?kB ?kW) ?k1 ?k2 ?k3 ?k4 ?k5 ?kK ?kd ?ku ?_; (case k1 => k_asm); (case k2 => k_asm); (case k3 => k_asm); (case k4 => k_asm); (case k5 => k_asm); (case kK => first | exact rfl | assumption); (case kd => ktr_room); (case ku => ktr_units); (case kW => first | assumption | exact WsIn.mono (by assumption) (by intro p hp; kst_mem)); (case kA => omega); (case kB => omega); k_whole); intro t9 h9 tk9 F9 N9; (try dsimp only); (try k_fold)) | (k_end; wrow_close) | walk1 | (dsimp only; first | (k_here; (try (dsimp only [List.cons_append, List.nil_append, List.append_nil])); (with_reducible show wpAny _ _ (call (Value.ref 38) [Value.ref _]) _ _ _); k_dflt (refine' Ct.useV (longest_c _ _ _ _ _ ?kW) ?k1 ?k2 ?k3 ?k4 ?k5 ?kK ?kd ?ku ?_; (case k1 => k_asm); (case k2 => k_asm); (case k3 => k_asm); (case k4 => k_asm); (case k5 => k_asm); (case kK => first | exact rfl | assumption); (case kd => ktr_room); (case ku => ktr_units); (case kW => first | assumption | exact WsIn.mono (by assumption) (by intro p hp; kst_mem)); k_whole); intro t9 h9 tk9 F9 N9; (try dsimp only); (try k_fold)) | (k_here; (try (dsimp only [List.cons_append, List.nil_append, List.append_nil])); (with_reducible show wpAny _ _ (call (Value.ref 45) [Value.ref _, Value.int _ _]) _ _ _); k_dflt (refine' Ct.useV (level_c _ _ _ _ _ _ _ ?kA ?kB ?kW) ?k1 ?k2 ?k3 ?k4 ?k5 ?kK ?kd ?ku ?_; (case k1 => k_asm); (case k2 => k_asm); (case k3 => k_asm); (case k4 => k_asm); (case k5 => k_asm); (case kK => first | exact rfl | assumption); (case kd => ktr_room); (case ku => ktr_units); (case kW => first | assumption | exact WsIn.mono (by assumption) (by intro p hp; kst_mem)); (case kA => omega); (case kB => omega); k_whole); intro t9 h9 tk9 F9 N9; (try dsimp only); (try k_fold)) | walk1) | (leave1; try dsimp only))
         rename_i kF kN Tc kX
         refine hret _ [] _ _ kF (kst_newsOf kN (by kst_in)) (fun _ _ _ h => nomatch h) ⟨rfl, ?_⟩
         rw [hE, lessLoop_out hi (by omega)]
       · rename Fr _ _ _ _ => fE'
         rename News _ _ _ _ => nE'
         exact G.next _ _ _ () fE' nE' hne (lessLoop_succ hP (by omega)) (by kst_all) (by kst_same)
     · exact fun c h => hE.trans h
     · rintro ⟨⟩ u h tk hP F₁ N₁
       dsimp only [kstB] at hP F₁ N₁
       dsimp only
       repeat' (first | (k_unfold; (try dsimp only)) | (k_here; (try (dsimp only [List.cons_append, List.nil_append, List.append_nil])); (with_reducible show wpAny _ _ (call (Value.ref 38) [Value.ref _]) _ _ _); k_dflt (refine' Ct.useV (longest_c _ _ _ _ _ ?kW) ?k1 ?k2 ?k3 ?k4 ?k5 ?kK ?kd ?ku ?_; (case k1 => k_asm); (case k2 => k_asm); (case k3 => k_asm); (case k4 => k_asm); (case k5 => k_asm); (case kK => first | exact rfl | assumption); (case kd => ktr_room); (case ku => ktr_units); (case kW => first | assumption | exact WsIn.mono (by assumption) (by intro p hp; kst_mem)); k_whole); intro t9 h9 tk9 F9 N9; (try dsimp only); (try k_fold)) | (k_here; (try (dsimp only [List.cons_append, List.nil_append, List.append_nil])); (with_reducible show wpAny _ _ (call (Value.ref 45) [Value.ref _, Value.int _ _]) _ _ _); k_dflt (refine' Ct.useV (level_c _ _ _ _ _ _ _ ?kA ?kB ?kW) ?k1 ?k2 ?k3 ?k4 ?k5 ?kK ?kd ?ku ?_; (case k1 => k_asm); (case k2 => k_asm); (case k3 => k_asm); (case k4 => k_asm); (case k5 => k_asm); (case kK => first | exact rfl | assumption); (case kd => ktr_room); (case ku => ktr_units); (case kW => first | assumption | exact WsIn.mono (by assumption) (by intro p hp; kst_mem)); (case kA => omega); (case kB => omega); k_whole); intro t9 h9 tk9 F9 N9; (try dsimp only); (try k_fold)) | (k_end; wrow_close) | walk1 | (dsimp only; first | (k_here; (try (dsimp only [List.cons_append, List.nil_append, List.append_nil])); (with_reducible show wpAny _ _ (call (Value.ref 38) [Value.ref _]) _ _ _); k_dflt (refine' Ct.useV (longest_c _ _ _ _ _ ?kW) ?k1 ?k2 ?k3 ?k4 ?k5 ?kK ?kd ?ku ?_; (case k1 => k_asm); (case k2 => k_asm); (case k3 => k_asm); (case k4 => k_asm); (case k5 => k_asm); (case kK => first | exact rfl | assumption); (case kd => ktr_room); (case ku => ktr_units); (case kW => first | assumption | exact WsIn.mono (by assumption) (by intro p hp; kst_mem)); k_whole); intro t9 h9 tk9 F9 N9; (try dsimp only); (try k_fold)) | (k_here; (try (dsimp only [List.cons_append, List.nil_append, List.append_nil])); (with_reducible show wpAny _ _ (call (Value.ref 45) [Value.ref _, Value.int _ _]) _ _ _); k_dflt (refine' Ct.useV (level_c _ _ _ _ _ _ _ ?kA ?kB ?kW) ?k1 ?k2 ?k3 ?k4 ?k5 ?kK ?kd ?ku ?_; (case k1 => k_asm); (case k2 => k_asm); (case k3 => k_asm); (case k4 => k_asm); (case k5 => k_asm); (case kK => first | exact rfl | assumption); (case kd => ktr_room); (case ku => ktr_units); (case kW => first | assumption | exact WsIn.mono (by assumption) (by intro p hp; kst_mem)); (case kA => omega); (case kB => omega); k_whole); intro t9 h9 tk9 F9 N9; (try dsimp only); (try k_fold)) | walk1) | (leave1; try dsimp only))
       rename_i kF kN Tc kX
       exact hret _ [] _ _ kF kN (fun _ _ _ h => nomatch h) ⟨rfl, by rw [hP]⟩)
end
section
open PySem PySem.W PyProof.Rows PySem.Spec PySem.Calls
local macro_rules | `(tactic| ktr_rel) => `(tactic| first | exact List.Mem.head _ | ktr_member | (refine List.mem_cons_of_mem _ ?_; ktr_rel))
local macro_rules | `(tactic| k_mem) => `(tactic| ktr_rel)
section
open PySem PySem.W PyProof.Rows PySem.Spec PySem.Calls
local macro_rules | `(tactic| k_all) => `(tactic| assumption)
/-- the rows of a witness list -/
def tabOf (lead lead2 : List Nat) (n : Nat) : List (Int × Int × Int) := (List.range n).map fun (k : Nat) => (1 + (k : Int), levelOf lead (1 + (k : Int)), levelOf lead2 (1 + (k : Int)))
def unRows (lead lead2 : List Nat) (n : Nat) : List (Int × Int × Int) := (tabOf lead lead2 n).filter fun r => decide (r.2.1 ≠ r.2.2)
def geRows (lead lead2 : List Nat) (n : Nat) : List (Int × Int × Int) := (tabOf lead lead2 n).filter fun r => decide (r.2.2 ≤ r.2.1)
structure RS where
  vs : List Value
  n : Nat
  tl : List (Addr × Obj)
  rows : List (Int × Int × Int)
def LstIn (news : List (Addr × Obj)) (l : Addr) (rows : List (Int × Int × Int)) : Prop := ∃ vs n, (l, W.listOf vs.toArray n) ∈ news ∧ RowsIn news vs rows
theorem tabOf_succ (lead lead2 : List Nat) (i : Nat) : tabOf lead lead2 (i + 1) = tabOf lead lead2 i ++ [(1 + (i : Int), levelOf lead (1 + (i : Int)), levelOf lead2 (1 + (i : Int)))] := by
  simp [tabOf, List.range_succ]
theorem unRows_yes {lead lead2 : List Nat} {i : Nat} (h : levelOf lead (1 + (i : Int)) ≠ levelOf lead2 (1 + (i : Int))) : unRows lead lead2 (i + 1) = unRows lead lead2 i ++ [(1 + (i : Int), levelOf lead (1 + (i : Int)), levelOf lead2 (1 + (i : Int)))] := by
  unfold unRows
  rw [tabOf_succ, List.filter_append]
  simp [h]
theorem unRows_no {lead lead2 : List Nat} {i : Nat} (h : levelOf lead (1 + (i : Int)) = levelOf lead2 (1 + (i : Int))) : unRows lead lead2 (i + 1) = unRows lead lead2 i := by
  unfold unRows
  rw [tabOf_succ, List.filter_append]
  simp [h]
theorem geRows_yes {lead lead2 : List Nat} {i : Nat} (h : levelOf lead2 (1 + (i : Int)) ≤ levelOf lead (1 + (i : Int))) : geRows lead lead2 (i + 1) = geRows lead lead2 i ++ [(1 + (i : Int), levelOf lead (1 + (i : Int)), levelOf lead2 (1 + (i : Int)))] := by
  unfold geRows
  rw [tabOf_succ, List.filter_append]
  simp [h]
theorem geRows_no {lead lead2 : List Nat} {i : Nat} (h : ¬ levelOf lead2 (1 + (i : Int)) ≤ levelOf lead (1 + (i : Int))) : geRows lead lead2 (i + 1) = geRows lead lead2 i := by
  unfold geRows
  rw [tabOf_succ, List.filter_append]
  simp [h]
theorem rows_start {news : List (Addr × Obj)} {l' : Addr} (F : List Nat → List Nat → Nat → List (Int × Int × Int)) (lead lead2 : List Nat) (h : F lead lead2 0 = []) : [] = F lead lead2 0 ∧ RowsIn [] [] [] ∧ (∀ p ∈ ([] : List (Addr × Obj)), p.1 ≠ l') ∧ (∀ q ∈ news, ∀ p ∈ ([] : List (Addr × Obj)), q.1 < p.1) ∧ ([] : List Value).length ≤ 0 :=
  ⟨h.symm, .nil, (fun _ h => nomatch h), (fun _ _ _ h => nomatch h), Nat.le_refl _⟩
set_option maxRecDepth 100000 in
set_option maxHeartbeats 8000000 in
theorem unequal_c (w : World) (news) (x : Addr) (raw : Str) (lead : List Nat) (x2 : Addr) (raw2 : Str) (lead2 : List Nat) (hW : WsIn w news x raw lead) (hW2 : WsIn w news x2 raw2 lead2) : Ct 2 w 59 news [.ref x, .ref x2] (fun r tl => ∃ l, r = .ref l ∧ LstIn tl l (unRows lead lead2 (topOf lead lead2).toNat)) := by
  unfold Ct
  w_on
  k_fill
  intro p₀ lo₀ mean mg mb dp un gd cn cs a ccd cl outer A₀ base h₀ L m s Q E B F X N T hk hd' hu' hret
  refine WsIn.elim hW ?_
  intro d nm ct vs k1 k2 k3 k4 k5 u1 u2 u3 u4 M1 M2 M3 M4 hI hl6
  refine WsIn.elim hW2 ?_
  intro xd xnm xct xvs xk1 xk2 xk3 xk4 xk5 xu1 xu2 xu3 xu4 xM1 xM2 xM3 xM4 xhI xhl6
  have hb1 := longOf_bounds hl6
  have hb2 := longOf_bounds xhl6
  have hb3 := topOf_bounds hl6 xhl6
  refine wpAny_call ?_
  k_dflt cell_enter
  repeat' (fail_if_success (with_reducible show wpAny _ _ (pyIter _) _ _ _)); first | (k_unfold; (try dsimp only)) | (k_here; (try (dsimp only [List.cons_append, List.nil_append, List.append_nil])); (with_reducible show wpAny _ _ (call (Value.ref 38) [Value.ref _]) _ _ _); k_dflt (refine' Ct.useV (longest_c _ _ _ _ _ ?kW) ?k1 ?k2 ?k3 ?k4 ?k5 ?kK ?kd ?ku ?_; (case k1 => k_asm); (case k2 => k_asm); (case k3 => k_asm); (case k4 => k_asm); (case k5 => k_asm); (case kK => first | exact rfl | assumption); (case kd => ktr_room); (case ku => ktr_units); (case kW => first | assumption | exact WsIn.mono (by assumption) (by intro p hp; kst_mem)); k_whole); intro t9 h9 tk9 F9 N9; (try dsimp only); (try k_fold)) | (k_here; (try (dsimp only [List.cons_append, List.nil_append, List.append_nil])); (with_reducible show wpAny _ _ (call (Value.ref 45) [Value.ref _, Value.int _ _]) _ _ _); k_dflt (refine' Ct.useV (level_c _ _ _ _ _ _ _ ?kA ?kB ?kW) ?k1 ?k2 ?k3 ?k4 ?k5 ?kK ?kd ?ku ?_; (case k1 => k_asm); (case k2 => k_asm); (case k3 => k_asm); (case k4 => k_asm); (case k5 => k_asm); (case kK => first | exact rfl | assumption); (case kd => ktr_room); (case ku => ktr_units); (case kW => first | assumption | exact WsIn.mono (by assumption) (by intro p hp; kst_mem)); (case kA => omega); (case kB => omega); k_whole); intro t9 h9 tk9 F9 N9; (try dsimp only); (try k_fold)) | walk1 | (dsimp only; first | (k_here; (try (dsimp only [List.cons_append, List.nil_append, List.append_nil])); (with_reducible show wpAny _ _ (call (Value.ref 38) [Value.ref _]) _ _ _); k_dflt (refine' Ct.useV (longest_c _ _ _ _ _ ?kW) ?k1 ?k2 ?k3 ?k4 ?k5 ?kK ?kd ?ku ?_; (case k1 => k_asm); (case k2 => k_asm); (case k3 => k_asm); (case k4 => k_asm); (case k5 => k_asm); (case kK => first | exact rfl | assumption); (case kd => ktr_room); (case ku => ktr_units); (case kW => first | assumption | exact WsIn.mono (by assumption) (by intro p hp; kst_mem)); k_whole); intro t9 h9 tk9 F9 N9; (try dsimp only); (try k_fold)) | (k_here; (try (dsimp only [List.cons_append, List.nil_append, List.append_nil])); (with_reducible show wpAny _ _ (call (Value.ref 45) [Value.ref _, Value.int _ _]) _ _ _); k_dflt (refine' Ct.useV (level_c _ _ _ _ _ _ _ ?kA ?kB ?kW) ?k1 ?k2 ?k3 ?k4 ?k5 ?kK ?kd ?ku ?_; (case k1 => k_asm); (case k2 => k_asm); (case k3 => k_asm); (case k4 => k_asm); (case k5 => k_asm); (case kK => first | exact rfl | assumption); (case kd => ktr_room); (case ku => ktr_units); (case kW => first | assumption | exact WsIn.mono (by assumption) (by intro p hp; kst_mem)); (case kA => omega); (case kB => omega); k_whole); intro t9 h9 tk9 F9 N9; (try dsimp only); (try k_fold)) | walk1)
  rename Fr _ _ _ _ => F9
  rename News _ _ _ _ => N9
  rename IsRange _ _ _ _ _ _ _ _ => hR
  rename_i l' _ l1 _ _ _ _ _ _ _ _ _ _
  change IsRange _ _ 1 (topOf lead lead2 + 1) 1 _ _ _ at hR
  with_unfolding_all
    refine' srange (σ := RS) (fun c => (l', W.listOf c.vs.toArray c.n) :: (c.tl ++ news)) (fun c => []) [] (fun i c => c.rows = unRows lead lead2 i ∧ RowsIn c.tl c.vs c.rows ∧ (∀ p ∈ c.tl, p.1 ≠ l') ∧ (∀ q ∈ news, ∀ p ∈ c.tl, q.1 < p.1) ∧ c.vs.length ≤ i)
      (fun c => c.rows = unRows lead lead2 (topOf lead lead2).toNat ∧ RowsIn c.tl c.vs c.rows ∧ (∀ p ∈ c.tl, p.1 ≠ l') ∧ (∀ q ∈ news, ∀ p ∈ c.tl, q.1 < p.1)) ⟨[], 0, [], []⟩ (by rfl) hR (small_one (by omega) (by omega) (by omega) (by omega)) (rangeSize_nat _ _) F9 N9 (by kst_all) ?_ ?_ ?_ ?_
  · exact rows_start unRows lead lead2 rfl
  · rintro i t ⟨vs, n, tl, rows⟩ u h tk own I o q hi hP hio hoff hne F₁ N₁ G
    dsimp only [kstB] at hP hne F₁ N₁
    have hr := hP.1
    have hR := hP.2.1
    have htl := hP.2.2.1
    have hab := hP.2.2.2.1
    have hvl := hP.2.2.2.2
    clear hP
    simp only [List.cons_append] at N₁
    have hI' : l' ≠ I := (List.forall_mem_cons.mp hne).1
    have hX : ∀ p ∈ tl ++ news ++ own, p.1 ≠ l' := by
      intro p hp
      rcases List.mem_append.mp hp with hp | hp
      · rcases List.mem_append.mp hp with hp | hp
        · exact htl p hp
        · exact Nat.ne_of_lt (l1 p hp)
      · exact hoff p hp l' (.head _)
    have hW' : WsIn w (tl ++ news ++ own) x raw lead := hW.mono (fun p hp => List.mem_append_left own (List.mem_append_right tl hp))
    have hW2' : WsIn w (tl ++ news ++ own) x2 raw2 lead2 := hW2.mono (fun p hp => List.mem_append_left own (List.mem_append_right tl hp))
    have M1' := List.mem_append_left own (List.mem_append_right tl M1)
    have M2' := List.mem_append_left own (List.mem_append_right tl M2)
    have xM1' := List.mem_append_left own (List.mem_append_right tl xM1)
    have xM2' := List.mem_append_left own (List.mem_append_right tl xM2)
    have kM : KstMark := kstMark
    repeat' (first | (k_unfold; (try dsimp only)) | (k_here; (try (dsimp only [List.cons_append, List.nil_append, List.append_nil])); (with_reducible show wpAny _ _ (call (Value.ref 38) [Value.ref _]) _ _ _); k_dflt (refine' Ct.useV (longest_c _ _ _ _ _ ?kW) ?k1 ?k2 ?k3 ?k4 ?k5 ?kK ?kd ?ku ?_; (case k1 => k_asm); (case k2 => k_asm); (case k3 => k_asm); (case k4 => k_asm); (case k5 => k_asm); (case kK => first | exact rfl | assumption); (case kd => ktr_room); (case ku => ktr_units); (case kW => first | assumption | exact WsIn.mono (by assumption) (by intro p hp; kst_mem)); k_whole); intro t9 h9 tk9 F9 N9; (try dsimp only); (try k_fold)) | (k_here; (try (dsimp only [List.cons_append, List.nil_append, List.append_nil])); (with_reducible show wpAny _ _ (call (Value.ref 45) [Value.ref _, Value.int _ _]) _ _ _); k_dflt (refine' Ct.useV (level_c _ _ _ _ _ _ _ ?kA ?kB ?kW) ?k1 ?k2 ?k3 ?k4 ?k5 ?kK ?kd ?ku ?_; (case k1 => k_asm); (case k2 => k_asm); (case k3 => k_asm); (case k4 => k_asm); (case k5 => k_asm); (case kK => first | exact rfl | assumption); (case kd => ktr_room); (case ku => ktr_units); (case kW => first | assumption | exact WsIn.mono (by assumption) (by intro p hp; kst_mem)); (case kA => omega); (case kB => omega); k_whole); intro t9 h9 tk9 F9 N9; (try dsimp only); (try k_fold)) | (k_end; wrow_close) | walk1 | (dsimp only; first | (k_here; (try (dsimp only [List.cons_append, List.nil_append, List.append_nil])); (with_reducible show wpAny _ _ (call (Value.ref 38) [Value.ref _]) _ _ _); k_dflt (refine' Ct.useV (longest_c _ _ _ _ _ ?kW) ?k1 ?k2 ?k3 ?k4 ?k5 ?kK ?kd ?ku ?_; (case k1 => k_asm); (case k2 => k_asm); (case k3 => k_asm); (case k4 => k_asm); (case k5 => k_asm); (case kK => first | exact rfl | assumption); (case kd => ktr_room); (case ku => ktr_units); (case kW => first | assumption | exact WsIn.mono (by assumption) (by intro p hp; kst_mem)); k_whole); intro t9 h9 tk9 F9 N9; (try dsimp only); (try k_fold)) | (k_here; (try (dsimp only [List.cons_append, List.nil_append, List.append_nil])); (with_reducible show wpAny _ _ (call (Value.ref 45) [Value.ref _, Value.int _ _]) _ _ _); k_dflt (refine' Ct.useV (level_c _ _ _ _ _ _ _ ?kA ?kB ?kW) ?k1 ?k2 ?k3 ?k4 ?k5 ?kK ?kd ?ku ?_; (case k1 => k_asm); (case k2 => k_asm); (case k3 => k_asm); (case k4 => k_asm); (case k5 => k_asm); (case kK => first | exact rfl | assumption); (case kd => ktr_room); (case ku => ktr_units); (case kW => first | assumption | exact WsIn.mono (by assumption) (by intro p hp; kst_mem)); (case kA => omega); (case kB => omega); k_whole); intro t9 h9 tk9 F9 N9; (try dsimp only); (try k_fold)) | walk1) | (leave1; try dsimp only))
    · rename Fr _ _ _ _ => fE'
      rename News _ _ _ _ => nE'
      rename_i hc t5 _ _ _ _ D5 _ l5 _
      have q1 := l5.1
      have q2 := l5.2
      clear l5
      simp only [List.push_toArray] at nE'
      have hm : ∀ p ∈ tl ++ news ++ own, p.1 < D5 := fun p hp => kst_ltOf q2 p hp
      refine G.next _ _ _ ⟨vs ++ [.ref D5], n + 1, (D5, tupO #[.int (1 + (i : Int)) t, .int (levelOf lead (1 + (i : Int))) t5, .int (levelOf lead2 (1 + (i : Int))) t9]) :: tl, rows ++ [(1 + (i : Int), levelOf lead (1 + (i : Int)), levelOf lead2 (1 + (i : Int)))]⟩ fE' (kst_newsOf nE' ?_) ?_ ?_ (by kst_all) (by kst_same)
      · intro p hp
        simp only [List.cons_append, List.mem_cons, List.mem_append] at hp ⊢
        grind
      · intro p hp
        simp only [List.cons_append, List.mem_cons] at hp
        rcases hp with rfl | rfl | hp
        · exact hI'
        · exact fun e => absurd (hm (I, o) (List.mem_append_right _ hio)) (by rw [← e]; exact Nat.lt_irrefl _)
        · exact (List.forall_mem_cons.mp hne).2 p hp
      · dsimp only
        refine ⟨?_, (hR.mono (fun p hp => List.mem_cons_of_mem _ hp)).snoc ⟨D5, _, _, _, rfl, .head _⟩, ?_, ?_, ?_⟩
        · rw [hr, unRows_yes (by first | assumption | omega)]
        · intro p hp
          rcases List.mem_cons.mp hp with rfl | hp
          · exact (Nat.ne_of_lt q1).symm
          · exact htl p hp
        · intro q hq p hp
          rcases List.mem_cons.mp hp with rfl | hp
          · exact hm q (List.mem_append_left _ (List.mem_append_right _ hq))
          · exact hab q hq p hp
        · simp; omega
    · rename Fr _ _ _ _ => fE'
      rename News _ _ _ _ => nE'
      refine G.next _ _ _ ⟨vs, n, tl, rows⟩ fE' nE' hne ?_ (by kst_all) (by kst_same)
      dsimp only
      refine ⟨?_, hR, htl, hab, by omega⟩
      rw [hr, unRows_no (by first | assumption | omega)]
  · rintro ⟨vs, n, tl, rows⟩ ⟨hr, hR, htl, hab, hvl⟩
    dsimp only at hr hR htl hab ⊢
    refine ⟨?_, hR, htl, hab⟩
    rw [hr]
    congr 1
    omega
  · rintro ⟨vs, n, tl, rows⟩ u h tk hP F₁ N₁
    dsimp only [kstB] at hP F₁ N₁
    have hr := hP.1
    have hR := hP.2.1
    have htl := hP.2.2.1
    have hab := hP.2.2.2
    clear hP
    dsimp only
    repeat' (first | (k_unfold; (try dsimp only)) | (k_here; (try (dsimp only [List.cons_append, List.nil_append, List.append_nil])); (with_reducible show wpAny _ _ (call (Value.ref 38) [Value.ref _]) _ _ _); k_dflt (refine' Ct.useV (longest_c _ _ _ _ _ ?kW) ?k1 ?k2 ?k3 ?k4 ?k5 ?kK ?kd ?ku ?_; (case k1 => k_asm); (case k2 => k_asm); (case k3 => k_asm); (case k4 => k_asm); (case k5 => k_asm); (case kK => first | exact rfl | assumption); (case kd => ktr_room); (case ku => ktr_units); (case kW => first | assumption | exact WsIn.mono (by assumption) (by intro p hp; kst_mem)); k_whole); intro t9 h9 tk9 F9 N9; (try dsimp only); (try k_fold)) | (k_here; (try (dsimp only [List.cons_append, List.nil_append, List.append_nil])); (with_reducible show wpAny _ _ (call (Value.ref 45) [Value.ref _, Value.int _ _]) _ _ _); k_dflt (refine' Ct.useV (level_c _ _ _ _ _ _ _ ?kA ?kB ?kW) ?k1 ?k2 ?k3 ?k4 ?k5 ?kK ?kd ?ku ?_; (case k1 => k_asm); (case k2 => k_asm); (case k3 => k_asm); (case k4 => k_asm); (case k5 => k_asm); (case kK => first | exact rfl | assumption); (case kd => ktr_room); (case ku => ktr_units); (case kW => first | assumption | exact WsIn.mono (by assumption) (by intro p hp; kst_mem)); (case kA => omega); (case kB => omega); k_whole); intro t9 h9 tk9 F9 N9; (try dsimp only); (try k_fold)) | (k_end; wrow_close) | walk1 | (dsimp only; first | (k_here; (try (dsimp only [List.cons_append, List.nil_append, List.append_nil])); (with_reducible show wpAny _ _ (call (Value.ref 38) [Value.ref _]) _ _ _); k_dflt (refine' Ct.useV (longest_c _ _ _ _ _ ?kW) ?k1 ?k2 ?k3 ?k4 ?k5 ?kK ?kd ?ku ?_; (case k1 => k_asm); (case k2 => k_asm); (case k3 => k_asm); (case k4 => k_asm); (case k5 => k_asm); (case kK => first | exact rfl | assumption); (case kd => ktr_room); (case ku => ktr_units); (case kW => first | assumption | exact WsIn.mono (by assumption) (by intro p hp; kst_mem)); k_whole); intro t9 h9 tk9 F9 N9; (try dsimp only); (try k_fold)) | (k_here; (try (dsimp only [List.cons_append, List.nil_append, List.append_nil])); (with_reducible show wpAny _ _ (call (Value.ref 45) [Value.ref _, Value.int _ _]) _ _ _); k_dflt (refine' Ct.useV (level_c _ _ _ _ _ _ _ ?kA ?kB ?kW) ?k1 ?k2 ?k3 ?k4 ?k5 ?kK ?kd ?ku ?_; (case k1 => k_asm); (case k2 => k_asm); (case k3 => k_asm); (case k4 => k_asm); (case k5 => k_asm); (case kK => first | exact rfl | assumption); (case kd => ktr_room); (case ku => ktr_units); (case kW => first | assumption | exact WsIn.mono (by assumption) (by intro p hp; kst_mem)); (case kA => omega); (case kB => omega); k_whole); intro t9 h9 tk9 F9 N9; (try dsimp only); (try k_fold)) | walk1) | (leave1; try dsimp only))
    rename_i kF kN Tc kX
    refine hret _ ((l', W.listOf vs.toArray n) :: tl) _ _ kF kN ?_ ⟨l', rfl, vs, n, .head _, ?_⟩
    · intro q hq p hp
      rcases List.mem_cons.mp hp with rfl | hp
      · exact l1 q hq
      · exact hab q hq p hp
    · rw [← hr]
      exact hR.mono (fun p hp => List.mem_cons_of_mem _ hp)
set_option maxRecDepth 100000 in
set_option maxHeartbeats 8000000 in
theorem unless_c (w : World) (news) (x : Addr) (raw : Str) (lead : List Nat) (x2 : Addr) (raw2 : Str) (lead2 : List Nat) (hW : WsIn w news x raw lead) (hW2 : WsIn w news x2 raw2 lead2) : Ct 2 w 73 news [.ref x, .ref x2] (fun r tl => ∃ l, r = .ref l ∧ LstIn tl l (geRows lead lead2 (topOf lead lead2).toNat)) := by
  unfold Ct
  w_on
  k_fill
  intro p₀ lo₀ mean mg mb dp un gd cn cs a ccd cl outer A₀ base h₀ L m s Q E B F X N T hk hd' hu' hret
  refine WsIn.elim hW ?_
  intro d nm ct vs k1 k2 k3 k4 k5 u1 u2 u3 u4 M1 M2 M3 M4 hI hl6
  refine WsIn.elim hW2 ?_
  intro xd xnm xct xvs xk1 xk2 xk3 xk4 xk5 xu1 xu2 xu3 xu4 xM1 xM2 xM3 xM4 xhI xhl6
  have hb1 := longOf_bounds hl6
  have hb2 := longOf_bounds xhl6
  have hb3 := topOf_bounds hl6 xhl6
  refine wpAny_call ?_
  k_dflt cell_enter
  repeat' (fail_if_success (with_reducible show wpAny _ _ (pyIter _) _ _ _)); first | (k_unfold; (try dsimp only)) | (k_here; (try (dsimp only [List.cons_append, List.nil_append, List.append_nil])); (with_reducible show wpAny _ _ (call (Value.ref 38) [Value.ref _]) _ _ _); k_dflt (refine' Ct.useV (longest_c _ _ _ _ _ ?kW) ?k1 ?k2 ?k3 ?k4 ?k5 ?kK ?kd ?ku ?_; (case k1 => k_asm); (case k2 => k_asm); (case k3 => k_asm); (case k4 => k_asm); (case k5 => k_asm); (case kK => first | exact rfl | assumption); (case kd => ktr_room); (case ku => ktr_units); (case kW => first | assumption | exact WsIn.mono (by assumption) (by intro p hp; kst_mem)); k_whole); intro t9 h9 tk9 F9 N9; (try dsimp only); (try k_fold)) | (k_here; (try (dsimp only [List.cons_append, List.nil_append, List.append_nil])); (with_reducible show wpAny _ _ (call (Value.ref 45) [Value.ref _, Value.int _ _]) _ _ _); k_dflt (refine' Ct.useV (level_c _ _ _ _ _ _ _ ?kA ?kB ?kW) ?k1 ?k2 ?k3 ?k4 ?k5 ?kK ?kd ?ku ?_; (case k1 => k_asm); (case k2 => k_asm); (case k3 => k_asm); (case k4 => k_asm); (case k5 => k_asm); (case kK => first | exact rfl | assumption); (case kd => ktr_room); (case ku => ktr_units); (case kW => first | assumption | exact WsIn.mono (by assumption) (by intro p hp; kst_mem)); (case kA => omega); (case kB => omega); k_whole); intro t9 h9 tk9 F9 N9; (try dsimp only); (try k_fold)) | walk1 | (dsimp only; first | (k_here; (try (dsimp only [List.cons_append, List.nil_append, List.append_nil])); (with_reducible show wpAny _ _ (call (Value.ref 38) [Value.ref _]) _ _ _); k_dflt (refine' Ct.useV (longest_c _ _ _ _ _ ?kW) ?k1 ?k2 ?k3 ?k4 ?k5 ?kK ?kd ?ku ?_; (case k1 => k_asm); (case k2 => k_asm); (case k3 => k_asm); (case k4 => k_asm); (case k5 => k_asm); (case kK => first | exact rfl | assumption); (case kd => ktr_room); (case ku => ktr_units); (case kW => first | assumption | exact WsIn.mono (by assumption) (by intro p hp; kst_mem)); k_whole); intro t9 h9 tk9 F9 N9; (try dsimp only); (try k_fold)) | (k_here; (try (dsimp only [List.cons_append, List.nil_append, List.append_nil])); (with_reducible show wpAny _ _ (call (Value.ref 45) [Value.ref _, Value.int _ _]) _ _ _); k_dflt (refine' Ct.useV (level_c _ _ _ _ _ _ _ ?kA ?kB ?kW) ?k1 ?k2 ?k3 ?k4 ?k5 ?kK ?kd ?ku ?_; (case k1 => k_asm); (case k2 => k_asm); (case k3 => k_asm); (case k4 => k_asm); (case k5 => k_asm); (case kK => first | exact rfl | assumption); (case kd => ktr_room); (case ku => ktr_units); (case kW => first | assumption | exact WsIn.mono (by assumption) (by intro p hp; kst_mem)); (case kA => omega); (case kB => omega); k_whole); intro t9 h9 tk9 F9 N9; (try dsimp only); (try k_fold)) | walk1)
  rename Fr _ _ _ _ => F9
  rename News _ _ _ _ => N9
  rename IsRange _ _ _ _ _ _ _ _ => hR
  rename_i l' _ l1 _ _ _ _ _ _ _ _ _ _
  change IsRange _ _ 1 (topOf lead lead2 + 1) 1 _ _ _ at hR
  with_unfolding_all
    refine' srange (σ := RS) (fun c => (l', W.listOf c.vs.toArray c.n) :: (c.tl ++ news)) (fun c => []) [] (fun i c => c.rows = geRows lead lead2 i ∧ RowsIn c.tl c.vs c.rows ∧ (∀ p ∈ c.tl, p.1 ≠ l') ∧ (∀ q ∈ news, ∀ p ∈ c.tl, q.1 < p.1) ∧ c.vs.length ≤ i)
      (fun c => c.rows = geRows lead lead2 (topOf lead lead2).toNat ∧ RowsIn c.tl c.vs c.rows ∧ (∀ p ∈ c.tl, p.1 ≠ l') ∧ (∀ q ∈ news, ∀ p ∈ c.tl, q.1 < p.1)) ⟨[], 0, [], []⟩ (by rfl) hR (small_one (by omega) (by omega) (by omega) (by omega)) (rangeSize_nat _ _) F9 N9 (by kst_all) ?_ ?_ ?_ ?_
  · exact rows_start geRows lead lead2 rfl
  · rintro i t ⟨vs, n, tl, rows⟩ u h tk own I o q hi hP hio hoff hne F₁ N₁ G
    dsimp only [kstB] at hP hne F₁ N₁
    have hr := hP.1
    have hR := hP.2.1
    have htl := hP.2.2.1
    have hab := hP.2.2.2.1
    have hvl := hP.2.2.2.2
    clear hP
    simp only [List.cons_append] at N₁
    have hI' : l' ≠ I := (List.forall_mem_cons.mp hne).1
    have hX : ∀ p ∈ tl ++ news ++ own, p.1 ≠ l' := by
      intro p hp
      rcases List.mem_append.mp hp with hp | hp
      · rcases List.mem_append.mp hp with hp | hp
        · exact htl p hp
        · exact Nat.ne_of_lt (l1 p hp)
      · exact hoff p hp l' (.head _)
    have hW' : WsIn w (tl ++ news ++ own) x raw lead := hW.mono (fun p hp => List.mem_append_left own (List.mem_append_right tl hp))
    have hW2' : WsIn w (tl ++ news ++ own) x2 raw2 lead2 := hW2.mono (fun p hp => List.mem_append_left own (List.mem_append_right tl hp))
    have M1' := List.mem_append_left own (List.mem_append_right tl M1)
    have M2' := List.mem_append_left own (List.mem_append_right tl M2)
    have xM1' := List.mem_append_left own (List.mem_append_right tl xM1)
    have xM2' := List.mem_append_left own (List.mem_append_right tl xM2)
    have kM : KstMark := kstMark
    repeat' (first | (k_unfold; (try dsimp only)) | (k_here; (try (dsimp only [List.cons_append, List.nil_append, List.append_nil])); (with_reducible show wpAny _ _ (call (Value.ref 38) [Value.ref _]) _ _ _); k_dflt (refine' Ct.useV (longest_c _ _ _ _ _ ?kW) ?k1 ?k2 ?k3 ?k4 ?k5 ?kK ?kd ?ku ?_; (case k1 => k_asm); (case k2 => k_asm); (case k3 => k_asm); (case k4 => k_asm); (case k5 => k_asm); (case kK => first | exact rfl | assumption); (case kd => ktr_room); (case ku => ktr_units); (case kW => first | assumption | exact WsIn.mono (by assumption) (by intro p hp; kst_mem)); k_whole); intro t9 h9 tk9 F9 N9; (try dsimp only); (try k_fold)) | (k_here; (try (dsimp only [List.cons_append, List.nil_append, List.append_nil])); (with_reducible show wpAny _ _ (call (Value.ref 45) [Value.ref _, Value.int _ _]) _ _ _); k_dflt (refine' Ct.useV (level_c _ _ _ _ _ _ _ ?kA ?kB ?kW) ?k1 ?k2 ?k3 ?k4 ?k5 ?kK ?kd ?ku ?_; (case k1 => k_asm); (case k2 => k_asm); (case k3 => k_asm); (case k4 => k_asm); (case k5 => k_asm); (case kK => first | exact rfl | assumption); (case kd => ktr_room); (case ku => ktr_units); (case kW => first | assumption | exact WsIn.mono (by assumption) (by intro p hp; kst_mem)); (case kA => omega); (case kB => omega); k_whole); intro t9 h9 tk9 F9 N9; (try dsimp only); (try k_fold)) | (k_end; wrow_close) | walk1 | (dsimp only; first | (k_here; (try (dsimp only [List.cons_append, List.nil_append, List.append_nil])); (with_reducible show wpAny _ _ (call (Value.ref 38) [Value.ref _]) _ _ _); k_dflt (refine' Ct.useV (longest_c _ _ _ _ _ ?kW) ?k1 ?k2 ?k3 ?k4 ?k5 ?kK ?kd ?ku ?_; (case k1 => k_asm); (case k2 => k_asm); (case k3 => k_asm); (case k4 => k_asm); (case k5 => k_asm); (case kK => first | exact rfl | assumption); (case kd => ktr_room); (case ku => ktr_units); (case kW => first | assumption | exact WsIn.mono (by assumption) (by intro p hp; kst_mem)); k_whole); intro t9 h9 tk9 F9 N9; (try dsimp only); (try k_fold)) | (k_here; (try (dsimp only [List.cons_append, List.nil_append, List.append_nil])); (with_reducible show wpAny _ _ (call (Value.ref 45) [Value.ref _, Value.int _ _]) _ _ _); k_dflt (refine' Ct.useV (level_c _ _ _ _ _ _ _ ?kA ?kB ?kW) ?k1 ?k2 ?k3 ?k4 ?k5 ?kK ?kd ?ku ?_; (case k1 => k_asm); (case k2 => k_asm); (case k3 => k_asm); (case k4 => k_asm); (case k5 => k_asm); (case kK => first | exact rfl | assumption); (case kd => ktr_room); (case ku => ktr_units); (case kW => first | assumption | exact WsIn.mono (by assumption) (by intro p hp; kst_mem)); (case kA => omega); (case kB => omega); k_whole); intro t9 h9 tk9 F9 N9; (try dsimp only); (try k_fold)) | walk1) | (leave1; try dsimp only))
    · rename Fr _ _ _ _ => fE'
      rename News _ _ _ _ => nE'
      rename_i hc t5 _ _ _ _ D5 _ l5 _
      have q1 := l5.1
      have q2 := l5.2
      clear l5
      simp only [List.push_toArray] at nE'
      have hm : ∀ p ∈ tl ++ news ++ own, p.1 < D5 := fun p hp => kst_ltOf q2 p hp
      refine G.next _ _ _ ⟨vs ++ [.ref D5], n + 1, (D5, tupO #[.int (1 + (i : Int)) t, .int (levelOf lead (1 + (i : Int))) t5, .int (levelOf lead2 (1 + (i : Int))) t9]) :: tl, rows ++ [(1 + (i : Int), levelOf lead (1 + (i : Int)), levelOf lead2 (1 + (i : Int)))]⟩ fE' (kst_newsOf nE' ?_) ?_ ?_ (by kst_all) (by kst_same)
      · intro p hp
        simp only [List.cons_append, List.mem_cons, List.mem_append] at hp ⊢
        grind
      · intro p hp
        simp only [List.cons_append, List.mem_cons] at hp
        rcases hp with rfl | rfl | hp
        · exact hI'
        · exact fun e => absurd (hm (I, o) (List.mem_append_right _ hio)) (by rw [← e]; exact Nat.lt_irrefl _)
        · exact (List.forall_mem_cons.mp hne).2 p hp
      · dsimp only
        refine ⟨?_, (hR.mono (fun p hp => List.mem_cons_of_mem _ hp)).snoc ⟨D5, _, _, _, rfl, .head _⟩, ?_, ?_, ?_⟩
        · rw [hr, geRows_yes (by first | assumption | omega)]
        · intro p hp
          rcases List.mem_cons.mp hp with rfl | hp
          · exact (Nat.ne_of_lt q1).symm
          · exact htl p hp
        · intro q hq p hp
          rcases List.mem_cons.mp hp with rfl | hp
          · exact hm q (List.mem_append_left _ (List.mem_append_right _ hq))
          · exact hab q hq p hp
        · simp; omega
    · rename Fr _ _ _ _ => fE'
      rename News _ _ _ _ => nE'
      refine G.next _ _ _ ⟨vs, n, tl, rows⟩ fE' nE' hne ?_ (by kst_all) (by kst_same)
      dsimp only
      refine ⟨?_, hR, htl, hab, by omega⟩
      rw [hr, geRows_no (by first | assumption | omega)]
  · rintro ⟨vs, n, tl, rows⟩ ⟨hr, hR, htl, hab, hvl⟩
    dsimp only at hr hR htl hab ⊢
    refine ⟨?_, hR, htl, hab⟩
    rw [hr]
    congr 1
    omega
  · rintro ⟨vs, n, tl, rows⟩ u h tk hP F₁ N₁
    dsimp only [kstB] at hP F₁ N₁
    have hr := hP.1
    have hR := hP.2.1
    have htl := hP.2.2.1
    have hab := hP.2.2.2
    clear hP
    dsimp only
    repeat' (first | (k_unfold; (try dsimp only)) | (k_here; (try (dsimp only [List.cons_append, List.nil_append, List.append_nil])); (with_reducible show wpAny _ _ (call (Value.ref 38) [Value.ref _]) _ _ _); k_dflt (refine' Ct.useV (longest_c _ _ _ _ _ ?kW) ?k1 ?k2 ?k3 ?k4 ?k5 ?kK ?kd ?ku ?_; (case k1 => k_asm); (case k2 => k_asm); (case k3 => k_asm); (case k4 => k_asm); (case k5 => k_asm); (case kK => first | exact rfl | assumption); (case kd => ktr_room); (case ku => ktr_units); (case kW => first | assumption | exact WsIn.mono (by assumption) (by intro p hp; kst_mem)); k_whole); intro t9 h9 tk9 F9 N9; (try dsimp only); (try k_fold)) | (k_here; (try (dsimp only [List.cons_append, List.nil_append, List.append_nil])); (with_reducible show wpAny _ _ (call (Value.ref 45) [Value.ref _, Value.int _ _]) _ _ _); k_dflt (refine' Ct.useV (level_c _ _ _ _ _ _ _ ?kA ?kB ?kW) ?k1 ?k2 ?k3 ?k4 ?k5 ?kK ?kd ?ku ?_; (case k1 => k_asm); (case k2 => k_asm); (case k3 => k_asm); (case k4 => k_asm); (case k5 => k_asm); (case kK => first | exact rfl | assumption); (case kd => ktr_room); (case ku => ktr_units); (case kW => first | assumption | exact WsIn.mono (by assumption) (by intro p hp; kst_mem)); (case kA => omega); (case kB => omega); k_whole); intro t9 h9 tk9 F9 N9; (try dsimp only); (try k_fold)) | (k_end; wrow_close) | walk1 | (dsimp only; first | (k_here; (try (dsimp only [List.cons_append, List.nil_append, List.append_nil])); (with_reducible show wpAny _ _ (call (Value.ref 38) [Value.ref _]) _ _ _); k_dflt (refine' Ct.useV (longest_c _ _ _ _ _ ?kW) ?k1 ?k2 ?k3 ?k4 ?k5 ?kK ?kd ?ku ?_; (case k1 => k_asm); (case k2 => k_asm); (case k3 => k_asm); (case k4 => k_asm); (case k5 => k_asm); (case kK => first | exact rfl | assumption); (case kd => ktr_room); (case ku => ktr_units); (case kW => first | assumption | exact WsIn.mono (by assumption) (by intro p hp; kst_mem)); k_whole); intro t9 h9 tk9 F9 N9; (try dsimp only); (try k_fold)) | (k_here; (try (dsimp only [List.cons_append, List.nil_append, List.append_nil])); (with_reducible show wpAny _ _ (call (Value.ref 45) [Value.ref _, Value.int _ _]) _ _ _); k_dflt (refine' Ct.useV (level_c _ _ _ _ _ _ _ ?kA ?kB ?kW) ?k1 ?k2 ?k3 ?k4 ?k5 ?kK ?kd ?ku ?_; (case k1 => k_asm); (case k2 => k_asm); (case k3 => k_asm); (case k4 => k_asm); (case k5 => k_asm); (case kK => first | exact rfl | assumption); (case kd => ktr_room); (case ku => ktr_units); (case kW => first | assumption | exact WsIn.mono (by assumption) (by intro p hp; kst_mem)); (case kA => omega); (case kB => omega); k_whole); intro t9 h9 tk9 F9 N9; (try dsimp only); (try k_fold)) | walk1) | (leave1; try dsimp only))
    rename_i kF kN Tc kX
    refine hret _ ((l', W.listOf vs.toArray n) :: tl) _ _ kF kN ?_ ⟨l', rfl, vs, n, .head _, ?_⟩
    · intro q hq p hp
      rcases List.mem_cons.mp hp with rfl | hp
      · exact l1 q hq
      · exact hab q hq p hp
    · rw [← hr]
      exact hR.mono (fun p hp => List.mem_cons_of_mem _ hp)
end
section
open PySem PySem.W PyProof.Rows PySem.Spec PySem.Calls
def complFrom (start : Str) (ks : List Int) : Nat → Str
  | 0 => start
  | i + 1 => (if 0 < i then complFrom start ks i ++ Str.ofString ", " else complFrom start ks i) ++ Txt.item (Str.ofString "0123456789") (ks.getD i 0)
def complOf (ks : List Int) : Str := complFrom (if 1 < ks.length then Str.ofString "at tab sizes " else Str.ofString "at tab size ") ks ks.length
theorem start_len : Str.length (Str.ofString "at tab sizes ") ≤ 13 + 10 * 0 := by decide +kernel
theorem start_len1 : Str.length (Str.ofString "at tab size ") ≤ 13 + 10 * 0 := by decide +kernel
theorem compl_yes {start : Str} {ks : List Int} {i : Nat} {k : Int} (h : 0 < (0 + (i : Int))) (hk : ks[i]? = some k) : complFrom start ks (i + 1) = complFrom start ks i ++ Str.ofString ", " ++ Txt.item (Str.ofString "0123456789") k := by
  rw [complFrom, if_pos (by omega), List.getD_eq_getElem?_getD, hk]; rfl
theorem compl_no {start : Str} {ks : List Int} {i : Nat} {k : Int} (h : ¬ 0 < (0 + (i : Int))) (hk : ks[i]? = some k) : complFrom start ks (i + 1) = complFrom start ks i ++ Txt.item (Str.ofString "0123456789") k := by
  rw [complFrom, if_neg (by omega), List.getD_eq_getElem?_getD, hk]; rfl
set_option maxRecDepth 100000 in
set_option maxHeartbeats 8000000 in
theorem compl_c (w : World) (news) (l : Addr) (rows : List (Int × Int × Int)) (hR : LstIn news l rows) (hlen : rows.length ≤ 10) (hb : ∀ r ∈ rows, 0 ≤ r.1 ∧ r.1 ≤ 9) : Ct 1 w 115 news [.ref l] (fun r tl => tl = [] ∧ ∃ t, r = .str (complOf (rows.map (·.1))) t) := by
  unfold Ct
  w_on
  k_fill
  intro p₀ lo₀ mean mg mb dp un gd cn cs a ccd cl outer A₀ base h₀ L m s Q E B F X N T hk hd' hu' hret
  obtain ⟨vs, n, hm, hR⟩ := hR
  have hvl := hR.length
  have hv10 : vs.length ≤ 10 := by omega
  refine wpAny_call ?_
  k_dflt cell_enter
  have kM : KstMark := kstMark
  repeat' (fail_if_success (with_reducible show wpAny _ _ (pyIter _) _ _ _)); first | (k_unfold; (try dsimp only)) | (k_here; (with_reducible show wpAny _ _ (call (Value.builtin "len") [Value.ref _]) _ _ _); k_dflt (refine' lenL ?k1 ?k2 ?k3 ?_; (case k1 => k_asm); (case k2 => k_mem); (case k3 => omega); k_whole)) | (k_here; (with_reducible show wpAny _ _ (subscriptTail _ _ (Value.ref _) (Value.int _ _)) _ _ _); (with_unfolding_all refine' itemL ?k1 ?k2 ?k3 ?k4 ?k5 ?_ ?k6; (case k1 => k_asm); (case k2 => k_mem); (case k3 => omega); (case k4 => omega); (case k5 => assumption); (case k6 => with_unfolding_all rfl); k_whole)) | walk1 | (dsimp only; first | (k_here; (with_reducible show wpAny _ _ (call (Value.builtin "len") [Value.ref _]) _ _ _); k_dflt (refine' lenL ?k1 ?k2 ?k3 ?_; (case k1 => k_asm); (case k2 => k_mem); (case k3 => omega); k_whole)) | (k_here; (with_reducible show wpAny _ _ (subscriptTail _ _ (Value.ref _) (Value.int _ _)) _ _ _); (with_unfolding_all refine' itemL ?k1 ?k2 ?k3 ?k4 ?k5 ?_ ?k6; (case k1 => k_asm); (case k2 => k_mem); (case k3 => omega); (case k4 => omega); (case k5 => assumption); (case k6 => with_unfolding_all rfl); k_whole)) | walk1)
  · rename Fr _ _ _ _ => F9
    rename News _ _ _ _ => N9
    rename IsRange _ _ _ _ _ _ _ _ => hR9
    have hE : complOf (rows.map (·.1)) = complFrom (Str.ofString "at tab sizes ") (rows.map (·.1)) vs.length := by
      rw [complOf, if_pos (by rw [List.length_map]; omega), List.length_map, hvl]
    with_unfolding_all
      refine' srange (σ := Str × Tok) (fun _ => news) (fun c => [(Str.ofString "text", .str c.1 c.2)]) [] (fun i c => c.1 = complFrom (Str.ofString "at tab sizes ") (rows.map (·.1)) i ∧ c.1.length ≤ 13 + 10 * i) (fun c => c.1 = complOf (rows.map (·.1))) (Str.ofString "at tab sizes ", _) (by rfl) hR9 (small_one (by omega) (by omega) (by omega) (by omega)) (rangeSize_nat _ _) F9 N9 (by kst_all) ?_ ?_ ?_ ?_
    · exact ⟨rfl, start_len⟩
    · rintro i t ⟨tu, ttu⟩ u h tk own I o q hi hP hio hoff hne F₁ N₁ G
      dsimp only [kstB] at hP hne F₁ N₁
      have hP1 := hP.1
      have hP2 := hP.2
      clear hP
      have hi' : i < vs.length := by omega
      obtain ⟨v, hv⟩ : ∃ v, vs[i]? = some v := ⟨_, List.getElem?_eq_getElem hi'⟩
      obtain ⟨r, hr, a5, t5, t6, t7, rfl, hm5⟩ := hR.at i v hv
      have hv' : vs[(0 + (i : Int)).toNat]? = some (.ref a5) := by rw [show (0 + (i : Int)).toNat = i by omega]; exact hv
      have hk : (rows.map (·.1))[i]? = some r.1 := by rw [List.getElem?_map, hr]; rfl
      have hb5 := hb r (List.mem_of_getElem? hr)
      have hb5a := hb5.1
      have hb5b := hb5.2
      clear hb5
      have hm' := List.mem_append_left own hm
      have hm5' := List.mem_append_left own hm5
      have hl1 : Str.length (Str.ofString ", ") = 2 := by decide +kernel
      have hl2 : (Txt.item (Str.ofString "0123456789") r.1).length = 1 := rfl
      repeat' (first | (k_unfold; (try dsimp only)) | (k_here; (with_reducible show wpAny _ _ (call (Value.builtin "len") [Value.ref _]) _ _ _); k_dflt (refine' lenL ?k1 ?k2 ?k3 ?_; (case k1 => k_asm); (case k2 => k_mem); (case k3 => omega); k_whole)) | (k_here; (with_reducible show wpAny _ _ (subscriptTail _ _ (Value.ref _) (Value.int _ _)) _ _ _); (with_unfolding_all refine' itemL ?k1 ?k2 ?k3 ?k4 ?k5 ?_ ?k6; (case k1 => k_asm); (case k2 => k_mem); (case k3 => omega); (case k4 => omega); (case k5 => assumption); (case k6 => with_unfolding_all rfl); k_whole)) | (k_end; wrow_close) | walk1 | (dsimp only; first | (k_here; (with_reducible show wpAny _ _ (call (Value.builtin "len") [Value.ref _]) _ _ _); k_dflt (refine' lenL ?k1 ?k2 ?k3 ?_; (case k1 => k_asm); (case k2 => k_mem); (case k3 => omega); k_whole)) | (k_here; (with_reducible show wpAny _ _ (subscriptTail _ _ (Value.ref _) (Value.int _ _)) _ _ _); (with_unfolding_all refine' itemL ?k1 ?k2 ?k3 ?k4 ?k5 ?_ ?k6; (case k1 => k_asm); (case k2 => k_mem); (case k3 => omega); (case k4 => omega); (case k5 => assumption); (case k6 => with_unfolding_all rfl); k_whole)) | walk1) | (leave1; try dsimp only))
      all_goals
        (rename Fr _ _ _ _ => fE'
         rename News _ _ _ _ => nE'
         refine G.next _ _ _ (_, _) fE' nE' hne ?_ (by kst_all) (by kst_same)
         dsimp only
         first
           | (rw [compl_yes (by assumption) hk, ← hP1]; exact ⟨rfl, by omega⟩)
           | (rw [compl_no (by first | assumption | omega) hk, ← hP1]; exact ⟨rfl, by omega⟩))
    · rintro c ⟨hP, hP2⟩
      rw [hE, hP]
      congr 1 <;> omega
    · rintro ⟨tu, ttu⟩ u h tk hP F₁ N₁
      dsimp only [kstB] at hP F₁ N₁
      dsimp only
      repeat' (first | (k_unfold; (try dsimp only)) | (k_here; (with_reducible show wpAny _ _ (call (Value.builtin "len") [Value.ref _]) _ _ _); k_dflt (refine' lenL ?k1 ?k2 ?k3 ?_; (case k1 => k_asm); (case k2 => k_mem); (case k3 => omega); k_whole)) | (k_here; (with_reducible show wpAny _ _ (subscriptTail _ _ (Value.ref _) (Value.int _ _)) _ _ _); (with_unfolding_all refine' itemL ?k1 ?k2 ?k3 ?k4 ?k5 ?_ ?k6; (case k1 => k_asm); (case k2 => k_mem); (case k3 => omega); (case k4 => omega); (case k5 => assumption); (case k6 => with_unfolding_all rfl); k_whole)) | (k_end; wrow_close) | walk1 | (dsimp only; first | (k_here; (with_reducible show wpAny _ _ (call (Value.builtin "len") [Value.ref _]) _ _ _); k_dflt (refine' lenL ?k1 ?k2 ?k3 ?_; (case k1 => k_asm); (case k2 => k_mem); (case k3 => omega); k_whole)) | (k_here; (with_reducible show wpAny _ _ (subscriptTail _ _ (Value.ref _) (Value.int _ _)) _ _ _); (with_unfolding_all refine' itemL ?k1 ?k2 ?k3 ?k4 ?k5 ?_ ?k6; (case k1 => k_asm); (case k2 => k_mem); (case k3 => omega); (case k4 => omega); (case k5 => assumption); (case k6 => with_unfolding_all rfl); k_whole)) | walk1) | (leave1; try dsimp only))
      rename_i kF kN Tc kX
      exact hret _ [] _ _ kF kN (fun _ _ _ h => nomatch h) ⟨rfl, _, congrArg (Value.str · _) hP⟩
  · rename Fr _ _ _ _ => F9
    rename News _ _ _ _ => N9
    rename IsRange _ _ _ _ _ _ _ _ => hR9
    have hE : complOf (rows.map (·.1)) = complFrom (Str.ofString "at tab size ") (rows.map (·.1)) vs.length := by
      rw [complOf, if_neg (by rw [List.length_map]; omega), List.length_map, hvl]
    with_unfolding_all
      refine' srange (σ := Str × Tok) (fun _ => news) (fun c => [(Str.ofString "text", .str c.1 c.2)]) [] (fun i c => c.1 = complFrom (Str.ofString "at tab size ") (rows.map (·.1)) i ∧ c.1.length ≤ 13 + 10 * i) (fun c => c.1 = complOf (rows.map (·.1))) (Str.ofString "at tab size ", _) (by rfl) hR9 (small_one (by omega) (by omega) (by omega) (by omega)) (rangeSize_nat _ _) F9 N9 (by kst_all) ?_ ?_ ?_ ?_
    · exact ⟨rfl, start_len1⟩
    · rintro i t ⟨tu, ttu⟩ u h tk own I o q hi hP hio hoff hne F₁ N₁ G
      dsimp only [kstB] at hP hne F₁ N₁
      have hP1 := hP.1
      have hP2 := hP.2
      clear hP
      have hi' : i < vs.length := by omega
      obtain ⟨v, hv⟩ : ∃ v, vs[i]? = some v := ⟨_, List.getElem?_eq_getElem hi'⟩
      obtain ⟨r, hr, a5, t5, t6, t7, rfl, hm5⟩ := hR.at i v hv
      have hv' : vs[(0 + (i : Int)).toNat]? = some (.ref a5) := by rw [show (0 + (i : Int)).toNat = i by omega]; exact hv
      have hk : (rows.map (·.1))[i]? = some r.1 := by rw [List.getElem?_map, hr]; rfl
      have hb5 := hb r (List.mem_of_getElem? hr)
      have hb5a := hb5.1
      have hb5b := hb5.2
      clear hb5
      have hm' := List.mem_append_left own hm
      have hm5' := List.mem_append_left own hm5
      have hl1 : Str.length (Str.ofString ", ") = 2 := by decide +kernel
      have hl2 : (Txt.item (Str.ofString "0123456789") r.1).length = 1 := rfl
      repeat' (first | (k_unfold; (try dsimp only)) | (k_here; (with_reducible show wpAny _ _ (call (Value.builtin "len") [Value.ref _]) _ _ _); k_dflt (refine' lenL ?k1 ?k2 ?k3 ?_; (case k1 => k_asm); (case k2 => k_mem); (case k3 => omega); k_whole)) | (k_here; (with_reducible show wpAny _ _ (subscriptTail _ _ (Value.ref _) (Value.int _ _)) _ _ _); (with_unfolding_all refine' itemL ?k1 ?k2 ?k3 ?k4 ?k5 ?_ ?k6; (case k1 => k_asm); (case k2 => k_mem); (case k3 => omega); (case k4 => omega); (case k5 => assumption); (case k6 => with_unfolding_all rfl); k_whole)) | (k_end; wrow_close) | walk1 | (dsimp only; first | (k_here; (with_reducible show wpAny _ _ (call (Value.builtin "len") [Value.ref _]) _ _ _); k_dflt (refine' lenL ?k1 ?k2 ?k3 ?_; (case k1 => k_asm); (case k2 => k_mem); (case k3 => omega); k_whole)) | (k_here; (with_reducible show wpAny _ _ (subscriptTail _ _ (Value.ref _) (Value.int _ _)) _ _ _); (with_unfolding_all refine' itemL ?k1 ?k2 ?k3 ?k4 ?k5 ?_ ?k6; (case k1 => k_asm); (case k2 => k_mem); (case k3 => omega); (case k4 => omega); (case k5 => assumption); (case k6 => with_unfolding_all rfl); k_whole)) | walk1) | (leave1; try dsimp only))
      all_goals
        (rename Fr _ _ _ _ => fE'
         rename News _ _ _ _ => nE'
         refine G.next _ _ _ (_, _) fE' nE' hne ?_ (by kst_all) (by kst_same)
         dsimp only
         first
           | (rw [compl_yes (by assumption) hk, ← hP1]; exact ⟨rfl, by omega⟩)
           | (rw [compl_no (by first | assumption | omega) hk, ← hP1]; exact ⟨rfl, by omega⟩))
    · rintro c ⟨hP, hP2⟩
      rw [hE, hP]
      congr 1 <;> omega
    · rintro ⟨tu, ttu⟩ u h tk hP F₁ N₁
      dsimp only [kstB] at hP F₁ N₁
      dsimp only
      repeat' (first | (k_unfold; (try dsimp only)) | (k_here; (with_reducible show wpAny _ _ (call (Value.builtin "len") [Value.ref _]) _ _ _); k_dflt (refine' lenL ?k1 ?k2 ?k3 ?_; (case k1 => k_asm); (case k2 => k_mem); (case k3 => omega); k_whole)) | (k_here; (with_reducible show wpAny _ _ (subscriptTail _ _ (Value.ref _) (Value.int _ _)) _ _ _); (with_unfolding_all refine' itemL ?k1 ?k2 ?k3 ?k4 ?k5 ?_ ?k6; (case k1 => k_asm); (case k2 => k_mem); (case k3 => omega); (case k4 => omega); (case k5 => assumption); (case k6 => with_unfolding_all rfl); k_whole)) | (k_end; wrow_close) | walk1 | (dsimp only; first | (k_here; (with_reducible show wpAny _ _ (call (Value.builtin "len") [Value.ref _]) _ _ _); k_dflt (refine' lenL ?k1 ?k2 ?k3 ?_; (case k1 => k_asm); (case k2 => k_mem); (case k3 => omega); k_whole)) | (k_here; (with_reducible show wpAny _ _ (subscriptTail _ _ (Value.ref _) (Value.int _ _)) _ _ _); (with_unfolding_all refine' itemL ?k1 ?k2 ?k3 ?k4 ?k5 ?_ ?k6; (case k1 => k_asm); (case k2 => k_mem); (case k3 => omega); (case k4 => omega); (case k5 => assumption); (case k6 => with_unfolding_all rfl); k_whole)) | walk1) | (leave1; try dsimp only))
      rename_i kF kN Tc kX
      exact hret _ [] _ _ kF kN (fun _ _ _ h => nomatch h) ⟨rfl, _, congrArg (Value.str · _) hP⟩
end
section
open PySem PySem.W PyProof.Rows PySem.Spec PySem.Calls
/-- a table of a code's inner codes -/
def TabOk (o : Obj) : Prop := ∃ ps, o = tabObj ps ∧ TriplesOk ps.toList
theorem genCode {M : Model} {A : Around} {E : Value → Shared → Prop} {s : Shared} {env : Env} {c P : Addr} {pos : Pos} {qualname : Str} {scope : Scope} {op : Obj} {Q : Value → Shared → Prop} (hc : env.code = .ref c) (hca : CodeHd s.heap c P) (hP : s.heap.get? P = some op) (hop : TabOk op)
    (hQ : ∀ code h' tk op', Heap.ExtBut P s.heap h' → h'.get? P = some op' → TabOk op' → Q code { s with heap := h', toks := tk }) : wpAny M A (genexprCode env pos qualname scope) Q E s := by
  obtain ⟨ps, rfl, htr⟩ := hop
  cases hcd : codeAmong pos ps.toList with
  | none =>
    refine wpAny_genexprCodeX hc (hca.code hP htr) (hca.tab hP) hcd fun c' h' tk hx _ _ hok _ htab _ => ?_
    obtain ⟨_, _, _, _, _, _, _, _, _, _, _, _, _, _, _, _, _, hop', hpd', htr', _⟩ := hok
    exact hQ _ h' tk _ hx htab.2 ⟨_, rfl, htr'⟩
  | some cv =>
    obtain ⟨o, vs, file, tf, flags, tg, inF, text, tt, ho, _, hd, _, h11, _⟩ := id hca
    unfold genexprCode codeAt
    rw [hc, if_neg (show ¬ ((Value.ref c == Value.none) = true) from Bool.false_ne_true)]
    refine wpAny_bind (wpAny_fieldsOf ho hd ?_)
    rw [h11]
    refine wpAny_bind (wpAny_fieldsOf hP rfl ?_)
    rw [hcd]
    exact wpAny_pure (hQ cv s.heap s.toks _ (Heap.ExtBut.refl _ _) hP ⟨ps, rfl, htr⟩)
abbrev iterO (l : Addr) : Obj := { cls := .type "list_iterator", data := .fields #[.ref l, .int 0 0] }
abbrev genO (g : Nat) (nm qn : Value) : Obj := { cls := .type "generator", data := .fields #[.int g 0, nm, qn] }
section
variable {prog : Program} {w : World} {A : Around} {E : Value → Shared → Prop} {s : Shared} {h₀ : Heap} {L : Addr} {m mg mb : Str → Option Value} {news : List (Addr × Obj)} {p₀ : Program} {lo₀ : List Str} {mean : ExcName → Option Value}
theorem genMake {env : Env} {elt iter : Expr} {x : Str} {px : Pos} {scope : Scope} {cl : List (Str × Addr)} {pos : Pos} {Q : Value → Shared → Prop} {op : Obj} {c P l : Addr} {items : Array Value} {nn : Nat}
    (F : Fr h₀ L s.heap m) (N : News h₀ L s.heap ((P, op) :: news)) (T : Top p₀ lo₀ mean mg mb h₀) (hop : TabOk op) (hPn : ∀ p ∈ news, p.1 ≠ P) (hca : CodeHd h₀ c P) (hcode : env.code = .ref c) (hg : env.globals = mainGlobals)
    (hl : (l, W.listOf items nn) ∈ news) (hit : ∀ Q' : Value → Shared → Prop, Q' (.ref l) s → wpAny (model prog w) A (eval iter env) Q' E s)
    (hco : scope.isCoroutine = false) (hclos : closureFor scope env = pure cl) (hcell : ∀ y ∈ scope.names, y.2 ≠ .cell) (h0 : scope.names.lookup (".0" : Str) = some NameKind.local) (hkind : scope.kind = .function)
    (hroom : A.depth < recursionLimit) (hs : ∀ x, genFold iter env x = pure x)
    (h : ∀ I C a oC op' code nm qn h' tk', TabOk op' → Fr h₀ L h' m → News h₀ L h' ((a, genO s.gens.size nm qn) :: (C, oC) :: (I, iterO l) :: (P, op') :: news) → LCg.NsObj oC (fun y => if y = ".0" then some (.ref I) else none) →
      (∀ p ∈ (P, op) :: news, p.1 < I) → @LT.lt Nat _ L I → @LT.lt Nat _ I C → @LT.lt Nat _ C a →
      Q (.ref a) { s with heap := h', toks := tk', gens := s.gens.push (.fresh (.compStart (.GeneratorExp elt [⟨.Name x px, iter, [], 0⟩] scope pos) 0 (.ref I) .none (genEnv scope cl C code builtinsNs env))) }) :
    wpAny (model prog w) A (eval (.GeneratorExp elt [⟨.Name x px, iter, [], 0⟩] scope pos) env) Q E s := by
  refine wpAny_GeneratorExp_make hco hclos hcell h0 hkind hroom (hit _ ?_) hs
  have hls : s.heap.IsList l items := News.isList N (.tail _ hl)
  have hP := N (P, op) (.head _)
  have hPlt : P < s.heap.objs.size := Heap.lt_size hP.1
  have hPI : s.heap.objs.size ≠ P := (Nat.ne_of_lt hPlt).symm
  refine wpAny_pyIter_list hls ⟨(T.nolimit.keeps F.keep).push _, ?_⟩
  refine genCode hcode ((hca.keeps F.keep).keeps fun b o e => Heap.get?_push_of_some (iterO l) e) (Heap.get?_push_of_some (iterO l) hP.1) hop fun code h₃ tk₃ op' hx₃ hop' hok' => ?_
  have up₃ : ∀ b o, b ≠ P → s.heap.get? b = some o → h₃.get? b = some o := fun b o hb e => hx₃ b o hb (Heap.get?_push_of_some _ e)
  have hI₃ : h₃.get? s.heap.objs.size = some (iterO l) := hx₃ _ _ hPI (Heap.get?_push_size _ rfl)
  have base₃ : ∀ b o, h₀.get? b = some o → h₃.get? b = some o := fun b o e => up₃ b o (fun q => by rw [q, hP.2.2] at e; cases e) (F.keep b o e)
  obtain ⟨bm, ob, b1, b2, b3, b4, b5, b6⟩ := T.bmain
  refine wpAny_builtinsFor (hg ▸ T.g.keeps base₃) b1 b2 (base₃ _ _ b3) b4 b5 b6 ?_
  intro h' hn' hs'
  obtain ⟨oC, hoC, hNs⟩ := LCg.ns_obj hn'
  have hIC : s.heap.objs.size < h₃.objs.size := Heap.lt_size hI₃
  have hsz : h'.objs.size = h₃.objs.size + 1 := by rw [hs'.1, Heap.size_push]
  have up' : ∀ b o, h₃.get? b = some o → h'.get? b = some o := fun b o e => hs'.extBut b o (Nat.ne_of_lt (Heap.lt_size e)) (Heap.get?_push_of_some _ e)
  have hLs : L < s.heap.objs.size := F.ns.lt
  have hLP : L ≠ P := fun e => hP.2.1 e.symm
  have none₀ : ∀ a, s.heap.objs.size ≤ a → h₀.get? a = none := fun a ha => Heap.get?_none_of_le (Nat.le_trans F.above (Nat.le_trans (Nat.le_of_lt hLs) ha))
  refine h s.heap.objs.size h₃.objs.size h'.objs.size oC op' code (.str "<genexpr>" (tk₃ + 1)) (.str (env.qual ++ "<genexpr>") (tk₃ + 1 + 1)) _ _ hok' ?_ ?_ hNs (fun p hp => Heap.lt_size (N p hp).1) hLs hIC (by rw [hsz]; exact Nat.lt_succ_self _)
  · exact ⟨F.ns.at' fun o e => Heap.get?_push_of_some _ (up' _ _ (up₃ _ _ hLP e)), fun b o e => Heap.get?_push_of_some _ (up' _ _ (base₃ b o e)), F.above⟩
  · intro p hp
    rcases List.mem_cons.mp hp with rfl | hp
    · exact ⟨Heap.get?_push_size _ rfl, Nat.ne_of_gt (Nat.lt_trans hLs (Nat.lt_trans hIC (by rw [hsz]; exact Nat.lt_succ_self _))), none₀ _ (Nat.le_of_lt (Nat.lt_trans hIC (by rw [hsz]; exact Nat.lt_succ_self _)))⟩
    rcases List.mem_cons.mp hp with rfl | hp
    · exact ⟨Heap.get?_push_of_some _ hoC, Nat.ne_of_gt (Nat.lt_trans hLs hIC), none₀ _ (Nat.le_of_lt hIC)⟩
    rcases List.mem_cons.mp hp with rfl | hp
    · exact ⟨Heap.get?_push_of_some _ (up' _ _ hI₃), Nat.ne_of_gt hLs, none₀ _ (Nat.le_refl _)⟩
    rcases List.mem_cons.mp hp with rfl | hp
    · exact ⟨Heap.get?_push_of_some _ (up' _ _ hop'), hP.2⟩
    · have z := N p (.tail _ hp)
      exact ⟨Heap.get?_push_of_some _ (up' _ _ (up₃ _ _ (hPn p hp) z.1)), z.2⟩
theorem passing_all (n : Nat) : passing (fun _ => true) n 0 = List.range n := by simp [passing]

theorem joinMake {env : Env} {elt iter : Expr} {x : Str} {px : Pos} {scope : Scope} {cl : List (Str × Addr)} {pos : Pos} {Q : Value → Shared → Prop} {I C a l : Addr} {oC : Obj} {mC : Str → Option Value} {g nn : Nat} {nm qn code : Value} {items : Array Value} {sep : Str} {t : Tok}
    (F : Fr h₀ L s.heap m) (N : News h₀ L s.heap ((a, genO g nm qn) :: (C, oC) :: (I, iterO l) :: news)) (T : Top p₀ lo₀ mean mg mb h₀) (G : AllBare s.gens) (hoC : LCg.NsObj oC mC) (hl : (l, W.listOf items nn) ∈ news)
    (hlt : ∀ p ∈ news, p.1 < I) (hLI : @LT.lt Nat _ L I) (hIC : @LT.lt Nat _ I C) (hCa : @LT.lt Nat _ C a)
    (hgs : s.gens[g]? = some (.fresh (.compStart (.GeneratorExp elt [⟨.Name x px, iter, [], 0⟩] scope pos) 0 (.ref I) .none (genEnv scope cl C code builtinsNs env))))
    (hh : A.handled = none) (hco : scope.isCoroutine = false) (hx : scope.names.lookup x = some .local) (hkind : scope.kind = .function) (hroom : A.in4.depth < recursionLimit) (tx : Nat → Str)
    (helt : ∀ (A' : Around) E' i v (s₂ : Shared) m₂, A'.handled = none → A'.depth ≤ A.in4.depth + 1 → A'.units ≤ A.in4.units + 4 → items[i]? = some v → Fr h₀ C s₂.heap m₂ → News h₀ C s₂.heap news → m₂ x = some v →
      wpAny (model prog w) A' (eval elt (genEnv scope cl C code builtinsNs env)) (fun y s₃ => (∃ u, y = .str (tx i) u) ∧ Keeps s₂ s₃) E' s₂)
    (hok : JoinOk sep ((List.range items.size).map tx) = true) (hsz : items.size ≤ sizeLine)
    (h : ∀ s' t', Fr h₀ L s'.heap m → News h₀ L s'.heap news → AllBare s'.gens → s'.os = s.os → Q (.str (Txt.join sep ((List.range items.size).map tx)) t') s') :
    wpAny (model prog w) A (call (.builtin "str.join") [.str sep t, .ref a]) Q E s := by
  have za := N (a, genO g nm qn) (.head _)
  have zC := N (C, oC) (.tail _ (.head _))
  have zI := N (I, iterO l) (.tail _ (.tail _ (.head _)))
  have zN : News h₀ L s.heap news := fun p hp => N p (.tail _ (.tail _ (.tail _ hp)))
  have hls : s.heap.IsList l items := News.isList zN hl
  have hlI : l < I := hlt _ hl
  have hclt : cStatics < h₀.objs.size := let ⟨_, hn, _⟩ := T.nolimit; hn.lt
  have h0L : h₀.objs.size ≤ L := F.above
  have ltb : ∀ b ∈ I :: (news.map (·.1) ++ List.range h₀.objs.size), b ≤ I := by
    intro b hb
    rcases List.mem_cons.mp hb with rfl | hb
    · exact Nat.le_refl _
    rcases List.mem_append.mp hb with hb | hb
    · obtain ⟨p, hp, rfl⟩ := List.mem_map.mp hb
      exact Nat.le_of_lt (hlt p hp)
    · exact Nat.le_of_lt (Nat.lt_of_lt_of_le (List.mem_range.mp hb) (Nat.le_trans h0L (Nat.le_of_lt hLI)))
  have hCf : C ∉ I :: (news.map (·.1) ++ List.range h₀.objs.size) := fun hm => Nat.lt_irrefl _ (Nat.lt_of_lt_of_le hIC (ltb _ hm))
  have haf : a ∉ I :: (news.map (·.1) ++ List.range h₀.objs.size) := fun hm => Nat.lt_irrefl _ (Nat.lt_of_lt_of_le (Nat.lt_trans hIC hCa) (ltb _ hm))
  have hcI : cStatics ≠ I := Nat.ne_of_lt (Nat.lt_of_lt_of_le hclt (Nat.le_trans h0L (Nat.le_of_lt hLI)))
  have hcC : cStatics ≠ C := Nat.ne_of_lt (Nat.lt_trans (Nat.lt_of_lt_of_le hclt (Nat.le_trans h0L (Nat.le_of_lt hLI))) hIC)
  have hcf : cStatics ∈ I :: (news.map (·.1) ++ List.range h₀.objs.size) := List.mem_cons_of_mem _ (List.mem_append.mpr (.inr (List.mem_range.mpr hclt)))
  have hlf : l ∈ I :: (news.map (·.1) ++ List.range h₀.objs.size) := List.mem_cons_of_mem _ (List.mem_append.mpr (.inl (List.mem_map.mpr ⟨_, hl, rfl⟩)))
  have W : WalksS prog w A.in4 a (a :: C :: I :: (news.map (·.1) ++ List.range h₀.objs.size)) [C, I] (GenOnlyQ g) (passing (fun _ => true) items.size 0).length (fun j y => ∃ i, (passing (fun _ => true) items.size 0)[j]? = some i ∧ ∃ u, y = .str (tx i) u)
      (GenAt prog w A.in4 a g C (I :: (news.map (·.1) ++ List.range h₀.objs.size)) [I] (fun _ => true) items.size (fun i y => ∃ u, y = .str (tx i) u)) :=
    WalksS.genexpQ (A := A.in4) hh a g C _ [I] _ _ _ (Nat.ne_of_gt hCa) haf (fun b hb => by rw [List.mem_singleton.mp hb]; exact .head _) hroom hcf hcC (fun hm => hcI (List.mem_singleton.mp hm))
  have X : Gen prog w A (I - 1) a items.size (fun j y => ∃ u, y = .str (tx j) u) s := by
    rw [show (passing (fun _ => true) items.size 0).length = items.size by rw [passing_all, List.length_range]] at W
    have W' : WalksS prog w A.in4 a (a :: C :: I :: (news.map (·.1) ++ List.range h₀.objs.size)) [C, I] (GenOnlyQ g) items.size (fun j y => ∃ u, y = .str (tx j) u)
        (GenAt prog w A.in4 a g C (I :: (news.map (·.1) ++ List.range h₀.objs.size)) [I] (fun _ => true) items.size (fun i y => ∃ u, y = .str (tx i) u)) := by
      refine ⟨W.sub, W.grefl, W.gtrans, W.frame, fun i s Q E hi st hQ => W.item i s Q E hi st fun v s' hv st' hm => hQ v s' ?_ st' hm, W.done, W.self⟩
      obtain ⟨j, hj, hu⟩ := hv
      rw [passing_all] at hj
      rw [List.getElem?_range hi] at hj
      cases hj
      exact hu
    refine ⟨_, _, _, _, W', ?_, fun i s' st => st.1.typeIs, .head _, ?_, ?_⟩
    · refine GenAt.freshD (A := A.in4) (cenv := genEnv scope cl C code builtinsNs env) (m := mC) (P := fun i v => items[i]? = some v) (St₀ := fun i h => h.IsListIter I l i ∧ h.IsList l items) hh (fun A' hA => (Walks.list hA I l (Nat.ne_of_lt hlI) items).mono_fp ?_) (fun _ => true) (fun i y => ∃ u, y = .str (tx i) u) hx (by simp [genEnv, hkind]) hco hCf ?_ ⟨_, nm, qn, za.1, rfl, rfl, rfl⟩ hgs ⟨⟨_, zI.1, rfl, rfl⟩, hls⟩ (hoC.ns zC.1) (T.nolimit.keeps F.keep)
      · intro b hb
        rcases List.mem_cons.mp hb with rfl | hb
        · exact .head _
        · rw [List.mem_singleton.mp hb]; exact hlf
      · have key : ∀ (s₂ : Shared) m₂, s₂.heap.Ns C m₂ → (∀ b ∈ I :: (news.map (·.1) ++ List.range h₀.objs.size), b ∉ [I] → ∀ o, s.heap.get? b = some o → s₂.heap.get? b = some o) → Fr h₀ C s₂.heap m₂ ∧ News h₀ C s₂.heap news := by
          intro s₂ m₂ hn hk
          refine ⟨⟨hn, fun b o e => hk b (List.mem_cons_of_mem _ (List.mem_append.mpr (.inr (List.mem_range.mpr (Heap.lt_size e))))) (fun hm => ?_) o (F.keep b o e), Nat.le_trans h0L (Nat.le_of_lt (Nat.lt_trans hLI hIC))⟩, fun p hp => ⟨hk p.1 (List.mem_cons_of_mem _ (List.mem_append.mpr (.inl (List.mem_map_of_mem hp)))) (fun hm => ?_) p.2 (zN p hp).1, Nat.ne_of_lt (Nat.lt_trans (hlt p hp) hIC), (zN p hp).2.2⟩⟩
          · rw [List.mem_singleton.mp hm, zI.2.2] at e; cases e
          · exact Nat.lt_irrefl _ ((List.mem_singleton.mp hm) ▸ hlt p hp)
        refine ⟨fun A' E' i v s₂ m₂ hA hD hU hP hn hm hk => ?_, fun A' E' i v s₂ m₂ hA hD hU hP hp hn hm hk => ?_⟩
        · exact wpAny_pure ⟨rfl, s₂.heap, s₂.toks, rfl, fun _ _ e => e⟩
        · exact helt A' E' i v s₂ m₂ hA hD hU hP (key s₂ m₂ hn hk).1 (key s₂ m₂ hn hk).2 hm
    · intro b hb
      rcases List.mem_cons.mp hb with rfl | hb
      · exact Heap.lt_size za.1
      rcases List.mem_cons.mp hb with rfl | hb
      · exact Heap.lt_size zC.1
      · exact Nat.lt_of_le_of_lt (ltb _ hb) (Heap.lt_size zI.1)
    · intro b hb
      rcases List.mem_cons.mp hb with rfl | hb
      · exact Nat.lt_of_le_of_lt (Nat.sub_le _ _) hIC
      · rw [List.mem_singleton.mp hb]
        exact Nat.sub_lt (Nat.lt_of_le_of_lt (Nat.zero_le _) hLI) Nat.zero_lt_one
  refine join_rowsK F G X (Nat.le_sub_one_of_lt hLI) tx (fun j v hv => hv) hok (fun s' t' F' G' ho hk => h s' t' F' (fun p hp => ⟨hk _ _ (Nat.le_sub_one_of_lt (hlt p hp)) (zN p hp).1, (zN p hp).2⟩) G' ho) hsz
end
end
section
open PySem PySem.W PyProof.Rows PySem.Spec PySem.Calls
section
variable {M : Model} {A : Around} {E : Value → Shared → Prop} {s : Shared} {h₀ : Heap} {L C : Addr} {m mg mb : Str → Option Value} {K : Frag} {p₀ : Program} {lo₀ : List Str} {mean : ExcName → Option Value} {scope : Scope} {cl : List (Str × Addr)} {code : Value} {env : Env} {x : Str} {pos : Pos} {v : Value} {Q : Value → Shared → Prop}
theorem gen_local (F : Fr h₀ C s.heap m) (hv : m x = some v) (h : Q v s)
    (hk : (genEnv scope cl C code builtinsNs env).scope.kind = .function := by rfl) (hl : (genEnv scope cl C code builtinsNs env).kindOf x = some .local := by rfl) (hd : (x == ("__debug__" : Str)) = false := by decide) :
    wpAny M A (eval (.Name x pos) (genEnv scope cl C code builtinsNs env)) Q E s := wpAny_Name (wpAny_loadName_local hk hl F.ns hv h) hd
theorem gen_built (F : Fr h₀ C s.heap m) (X : K.In h₀) (T : Top p₀ lo₀ mean mg mb h₀) (e : nsIn K mainGlobals x = some none) (hv : bootBuiltins x = some v) (hn : x ≠ "__name__") (h : Q v s) (hg : env.globals = mainGlobals := by rfl)
    (hk : (genEnv scope cl C code builtinsNs env).scope.kind = .function := by rfl) (hx : (genEnv scope cl C code builtinsNs env).kindOf x = some .globalImplicit := by rfl) (hd : (x == ("__debug__" : Str)) = false := by decide) :
    wpAny M A (eval (.Name x pos) (genEnv scope cl C code builtinsNs env)) Q E s :=
  Name_function_global hk hx (loadGlobal_builtin (env := genEnv scope cl C code builtinsNs env) (show s.heap.Ns env.globals mg from hg ▸ (T.keeps F.keep).g) (mg_none_of X T.g e) (show s.heap.Ns builtinsNs mb from (T.keeps F.keep).b) ((T.builtins x hn).trans hv) h) hd
end
abbrev genScope : Scope := { kind := .function, names := [(Str.ofString ".0", .local), (Str.ofString "tup", .local), (Str.ofString "str", .globalImplicit)], isGenerator := true, isCoroutine := false }
set_option maxRecDepth 100000 in
set_option maxHeartbeats 8000000 in
theorem elt_c {w : World} {A : Around} {E : Value → Shared → Prop} {s : Shared} {h₀ : Heap} {C : Addr} {m mg mb : Str → Option Value} {p₀ : Program} {lo₀ : List Str} {mean : ExcName → Option Value} {news : List (Addr × Obj)} {cl : List (Str × Addr)} {code : Value} {qual : Str} {sc : Scope} {L' fa : Addr} {ccd : Value} {p1 p2 p3 p4 p5 : Pos} {r : Addr} {k : Int} {t1 : Tok} {v2 v3 : Value}
    (F : Fr h₀ C s.heap m) (X : (hd.heap_39 w.params).In h₀) (N : News h₀ C s.heap news) (T : Top p₀ lo₀ mean mg mb h₀) (hx : m (Str.ofString "tup") = some (.ref r)) (hm : (r, tupO #[.int k t1, v2, v3]) ∈ news) (hk0 : 0 ≤ k) (hk9 : k ≤ 9) :
    wpAny (model PySem.Challenge.rw_mg0085_01.row.prog w) A (eval (.Call (.Name (Str.ofString "str") p1) [.Subscript (.Name (Str.ofString "tup") p2) (.Constant (.int 0) 0 p3) p4] [] p5) (genEnv genScope cl C code builtinsNs (envOf qual sc L' fa ccd)))
      (fun y s₃ => (∃ u, y = .str (Str.ofString (toString k)) u) ∧ Keeps s s₃) E s := by
  w_on
  revert X
  k_fill
  intro X
  repeat' (first | (k_unfold; (try dsimp only)) | (k_here; (with_reducible show wpAny _ _ (eval (Expr.Name _ _) (genEnv _ _ _ _ _ _)) _ _ _); k_dflt (first   | refine gen_local (by k_asm) (by assumption) ?_   | refine gen_built (by k_asm) (by k_asm) (by k_asm) (by k_is) (by boot_by_name) (by decide) ?_)) | (k_end; wrow_close) | walk1 | (dsimp only; first | (k_here; (with_reducible show wpAny _ _ (eval (Expr.Name _ _) (genEnv _ _ _ _ _ _)) _ _ _); k_dflt (first   | refine gen_local (by k_asm) (by assumption) ?_   | refine gen_built (by k_asm) (by k_asm) (by k_asm) (by k_is) (by boot_by_name) (by decide) ?_)) | walk1) | (leave1; try dsimp only))
  exact ⟨_, _, rfl, fun _ _ e => e⟩
/-- a contract in whose call the table of inner codes grows -/
def CtP (k : Nat) (w : World) (f : Addr) (news : List (Addr × Obj)) (vs : List Value) (Post : Value → List (Addr × Obj) → Prop) : Prop :=
  ∀ (p₀ : Program) (lo₀ : List Str) (mean : ExcName → Option Value) (mg mb : Str → Option Value) (dp un : Nat) (gd : Option (List Code)) (cn : Str) (cs : Scope) (a : Addr) (ccd : Value) (cl : List (Str × Addr)) (outer : List Env) (A₀ : Around) (base h₀ : Heap) (L : Addr) (m : Str → Option Value) (s : Shared) (op : Obj) (Q E : Value → Shared → Prop),
    Below A₀ base outer h₀ → Fr h₀ L s.heap m → (hd.heap_39 w.params).In h₀ → News h₀ L s.heap ((82, op) :: news) → TabOk op → (∀ p ∈ news, @Ne Nat p.1 82) → Top p₀ lo₀ mean mg mb h₀ → AllBare s.gens → cs.kind = .function →
    dp + 4 * k < recursionLimit → un + 96 * k < cLine →
    (∀ r tl s' op', TabOk op' → Fr h₀ L s'.heap m → News h₀ L s'.heap (tl ++ (82, op') :: news) → AllBare s'.gens → s'.os = s.os → (∀ q ∈ news, ∀ p ∈ tl, q.1 < p.1) → (∀ p ∈ tl, @Ne Nat p.1 82) → Post r tl → Q r s') →
    wpAny (model PySem.Challenge.rw_mg0085_01.row.prog w) (ktrTop dp un gd cn cs L a ccd cl outer) (call (.ref f) vs) Q E s
end
section
open PySem PySem.W PyProof.Rows PySem.Spec PySem.Calls
def digitT (k : Int) : Str := Str.ofString (toString k)
theorem digit_item {k : Int} (h0 : 0 ≤ k) (h9 : k ≤ 9) : Txt.item (Str.ofString "0123456789") k = digitT k := by
  have h : ∀ n : Nat, n < 10 → Txt.item (Str.ofString "0123456789") (n : Int) = digitT (n : Int) := by decide +kernel
  obtain ⟨n, rfl⟩ := Int.eq_ofNat_of_zero_le h0
  exact h n (by omega)
theorem digit_len {k : Int} (h0 : 0 ≤ k) (h9 : k ≤ 9) : (digitT k).length = 1 := by rw [← digit_item h0 h9]; rfl
theorem digits_sum : ∀ {ks : List Int}, (∀ k ∈ ks, 0 ≤ k ∧ k ≤ 9) → ((ks.map digitT).map (·.length)).sum = ks.length
  | [], _ => rfl
  | k :: l, h => by
    have h1 := h k (.head _)
    rw [List.map_cons, List.map_cons, List.sum_cons, digits_sum fun q hq => h q (.tail _ hq), digit_len h1.1 h1.2, List.length_cons]
    omega
theorem comma_len : Str.length (Str.ofString ", ") = 2 := by decide +kernel
theorem digits_ok {ks : List Int} (h : ∀ k ∈ ks, 0 ≤ k ∧ k ≤ 9) (hl : ks.length ≤ 10) : JoinOk (Str.ofString ", ") (ks.map digitT) = true :=
  joinOk_of (by rw [digits_sum h, comma_len, List.length_map]; omega)
theorem digits_join_len {ks : List Int} (h : ∀ k ∈ ks, 0 ≤ k ∧ k ≤ 9) (hl : ks.length ≤ 10) : (Txt.join (Str.ofString ", ") (ks.map digitT)).length ≤ 100 := by
  show (Builtin.Str.glued (Str.ofString ", ") (ks.map digitT)).length ≤ 100
  rw [size_glued, digits_sum h, comma_len, List.length_map]
  omega
theorem range_digits (ks : List Int) : (List.range ks.length).map (fun j => digitT (ks.getD j 0)) = ks.map digitT := by
  apply List.ext_getElem?
  intro i
  by_cases hi : i < ks.length
  · simp [List.getElem?_eq_getElem, hi]
  · simp [hi]
def formOf (ks : List Int) : Str := (if 1 < ks.length then Str.ofString "at tab sizes" ++ Str.ofString " " else Str.ofString "at tab size" ++ Str.ofString " ") ++ Txt.join (Str.ofString ", ") (ks.map digitT)
set_option maxRecDepth 100000 in
set_option maxHeartbeats 8000000 in
theorem fmt_c (w : World) (news) (l : Addr) (rows : List (Int × Int × Int)) (hR : LstIn news l rows) (hlen : rows.length ≤ 10) (hb : ∀ r ∈ rows, 0 ≤ r.1 ∧ r.1 ≤ 9) : CtP 2 w 87 news [.ref l] (fun r tl => tl = [] ∧ ∃ t, r = .str (formOf (rows.map (·.1))) t) := by
  unfold CtP
  w_on
  k_fill
  intro p₀ lo₀ mean mg mb dp un gd cn cs a ccd cl outer A₀ base h₀ L m s op Q E B F X N hop h82 T hG hk hd' hu' hret
  obtain ⟨vs, n, hm, hR⟩ := hR
  have hvl := hR.length
  have hv10 : vs.length ≤ 10 := by omega
  have hks : ∃ ks, ks = rows.map (·.1) := ⟨_, rfl⟩
  obtain ⟨ks, hks⟩ := hks
  have hkl : ks.length = vs.length := by rw [hks, List.length_map, hvl]
  have hkb : ∀ k ∈ ks, 0 ≤ k ∧ k ≤ 9 := by
    intro k hk
    rw [hks] at hk
    obtain ⟨r, hr, rfl⟩ := List.mem_map.mp hk
    exact hb r hr
  have hjl := digits_join_len hkb (by omega)
  have hvs : vs.toArray.size = ks.length := by rw [List.size_toArray, hkl]
  rw [← hks] at hret
  refine wpAny_call ?_
  k_dflt cell_enter
  have kM : KstMark := kstMark
  repeat' (first | (k_unfold; (try dsimp only)) | (k_here; (with_reducible show wpAny _ _ (call (Value.builtin "len") [Value.ref _]) _ _ _); k_dflt (refine' lenL ?k1 ?k2 ?k3 ?_; (case k1 => k_asm); (case k2 => k_mem); (case k3 => omega); k_whole)) | (k_end; wrow_close) | walk1 | (dsimp only; first | (k_here; (with_reducible show wpAny _ _ (call (Value.builtin "len") [Value.ref _]) _ _ _); k_dflt (refine' lenL ?k1 ?k2 ?k3 ?_; (case k1 => k_asm); (case k2 => k_mem); (case k3 => omega); k_whole)) | walk1) | (leave1; try dsimp only))
  rename Fr _ _ _ _ => F9
  rename News _ _ _ _ => N9
  rename Top _ _ _ _ _ _ => T9
  rename Frag.In _ _ => X9
  have hca : CodeHd _ 86 82 := ⟨_, _, _, _, _, _, _, _, _, X9 _ _ (by k_is), rfl, rfl, rfl, rfl, rfl, rfl, rfl, rfl, by decide⟩
  with_unfolding_all
    refine' genMake (cl := []) F9 N9 T9 hop h82 hca ?g1 ?g2 hm ?g3 ?g4 ?g5 ?g6 ?g7 ?g8 ?g9 ?g10 ?_
  case g1 => rfl
  case g2 => rfl
  case g3 =>
    intro Q' hq
    k_dflt (refine ld F9 (by rfl) ?_)
    exact hq
  case g4 => rfl
  case g5 => with_unfolding_all rfl
  case g6 => decide
  case g7 => rfl
  case g8 => rfl
  case g9 => ktr_room
  case g10 => intro _; with_unfolding_all rfl
  intro I C a5 oC op' code nm qn h5 tk5 hop' F5 N5 hNs hlt5 hLI hIC hCa
  dsimp only
  have hm4 : (l, W.listOf vs.toArray n) ∈ (82, op') :: news := .tail _ hm
  repeat' (first | (k_unfold; (try dsimp only)) | (k_here; (with_reducible show wpAny _ _ (call (Value.builtin "len") [Value.ref _]) _ _ _); k_dflt (refine' lenL ?k1 ?k2 ?k3 ?_; (case k1 => k_asm); (case k2 => k_mem); (case k3 => omega); k_whole)) | (k_end; wrow_close) | walk1 | (dsimp only; first | (k_here; (with_reducible show wpAny _ _ (call (Value.builtin "len") [Value.ref _]) _ _ _); k_dflt (refine' lenL ?k1 ?k2 ?k3 ?_; (case k1 => k_asm); (case k2 => k_mem); (case k3 => omega); k_whole)) | walk1) | (leave1; try dsimp only))
  · rename Fr _ _ _ _ => F6
    rename News _ _ _ _ => N6
    rename Frag.In _ _ => X6
    rename Top _ _ _ _ _ _ => T6
    with_unfolding_all
      refine' joinMake (tx := fun j => digitT (ks.getD j 0)) F6 N6 T6 ?j1 hNs hm4 ?j2 hLI hIC hCa ?j3 ?j4 ?j5 ?j6 ?j7 ?j8 ?j9 ?j10 ?j11 ?_
    case j1 => exact AllBare.push hG rfl
    case j2 =>
      intro p hp
      rcases List.mem_cons.mp hp with rfl | hp
      · exact hlt5 (82, op) (.head _)
      · exact hlt5 _ (.tail _ hp)
    case j3 => exact Array.getElem?_push_size ..
    case j4 => rfl
    case j5 => rfl
    case j6 => rfl
    case j7 => rfl
    case j8 => (show dp + _ < _); ktr_room
    case j9 =>
      intro A' E' i v s₂ m₂ hA hD hU hv F7 N7 hx7
      rw [List.getElem?_toArray] at hv
      obtain ⟨r, hr, a7, t7, t8, t9, rfl, hm7⟩ := hR.at i v hv
      have hb7 := hb r (List.mem_of_getElem? hr)
      have e7 : ks.getD i 0 = r.1 := by rw [hks, List.getD_eq_getElem?_getD, List.getElem?_map, hr]; rfl
      rw [e7]
      exact elt_c F7 X6 N7 T6 hx7 (.tail _ hm7) hb7.1 hb7.2
    case j10 =>
      rw [hvs, range_digits]
      exact digits_ok hkb (by omega)
    case j11 => rw [hvs, sizeLine_eq]; omega
    intro s8 t8 F8 N8 G8 ho8
    rw [hvs, range_digits]
    dsimp only
    repeat' (first | (k_unfold; (try dsimp only)) | (k_here; (with_reducible show wpAny _ _ (call (Value.builtin "len") [Value.ref _]) _ _ _); k_dflt (refine' lenL ?k1 ?k2 ?k3 ?_; (case k1 => k_asm); (case k2 => k_mem); (case k3 => omega); k_whole)) | (k_end; wrow_close) | walk1 | (dsimp only; first | (k_here; (with_reducible show wpAny _ _ (call (Value.builtin "len") [Value.ref _]) _ _ _); k_dflt (refine' lenL ?k1 ?k2 ?k3 ?_; (case k1 => k_asm); (case k2 => k_mem); (case k3 => omega); k_whole)) | walk1) | (leave1; try dsimp only))
    rename_i kF kN Tc kX
    have hfin : Str.ofString "at tab sizes" ++ Str.ofString " " ++ Txt.join (Str.ofString ", ") (ks.map digitT) = formOf ks := by rw [formOf, if_pos (by omega)]
    exact hret _ [] _ op' hop' kF kN G8 ho8 (fun _ _ _ h => nomatch h) (fun _ h => nomatch h) ⟨rfl, _, congrArg (Value.str · _) hfin⟩
  · rename Fr _ _ _ _ => F6
    rename News _ _ _ _ => N6
    rename Frag.In _ _ => X6
    rename Top _ _ _ _ _ _ => T6
    with_unfolding_all
      refine' joinMake (tx := fun j => digitT (ks.getD j 0)) F6 N6 T6 ?j1 hNs hm4 ?j2 hLI hIC hCa ?j3 ?j4 ?j5 ?j6 ?j7 ?j8 ?j9 ?j10 ?j11 ?_
    case j1 => exact AllBare.push hG rfl
    case j2 =>
      intro p hp
      rcases List.mem_cons.mp hp with rfl | hp
      · exact hlt5 (82, op) (.head _)
      · exact hlt5 _ (.tail _ hp)
    case j3 => exact Array.getElem?_push_size ..
    case j4 => rfl
    case j5 => rfl
    case j6 => rfl
    case j7 => rfl
    case j8 => (show dp + _ < _); ktr_room
    case j9 =>
      intro A' E' i v s₂ m₂ hA hD hU hv F7 N7 hx7
      rw [List.getElem?_toArray] at hv
      obtain ⟨r, hr, a7, t7, t8, t9, rfl, hm7⟩ := hR.at i v hv
      have hb7 := hb r (List.mem_of_getElem? hr)
      have e7 : ks.getD i 0 = r.1 := by rw [hks, List.getD_eq_getElem?_getD, List.getElem?_map, hr]; rfl
      rw [e7]
      exact elt_c F7 X6 N7 T6 hx7 (.tail _ hm7) hb7.1 hb7.2
    case j10 =>
      rw [hvs, range_digits]
      exact digits_ok hkb (by omega)
    case j11 => rw [hvs, sizeLine_eq]; omega
    intro s8 t8 F8 N8 G8 ho8
    rw [hvs, range_digits]
    dsimp only
    repeat' (first | (k_unfold; (try dsimp only)) | (k_here; (with_reducible show wpAny _ _ (call (Value.builtin "len") [Value.ref _]) _ _ _); k_dflt (refine' lenL ?k1 ?k2 ?k3 ?_; (case k1 => k_asm); (case k2 => k_mem); (case k3 => omega); k_whole)) | (k_end; wrow_close) | walk1 | (dsimp only; first | (k_here; (with_reducible show wpAny _ _ (call (Value.builtin "len") [Value.ref _]) _ _ _); k_dflt (refine' lenL ?k1 ?k2 ?k3 ?_; (case k1 => k_asm); (case k2 => k_mem); (case k3 => omega); k_whole)) | walk1) | (leave1; try dsimp only))
    rename_i kF kN Tc kX
    have hfin : Str.ofString "at tab size" ++ Str.ofString " " ++ Txt.join (Str.ofString ", ") (ks.map digitT) = formOf ks := by rw [formOf, if_neg (by omega)]
    exact hret _ [] _ op' hop' kF kN G8 ho8 (fun _ _ _ h => nomatch h) (fun _ h => nomatch h) ⟨rfl, _, congrArg (Value.str · _) hfin⟩
end
section
open PySem PySem.W PyProof.Rows PySem.Spec PySem.Calls
def rowD (r : Int × Int × Int) : PyData := .tuple [.int r.1, .int r.2.1, .int r.2.2]
theorem rows_reads {h₀ h : Heap} {L : Addr} {news : List (Addr × Obj)} (N : News h₀ L h news) {vs rows} (hr : RowsIn news vs rows) : ∃ as, ReadsAll h vs (rows.map rowD) as := by
  induction hr with
  | nil => exact ⟨_, .nil⟩
  | cons h1 _ ih =>
    obtain ⟨a, t1, t2, t3, rfl, hm⟩ := h1
    obtain ⟨as, ih⟩ := ih
    exact ⟨_, .cons (reads_tuple_at (N.get hm) rfl rfl (.cons (.int _ _) (.cons (.int _ _) (.cons (.int _ _) .nil)))) ih⟩
theorem rows_canLay (rows : List (Int × Int × Int)) : PyData.canLayAll0 (rows.map rowD) = true := by
  induction rows with
  | nil => simp [PyData.canLayAll0]
  | cons r l ih => simp [PyData.canLayAll0, PyData.canLay0, rowD, ih]
theorem rows_depth (rows : List (Int × Int × Int)) : PyData.depthAll (rows.map rowD) ≤ 2 := by
  induction rows with
  | nil => simp [PyData.depthAll]
  | cons r l ih =>
    rw [List.map_cons, PyData.depthAll]
    have : PyData.depth (rowD r) ≤ 2 := by simp [rowD, PyData.depth, PyData.depthAll]
    omega
theorem rows_shaped (rows : List (Int × Int × Int)) : SeqAt.shaped (.list (rows.map rowD)) = true := by
  have h := rows_depth rows
  have h2 : PyData.depth (.list (rows.map rowD)) ≤ 64 := by
    rw [PyData.depth]
    omega
  rw [SeqAt.shaped, decide_eq_true h2, PyData.canLay0, rows_canLay]
  rfl
theorem rows_eqv (rows : List (Int × Int × Int)) : PyData.eqvAll (rows.map rowD) (rows.map rowD) = true := by
  induction rows with
  | nil => simp [PyData.eqvAll]
  | cons r l ih => simp [PyData.eqvAll, PyData.eqv, rowD, ih]
section
variable {prog : Program} {w : World} {A : Around} {E : Value → Shared → Prop} {s : Shared} {h₀ : Heap} {L : Addr} {news : List (Addr × Obj)}
theorem rowsNo {l l2 : Addr} {rows : List (Int × Int × Int)} {Q : Value → Shared → Prop} (N : News h₀ L s.heap news) (h1 : LstIn news l rows) (h2 : LstIn news l2 rows) (hu : A.units + 64 < cLine)
    (h : Q (.bool false) s) : wpAny (model prog w) A (compareOp .NotEq (.ref l) (.ref l2)) Q E s := by
  obtain ⟨vs, n, hm, hr⟩ := h1
  obtain ⟨vs2, n2, hm2, hr2⟩ := h2
  obtain ⟨as, ra⟩ := rows_reads N hr
  obtain ⟨bs, rb⟩ := rows_reads N hr2
  refine ne_dataH (reads_list_at (N.get hm) rfl rfl (by simpa using ra)) (reads_list_at (N.get hm2) rfl rfl (by simpa using rb)) (rows_shaped rows) (rows_shaped rows) hu ?_
  rw [show PyData.eqv (.list (rows.map rowD)) (.list (rows.map rowD)) = true by rw [PyData.eqv]; exact rows_eqv rows]
  exact h
end
theorem CtP.use {k : Nat} {w : World} {f : Addr} {news : List (Addr × Obj)} {vs : List Value} {Post : Value → List (Addr × Obj) → Prop} (C : CtP k w f news vs Post)
  {p₀ : Program} {lo₀ : List Str} {mean : ExcName → Option Value} {mg mb : Str → Option Value} {dp un : Nat} {gd : Option (List Code)} {cn : Str} {cs : Scope} {a : Addr} {ccd : Value} {cl : List (Str × Addr)} {outer : List Env} {A₀ : Around} {base h₀ : Heap} {L : Addr} {m : Str → Option Value} {s : Shared} {op : Obj} {Q E : Value → Shared → Prop}
  (B : Below A₀ base outer h₀) (F : Fr h₀ L s.heap m) (X : (hd.heap_39 w.params).In h₀) (N : News h₀ L s.heap ((82, op) :: news)) (hop : TabOk op) (h82 : ∀ p ∈ news, @Ne Nat p.1 82) (T : Top p₀ lo₀ mean mg mb h₀) (hG : AllBare s.gens) (hk : cs.kind = .function)
  (hd : dp + 4 * k < recursionLimit) (hu : un + 96 * k < cLine)
  (ret : ∀ r tl s' op', TabOk op' → Fr h₀ L s'.heap m → News h₀ L s'.heap (tl ++ (82, op') :: news) → AllBare s'.gens → s'.os = s.os → (∀ q ∈ news, ∀ p ∈ tl, q.1 < p.1) → (∀ p ∈ tl, @Ne Nat p.1 82) → Post r tl → Q r s') :
  wpAny (model PySem.Challenge.rw_mg0085_01.row.prog w) (ktrTop dp un gd cn cs L a ccd cl outer) (call (.ref f) vs) Q E s :=
  C _ _ _ _ _ _ _ _ _ _ _ _ _ _ _ _ _ _ _ _ _ _ _ B F X N hop h82 T hG hk hd hu ret
theorem CtP.useV {k : Nat} {w : World} {f : Addr} {news : List (Addr × Obj)} {vs : List Value} {φ : Tok → Value} (C : CtP k w f news vs (fun r tl => tl = [] ∧ ∃ t, r = φ t))
  {p₀ : Program} {lo₀ : List Str} {mean : ExcName → Option Value} {mg mb : Str → Option Value} {dp un : Nat} {gd : Option (List Code)} {cn : Str} {cs : Scope} {a : Addr} {ccd : Value} {cl : List (Str × Addr)} {outer : List Env} {A₀ : Around} {base h₀ : Heap} {L : Addr} {m : Str → Option Value} {s : Shared} {op : Obj} {Q E : Value → Shared → Prop}
  (B : Below A₀ base outer h₀) (F : Fr h₀ L s.heap m) (X : (hd.heap_39 w.params).In h₀) (N : News h₀ L s.heap ((82, op) :: news)) (hop : TabOk op) (h82 : ∀ p ∈ news, @Ne Nat p.1 82) (T : Top p₀ lo₀ mean mg mb h₀) (hG : AllBare s.gens) (hk : cs.kind = .function)
  (hd : dp + 4 * k < recursionLimit) (hu : un + 96 * k < cLine)
  (ret : ∀ t s' op', TabOk op' → Fr h₀ L s'.heap m → News h₀ L s'.heap ((82, op') :: news) → AllBare s'.gens → s'.os = s.os → Q (φ t) s') :
  wpAny (model PySem.Challenge.rw_mg0085_01.row.prog w) (ktrTop dp un gd cn cs L a ccd cl outer) (call (.ref f) vs) Q E s :=
  C.use B F X N hop h82 T hG hk hd hu (by
    rintro r tl s' op' q1 q2 q3 q4 q5 _ _ ⟨rfl, t, rfl⟩
    exact ret t s' op' q1 q2 q3 q4 q5)
theorem CtP.useT {k : Nat} {w : World} {f : Addr} {news : List (Addr × Obj)} {vs : List Value} {v : Value} (C : CtP k w f news vs (fun r tl => tl = [] ∧ r = v))
  {p₀ : Program} {lo₀ : List Str} {mean : ExcName → Option Value} {mg mb : Str → Option Value} {dp un : Nat} {gd : Option (List Code)} {cn : Str} {cs : Scope} {a : Addr} {ccd : Value} {cl : List (Str × Addr)} {outer : List Env} {A₀ : Around} {base h₀ : Heap} {L : Addr} {m : Str → Option Value} {s : Shared} {op : Obj} {Q E : Value → Shared → Prop}
  (B : Below A₀ base outer h₀) (F : Fr h₀ L s.heap m) (X : (hd.heap_39 w.params).In h₀) (N : News h₀ L s.heap ((82, op) :: news)) (hop : TabOk op) (h82 : ∀ p ∈ news, @Ne Nat p.1 82) (T : Top p₀ lo₀ mean mg mb h₀) (hG : AllBare s.gens) (hk : cs.kind = .function)
  (hd : dp + 4 * k < recursionLimit) (hu : un + 96 * k < cLine)
  (ret : ∀ s' op', TabOk op' → Fr h₀ L s'.heap m → News h₀ L s'.heap ((82, op') :: news) → AllBare s'.gens → s'.os = s.os → Q v s') :
  wpAny (model PySem.Challenge.rw_mg0085_01.row.prog w) (ktrTop dp un gd cn cs L a ccd cl outer) (call (.ref f) vs) Q E s :=
  C.use B F X N hop h82 T hG hk hd hu (by
    rintro r tl s' op' q1 q2 q3 q4 q5 _ _ ⟨rfl, rfl⟩
    exact ret s' op' q1 q2 q3 q4 q5)
theorem glued_snoc (sep d : Str) {l : List Str} (hl : l ≠ []) : Txt.join sep (l ++ [d]) = Txt.join sep l ++ sep ++ d := by
  cases l with
  | nil => exact absurd rfl hl
  | cons a l =>
    show Builtin.Str.glued sep (a :: l ++ [d]) = Builtin.Str.glued sep (a :: l) ++ sep ++ d
    unfold Builtin.Str.glued
    simp only [List.cons_append, List.drop_succ_cons, List.drop_zero, List.headD_cons, List.foldl_append, List.foldl_cons, List.foldl_nil]
    rfl
theorem glued_one (sep d : Str) : Txt.join sep [d] = d := rfl
theorem compl_join (start : Str) {ks : List Int} (h : ∀ k ∈ ks, 0 ≤ k ∧ k ≤ 9) : ∀ i, i ≤ ks.length → complFrom start ks i = start ++ Txt.join (Str.ofString ", ") ((ks.take i).map digitT)
  | 0, _ => by
    show start = start ++ (⟨#[]⟩ : Str)
    cases start
    exact congrArg Str.mk (by simp)
  | i + 1, hi => by
    obtain ⟨k, hk⟩ : ∃ k, ks[i]? = some k := ⟨_, List.getElem?_eq_getElem (by omega)⟩
    have hb := h k (List.mem_of_getElem? hk)
    have hd : Txt.item (Str.ofString "0123456789") (ks.getD i 0) = digitT k := by
      rw [List.getD_eq_getElem?_getD, hk]
      exact digit_item hb.1 hb.2
    rw [complFrom, hd, compl_join start h i (by omega), List.take_add_one, hk, List.map_append]
    show _ = start ++ Txt.join (Str.ofString ", ") ((ks.take i).map digitT ++ [digitT k])
    by_cases h0 : 0 < i
    · rw [if_pos h0, glued_snoc _ _ (by
        intro e
        have := congrArg List.length e
        rw [List.length_map, List.length_take, List.length_nil] at this
        omega)]
      simp only [Str.append_assoc]
    · have e0 : i = 0 := by omega
      subst e0
      rw [if_neg (by omega), List.take_zero, List.map_nil, List.nil_append, glued_one]
      show start ++ (⟨#[]⟩ : Str) ++ digitT k = _
      rw [Str.append_assoc]
      congr 1
      exact Str.empty_append _
theorem form_compl {ks : List Int} (h : ∀ k ∈ ks, 0 ≤ k ∧ k ≤ 9) : formOf ks = complOf ks := by
  rw [formOf, complOf, compl_join _ h _ (Nat.le_refl _), List.take_length]
  by_cases hl : 1 < ks.length
  · rw [if_pos hl, if_pos hl, show Str.ofString "at tab sizes" ++ Str.ofString " " = Str.ofString "at tab sizes " by decide +kernel]
  · rw [if_neg hl, if_neg hl, show Str.ofString "at tab size" ++ Str.ofString " " = Str.ofString "at tab size " by decide +kernel]
end
section
open PySem PySem.W PyProof.Rows
def leadsN : Nat → List (List Nat)
  | 0 => [[]]
  | n + 1 => (leadsN n).flatMap fun l => [9 :: l, 32 :: l]
def allLeads : List (List Nat) := (List.range 7).flatMap leadsN
theorem mem_leadsN : ∀ {l : List Nat}, Sp l → l ∈ leadsN l.length
  | [], _ => .head _
  | c :: l, h => by
    have hl := mem_leadsN (l := l) fun q hq => h q (.tail _ hq)
    rw [List.length_cons, leadsN, List.mem_flatMap]
    refine ⟨l, hl, ?_⟩
    rcases h c (.head _) with rfl | rfl <;> simp
theorem mem_allLeads {l : List Nat} (h : Sp l) (hl : l.length ≤ 6) : l ∈ allLeads :=
  List.mem_flatMap.mpr ⟨l.length, List.mem_range.mpr (by omega), mem_leadsN h⟩
theorem lead_mem {x : Str} (h : Lead x) : x.cps.toList ∈ allLeads := mem_allLeads h.sp (by have := h.len; rw [Array.length_toList]; exact this)
theorem str_eta (x : Str) : (⟨x.cps.toList.toArray⟩ : Str) = x := by cases x; simp
/-- a fact of all indents, by the list of them -/
theorem lead_all {p : List Nat → Bool} (hp : allLeads.all p = true) {x : Str} (h : Lead x) : p x.cps.toList = true := List.all_eq_true.mp hp _ (lead_mem h)
def partsOf (x : Str) : List Int := (Txt.split x (Str.ofString "\t")).map fun p => (p.length : Int)
def listMax : List Int → Int
  | [] => 0
  | a :: l => l.foldl (fun m v => if v > m then v else m) a
def countsOf (runs : List Int) : List Int := if runs = [] then [] else (List.range (listMax runs + 1).toNat).map fun (k : Nat) => ((runs.filter fun r => decide (r = (k : Int))).length : Int)
def chk1 (l : List Nat) : Bool :=
  let ps := partsOf ⟨l.toArray⟩
  ps.all (fun p => decide (0 ≤ p) && decide (p ≤ 6)) && decide (1 ≤ ps.length) && decide (ps.length ≤ 7) &&
  decide (((wst l).nt : Int) = (ps.dropLast.length : Int)) && decide ((wst l).cnt = countsOf ps.dropLast) && decide (((wst l).b : Int) = ps.getLastD 0) && decide (longOf l = listMax ps) &&
  (decide (((wst l).cnt.length : Int) ≤ 1) == !Txt.contains ⟨l.toArray⟩ (Str.ofString " \t"))
theorem chk1_all : allLeads.all chk1 = true := by decide +kernel
def chk2 (l : List Nat) : Bool := (List.range 8).all fun (k : Nat) => decide (levelOf l (1 + (k : Int)) = colOf l (1 + (k : Int)))
theorem chk2_all : allLeads.all chk2 = true := by decide +kernel
theorem foldMax_le : ∀ (l : List Int) (a : Int), a ≤ l.foldl (fun m v => if v > m then v else m) a ∧ (∀ v ∈ l, v ≤ l.foldl (fun m v => if v > m then v else m) a) ∧ (l.foldl (fun m v => if v > m then v else m) a = a ∨ l.foldl (fun m v => if v > m then v else m) a ∈ l)
  | [], a => ⟨Int.le_refl _, (fun _ h => nomatch h), .inl rfl⟩
  | b :: l, a => by
    obtain ⟨h1, h2, h3⟩ := foldMax_le l (if b > a then b else a)
    rw [List.foldl_cons]
    have hb : b ≤ (if b > a then b else a) := by split <;> omega
    have ha : a ≤ (if b > a then b else a) := by split <;> omega
    refine ⟨Int.le_trans ha h1, ?_, ?_⟩
    · intro v hv
      rcases List.mem_cons.mp hv with rfl | hv
      · exact Int.le_trans hb h1
      · exact h2 v hv
    · rcases h3 with h3 | h3
      · rw [h3]
        split
        · exact .inr (.head _)
        · exact .inl rfl
      · exact .inr (.tail _ h3)
theorem listMax_eq {l : List Int} {M : Int} (hm : M ∈ l) (hb : ∀ a ∈ l, a ≤ M) : listMax l = M := by
  cases l with
  | nil => cases hm
  | cons a l =>
    obtain ⟨h1, h2, h3⟩ := foldMax_le l a
    show l.foldl (fun m v => if v > m then v else m) a = M
    apply Int.le_antisymm
    · rcases h3 with h3 | h3
      · rw [h3]; exact hb a (.head _)
      · exact hb _ (.tail _ h3)
    · rcases List.mem_cons.mp hm with rfl | hm
      · exact h1
      · exact h2 M hm
structure LeadFacts (x : Str) : Prop where
  bnd : ∀ p ∈ partsOf x, 0 ≤ p ∧ p ≤ 6
  pos : 1 ≤ (partsOf x).length
  len : (partsOf x).length ≤ 7
  nt : ((wst x.cps.toList).nt : Int) = ((partsOf x).dropLast.length : Int)
  cnt : (wst x.cps.toList).cnt = countsOf (partsOf x).dropLast
  b : ((wst x.cps.toList).b : Int) = (partsOf x).getLastD 0
  long : longOf x.cps.toList = listMax (partsOf x)
  simple : decide (((wst x.cps.toList).cnt.length : Int) ≤ 1) = !Txt.contains x (Str.ofString " \t")
theorem lead_facts {x : Str} (h : Lead x) : LeadFacts x := by
  have q := lead_all chk1_all h
  simp only [chk1, str_eta, Bool.and_eq_true, List.all_eq_true, decide_eq_true_eq, beq_iff_eq] at q
  obtain ⟨⟨⟨⟨⟨⟨⟨q1, q2⟩, q3⟩, q4⟩, q5⟩, q6⟩, q7⟩, q8⟩ := q
  exact ⟨q1, q2, q3, q4, q5, q6, q7, q8⟩
end
section
open PySem PySem.W PyProof.Rows PySem.Spec PySem.Calls
abbrev cellN : Obj := { cls := .type "cell", data := .cell none }
section
variable {prog : Program} {w : World} {A : Around} {E : Value → Shared → Prop} {s : Shared} {h₀ : Heap} {L : Addr} {m : Str → Option Value} {env : Env}
theorem newEnv_cell {M : Model} {scope : Scope} {globals : Addr} {cl : List (Str × Addr)} {x qual : Str} {Q : Env → Shared → Prop}
    (hpc : ∀ h, pushCells h scope.names = h.push cellN) (hcf : ∀ c, cellsFrom c scope.names cl = (x, c) :: cl)
    (h : Q { scope, locals := s.heap.objs.size, globals, cells := (x, s.heap.objs.size + 1) :: cl, qual, func := none, code := env.code, frame := env.frame, builtins := env.builtins } { s with heap := (s.heap.push { cls := .type "dict", data := .dict #[] }).push cellN }) :
    wpAny M A (newFunctionEnv scope globals cl [] qual none .none (some env)) Q E s := by
  simp only [newFunctionEnv, Option.isSome_some, if_true]
  refine wpAny_bind (wpAny_alloc ?_)
  refine wpAny_bind (wpAny_layCells _ (fun name kind cells => by cases hkc : kind == NameKind.cell <;> simp) _ _ _ _ ?_)
  rw [show ({ s with heap := s.heap.push { cls := .type "dict", data := .dict #[] } } : Shared).heap.objs.size = s.heap.objs.size + 1 from Heap.size_push .., hcf]
  refine wpAny_bind (wpAny_pure (wpAny_pure ?_))
  rw [hpc]
  exact h
def Off4 (I C K D : Addr) (nw : List (Addr × Obj)) : Prop := ∀ p ∈ nw, @Ne Nat p.1 I ∧ @Ne Nat p.1 C ∧ @Ne Nat p.1 K ∧ @Ne Nat p.1 D
/-- an element's end, where the block's own name lies in a cell -/
def CellEnd (h₀ : Heap) (L : Addr) (m : Str → Option Value) (s₁ : Shared) (I : Addr) (oI : Obj) (C : Addr) (oC : Obj) (K : Addr) (oK : Obj) (D : Addr) (oD : Obj) (S : List (Addr × Obj) → Prop) (rest : Value → List (Addr × Obj) → Prop) (y : Value) (s₂ : Shared) : Prop :=
  ∃ h' tk nw', s₂ = { s₁ with heap := h', toks := tk } ∧ Fr h₀ L h' m ∧ News h₀ L h' ((I, oI) :: (C, oC) :: (K, oK) :: (D, oD) :: nw') ∧ Off4 I C K D nw' ∧ S nw' ∧ rest y nw'
/-- what is to be shown of the source and of the turns -/
def CellSrc (prog : Program) (w : World) (A : Around) (h₀ : Heap) (L : Addr) (m : Str → Option Value) (env : Env) (elt : Expr) (x : Str) (scope : Scope) (cl : List (Str × Addr)) (Fin : Shared → List Value → List (Addr × Obj) → Prop) (it : Value) (s₂ : Shared) : Prop :=
  ∃ (I : Addr) (fp : List Addr) (n : Nat) (P : Nat → Value → Prop) (St : Nat → Heap → Prop) (S : List (Addr × Obj) → Prop) (J : Nat → List Value → List (Addr × Obj) → Prop) (news : List (Addr × Obj)),
    it = .ref I ∧ Walks prog w A I fp [I] n P St ∧ n ≤ sizeLine ∧ (∀ i h, St i h → ∃ o, h.get? I = some o) ∧
    (∀ i h h' o nw, St i h → h.get? I = some o → h'.get? I = some o → (∀ b o, h₀.get? b = some o → h'.get? b = some o) → News h₀ L h' nw → S nw → St i h') ∧
    St 0 s₂.heap ∧ (∀ b ∈ fp, b < s₂.heap.objs.size) ∧ Fr h₀ L s₂.heap m ∧ News h₀ L s₂.heap news ∧ L ≠ I ∧ h₀.get? I = none ∧ (∀ p ∈ news, p.1 ≠ I) ∧ S news ∧ J 0 [] news ∧
    (∀ i v oI C oC mC K oK D ys nw h tk (E' : Value → Shared → Prop), i < n → P i v → J i ys nw → LCg.NsObj oC mC → oK.data = .cell (some v) → Fr h₀ L h m → News h₀ L h ((I, oI) :: (C, oC) :: (K, oK) :: (D, LCg.lst ys) :: nw) → Off4 I C K D nw →
      (@Ne Nat I C ∧ @Ne Nat I K ∧ @Ne Nat I D ∧ @Ne Nat C K ∧ @Ne Nat C D ∧ @Ne Nat K D) →
      wpAny (model prog w) A (eval elt (compEnvC scope ((x, K) :: cl) C env)) (CellEnd h₀ L m { s₂ with heap := h, toks := tk } I oI C oC K oK D (LCg.lst ys) S (fun y nw' => J (i + 1) (ys ++ [y]) nw')) E' { s₂ with heap := h, toks := tk }) ∧
    ∀ ys nw, J n ys nw → Fin s₂ ys nw
theorem CellSrc.elim {prog : Program} {w : World} {A : Around} {h₀ : Heap} {L : Addr} {m : Str → Option Value} {env : Env} {elt : Expr} {x : Str} {scope : Scope} {cl : List (Str × Addr)} {Fin : Shared → List Value → List (Addr × Obj) → Prop} {it : Value} {s₂ : Shared} {G : Prop} (X : CellSrc prog w A h₀ L m env elt x scope cl Fin it s₂)
    (k : ∀ (I : Addr) (fp : List Addr) (n : Nat) (P : Nat → Value → Prop) (St : Nat → Heap → Prop) (S : List (Addr × Obj) → Prop) (J : Nat → List Value → List (Addr × Obj) → Prop) (news : List (Addr × Obj)),
      (it = .ref I) →
      (Walks prog w A I fp [I] n P St) →
      (n ≤ sizeLine) →
      ((∀ i h, St i h → ∃ o, h.get? I = some o)) →
      ((∀ i h h' o nw, St i h → h.get? I = some o → h'.get? I = some o → (∀ b o, h₀.get? b = some o → h'.get? b = some o) → News h₀ L h' nw → S nw → St i h')) →
      (St 0 s₂.heap) →
      ((∀ b ∈ fp, b < s₂.heap.objs.size)) →
      (Fr h₀ L s₂.heap m) →
      (News h₀ L s₂.heap news) →
      (L ≠ I) →
      (h₀.get? I = none) →
      ((∀ p ∈ news, p.1 ≠ I)) →
      (S news) →
      (J 0 [] news) →
      ((∀ i v oI C oC mC K oK D ys nw h tk (E' : Value → Shared → Prop), i < n → P i v → J i ys nw → LCg.NsObj oC mC → oK.data = .cell (some v) → Fr h₀ L h m → News h₀ L h ((I, oI) :: (C, oC) :: (K, oK) :: (D, LCg.lst ys) :: nw) → Off4 I C K D nw →       (@Ne Nat I C ∧ @Ne Nat I K ∧ @Ne Nat I D ∧ @Ne Nat C K ∧ @Ne Nat C D ∧ @Ne Nat K D) →       wpAny (model prog w) A (eval elt (compEnvC scope ((x, K) :: cl) C env)) (CellEnd h₀ L m { s₂ with heap := h, toks := tk } I oI C oC K oK D (LCg.lst ys) S (fun y nw' => J (i + 1) (ys ++ [y]) nw')) E' { s₂ with heap := h, toks := tk })) →
      (∀ ys nw, J n ys nw → Fin s₂ ys nw) → G) : G := by
  obtain ⟨I, fp, n, P, St, S, J, news, h0, h1, h2, h3, h4, h5, h6, h7, h8, h9, h10, h11, h12, h13, h14, h15⟩ := X
  exact k I fp n P St S J news h0 h1 h2 h3 h4 h5 h6 h7 h8 h9 h10 h11 h12 h13 h14 h15


theorem cellBlock {elt iter : Expr} {x : Str} {px : Pos} {scope : Scope} {cl : List (Str × Addr)} {pos : Pos} {s₂ : Shared} {it : Value} {Fin : Shared → List Value → List (Addr × Obj) → Prop} {RR : Value → Addr → Result → Shared → Prop}
    (hpc : ∀ h, pushCells h scope.names = h.push cellN) (hcf : ∀ c, cellsFrom c scope.names cl = (x, c) :: cl) (hkind : scope.kind = .function) (hx : (relabel scope env).names.lookup x = some .cell)
    (X : CellSrc prog w A h₀ L m env elt x scope cl Fin it s₂)
    (hRR : ∀ D C h tk m' ys nw, Fr h₀ L h m → News h₀ L h ((D, LCg.lst ys) :: nw) → LCg.Off1 D nw → h.Ns C m' → h₀.get? C = none → h₀.get? D = none → C ≠ L → D ≠ L → C ≠ D → (∀ p ∈ nw, p.1 ≠ C) → Fin s₂ ys nw → RR (.ref D) C (.ok .next) { s₂ with heap := h, toks := tk }) :
    wpAny (model prog w) A (newList []) (fun acc s₃ => wpAny (model prog w) A (newFunctionEnv scope env.globals cl [] env.qual none .none (some env)) (fun cenv s₄ =>
      codeAny (model prog w) A (.compStart (.ListComp elt [⟨.Name x px, iter, [], 0⟩] scope pos) 0 it acc { cenv with scope := relabel scope env }) (RR acc cenv.locals) s₄) E s₃) E s₂ := by
  refine CellSrc.elim X ?_
  intro I fp n P St S J news eI W hsz hIo hSt hst hfp F N hIL hI₀ off hS hJ turn fin
  subst eI
  clear X
  refine wpAny_newObj_type (newEnv_cell hpc hcf ?_)
  dsimp only
  generalize hH2 : s₂.heap.push { cls := .type "list", dict := none, data := .seq ([] : List Value).toArray } = H2
  generalize hH3 : (H2.push { cls := .type "dict", data := .dict #[] }).push cellN = H3
  have hIf : I ∈ fp := W.sub I (List.mem_singleton.mpr rfl)
  have hIlt : I < s₂.heap.objs.size := hfp I hIf
  have hLlt : L < s₂.heap.objs.size := F.ns.lt
  have e2 : H2.objs.size = s₂.heap.objs.size + 1 := by rw [← hH2, Heap.size_push]
  obtain ⟨D, hD⟩ : ∃ D, D = s₂.heap.objs.size := ⟨_, rfl⟩
  obtain ⟨C, hC⟩ : ∃ C, C = H2.objs.size := ⟨_, rfl⟩
  obtain ⟨K, hK⟩ : ∃ K, K = H2.objs.size + 1 := ⟨_, rfl⟩
  rw [← hD, ← hC]
  rw [hC, ← hK, ← hC]
  have nD : C = D + 1 := by rw [hC, e2, hD]
  have nK : K = C + 1 := by rw [hK, hC]
  have lI : I < D := by rw [hD]; exact hIlt
  have lL : L < D := by rw [hD]; exact hLlt
  have old : ∀ b o, s₂.heap.get? b = some o → H3.get? b = some o := fun b o e => by
    rw [← hH3]
    exact Heap.get?_push_of_some _ (Heap.get?_push_of_some _ (hH2 ▸ Heap.get?_push_of_some _ e))
  have gD : H3.get? D = some (LCg.lst []) := by
    rw [← hH3]
    refine Heap.get?_push_of_some _ (Heap.get?_push_of_some _ ?_)
    rw [← hH2, hD]
    exact Heap.get?_push_size _ rfl
  have gC : H3.get? C = some { cls := .type "dict", data := .dict #[] } := by
    rw [← hH3, hC]
    exact Heap.get?_push_of_some _ (Heap.get?_push_size _ rfl)
  have gK : H3.get? K = some cellN := by
    rw [← hH3, hK, ← Heap.size_push (o := ({ cls := .type "dict", data := .dict #[] } : Obj))]
    exact Heap.get?_push_size _ rfl
  have none₀ : ∀ a, D ≤ a → h₀.get? a = none := fun a ha => Heap.get?_none_of_le (Nat.le_trans F.above (Nat.le_trans (Nat.le_of_lt lL) ha))
  have ltN : ∀ p ∈ news, p.1 < D := fun p hp => by rw [hD]; exact Heap.lt_size (N p hp).1
  have fpD : ∀ b ∈ fp, b < D := fun b hb => by rw [hD]; exact hfp b hb
  have cD : D ≤ C := by omega
  have cK : D ≤ K := by omega
  have DL : D ≠ L := Nat.ne_of_gt lL
  have CL : C ≠ L := Nat.ne_of_gt (Nat.lt_of_lt_of_le lL cD)
  have KL : K ≠ L := Nat.ne_of_gt (Nat.lt_of_lt_of_le lL cK)
  have CD : @Ne Nat C D := by omega
  have KC : @Ne Nat C K := by omega
  have KD : @Ne Nat K D := by omega
  have IC : @Ne Nat I C := Nat.ne_of_lt (Nat.lt_of_lt_of_le lI cD)
  have IK : @Ne Nat I K := Nat.ne_of_lt (Nat.lt_of_lt_of_le lI cK)
  have ID : @Ne Nat I D := Nat.ne_of_lt lI
  have Kf : K ∉ fp := fun hm => Nat.lt_irrefl _ (Nat.lt_of_lt_of_le (fpD _ hm) cK)
  have Cf : C ∉ fp := fun hm => Nat.lt_irrefl _ (Nat.lt_of_lt_of_le (fpD _ hm) cD)
  have Df : D ∉ fp := fun hm => Nat.lt_irrefl _ (fpD _ hm)
  have hst₁ : St 0 H3 := W.frame _ _ _ hst fun b _ o e => old b o e
  have hNs : LCg.NsObj { cls := .type "dict", data := .dict #[] } (fun _ => none) := by
    obtain ⟨o, ho, hn⟩ := LCg.ns_obj (Heap.Ns.new H2 (.type "dict"))
    rw [show (H2.push { cls := .type "dict", data := .dict #[] }).get? H2.objs.size = some { cls := .type "dict", data := .dict #[] } from Heap.get?_push_size _ rfl] at ho
    cases ho
    exact hn
  have off₀ : Off4 I C K D news := fun p hp => ⟨off p hp, Nat.ne_of_lt (Nat.lt_of_lt_of_le (ltN p hp) cD), Nat.ne_of_lt (Nat.lt_of_lt_of_le (ltN p hp) cK), Nat.ne_of_lt (ltN p hp)⟩
  have N₁ : News h₀ L H3 ((C, { cls := .type "dict", data := .dict #[] }) :: (K, cellN) :: (D, LCg.lst []) :: news) := by
    intro p hp
    rcases List.mem_cons.mp hp with rfl | hp
    · exact ⟨gC, CL, none₀ _ cD⟩
    rcases List.mem_cons.mp hp with rfl | hp
    · exact ⟨gK, KL, none₀ _ cK⟩
    rcases List.mem_cons.mp hp with rfl | hp
    · exact ⟨gD, DL, none₀ _ (Nat.le_refl _)⟩
    · exact ⟨old _ _ (N p hp).1, (N p hp).2⟩
  have loop : codeAny (model prog w) A (.compLoop (.ListComp elt [⟨.Name x px, iter, [], 0⟩] scope pos) 0 (.ref I) (.ref D) (compEnvC scope ((x, K) :: cl) C env)) (RR (.ref D) C) { s₂ with heap := H3 } := by
    refine codeAny_compLoop_tests
      (fun k s' => ∃ h' tk i ys oC mC oK vo nw, s' = { s₂ with heap := h', toks := tk } ∧ i ≤ n ∧ k = n + 1 - i ∧ ys.length = i ∧ St i h' ∧ Fr h₀ L h' m ∧ News h₀ L h' ((C, oC) :: (K, oK) :: (D, LCg.lst ys) :: nw) ∧
        LCg.NsObj oC mC ∧ oK.data = .cell vo ∧ Off4 I C K D nw ∧ S nw ∧ J i ys nw) ?_ (n + 1)
      ⟨H3, _, 0, [], _, _, _, _, news, rfl, Nat.zero_le _, rfl, rfl, hst₁, F.keeps old, N₁, hNs, rfl, off₀, hS, hJ⟩
    rintro k s' ⟨h', tk, i, ys, oC, mC, oK, vo, nw, rfl, hi, rfl, hyl, hst', F', N', hC', hK', off', hS', hJ'⟩
    have zC := N' (C, oC) (.head _)
    have zK := N' (K, oK) (.tail _ (.head _))
    have zD := N' (D, LCg.lst ys) (.tail _ (.tail _ (.head _)))
    have zN : News h₀ L h' nw := fun p hp => N' p (.tail _ (.tail _ (.tail _ hp)))
    by_cases hlt : i < n
    · refine W.item i _ _ _ hlt hst' fun v h₂ tk₂ hPv hst₂ hk₂ => ?_
      have k₂ : ∀ b o, b ≠ I → h'.get? b = some o → h₂.get? b = some o := fun b o hb e => hk₂ b o (fun hm => hb (List.mem_singleton.mp hm)) e
      refine wpAny_assign_Name (wpAny_storeName_cell (by simp [compEnvC, relabel, hkind]) hx (by simp [compEnvC]) ⟨oK, k₂ _ _ (Ne.symm IK) zK.1, hK'⟩ fun h₃ hc₃ hs₃ => ?_)
      obtain ⟨oK₃, gK₃, dK₃⟩ := hc₃
      have k₃ : ∀ b o, b ≠ K → h₂.get? b = some o → h₃.get? b = some o := fun b o hb e => hs₃.extBut b o hb e
      refine wpAny_tests_nil ?_
      simp only [if_true]
      have hst₃ : St (i + 1) h₃ := W.frame _ _ _ hst₂ fun b hb o e => k₃ b o (fun q => Kf (q ▸ hb)) e
      obtain ⟨oI, heI⟩ := hIo _ _ hst₃
      have F₃ : Fr h₀ L h₃ m := ⟨F'.ns.at' fun o e => k₃ _ _ (Ne.symm KL) (k₂ _ _ hIL e), fun b o e => k₃ _ _ (fun q => by rw [q, none₀ _ cK] at e; cases e) (k₂ _ _ (fun q => by rw [q, hI₀] at e; cases e) (F'.keep b o e)), F'.above⟩
      have N₃ : News h₀ L h₃ ((I, oI) :: (C, oC) :: (K, oK₃) :: (D, LCg.lst ys) :: nw) := by
        intro p hp
        rcases List.mem_cons.mp hp with rfl | hp
        · exact ⟨heI, Ne.symm hIL, hI₀⟩
        rcases List.mem_cons.mp hp with rfl | hp
        · exact ⟨k₃ _ _ KC (k₂ _ _ (Ne.symm IC) zC.1), zC.2⟩
        rcases List.mem_cons.mp hp with rfl | hp
        · exact ⟨gK₃, zK.2⟩
        rcases List.mem_cons.mp hp with rfl | hp
        · exact ⟨k₃ _ _ (Ne.symm KD) (k₂ _ _ (Ne.symm ID) zD.1), zD.2⟩
        · exact ⟨k₃ _ _ (off' p hp).2.2.1 (k₂ _ _ (off' p hp).1 (zN p hp).1), (zN p hp).2⟩
      refine wpAny_mono (turn i v oI C oC mC K oK₃ D ys nw h₃ _ _ hlt hPv hJ' hC' dK₃ F₃ N₃ off' ⟨IC, IK, ID, KC, CD, KD⟩) (fun y s₄ h₄ => ?_) fun _ _ e => e
      obtain ⟨h₄, tk₄, nw₄, rfl, F₄, N₄, off₄, hS₄, hJ₄⟩ := h₄
      have yI := (N₄ (I, oI) (.head _)).1
      have yD := (N₄ (D, LCg.lst ys) (.tail _ (.tail _ (.tail _ (.head _))))).1
      have N₄' : News h₀ L h₄ nw₄ := fun p hp => N₄ p (.tail _ (.tail _ (.tail _ (.tail _ hp))))
      have hst₄ : St (i + 1) h₄ := hSt _ _ _ _ _ hst₃ heI yI F₄.keep N₄' hS₄
      refine append_at (hsz := by show ys.toArray.size ≤ sizeLine; rw [List.size_toArray, hyl]; exact Nat.le_trans hi hsz) yD fun h₅ hs₅ hD₅ => ?_
      refine ⟨n + 1 - (i + 1), by omega, h₅, tk₄, i + 1, ys ++ [y], oC, mC, oK₃, _, nw₄, rfl, hlt, rfl, by rw [List.length_append, List.length_singleton, hyl], W.frame _ _ _ hst₄ fun b hb o e => hs₅.extBut b o (fun q => Df (q ▸ hb)) e, F₄.change hs₅ DL (none₀ _ (Nat.le_refl _)), ?_, hC', dK₃, off₄, hS₄, hJ₄⟩
      intro p hp
      rcases List.mem_cons.mp hp with rfl | hp
      · have z := N₄ (C, oC) (.tail _ (.head _))
        exact ⟨hs₅.extBut _ _ CD z.1, z.2⟩
      rcases List.mem_cons.mp hp with rfl | hp
      · have z := N₄ (K, oK₃) (.tail _ (.tail _ (.head _)))
        exact ⟨hs₅.extBut _ _ KD z.1, z.2⟩
      rcases List.mem_cons.mp hp with rfl | hp
      · exact ⟨hD₅.trans (congrArg some (LCg.lst_snoc ys y)), DL, none₀ _ (Nat.le_refl _)⟩
      · exact ⟨hs₅.extBut _ _ (off₄ p hp).2.2.2 (N₄' p hp).1, (N₄' p hp).2⟩
    · obtain rfl : i = n := Nat.le_antisymm hi (Nat.not_lt.mp hlt)
      refine W.done _ _ _ hst' fun h₂ tk₂ hk₂ => ?_
      have k₂ : ∀ b o, b ≠ I → h'.get? b = some o → h₂.get? b = some o := fun b o hb e => hk₂ b o (fun hm => hb (List.mem_singleton.mp hm)) e
      refine hRR D C h₂ tk₂ mC ys nw (LCg.fr_but F' hk₂ hIL hI₀) ?_ ?_ (hC'.ns (k₂ _ _ (Ne.symm IC) zC.1)) (none₀ _ cD) (none₀ _ (Nat.le_refl _)) CL DL CD (fun p hp => (off' p hp).2.1) (fin ys nw hJ')
      · intro p hp
        rcases List.mem_cons.mp hp with rfl | hp
        · exact ⟨k₂ _ _ (Ne.symm ID) zD.1, zD.2⟩
        · exact ⟨k₂ _ _ (off' p hp).1 (zN p hp).1, (zN p hp).2⟩
      · clear N' hJ' hS' zN
        induction nw with
        | nil => exact trivial
        | cons p r ih => exact ⟨(off' p (.head _)).2.2.2, ih fun q hq => off' q (.tail _ hq)⟩
  exact codeAny_compStart_list loop (W.self 0 _ _ _ hst₁ loop)
theorem assignCell {elt iter : Expr} {x y : Str} {px py : Pos} {scope : Scope} {cl : List (Str × Addr)} {pos spos : Pos} {Q : Flow → Shared → Prop} (_F₀ : Fr h₀ L s.heap m) (hLe : env.locals = L)
    (hsw : swapsWith (.ListComp elt [⟨.Name x px, iter, [], 0⟩] scope pos) (some (.Name y py)) spos.line env = pure true)
    (hclos : closureFor scope env = pure cl) (hpc : ∀ h, pushCells h scope.names = h.push cellN) (hcf : ∀ c, cellsFrom c scope.names cl = (x, c) :: cl) (hkind : scope.kind = .function)
    (hnames : ∀ z ∈ scope.names, z.2 = .local → scope.names.lookup z.1 = some .local) (hx : (relabel scope env).names.lookup x = some .cell)
    (hy : env.kindOf y = some .local) (hp : (env.scope.kind == .class || (env.scope.kind == .module && env.locals != env.globals)) = false)
    (h : wpAny (model prog w) A (eval iter env) (fun xv s₁ => wpAny (model prog w) A (pyIter xv) (CellSrc prog w A h₀ L m env elt x scope cl (fun s₂ => LCg.FinA h₀ L m s₂ y Q)) E s₁) E s)
    (hs : ∀ x, foldedSetIterable iter env x = pure x := by intro _; rfl) :
    wpAny (model prog w) A (exec (.Assign [.Name y py] (.ListComp elt [⟨.Name x px, iter, [], 0⟩] scope pos) spos) env) Q E s := by
  subst hLe
  rw [exec_Assign_Name_used _ _ _ _ hsw]
  refine wpAny_bind (wpAny_standAt (wpAny_bind ?_))
  show wpAny _ A (do let _ ← comprehension (.ListComp elt [⟨.Name x px, iter, [], 0⟩] scope pos) scope env _ (newList []) false (eval iter env) (some (assign (.Name y py) env))) _ _ s
  refine wpAny_bind (wpAny_mono (wpAny_comprehension_free (use := some (assign (.Name y py) env)) (Q := fun _ s' => Q .next s') rfl hs hclos hkind hnames
    (wpAny_mono h (fun xv s₁ h₁ => wpAny_mono h₁ (fun it s₂ h₂ => ?_) fun _ _ e => e) fun _ _ e => e)) (fun _ s' hq => wpAny_pure (wpAny_pure hq)) fun _ _ e => e)
  refine cellBlock hpc hcf hkind hx h₂ ?_
  intro D C h' tk m' ys news' F' N' o1 hn hC₀ hD₀ hCL hDL hCD offC fin
  show wpAny _ A (assign (.Name y py) env (.ref D)) _ _ _
  refine wpAny_assign_Name (wpAny_storeName_local hy F'.ns (fun h₂ hn₂ hs₂ => ?_) hp)
  have hL₀ : h₀.get? env.locals = none := Heap.get?_none_of_le F'.above
  have F₂ : Fr h₀ env.locals h₂ (fun z => if z = y then some (.ref D) else m z) := ⟨hn₂, fun b o e => hs₂.extBut b o (fun q => by rw [q, hL₀] at e; cases e) (F'.keep b o e), F'.above⟩
  refine ⟨m', hn.sameBut hs₂ hCL, fun h'' hs'' => fin D h'' _ (F₂.change hs'' hCL hC₀) (fun p hp => ?_) o1⟩
  have z : h₂.get? p.1 = some p.2 := hs₂.extBut _ _ (N' p hp).2.1 (N' p hp).1
  refine ⟨hs''.extBut _ _ ?_ z, (N' p hp).2⟩
  rcases List.mem_cons.mp hp with rfl | hp
  · exact Ne.symm hCD
  · exact offC p hp
abbrev CellTurn (prog : Program) (w : World) (A : Around) (h₀ : Heap) (L : Addr) (m : Str → Option Value) (env : Env) (elt : Expr) (x : Str) (scope : Scope) (cl : List (Str × Addr)) (n : Nat) (P : Nat → Value → Prop) (S : List (Addr × Obj) → Prop) (J : Nat → List Value → List (Addr × Obj) → Prop) (s₂ : Shared) : Prop :=
  ∀ i v I oI C oC mC K oK D ys nw h tk (E' : Value → Shared → Prop), i < n → P i v → J i ys nw → LCg.NsObj oC mC → oK.data = .cell (some v) → Fr h₀ L h m → News h₀ L h ((I, oI) :: (C, oC) :: (K, oK) :: (D, LCg.lst ys) :: nw) → Off4 I C K D nw →
    (@Ne Nat I C ∧ @Ne Nat I K ∧ @Ne Nat I D ∧ @Ne Nat C K ∧ @Ne Nat C D ∧ @Ne Nat K D) →
    wpAny (model prog w) A (eval elt (compEnvC scope ((x, K) :: cl) C env)) (CellEnd h₀ L m { s₂ with heap := h, toks := tk } I oI C oC K oK D (LCg.lst ys) S (fun y nw' => J (i + 1) (ys ++ [y]) nw')) E' { s₂ with heap := h, toks := tk }
theorem cellList {elt : Expr} {x : Str} {scope : Scope} {cl : List (Str × Addr)} {Fin : Shared → List Value → List (Addr × Obj) → Prop} {l : Addr} {its : Array Value} {k : Nat} {news : List (Addr × Obj)} (J : Nat → List Value → List (Addr × Obj) → Prop)
    (hh : A.handled = none) (F : Fr h₀ L s.heap m) (N : News h₀ L s.heap news) (hm : (l, W.listOf its k) ∈ news) (hsz : its.size ≤ sizeLine) (hJ : J 0 [] news)
    (turn : ∀ g, CellTurn prog w A h₀ L m env elt x scope cl its.size (fun i v => its[i]? = some v) (LCg.SrcAt h₀ l its) J { s with heap := g })
    (fin : ∀ g ys nw, J its.size ys nw → Fin { s with heap := g } ys nw) :
    wpAny (model prog w) A (pyIter (.ref l)) (CellSrc prog w A h₀ L m env elt x scope cl Fin) E s := by
  have hl : s.heap.IsList l its := News.isList N hm
  have hlt : l < s.heap.objs.size := by obtain ⟨_, e, _⟩ := hl; exact Heap.lt_size e
  refine wpAny_pyIter_list hl ?_
  have up : ∀ b o, s.heap.get? b = some o → (s.heap.push { cls := .type "list_iterator", data := .fields #[.ref l, .int 0 0] }).get? b = some o := fun b o e => Heap.get?_push_of_some _ e
  refine ⟨s.heap.objs.size, [s.heap.objs.size, l], its.size, _, _, LCg.SrcAt h₀ l its, J, news, rfl, Walks.list hh s.heap.objs.size l (Nat.ne_of_lt hlt) its, hsz, (fun i h st => by obtain ⟨o, e, _⟩ := st.1; exact ⟨o, e⟩), LCg.list_st,
    ⟨⟨_, Heap.get?_push_size _ rfl, rfl, rfl⟩, hl.push _⟩, (fun b hb => ?_), F.keeps up, N.grown up, Nat.ne_of_lt F.ns.lt, next_is_new F, (fun p hp => Nat.ne_of_lt (Heap.lt_size (N p hp).1)), .inr ⟨_, hm, rfl, _, rfl⟩, hJ, (fun i v oI => turn _ i v _ oI), fun ys nw => fin _ ys nw⟩
  show b < (s.heap.push _).objs.size
  rw [Heap.size_push]
  rcases List.mem_cons.mp hb with rfl | hb
  · exact Nat.lt_succ_self _
  · rw [List.mem_singleton.mp hb]; exact Nat.lt_succ_of_lt hlt
theorem cellRange {elt : Expr} {x : Str} {scope : Scope} {cl : List (Str × Addr)} {Fin : Shared → List Value → List (Addr × Obj) → Prop} {r : Addr} {a b : Int} {t u v : Tok} {n : Nat} {news : List (Addr × Obj)} (J : Nat → List Value → List (Addr × Obj) → Prop)
    (hh : A.handled = none) (F : Fr h₀ L s.heap m) (N : News h₀ L s.heap news) (hr : IsRange s.heap r a b 1 t u v) (hsm : Builtin.Range.small a b 1 = true) (hn : Builtin.Range.rangeSize a b 1 = ((n : Nat) : Int)) (hsz : n ≤ sizeLine) (hJ : J 0 [] news)
    (turn : ∀ g, CellTurn prog w A h₀ L m env elt x scope cl n (fun i v => ∃ t, v = .int (a + (i : Int)) t) (fun _ => True) J { s with heap := g })
    (fin : ∀ g ys nw, J n ys nw → Fin { s with heap := g } ys nw) :
    wpAny (model prog w) A (pyIter (.ref r)) (CellSrc prog w A h₀ L m env elt x scope cl Fin) E s := by
  refine wpAny_pyIter_range hr hsm ?_
  refine ⟨s.heap.objs.size, [s.heap.objs.size], n, _, _, fun _ => True, J, news, rfl, LCg.range_walks hh a n, hsz, (fun i h st => ⟨_, st⟩), LCg.range_st,
    (by show IsRangeIter _ _ _ _ _; rw [hn]; simpa using Heap.get?_push_size _ rfl), (fun b hb => ?_), (F.keeps fun _ _ e => Heap.get?_push_of_some _ e), (N.grown fun _ _ e => Heap.get?_push_of_some _ e), Nat.ne_of_lt F.ns.lt, next_is_new F, (fun p hp => Nat.ne_of_lt (Heap.lt_size (N p hp).1)), trivial, hJ, (fun i v oI => turn _ i v _ oI), fun ys nw => fin _ ys nw⟩
  rw [List.mem_singleton.mp hb]
  show s.heap.objs.size < (s.heap.push _).objs.size
  rw [Heap.size_push]; exact Nat.lt_succ_self _
end
end
section
open PySem PySem.W PyProof.Rows
theorem lt8 : ∀ {k : Nat}, k < 8 → k = 0 ∨ k = 1 ∨ k = 2 ∨ k = 3 ∨ k = 4 ∨ k = 5 ∨ k = 6 ∨ k = 7 := by decide
theorem level_big {l : List Nat} (h6 : l.length ≤ 6) {s : Int} (hs : 7 ≤ s) : levelOf l s = ((wst l).b : Int) + s * ((wst l).nt : Int) := by
  have hb := wst_bounds l
  have e : (((wst l).cnt.length : Int) - s).toNat = 0 := by omega
  rw [levelOf, e]
  simp [levOf]
theorem colOf_snoc (l : List Nat) (c : Nat) (s : Int) : colOf (l ++ [c]) s = colStep s (colOf l s) c := by simp [colOf]
theorem col_big {s : Int} (hs : 7 ≤ s) : ∀ (k : Nat) (l : List Nat), l.length = k → k ≤ 6 → Sp l → colOf l s = s * ((wst l).nt : Int) + ((wst l).b : Int) := by
  intro k
  induction k with
  | zero =>
    intro l hl _ _
    rw [List.length_eq_zero_iff.mp hl]
    simp [colOf, wst]
  | succ k ih =>
    intro l hl hk hsp
    have hne : l ≠ [] := fun e => by rw [e] at hl; cases hl
    have e := (List.dropLast_concat_getLast hne).symm
    have hd : l.dropLast.length = k := by simp [hl]
    have hsd : Sp l.dropLast := fun c hc => hsp c (List.dropLast_subset _ hc)
    have h := ih l.dropLast hd (by omega) hsd
    have hb := wst_bounds l.dropLast
    have hc := hsp _ (List.getLast_mem hne)
    rw [e, colOf_snoc, wst_snoc, h]
    generalize l.getLast hne = c at hc
    generalize wst l.dropLast = w at hb ⊢
    obtain ⟨cnt, b, n, nt⟩ := w
    dsimp only at hb ⊢
    rcases hc with rfl | rfl
    · simp only [colStep, wstep, if_true, if_neg (show ¬ (9 : Nat) = 32 by decide)]
      have hm : (s * (nt : Int) + (b : Int)).fmod s = (b : Int) := by
        rw [Int.fmod_eq_emod_of_nonneg _ (by omega), Int.add_comm, Int.add_mul_emod_self_left]
        exact Int.emod_eq_of_lt (by omega) (by omega)
      rw [hm]
      have : ((nt + 1 : Nat) : Int) = (nt : Int) + 1 := by omega
      rw [this, Int.mul_add]
      omega
    · simp only [colStep, wstep, if_true, if_neg (show ¬ (32 : Nat) = 9 by decide)]
      omega
theorem lead_len {x : Str} (h : Lead x) : x.cps.toList.length ≤ 6 := by have := h.len; rw [Array.length_toList]; exact this
/-- the record's column is the walked one -/
theorem level_col {x : Str} (h : Lead x) {s : Int} (hs : 1 ≤ s) : levelOf x.cps.toList s = colOf x.cps.toList s := by
  by_cases h9 : 9 ≤ s
  · rw [level_big (lead_len h) (by omega), col_big (by omega) _ _ rfl (lead_len h) h.sp]
    omega
  · have q := lead_all chk2_all h
    rw [chk2, List.all_eq_true] at q
    have q2 := of_decide_eq_true (q (s - 1).toNat (List.mem_range.mpr (by omega)))
    rw [show (1 : Int) + ((s - 1).toNat : Int) = s by omega] at q2
    exact q2
def trimZ (l : List Int) : List Int := (l.reverse.dropWhile fun z => decide (z = 0)).reverse
/-- the record out of the columns at 1 to 8 -/
def decod (f : Nat → Int) : List Int × Int :=
  let nt := f 8 - f 7
  let b := f 7 - 7 * nt
  let c5 := (f 5 - b) / 5 - nt
  let c4 := (f 4 - b) / 4 - nt - c5
  let c3 := (f 3 - b) / 3 - nt - c4 - c5
  let c2 := (f 2 - b) / 2 - nt - c3 - 2 * c4 - 2 * c5
  let c1 := f 1 - b - nt - 2 * c2 - 3 * c3 - 4 * c4 - 5 * c5
  (trimZ [nt - c1 - c2 - c3 - c4 - c5, c1, c2, c3, c4, c5], b)
def chk3 (l : List Nat) : Bool :=
  decide (decod (fun s => levelOf l (s : Int)) = ((wst l).cnt, ((wst l).b : Int))) && decide (((wst l).nt : Int) = (wst l).cnt.sum) && decide (levelOf l 1 = ((wst l).n : Int)) &&
  (List.range 7).all (fun k => (!decide (((wst l).cnt.length : Int) ≤ 1) || decide (levelOf l (1 + (k : Int)) = ((wst l).b : Int) + (1 + (k : Int)) * ((wst l).nt : Int))) && (!decide (longOf l ≤ (k : Int)) || decide (levelOf l (1 + (k : Int)) = ((wst l).b : Int) + (1 + (k : Int)) * ((wst l).nt : Int)))) &&
  decide (((wst l).b : Int) ≤ longOf l)
theorem chk3_all : allLeads.all chk3 = true := by decide +kernel
structure LeadMore (l : List Nat) : Prop where
  dec : decod (fun s => levelOf l (s : Int)) = ((wst l).cnt, ((wst l).b : Int))
  sum : ((wst l).nt : Int) = (wst l).cnt.sum
  one : levelOf l 1 = ((wst l).n : Int)
  simp : ∀ k : Nat, k < 7 → ((wst l).cnt.length : Int) ≤ 1 → levelOf l (1 + (k : Int)) = ((wst l).b : Int) + (1 + (k : Int)) * ((wst l).nt : Int)
  past : ∀ k : Nat, k < 7 → longOf l ≤ (k : Int) → levelOf l (1 + (k : Int)) = ((wst l).b : Int) + (1 + (k : Int)) * ((wst l).nt : Int)
  b : ((wst l).b : Int) ≤ longOf l
theorem lead_more {x : Str} (h : Lead x) : LeadMore x.cps.toList := by
  have q := lead_all chk3_all h
  simp only [chk3, Bool.and_eq_true, List.all_eq_true, decide_eq_true_eq, Bool.or_eq_true, Bool.not_eq_true', decide_eq_false_iff_not, List.mem_range] at q
  obtain ⟨⟨⟨⟨q1, q2⟩, q3⟩, q4⟩, q5⟩ := q
  refine ⟨q1, q2, q3, fun k hk hs => ?_, fun k hk hs => ?_, q5⟩
  · rcases (q4 k hk).1 with h | h
    · exact absurd hs h
    · exact h
  · rcases (q4 k hk).2 with h | h
    · exact absurd hs h
    · exact h
theorem long_le {l : List Nat} (h : l.length ≤ 6) : longOf l ≤ 6 := by
  have := wst_bounds l
  unfold longOf
  split <;> omega
theorem top_le {l l2 : List Nat} (h : l.length ≤ 6) (h2 : l2.length ≤ 6) : topOf l l2 ≤ 7 := by
  have := long_le h
  have := long_le h2
  unfold topOf
  split <;> omega
def sizesOf (tally : Int) : List Int := [1, 2, 3, 4, 5, 6, 7, 8, tally + 9]
theorem sizes_mem {tally : Int} (k : Nat) (h : k < 8) : ((k + 1 : Nat) : Int) ∈ sizesOf tally := by
  rcases lt8 h with rfl | rfl | rfl | rfl | rfl | rfl | rfl | rfl
  · exact .head _
  · exact .tail _ (.head _)
  · exact .tail _ (.tail _ (.head _))
  · exact .tail _ (.tail _ (.tail _ (.head _)))
  · exact .tail _ (.tail _ (.tail _ (.tail _ (.head _))))
  · exact .tail _ (.tail _ (.tail _ (.tail _ (.tail _ (.head _)))))
  · exact .tail _ (.tail _ (.tail _ (.tail _ (.tail _ (.tail _ (.head _))))))
  · exact .tail _ (.tail _ (.tail _ (.tail _ (.tail _ (.tail _ (.tail _ (.head _)))))))
theorem same_cols {x y : Str} (hx : Lead x) (hy : Lead y) {tally : Int} (ht : 0 ≤ tally) :
    decide ((wst x.cps.toList).cnt = (wst y.cps.toList).cnt ∧ ((wst x.cps.toList).b : Int) = ((wst y.cps.toList).b : Int)) = decide ((sizesOf tally).map (colOf x.cps.toList) = (sizesOf tally).map (colOf y.cps.toList)) := by
  have mx := lead_more hx
  have my := lead_more hy
  rw [decide_eq_decide]
  constructor
  · rintro ⟨hc, hb⟩
    have hn : ((wst x.cps.toList).nt : Int) = ((wst y.cps.toList).nt : Int) := by rw [mx.sum, my.sum, hc]
    apply List.map_congr_left
    intro s hs
    have h1 : 1 ≤ s := by
      simp only [sizesOf, List.mem_cons, List.not_mem_nil, or_false] at hs
      omega
    rw [← level_col hx h1, ← level_col hy h1, levelOf, levelOf, hc, hb, hn]
  · intro h
    have hl : ∀ s : Nat, 1 ≤ s → s ≤ 8 → levelOf x.cps.toList (s : Int) = levelOf y.cps.toList (s : Int) := by
      intro s h1 h8
      rw [level_col hx (by omega), level_col hy (by omega)]
      have hm : (s : Int) ∈ sizesOf tally := by
        obtain ⟨k, rfl⟩ : ∃ k, s = k + 1 := ⟨s - 1, by omega⟩
        exact sizes_mem k (Nat.lt_of_succ_le h8)
      exact List.map_inj_left.mp h _ hm
    have hd : decod (fun s => levelOf x.cps.toList (s : Int)) = decod (fun s => levelOf y.cps.toList (s : Int)) := by
      simp only [decod, hl 8 (by omega) (by omega), hl 7 (by omega) (by omega), hl 5 (by omega) (by omega), hl 4 (by omega) (by omega), hl 3 (by omega) (by omega), hl 2 (by omega) (by omega), hl 1 (by omega) (by omega)]
    rw [mx.dec, my.dec] at hd
    exact ⟨congrArg Prod.fst hd, congrArg Prod.snd hd⟩
end
section
open PySem PySem.W PyProof.Rows
theorem grow_lt {b b2 nt nt2 s : Int} (hb0 : 0 ≤ b) (hb2 : b2 ≤ 6) (h7 : b + 7 * nt < b2 + 7 * nt2) (hs : 7 ≤ s) : b + s * nt < b2 + s * nt2 := by
  have hn : nt ≤ nt2 := by omega
  have h := Int.mul_le_mul_of_nonneg_left hn (show 0 ≤ s - 7 by omega)
  rw [Int.sub_mul, Int.sub_mul] at h
  omega
theorem less_iff {x y : Str} (hx : Lead x) (hy : Lead y) : lessOf x.cps.toList y.cps.toList = true ↔ ∀ k : Nat, k < 7 → levelOf x.cps.toList (1 + (k : Int)) < levelOf y.cps.toList (1 + (k : Int)) := by
  have mx := lead_more hx
  have my := lead_more hy
  have bx := wst_bounds x.cps.toList
  have by' := wst_bounds y.cps.toList
  have lx := lead_len hx
  have ly := lead_len hy
  have tx := long_le lx
  have ty := long_le ly
  generalize x.cps.toList = l at *
  generalize y.cps.toList = l2 at *
  have h70 := mx.past 6 (by omega) (by omega)
  have h71 := my.past 6 (by omega) (by omega)
  constructor
  · intro h k hk
    have hn : ¬ ((wst l2).n : Int) ≤ ((wst l).n : Int) := by
      intro hc
      rw [less1 hc] at h
      cases h
    have h1 : levelOf l 1 < levelOf l2 1 := by rw [mx.one, my.one]; omega
    by_cases hs : ((wst l).cnt.length : Int) ≤ 1 ∧ ((wst l2).cnt.length : Int) ≤ 1
    · rw [less2 hn hs.1 hs.2] at h
      have hnt := of_decide_eq_true h
      have e1 := mx.simp 0 (by omega) hs.1
      have e2 := my.simp 0 (by omega) hs.2
      rw [mx.simp k hk hs.1, my.simp k hk hs.2]
      rw [show (1 : Int) + ((0 : Nat) : Int) = 1 by omega] at e1 e2
      have hm := Int.mul_le_mul_of_nonneg_left hnt (show (0 : Int) ≤ (k : Int) by omega)
      rw [Int.add_mul, Int.add_mul]
      omega
    · have hloop : lessLoop l l2 (topOf l l2 + 1 - 2).toNat = true := by
        by_cases hc : ((wst l).cnt.length : Int) ≤ 1
        · rw [← less3 hn (fun h2 => hs ⟨hc, h2⟩)]; exact h
        · rw [← less4 hn hc]; exact h
      have hlow : ∀ j : Nat, (j : Int) < topOf l l2 → levelOf l (1 + (j : Int)) < levelOf l2 (1 + (j : Int)) := by
        intro j hj
        by_cases h0 : j = 0
        · subst h0
          rw [show (1 : Int) + ((0 : Nat) : Int) = 1 by omega]
          exact h1
        · have q := of_decide_eq_true (List.all_eq_true.mp hloop (j - 1) (List.mem_range.mpr (by omega)))
          rw [show (2 : Int) + ((j - 1 : Nat) : Int) = 1 + (j : Int) by omega] at q
          exact q
      have htop : topOf l l2 = (if longOf l2 > longOf l then longOf l2 else longOf l) + 1 := rfl
      have hmax1 : longOf l ≤ topOf l l2 - 1 := by rw [htop]; split <;> omega
      have hmax2 : longOf l2 ≤ topOf l l2 - 1 := by rw [htop]; split <;> omega
      have ht7 := top_le lx ly
      have htp := topOf_bounds lx ly
      by_cases hk2 : (k : Int) < topOf l l2
      · exact hlow k hk2
      · -- past the longest run
        have hb0 := mx.b
        have hb1 := my.b
        have hpos : 1 ≤ topOf l l2 := by omega
        obtain ⟨j, hj⟩ : ∃ j : Nat, (j : Int) + 1 = topOf l l2 := ⟨(topOf l l2 - 1).toNat, by omega⟩
        have q := hlow j (by omega)
        have p1 := mx.past j (by omega) (by omega)
        have p2 := my.past j (by omega) (by omega)
        rw [p1, p2] at q
        rw [mx.past k hk (by omega), my.past k hk (by omega)]
        have hnt : ((wst l).nt : Int) ≤ ((wst l2).nt : Int) := by
          apply Int.not_lt.mp
          intro hlt
          have hm := Int.mul_le_mul_of_nonneg_left (show ((wst l2).nt : Int) + 1 ≤ ((wst l).nt : Int) by omega) (show (0 : Int) ≤ 1 + (j : Int) by omega)
          rw [Int.mul_add, Int.mul_one] at hm
          omega
        have hm := Int.mul_le_mul_of_nonneg_left hnt (show (0 : Int) ≤ (k : Int) - (j : Int) by omega)
        rw [Int.sub_mul, Int.sub_mul] at hm
        rw [Int.add_mul, Int.add_mul] at q ⊢
        omega
  · intro h
    have h1 := h 0 (by omega)
    rw [show (1 : Int) + ((0 : Nat) : Int) = 1 by omega, mx.one, my.one] at h1
    have hn : ¬ ((wst l2).n : Int) ≤ ((wst l).n : Int) := by omega
    have h7 := h 6 (by omega)
    rw [h70, h71] at h7
    by_cases hs : ((wst l).cnt.length : Int) ≤ 1 ∧ ((wst l2).cnt.length : Int) ≤ 1
    · rw [less2 hn hs.1 hs.2]
      apply decide_eq_true
      have : (1 : Int) + ((6 : Nat) : Int) = 7 := by omega
      rw [this] at h7
      omega
    · have ht7 := top_le lx ly
      have hloop : lessLoop l l2 (topOf l l2 + 1 - 2).toNat = true := by
        apply List.all_eq_true.mpr
        intro j hj
        have := List.mem_range.mp hj
        apply decide_eq_true
        have q := h (j + 1) (by omega)
        rw [show (1 : Int) + ((j + 1 : Nat) : Int) = 2 + (j : Int) by omega] at q
        exact q
      by_cases hc : ((wst l).cnt.length : Int) ≤ 1
      · rw [less3 hn (fun h2 => hs ⟨hc, h2⟩)]; exact hloop
      · rw [less4 hn hc]; exact hloop
theorem sizes_at {f : Int → Int} {tally : Int} {k : Nat} (hk : k < 8) : ((sizesOf tally).map f).getD k 0 = f (1 + (k : Int)) := by
  rcases lt8 hk with rfl | rfl | rfl | rfl | rfl | rfl | rfl | rfl <;> rfl
theorem sizes_last {f : Int → Int} {tally : Int} : ((sizesOf tally).map f).getD 8 0 = f (tally + 9) := rfl
theorem less_cols {x y : Str} (hx : Lead x) (hy : Lead y) {tally : Int} (ht : 0 ≤ tally) :
    lessOf x.cps.toList y.cps.toList = decide ((((List.range 9).filter fun k => decide (((sizesOf tally).map (colOf y.cps.toList)).getD k 0 ≤ ((sizesOf tally).map (colOf x.cps.toList)).getD k 0)).length : Int) = 0) := by
  have key : lessOf x.cps.toList y.cps.toList = true ↔ (((List.range 9).filter fun k => decide (((sizesOf tally).map (colOf y.cps.toList)).getD k 0 ≤ ((sizesOf tally).map (colOf x.cps.toList)).getD k 0)).length : Int) = 0 := by
    rw [less_iff hx hy]
    have e : ((((List.range 9).filter fun k => decide (((sizesOf tally).map (colOf y.cps.toList)).getD k 0 ≤ ((sizesOf tally).map (colOf x.cps.toList)).getD k 0)).length : Int) = 0) ↔ ∀ k : Nat, k < 9 → ((sizesOf tally).map (colOf x.cps.toList)).getD k 0 < ((sizesOf tally).map (colOf y.cps.toList)).getD k 0 := by
      rw [show ∀ n : Nat, ((n : Int) = 0) ↔ n = 0 from fun n => by omega, List.length_eq_zero_iff, List.filter_eq_nil_iff]
      simp only [List.mem_range, decide_eq_true_eq, Int.not_le]
    rw [e]
    constructor
    · intro h k hk
      by_cases h7 : k < 7
      · rw [sizes_at (by omega), sizes_at (by omega), ← level_col hx (by omega), ← level_col hy (by omega)]
        exact h k h7
      · have q := h 6 (by omega)
        rw [show (1 : Int) + ((6 : Nat) : Int) = 7 by omega, level_big (lead_len hx) (by omega), level_big (lead_len hy) (by omega)] at q
        have b2 := wst_bounds y.cps.toList
        have ly := lead_len hy
        have big : ∀ s : Int, 7 ≤ s → colOf x.cps.toList s < colOf y.cps.toList s := by
          intro s hs
          rw [← level_col hx (by omega), ← level_col hy (by omega), level_big (lead_len hx) hs, level_big (lead_len hy) hs]
          exact grow_lt (by omega) (by omega) q hs
        by_cases h8 : k < 8
        · rw [sizes_at h8, sizes_at h8]
          exact big _ (by omega)
        · have e8 : k = 8 := by omega
          subst e8
          rw [sizes_last, sizes_last]
          exact big _ (by omega)
    · intro h k hk
      have q := h k (by omega)
      rw [sizes_at (by omega), sizes_at (by omega), ← level_col hx (by omega), ← level_col hy (by omega)] at q
      exact q
  by_cases hc : lessOf x.cps.toList y.cps.toList = true
  · rw [hc, decide_eq_true (key.mp hc)]
  · rw [decide_eq_false (fun h => hc (key.mpr h))]
    exact Bool.eq_false_iff.mpr hc
end
section
open PySem PySem.W PyProof.Rows PySem.Spec PySem.Calls
/-- how the law's call ends, over the base without the tables -/
def LawEnd (cw : ClaimW) (cl : Str → Option Addr) (args : List WData) (s₁ : Shared) (tabs : List (Addr × Addr)) (r : Result) (s' : Shared) : Prop :=
  (∃ v d, r = .ok (.ret v) ∧ ReadsW cw.records cl s'.heap v d [] ∧ cw.post args d args = true) ∧ (∀ b o, (ghostOf s₁.heap tabs).get? b = some o → s'.heap.get? b = some o) ∧ s'.os = s₁.os ∧ AllBare s'.gens ∧ GrownAll tabs s'.heap
theorem law_post {M : Model} {A : Around} {cd : Code} {s s₁ : Shared} {cw : ClaimW} {cl : Str → Option Addr} {mean : ExcName → Option Value} {args : List WData} {tabs : List (Addr × Addr)} (hT : TabsAt tabs s₁.heap) (hr : ∀ a x, cw.raises a x = false)
    (h : codeAny M A cd (LawEnd cw cl args s₁ tabs) s) : codeAny M A cd (GoodWG cw cl mean args s₁) s := by
  refine codeAny_mono h fun r s' he => ?_
  obtain ⟨⟨v, d, r1, r3, r4⟩, hk, hos, hg, hgr⟩ := he
  refine ⟨.inl ⟨v, d, [], r1, hr _, r3, r4, fun _ => ⟨List.nodup_nil, fun _ h => nomatch h⟩⟩, ⟨fun b o e => ?_, fun b o e => ?_⟩, hos, hg⟩
  · by_cases hb : b ∈ tabs.map (·.2)
    · obtain ⟨q, hq, rfl⟩ := List.mem_map.mp hb
      have e2 := (hT q hq).2
      rw [e] at e2
      cases e2
      obtain ⟨ps, hP⟩ := hgr.get q hq
      exact .inr (.inl ⟨((hT q hq).1.tab (hT q hq).2).isCodeTable, rfl, #[], ps, rfl, by rw [Array.empty_append]; exact hP⟩)
    · exact .inl (hk b o (ghost_ne e hb))
  · by_cases hb : b ∈ tabs.map (·.2)
    · obtain ⟨q, hq, rfl⟩ := List.mem_map.mp hb
      obtain ⟨ps, hP⟩ := hgr.get q hq
      exact ⟨_, hP⟩
    · exact ⟨o, hk b o (ghost_ne e hb)⟩
theorem law_gen {M : Model} {A : Around} {cd : Code} {s s₁ : Shared} {cw : ClaimW} {cl : Str → Option Addr} {args : List WData} (hpost : cw.post args (.bool true) args = true)
    (h : ∀ LE : Result → Shared → Prop, (∀ (L : Addr) (s' : Shared) m' nx op, TabOk op → Fr (ghostOf s₁.heap [(86, 82)]) L s'.heap m' → News (ghostOf s₁.heap [(86, 82)]) L s'.heap nx → (82, op) ∈ nx → AllBare s'.gens → s'.os = s₁.os → LE (.ok (.ret (.bool true))) s') → codeAny M A cd LE s) :
    codeAny M A cd (LawEnd cw cl args s₁ [(86, 82)]) s :=
  h _ fun L s' m' nx op hop F9 N9 hm hG9 ho9 => by
    obtain ⟨ps, rfl, _⟩ := hop
    exact ⟨⟨_, _, rfl, .bool _, hpost⟩, F9.keep, ho9, hG9, ⟨ps, (N9 _ hm).1⟩, trivial⟩
end
section
open PySem PySem.W PyProof.Rows PyProof.V PySem.Spec PySem.Calls
section
variable {prog : Program} {w : World} {A : Around} {E : Value → Shared → Prop} {s : Shared} {env : Env} {h₀ : Heap} {x : Str} {body : List Stmt} {Q : Flow → Shared → Prop}
/-- a turn's end where generators may have been made and drained -/
def GEnd (h₀ : Heap) (L I : Addr) (o : Obj) (Jn : (Str → Option Value) → List (Addr × Obj) → Prop) (os : OsState) (Q : Flow → Shared → Prop) (f : Flow) (s' : Shared) : Prop :=
  match f with
  | .ret v => Q (.ret v) s'
  | .brk => Q .next s'
  | _ => ∃ m' nx, Fr h₀ L s'.heap m' ∧ News h₀ L s'.heap ((I, o) :: nx) ∧ (∀ p ∈ nx, p.1 ≠ I) ∧ AllBare s'.gens ∧ s'.os = os ∧ Jn m' nx
def LoopAtG (prog : Program) (w : World) (A : Around) (h₀ : Heap) (env : Env) (x : Str) (body : List Stmt) (Q : Flow → Shared → Prop) (E : Value → Shared → Prop) (it : Value) (s₂ : Shared) : Prop :=
  ∃ (I : Addr) (n : Nat) (a : Int) (m : Str → Option Value) (news : List (Addr × Obj)) (J : Nat → (Str → Option Value) → List (Addr × Obj) → Prop),
    it = .ref I ∧ A.handled = none ∧ IsRangeIter s₂.heap I a (n : Int) 1 ∧ env.locals ≠ I ∧ h₀.get? I = none ∧ (∀ p ∈ news, p.1 ≠ I) ∧ Fr h₀ env.locals s₂.heap m ∧ News h₀ env.locals s₂.heap news ∧ AllBare s₂.gens ∧ J 0 m news ∧
    (∀ i t s₁ m₁ nx o, i < n → J i m₁ nx → (∀ p ∈ nx, p.1 ≠ I) → AllBare s₁.gens → s₁.os = s₂.os → Fr h₀ env.locals s₁.heap (fun y => if y = x then some (.int (a + (i : Int)) t) else m₁ y) → News h₀ env.locals s₁.heap ((I, o) :: nx) →
      wpAny (model prog w) A (execs body env) (GEnd h₀ env.locals I o (J (i + 1)) s₂.os Q) E s₁) ∧
    ∀ s' m' nx, AllBare s'.gens → s'.os = s₂.os → Fr h₀ env.locals s'.heap m' → News h₀ env.locals s'.heap nx → J n m' nx → Q .next s'
theorem LoopAtG.elim {prog : Program} {w : World} {A : Around} {h₀ : Heap} {env : Env} {x : Str} {body : List Stmt} {Q : Flow → Shared → Prop} {E : Value → Shared → Prop} {it : Value} {s₂ : Shared} {G : Prop} (X : LoopAtG prog w A h₀ env x body Q E it s₂)
    (k : ∀ (I : Addr) (n : Nat) (a : Int) (m : Str → Option Value) (news : List (Addr × Obj)) (J : Nat → (Str → Option Value) → List (Addr × Obj) → Prop),
      (it = .ref I) →
      (A.handled = none) →
      (IsRangeIter s₂.heap I a (n : Int) 1) →
      (env.locals ≠ I) →
      (h₀.get? I = none) →
      ((∀ p ∈ news, p.1 ≠ I)) →
      (Fr h₀ env.locals s₂.heap m) →
      (News h₀ env.locals s₂.heap news) →
      (AllBare s₂.gens) →
      (J 0 m news) →
      ((∀ i t s₁ m₁ nx o, i < n → J i m₁ nx → (∀ p ∈ nx, p.1 ≠ I) → AllBare s₁.gens → s₁.os = s₂.os → Fr h₀ env.locals s₁.heap (fun y => if y = x then some (.int (a + (i : Int)) t) else m₁ y) → News h₀ env.locals s₁.heap ((I, o) :: nx) →       wpAny (model prog w) A (execs body env) (GEnd h₀ env.locals I o (J (i + 1)) s₂.os Q) E s₁)) →
      (∀ s' m' nx, AllBare s'.gens → s'.os = s₂.os → Fr h₀ env.locals s'.heap m' → News h₀ env.locals s'.heap nx → J n m' nx → Q .next s') → G) : G := by
  obtain ⟨I, n, a, m, news, J, h0, h1, h2, h3, h4, h5, h6, h7, h8, h9, h10, h11⟩ := X
  exact k I n a m news J h0 h1 h2 h3 h4 h5 h6 h7 h8 h9 h10 h11

theorem forG {px pos : Pos} {iter : Expr} {m : Str → Option Value} (_F : Fr h₀ env.locals s.heap m) (hx : env.kindOf x = some .local)
    (hp : (env.scope.kind == .class || (env.scope.kind == .module && env.locals != env.globals)) = false)
    (h : wpAny (model prog w) A (eval iter env) (fun xv s₁ => wpAny (model prog w) A (pyIter xv) (fun it s₂ => LoopAtG prog w A h₀ env x body Q E it s₂) E s₁) E s)
    (hs : ∀ x, foldedSetIterable iter env x = pure x := by intro _; rfl)
    (hE : PassesOwn (model prog w) A env E := by passes_own) :
    wpAny (model prog w) A (exec (.For (.Name x px) iter body [] pos) env) Q E s := by
  refine wpAny_For (wpAny_mono h (fun xv s₁ h₁ => wpAny_mono h₁ (fun it s₂ h₂ => ?_) fun _ _ e => e) fun _ _ e => e) hs
  refine LoopAtG.elim h₂ ?_
  intro I n a m news J eI hh hst hLI hI0 hnw F N hG h0 step hQ
  subst eI
  clear h₂
  have W : Walks prog w A I [I] [I] n (fun i v => i < n ∧ ∃ t, v = .int (a + i * 1) t) (fun i h => IsRangeIter h I (a + (i : Nat) * 1) ((n : Int) - (i : Nat)) 1) := (Walks.range hh _ a 1 n).bound
  refine codeAny_forLoop (R := fun r s' => match r with | .ok f => Q f s' | .error e => cameBackBy (model prog w) A env E e s')
    (fun k s' => ∃ m' nx i, AllBare s'.gens ∧ s'.os = s₂.os ∧ IsRangeIter s'.heap I (a + (i : Nat) * 1) ((n : Int) - (i : Nat)) 1 ∧ Fr h₀ env.locals s'.heap m' ∧ News h₀ env.locals s'.heap nx ∧ (∀ p ∈ nx, p.1 ≠ I) ∧ J i m' nx ∧ i ≤ n ∧ k = n + 1 - i) ?_ (n + 1)
    ⟨m, news, 0, hG, rfl, by simpa using hst, F, N, hnw, h0, Nat.zero_le _, rfl⟩
  rintro k s' ⟨m', nx, i, hG', ho', hst', F', N', hnw', hJ, hi, rfl⟩
  have next : ∀ h₁ : Heap, (∀ b o, b ∉ [I] → s'.heap.get? b = some o → h₁.get? b = some o) → Fr h₀ env.locals h₁ m' ∧ News h₀ env.locals h₁ nx := fun h₁ hk₁ =>
    ⟨⟨F'.ns.at' fun o e => hk₁ _ o (fun hm => hLI (List.mem_singleton.mp hm)) e, fun b o e => hk₁ b o (fun hm => by rw [List.mem_singleton.mp hm, hI0] at e; cases e) (F'.keep b o e), F'.above⟩, fun p hp => ⟨hk₁ _ _ (fun hm => hnw' p hp (List.mem_singleton.mp hm)) (N' p hp).1, (N' p hp).2⟩⟩
  by_cases hlt : i < n
  · refine W.item i _ _ _ hlt hst' fun v h₁ tk₁ hP hst₁ hk₁ => ?_
    obtain ⟨_, t, rfl⟩ := hP
    obtain ⟨F₁, N₁⟩ := next h₁ hk₁
    refine wpAny_assign_Name (wpAny_storeName_local hx F₁.ns (fun h₂ hn₂ hs₂ => ?_) hp)
    have F₂ := F₁.set hn₂ hs₂
    obtain ⟨o, hIo⟩ : ∃ o, o = ({ cls := .type "range_iterator", data := .fields #[rawInt (a + ((i + 1 : Nat) : Int) * 1), rawInt ((n : Int) - ((i + 1 : Nat) : Int)), rawInt 1] } : Obj) := ⟨_, rfl⟩
    have hst₂ : h₂.get? I = some o := by
      rw [hIo]
      exact W.frame _ _ _ hst₁ fun b hb o e => (hs₂.2 b fun q => hLI (q ▸ (List.mem_singleton.mp hb))).trans e
    have N₂ : News h₀ env.locals h₂ ((I, o) :: nx) := fun p hp => by
      rcases List.mem_cons.mp hp with rfl | hp
      · exact ⟨hst₂, fun e => hLI e.symm, hI0⟩
      · exact (N₁.set hs₂) p hp
    rw [Int.mul_one] at F₂
    refine wpAny_mono (wpAny_passesOwn hE (step i t _ m' nx o hlt hJ hnw' hG' ho' F₂ N₂)) (fun f s₃ h₃ => ?_) fun _ _ e => e
    have fin : (∃ m' nx, Fr h₀ env.locals s₃.heap m' ∧ News h₀ env.locals s₃.heap ((I, o) :: nx) ∧ (∀ p ∈ nx, p.1 ≠ I) ∧ AllBare s₃.gens ∧ s₃.os = s₂.os ∧ J (i + 1) m' nx) →
        ∃ j, j < n + 1 - i ∧ ∃ m' nx i, AllBare s₃.gens ∧ s₃.os = s₂.os ∧ IsRangeIter s₃.heap I (a + (i : Nat) * 1) ((n : Int) - (i : Nat)) 1 ∧ Fr h₀ env.locals s₃.heap m' ∧ News h₀ env.locals s₃.heap nx ∧ (∀ p ∈ nx, p.1 ≠ I) ∧ J i m' nx ∧ i ≤ n ∧ j = n + 1 - i := by
      rintro ⟨m₄, n₄, F₄, N₄, of₄, g₄, o₄, j₄⟩
      refine ⟨n + 1 - (i + 1), by omega, m₄, n₄, i + 1, g₄, o₄, ?_, F₄, fun p hp => N₄ p (.tail _ hp), of₄, j₄, hlt, rfl⟩
      have := (N₄ (I, o) (.head _)).1
      rw [hIo] at this
      exact this
    cases f with
    | ret v => exact h₃
    | brk => exact h₃
    | cont => exact fin h₃
    | next => exact fin h₃
  · have hin : i = n := by omega
    subst hin
    refine W.done _ _ _ hst' fun h₁ tk₁ hk₁ => wpAny_execs_nil ?_
    obtain ⟨F₁, N₁⟩ := next h₁ hk₁
    exact hQ _ m' nx hG' ho' F₁ N₁ hJ
theorem rangeG {r : Addr} {a₀ b₀ : Int} {t₀ u₀ v₀ : Tok} {n : Nat} {m₀ : Str → Option Value} {news : List (Addr × Obj)} (J : Nat → (Str → Option Value) → List (Addr × Obj) → Prop)
    (hh : A.handled = none) (hr : IsRange s.heap r a₀ b₀ 1 t₀ u₀ v₀) (hsmall : Builtin.Range.small a₀ b₀ 1 = true) (hn : Builtin.Range.rangeSize a₀ b₀ 1 = (n : Int)) (F : Fr h₀ env.locals s.heap m₀) (N : News h₀ env.locals s.heap news) (hG : AllBare s.gens) (hj : J 0 m₀ news)
    (turn : ∀ i t s₁ m₁ nx I o, i < n → J i m₁ nx → (∀ p ∈ news, p.1 < I) → (∀ p ∈ nx, p.1 ≠ I) → AllBare s₁.gens → s₁.os = s.os → Fr h₀ env.locals s₁.heap (fun y => if y = x then some (.int (a₀ + (i : Int)) t) else m₁ y) → News h₀ env.locals s₁.heap ((I, o) :: nx) →
      wpAny (model prog w) A (execs body env) (GEnd h₀ env.locals I o (J (i + 1)) s.os Q) E s₁)
    (done : ∀ s' m' nx, AllBare s'.gens → s'.os = s.os → Fr h₀ env.locals s'.heap m' → News h₀ env.locals s'.heap nx → J n m' nx → Q .next s') :
    wpAny (model prog w) A (pyIter (.ref r)) (fun it s₂ => LoopAtG prog w A h₀ env x body Q E it s₂) E s := by
  refine wpAny_pyIter_range hr hsmall ?_
  have hlt : ∀ p ∈ news, p.1 < s.heap.objs.size := fun p hp => Heap.lt_size (N p hp).1
  refine ⟨s.heap.objs.size, n, a₀, m₀, news, J, rfl, hh, (by show IsRangeIter _ _ _ _ _; rw [hn]; exact Heap.get?_push_size _ rfl), Nat.ne_of_lt F.ns.lt, next_is_new F, (fun p hp => Nat.ne_of_lt (hlt p hp)), F.push _, (fun p hp => ⟨Heap.get?_push_of_some _ (N p hp).1, (N p hp).2⟩), hG, hj, ?_, done⟩
  intro i t s₁ m₁ nx o hi hJ hne g1 o1 F₁ N₁
  exact turn i t s₁ m₁ nx _ o hi hJ hlt hne g1 o1 F₁ N₁
end
/-- a made list, place by place -/
def Lst (P : Nat → Value → Prop) (ys : List Value) (i : Nat) : Prop := ys.length = i ∧ ∀ j, j < i → ∃ v, ys[j]? = some v ∧ P j v
theorem Lst.nil {P : Nat → Value → Prop} : Lst P [] 0 := ⟨rfl, fun _ h => absurd h (Nat.not_lt_zero _)⟩
theorem Lst.snoc {P : Nat → Value → Prop} {ys : List Value} {i : Nat} {v : Value} (h : Lst P ys i) (hv : P i v) : Lst P (ys ++ [v]) (i + 1) := by
  refine ⟨by rw [List.length_append, h.1]; rfl, fun j hj => ?_⟩
  by_cases hl : j < i
  · obtain ⟨u, hu, hp⟩ := h.2 j hl
    exact ⟨u, by rw [List.getElem?_append_left (by rw [h.1]; exact hl)]; exact hu, hp⟩
  · have e : j = i := by omega
    subst e
    exact ⟨v, by rw [List.getElem?_append_right (by rw [h.1]; exact Nat.le_refl _), h.1, Nat.sub_self]; rfl, hv⟩
theorem Lst.mono {P P' : Nat → Value → Prop} {ys : List Value} {i : Nat} (h : Lst P ys i) (hp : ∀ j v, P j v → P' j v) : Lst P' ys i :=
  ⟨h.1, fun j hj => let ⟨v, hv, q⟩ := h.2 j hj; ⟨v, hv, hp j v q⟩⟩
theorem Lst.get {P : Nat → Value → Prop} {ys : List Value} {n i : Nat} {v : Value} (h : Lst P ys n) (hv : ys[i]? = some v) : P i v := by
  have hi : i < n := by rw [← h.1]; exact (List.getElem?_eq_some_iff.mp hv).1
  obtain ⟨u, hu, hp⟩ := h.2 i hi
  rw [hv] at hu
  cases hu
  exact hp
theorem Lst.of {ψ : Nat → Tok → Value} {ys : List Value} {n i : Nat} {G : Prop} (h : Lst (fun j v => ∃ t, v = ψ j t) ys n) (hi : i < n) (k : ∀ t, ys[i]? = some (ψ i t) → G) : G := by
  obtain ⟨_, hv, t, rfl⟩ := h.2 i hi
  exact k t hv
theorem Lst.ref {ψ : Nat → Addr → Prop} {ys : List Value} {n i : Nat} {G : Prop} (h : Lst (fun j v => ∃ x, v = .ref x ∧ ψ j x) ys n) (hi : i < n) (k : ∀ x, ys[i]? = some (.ref x) → ψ i x → G) : G := by
  obtain ⟨_, hv, x, rfl, q⟩ := h.2 i hi
  exact k x hv q
theorem Lst.refs {ψ : Nat → Addr → List Value → Prop} {χ : Nat → List Value → Prop} {ys : List Value} {n i : Nat} {G : Prop} (h : Lst (fun j v => ∃ x vs, v = .ref x ∧ ψ j x vs ∧ χ j vs) ys n) (hi : i < n) (k : ∀ x vs, ys[i]? = some (.ref x) → ψ i x vs → χ i vs → G) : G := by
  obtain ⟨_, hv, x, vs, rfl, q, q2⟩ := h.2 i hi
  exact k x vs hv q q2
section
variable {prog : Program} {w : World} {A : Around} {E : Value → Shared → Prop} {s : Shared} {env : Env} {h₀ : Heap} {x z : Str} {body : List Stmt} {Q : Flow → Shared → Prop}
/-- a turn's end: two names turned, the table grown -/
def PEnd (h₀ : Heap) (L I : Addr) (o : Obj) (R : List (Addr × Obj)) (x z : Str) (m₀ : Str → Option Value) (os : OsState) (f : Flow) (s' : Shared) : Prop :=
  f = .next ∧ ∃ m' op', TabOk op' ∧ (∀ y, y ≠ x → y ≠ z → m' y = m₀ y) ∧ Fr h₀ L s'.heap m' ∧ News h₀ L s'.heap ((I, o) :: (82, op') :: R) ∧ AllBare s'.gens ∧ s'.os = os
theorem PEnd.next {L I : Addr} {o : Obj} {R nx : List (Addr × Obj)} {m₀ m' : Str → Option Value} {os : OsState} {s' : Shared} {op' : Obj} (hop : TabOk op') (F : Fr h₀ L s'.heap m') (hm : ∀ y, y ≠ x → y ≠ z → m' y = m₀ y) (N : News h₀ L s'.heap nx) (hs : ∀ p ∈ (I, o) :: (82, op') :: R, p ∈ nx) (hG : AllBare s'.gens) (ho : s'.os = os) :
    PEnd h₀ L I o R x z m₀ os .next s' := ⟨rfl, m', op', hop, hm, F, fun p hp => N p (hs p hp), hG, ho⟩
theorem rangeP {r : Addr} {a₀ b₀ : Int} {t₀ u₀ v₀ : Tok} {n : Nat} {m₀ : Str → Option Value} {R : List (Addr × Obj)} {op : Obj} (z : Str)
    (hh : A.handled = none) (hr : IsRange s.heap r a₀ b₀ 1 t₀ u₀ v₀) (hsmall : Builtin.Range.small a₀ b₀ 1 = true) (hn : Builtin.Range.rangeSize a₀ b₀ 1 = (n : Int)) (F : Fr h₀ env.locals s.heap m₀) (N : News h₀ env.locals s.heap ((82, op) :: R)) (hop : TabOk op) (hG : AllBare s.gens)
    (turn : ∀ i t s₁ I o op₁ v (E' : Value → Shared → Prop), i < n → TabOk op₁ → (∀ p ∈ R, p.1 < I) → @LT.lt Nat _ 82 I → AllBare s₁.gens → s₁.os = s.os → Fr h₀ env.locals s₁.heap (fun y => if y = x then some (.int (a₀ + (i : Int)) t) else if y = z then v else m₀ y) → News h₀ env.locals s₁.heap ((I, o) :: (82, op₁) :: R) →
      wpAny (model prog w) A (execs body env) (PEnd h₀ env.locals I o R x z m₀ s.os) E' s₁)
    (done : ∀ s' v u op', TabOk op' → AllBare s'.gens → s'.os = s.os → Fr h₀ env.locals s'.heap (fun y => if y = x then v else if y = z then u else m₀ y) → News h₀ env.locals s'.heap ((82, op') :: R) → Q .next s') :
    wpAny (model prog w) A (pyIter (.ref r)) (fun it s₂ => LoopAtG prog w A h₀ env x body Q E it s₂) E s := by
  refine rangeG (fun _ m nx => (∀ y, y ≠ x → y ≠ z → m y = m₀ y) ∧ ∃ op', TabOk op' ∧ nx = (82, op') :: R) hh hr hsmall hn F N hG ⟨fun _ _ _ => rfl, op, hop, rfl⟩ ?_ ?_
  · rintro i t s₁ m₁ nx I o hi ⟨hm, op₁, hop₁, rfl⟩ hlt hne g1 o1 F₁ N₁
    have e : (fun y => if y = x then some (Value.int (a₀ + (i : Int)) t) else m₁ y) = (fun y => if y = x then some (Value.int (a₀ + (i : Int)) t) else if y = z then m₁ z else m₀ y) := by
      funext y
      by_cases h1 : y = x
      · simp only [if_pos h1]
      · by_cases h2 : y = z
        · subst h2; simp only [if_neg h1, if_true]
        · simp only [if_neg h1, if_neg h2]; exact hm y h1 h2
    rw [e] at F₁
    refine wpAny_mono (turn i t s₁ I o op₁ (m₁ z) _ hi hop₁ (fun p hp => hlt p (.tail _ hp)) (hlt (82, op) (.head _)) g1 o1 F₁ N₁) (fun f s' hf => ?_) fun _ _ e => e
    have fin : (∃ m' op', TabOk op' ∧ (∀ y, y ≠ x → y ≠ z → m' y = m₀ y) ∧ Fr h₀ env.locals s'.heap m' ∧ News h₀ env.locals s'.heap ((I, o) :: (82, op') :: R) ∧ AllBare s'.gens ∧ s'.os = s.os) →
        ∃ m' nx, Fr h₀ env.locals s'.heap m' ∧ News h₀ env.locals s'.heap ((I, o) :: nx) ∧ (∀ p ∈ nx, p.1 ≠ I) ∧ AllBare s'.gens ∧ s'.os = s.os ∧ (∀ y, y ≠ x → y ≠ z → m' y = m₀ y) ∧ ∃ op', TabOk op' ∧ nx = (82, op') :: R := by
      rintro ⟨m', op', q1, q2, q3, q4, q5, q6⟩
      refine ⟨m', _, q3, q4, fun p hp => ?_, q5, q6, q2, op', q1, rfl⟩
      rcases List.mem_cons.mp hp with rfl | hp
      · exact Nat.ne_of_lt (hlt (82, op) (.head _))
      · exact Nat.ne_of_lt (hlt p (.tail _ hp))
    obtain ⟨rfl, hf⟩ := hf
    exact fin hf
  · rintro s' m' nx g1 o1 F₁ N₁ ⟨hm, op', hop', rfl⟩
    refine done s' (m' x) (m' z) op' hop' g1 o1 ?_ N₁
    have e : m' = (fun y => if y = x then m' x else if y = z then m' z else m₀ y) := by
      funext y
      by_cases h1 : y = x
      · subst h1; simp only [if_true]
      · by_cases h2 : y = z
        · subst h2; simp only [if_neg h1, if_true]
        · simp only [if_neg h1, if_neg h2]; exact hm y h1 h2
    rw [← e]
    exact F₁
end
end
section
open PySem PySem.W PyProof.Rows
def chk4 (l : List Nat) : Bool := decide ((turnOf ⟨l.toArray⟩).cps.toList.length ≤ 6) && (turnOf ⟨l.toArray⟩).cps.toList.all fun c => decide (c = 9) || decide (c = 32)
theorem chk4_all : allLeads.all chk4 = true := by decide +kernel
theorem lead_turn {x : Str} (h : Lead x) : Lead (turnOf x) := by
  have q := lead_all chk4_all h
  simp only [chk4, str_eta, Bool.and_eq_true, List.all_eq_true, decide_eq_true_eq, Bool.or_eq_true] at q
  exact ⟨by have := q.1; rw [Array.length_toList] at this; exact this, fun c hc => q.2 c hc⟩
def tailsL : List Str := [Str.ofString "", Str.ofString "x", Str.ofString "x \t", Str.ofString "\n\t", Str.ofString "\x0c ", Str.ofString "\r", Str.ofString "\u00a0 ", Str.ofString "\x0b\t"]
def tailOk (t : Str) : Bool := decide (t.cps.toList.length ≤ 3) && (match t.cps.toList.head? with | some c => decide (c ≠ 9) && decide (c ≠ 32) | none => true)
theorem tails_ok : tailsL.all tailOk = true := by decide +kernel
theorem tail_facts {t : Str} (h : t ∈ tailsL) : t.length ≤ 3 ∧ ∀ c, t.cps.toList.head? = some c → c ≠ 9 ∧ c ≠ 32 := by
  have q := List.all_eq_true.mp tails_ok t h
  unfold tailOk at q
  rw [Bool.and_eq_true] at q
  refine ⟨by have := of_decide_eq_true q.1; rw [Array.length_toList] at this; exact this, fun c hc => ?_⟩
  have q2 := q.2
  rw [hc] at q2
  simpa using q2
/-- the three indents -/
def ldOf (f g : Str) : Nat → Str
  | 0 => f
  | 1 => g
  | _ => turnOf f
theorem ldOf_lead {f g : Str} (hf : Lead f) (hg : Lead g) (i : Nat) : Lead (ldOf f g i) := by
  match i with
  | 0 => exact hf
  | 1 => exact hg
  | _ + 2 => exact lead_turn hf
def tlOf (tally : Int) (i : Nat) : Str := tailsL.getD ((tally.fdiv (8 ^ i)).fmod 8).toNat (Str.ofString "")
theorem tlOf_mem (tally : Int) (i : Nat) : tlOf tally i ∈ tailsL := by
  have h0 := Int.fmod_nonneg_of_pos (tally.fdiv (8 ^ i)) (show (0 : Int) < 8 by decide)
  have h1 := Int.fmod_lt_of_pos (tally.fdiv (8 ^ i)) (show (0 : Int) < 8 by decide)
  have hl : ((tally.fdiv (8 ^ i)).fmod 8).toNat < tailsL.length := by show _ < 8; omega
  rw [tlOf, List.getD_eq_getElem?_getD, List.getElem?_eq_getElem hl]
  exact List.getElem_mem hl
def txOf (f g : Str) (tally : Int) (i : Nat) : Str := ldOf f g i ++ tlOf tally i
theorem txOf_len {f g : Str} (hf : Lead f) (hg : Lead g) (tally : Int) (i : Nat) : (txOf f g tally i).length ≤ 10 := by
  have h1 := (ldOf_lead hf hg i).len
  have h2 := (tail_facts (tlOf_mem tally i)).1
  rw [txOf, Str.length_append]
  omega
theorem tails_at {t0 t1 t2 t3 t4 t5 t6 t7 : Tok} {k : Int} (h0 : 0 ≤ k) (h8 : k < 8) :
    ∃ t, ([.str (Str.ofString "") t0, .str (Str.ofString "x") t1, .str (Str.ofString "x \t") t2, .str (Str.ofString "\n\t") t3, .str (Str.ofString "\x0c ") t4, .str (Str.ofString "\r") t5, .str (Str.ofString "\u00a0 ") t6, .str (Str.ofString "\x0b\t") t7] : List Value)[k.toNat]? = some (.str (tailsL.getD k.toNat (Str.ofString "")) t) := by
  obtain ⟨n, rfl⟩ := Int.eq_ofNat_of_zero_le h0
  rcases lt8 (Int.ofNat_lt.mp h8) with rfl | rfl | rfl | rfl | rfl | rfl | rfl | rfl <;> exact ⟨_, rfl⟩
theorem sizes_level {x : Str} (h : Lead x) {tally : Int} {k : Nat} (hk : k < 7) : ((sizesOf tally).map (colOf x.cps.toList))[k]? = some (levelOf x.cps.toList (1 + (k : Int))) := by
  rw [level_col h (by omega)]
  rcases lt8 (Nat.lt_succ_of_lt hk) with rfl | rfl | rfl | rfl | rfl | rfl | rfl | rfl
  all_goals first | exact absurd hk (by decide) | rfl
theorem sizes_bounds {tally : Int} (h0 : 0 ≤ tally) (h1 : tally < 1000000) : ∀ z ∈ sizesOf tally, 1 ≤ z ∧ z ≤ 2000000 := by
  have hl : 1 ≤ tally + 9 ∧ tally + 9 ≤ 2000000 := by omega
  exact List.forall_mem_cons.mpr ⟨by decide, List.forall_mem_cons.mpr ⟨by decide, List.forall_mem_cons.mpr ⟨by decide, List.forall_mem_cons.mpr ⟨by decide, List.forall_mem_cons.mpr ⟨by decide, List.forall_mem_cons.mpr ⟨by decide, List.forall_mem_cons.mpr ⟨by decide, List.forall_mem_cons.mpr ⟨by decide, List.forall_mem_cons.mpr ⟨hl, fun _ h => nomatch h⟩⟩⟩⟩⟩⟩⟩⟩⟩
theorem txOf_cps (f g : Str) (tally : Int) (i : Nat) : (txOf f g tally i).cps.toList = (ldOf f g i).cps.toList ++ (tlOf tally i).cps.toList := by rw [txOf, Str.cps_append]; simp
end
section
open PySem PySem.W PyProof.Rows PySem.Spec PySem.Calls
local macro_rules | `(tactic| k_all) => `(tactic| assumption)
section
open PySem PySem.W PyProof.Rows PySem.Spec PySem.Calls
theorem ints_snoc {ys : List Value} {l : List Int} {i : Nat} {k : Int} {t : Tok} (h : IntsAre ys (l.take i)) (hk : l[i]? = some k) : IntsAre (ys ++ [.int k t]) (l.take (i + 1)) := by
  rw [List.take_add_one, hk]
  exact IntsAre.append h (.cons k t .nil)
section
variable {prog : Program} {w : World} {A : Around} {E : Value → Shared → Prop} {s : Shared} {h₀ : Heap} {L : Addr} {news : List (Addr × Obj)}
theorem normNo {nm ct nm2 ct2 : Addr} {b b2 : Int} {t t2 : Tok} {vs vs2 : List Value} {ns ns2 : List Int} {Q : Value → Shared → Prop} (N : News h₀ L s.heap news) (m3 : (nm, tupO #[.ref ct, .int b t]) ∈ news) (m4 : (ct, tupO vs.toArray) ∈ news) (hi : IntsAre vs ns)
    (m3' : (nm2, tupO #[.ref ct2, .int b2 t2]) ∈ news) (m4' : (ct2, tupO vs2.toArray) ∈ news) (hi' : IntsAre vs2 ns2) (hn : ns = ns2) (hb : b = b2) (hu : A.units + 64 < cLine)
    (h : Q (.bool false) s) : wpAny (model prog w) A (compareOp .NotEq (.ref nm) (.ref nm2)) Q E s :=
  normNe N m3 m4 hi m3' m4' hi' hu (by rw [decide_eq_true ⟨hn, hb⟩]; exact h)
end
theorem filter_take_yes {l : List Int} {p : Int → Bool} {j : Nat} {r : Int} (h : l[j]? = some r) (hp : p r = true) : (l.take (j + 1)).filter p = (l.take j).filter p ++ [r] := by
  rw [List.take_add_one, h, List.filter_append]
  simp [hp]
theorem filter_take_no {l : List Int} {p : Int → Bool} {j : Nat} {r : Int} (h : l[j]? = some r) (hp : p r = false) : (l.take (j + 1)).filter p = (l.take j).filter p := by
  rw [List.take_add_one, h, List.filter_append]
  simp [hp]
theorem ints_range_snoc {zs : List Value} {f : Nat → Int} {i : Nat} {t : Tok} (h : IntsAre zs ((List.range i).map f)) : IntsAre (zs ++ [.int (f i) t]) ((List.range (i + 1)).map f) := by
  rw [List.range_succ, List.map_append]
  exact IntsAre.append h (.cons (f i) t .nil)
def MidOf (g : Heap) (L : Addr) (m3 : Str → Option Value) (led : List (Addr × Obj)) (cnt : List Int) (s : Shared) (f : Flow) (s' : Shared) : Prop :=
  f = .next ∧ ∃ D zs nz h tk, s' = { s with heap := h, toks := tk } ∧ Fr g L h (fun y => if y = Str.ofString "counts" then some (.ref D) else m3 y) ∧ News g L h ((D, W.listOf zs.toArray nz) :: led) ∧ IntsAre zs cnt
theorem cut_if {M : Model} {A : Around} {g : Heap} {L : Addr} {m3 : Str → Option Value} {s : Shared} {t : Sem Flow} {Q : Flow → Shared → Prop} {E : Value → Shared → Prop} (_F : Fr g L s.heap m3) (led : List (Addr × Obj)) (cnt : List Int)
    (h1 : wpAny M A t (MidOf g L m3 led cnt s) E s) (h2 : ∀ f s', MidOf g L m3 led cnt s f s' → Q f s') : wpAny M A t Q E s := wpAny_mono h1 h2 fun _ _ e => e
theorem mid_same {m3 : Str → Option Value} {x : Str} {v : Value} (h : m3 x = some v) : (fun y => if y = x then some v else m3 y) = m3 := by
  funext y
  by_cases e : y = x
  · subst e; simp [h]
  · simp [e]
theorem counts_nil {R : List Int} (h : ¬ 0 < R.length) : countsOf R = [] := by
  cases R with
  | nil => rfl
  | cons a l => simp at h
theorem counts_cons {R : List Int} {M : Int} (hm : M ∈ R) (hb : ∀ a ∈ R, a ≤ M) : countsOf R = (List.range (M + 1 - 0).toNat).map fun (k : Nat) => ((R.filter fun r => decide (r = (k : Int))).length : Int) := by
  rw [countsOf, if_neg (List.ne_nil_of_mem hm), listMax_eq hm hb, Int.sub_zero]
set_option maxRecDepth 100000 in
set_option maxHeartbeats 8000000 in
theorem mem_c (w : World) (news) (x : Addr) (text lead : Str) (t1 t2 : Tok) (sz co : Addr) (svs cvs : List Value) (n1 n2 : Nat) (sizes cols : List Int) (hW : WsIn w news x text lead.cps.toList) (hL : Lead lead) (hlt : text.length ≤ 10) (ms : (sz, W.listOf svs.toArray n1) ∈ news) (mc : (co, W.listOf cvs.toArray n2) ∈ news) (hsz : IntsAre svs sizes) (hco : IntsAre cvs cols) (hsl : sizes.length ≤ 9) (hszb : ∀ z ∈ sizes, 1 ≤ z ∧ z ≤ 2000000) (hcols : cols = sizes.map (colOf lead.cps.toList)) (hlev : ∀ z ∈ sizes, levelOf lead.cps.toList z = colOf lead.cps.toList z) : Ct 2 w 120 news [.ref x, .str text t1, .str lead t2, .ref sz, .ref co] (fun r tl => tl = [] ∧ r = .bool true) := by
  unfold Ct
  w_on
  k_fill
  intro p₀ lo₀ mean mg mb dp un gd cn cs a ccd cl outer A₀ base h₀ L m s Q E B F X N T hk hd' hu' hret
  refine WsIn.elim hW ?_
  intro d nm ct vs k1 k2 k3 k4 k5 u1 u2 u3 u4 M1 M2 M3 M4 hI hl6
  have hll := hL.len
  refine wpAny_call ?_
  k_dflt (refine' code_defC ?k1 ?k2 ?k3 ?k4 ?k5 ?kA ?kF ?kK ?k6 ?k7 ?k8 ?k9 ?kB ?kD ?_ ?c2 ?c3 ?c4; (case kA => exact rfl); (case kF => exact rfl); (case kK => assumption); (case k1 => k_asm); (case k2 => k_asm); (case k3 => k_asm); (case k4 => k_asm); (case k5 => k_asm); (case k6 => k_is); (case k7 => k_is); (case k8 => ktr_room); (case k9 => exact BindsTo.of_eq rfl); (case kB => exact rfl); (case kD => decide +kernel); (case c2 => exact rfl); (case c3 => exact rfl); (case c4 => exact rfl); k_whole; intro g' L' h' tk' cells' FG' F' N' Y' B' X' T' l1; (try k_lt l1); k_cells Y'; (try simp only [List.cons_append, List.nil_append] at N'); (try dsimp only); (try k_lift B'); (try k_fold))
  refine wpAny_mono (E := fun _ _ => False) ?_ (fun _ _ h => h) (fun _ _ h => h.elim)
  have kM : KstMark := kstMark
  repeat' (fail_if_success (with_reducible show wpAny _ _ (pyIter _) _ _ _)); (fail_if_success (with_reducible show LCg.CompSrc _ _ _ _ _ _ _ _ _ _ _ _ _ _)); (fail_if_success (with_reducible show LCt.CompSrcT _ _ _ _ _ _ _ _ _ _ _ _ _ _ _)); first | (k_unfold; (try dsimp only)) | (k_here; (try (dsimp only [List.cons_append, List.nil_append, List.append_nil])); (with_reducible show wpAny _ _ (call (Value.ref 38) [Value.ref _]) _ _ _); k_dflt (refine' Ct.useV (longest_c _ _ _ _ _ ?kW) ?k1 ?k2 ?k3 ?k4 ?k5 ?kK ?kd ?ku ?_; (case k1 => k_asm); (case k2 => k_asm); (case k3 => k_asm); (case k4 => k_asm); (case k5 => k_asm); (case kK => first | exact rfl | assumption); (case kd => ktr_room); (case ku => ktr_units); (case kW => first | assumption | exact WsIn.mono (by assumption) (by intro p hp; kst_mem)); k_whole); intro t9 h9 tk9 F9 N9; (try dsimp only); (try k_fold)) | (k_here; (try (dsimp only [List.cons_append, List.nil_append, List.append_nil])); (with_reducible show wpAny _ _ (call (Value.ref 45) [Value.ref _, Value.int _ _]) _ _ _); k_dflt (refine' Ct.useV (level_c _ _ _ _ _ _ _ ?kA ?kB ?kW) ?k1 ?k2 ?k3 ?k4 ?k5 ?kK ?kd ?ku ?_; (case k1 => k_asm); (case k2 => k_asm); (case k3 => k_asm); (case k4 => k_asm); (case k5 => k_asm); (case kK => first | exact rfl | assumption); (case kd => ktr_room); (case ku => ktr_units); (case kW => first | assumption | exact WsIn.mono (by assumption) (by intro p hp; kst_mem)); (case kA => omega); (case kB => omega); k_whole); intro t9 h9 tk9 F9 N9; (try dsimp only); (try k_fold)) | (k_here; (with_reducible show wpAny _ _ (call (Value.builtin "len") [Value.ref _]) _ _ _); k_dflt (refine' lenL ?k1 ?k2 ?k3 ?_; (case k1 => k_asm); (case k2 => k_mem); (case k3 => omega); k_whole)) | (k_here; (with_reducible show wpAny _ _ (call (Value.type _) [Value.ref _]) _ _ _); k_dflt (refine' kde_tupleOf ?k1 ?k2 ?k3 ?k4 ?k5 ?_; (case k1 => k_asm); (case k2 => k_asm); (case k3 => exact News.isList (by k_asm) (by k_mem)); (case k4 => (simp only [List.size_toArray]; omega)); (case k5 => exact List.toList_toArray); k_whole); intro tD th tF tN tl1; (try k_lt tl1); (try k_sweep)) | (k_here; (with_reducible show wpAny _ _ (call (Value.builtin "str.split") _) _ _ _); (refine KSpl.split1 (by k_asm) (by k_asm) (by decide) ?_ (by (rw [PySem.sizeLine_eq]; omega))); intro D1 l h1 kk hsp hSA F1 N1 lt1; (try k_lt lt1); (try dsimp only)) | (k_here; (with_reducible show wpAny _ _ (exec (Stmt.Assign _ (Expr.ListComp _ [Comprehension.mk _ _ [] _] _ _) _) _) _ _ _); k_dflt (refine assignCell (by k_asm) (by rfl) (by with_unfolding_all rfl) (by with_unfolding_all rfl) (by intro h; rfl) (by intro c; rfl) (by rfl) (by decide) (by rfl) (by rfl) (by rfl) ?_)) | (k_here; (with_reducible show wpAny _ _ (exec (Stmt.Assign _ (Expr.ListComp _ [Comprehension.mk _ _ [] _] _ _) _) _) _ _ _); k_dflt (refine LCg.Assign_ListComp_U (F₀ := by k_asm) (by rfl) (by with_unfolding_all rfl) (by with_unfolding_all rfl) (by decide) (by rfl) (by decide) (by rfl) (by rfl) (by rfl) ?_)) | (k_here; (with_reducible show wpAny _ _ (eval (Expr.ListComp _ [Comprehension.mk _ _ [] _] _ _) _) _ _ _); k_dflt (refine LCg.ListComp_U (F₀ := by k_asm) (by with_unfolding_all rfl) (by decide) (by rfl) (by decide) (by rfl) ?_)) | (k_here; (with_reducible show wpAny _ _ (exec (Stmt.Assign _ (Expr.ListComp _ [Comprehension.mk _ _ [_] _] _ _) _) _) _ _ _); k_dflt (refine LCt.Assign_ListComp_T (F₀ := by k_asm) (by rfl) (by with_unfolding_all rfl) (by with_unfolding_all rfl) (by decide) (by rfl) (by decide) (by rfl) (by rfl) (by rfl) ?_)) | (k_here; (with_reducible show wpAny _ _ (eval (Expr.ListComp _ [Comprehension.mk _ _ [_] _] _ _) _) _ _ _); k_dflt (refine LCt.ListComp_T (F₀ := by k_asm) (by with_unfolding_all rfl) (by decide) (by rfl) (by decide) (by rfl) ?_)) | (k_here; (with_reducible show wpAny _ _ (compareOp CmpOp.NotEq (Value.ref _) (Value.ref _)) _ _ _); k_dflt (refine' normNo ?k1 ?k2 ?k3 ?k4 ?k5 ?k6 ?k7 ?k8 ?k9 ?ka ?_; (case k1 => k_asm); (case k2 => k_mem); (case k5 => k_mem); (case k3 => k_mem); (case k6 => k_mem); (case k4 => assumption); (case k7 => assumption); (case k8 => assumption); (case k9 => assumption); (case ka => ktr_units); k_whole)) | walk1 | (dsimp only; first | (k_here; (try (dsimp only [List.cons_append, List.nil_append, List.append_nil])); (with_reducible show wpAny _ _ (call (Value.ref 38) [Value.ref _]) _ _ _); k_dflt (refine' Ct.useV (longest_c _ _ _ _ _ ?kW) ?k1 ?k2 ?k3 ?k4 ?k5 ?kK ?kd ?ku ?_; (case k1 => k_asm); (case k2 => k_asm); (case k3 => k_asm); (case k4 => k_asm); (case k5 => k_asm); (case kK => first | exact rfl | assumption); (case kd => ktr_room); (case ku => ktr_units); (case kW => first | assumption | exact WsIn.mono (by assumption) (by intro p hp; kst_mem)); k_whole); intro t9 h9 tk9 F9 N9; (try dsimp only); (try k_fold)) | (k_here; (try (dsimp only [List.cons_append, List.nil_append, List.append_nil])); (with_reducible show wpAny _ _ (call (Value.ref 45) [Value.ref _, Value.int _ _]) _ _ _); k_dflt (refine' Ct.useV (level_c _ _ _ _ _ _ _ ?kA ?kB ?kW) ?k1 ?k2 ?k3 ?k4 ?k5 ?kK ?kd ?ku ?_; (case k1 => k_asm); (case k2 => k_asm); (case k3 => k_asm); (case k4 => k_asm); (case k5 => k_asm); (case kK => first | exact rfl | assumption); (case kd => ktr_room); (case ku => ktr_units); (case kW => first | assumption | exact WsIn.mono (by assumption) (by intro p hp; kst_mem)); (case kA => omega); (case kB => omega); k_whole); intro t9 h9 tk9 F9 N9; (try dsimp only); (try k_fold)) | (k_here; (with_reducible show wpAny _ _ (call (Value.builtin "len") [Value.ref _]) _ _ _); k_dflt (refine' lenL ?k1 ?k2 ?k3 ?_; (case k1 => k_asm); (case k2 => k_mem); (case k3 => omega); k_whole)) | (k_here; (with_reducible show wpAny _ _ (call (Value.type _) [Value.ref _]) _ _ _); k_dflt (refine' kde_tupleOf ?k1 ?k2 ?k3 ?k4 ?k5 ?_; (case k1 => k_asm); (case k2 => k_asm); (case k3 => exact News.isList (by k_asm) (by k_mem)); (case k4 => (simp only [List.size_toArray]; omega)); (case k5 => exact List.toList_toArray); k_whole); intro tD th tF tN tl1; (try k_lt tl1); (try k_sweep)) | (k_here; (with_reducible show wpAny _ _ (call (Value.builtin "str.split") _) _ _ _); (refine KSpl.split1 (by k_asm) (by k_asm) (by decide) ?_ (by (rw [PySem.sizeLine_eq]; omega))); intro D1 l h1 kk hsp hSA F1 N1 lt1; (try k_lt lt1); (try dsimp only)) | (k_here; (with_reducible show wpAny _ _ (exec (Stmt.Assign _ (Expr.ListComp _ [Comprehension.mk _ _ [] _] _ _) _) _) _ _ _); k_dflt (refine assignCell (by k_asm) (by rfl) (by with_unfolding_all rfl) (by with_unfolding_all rfl) (by intro h; rfl) (by intro c; rfl) (by rfl) (by decide) (by rfl) (by rfl) (by rfl) ?_)) | (k_here; (with_reducible show wpAny _ _ (exec (Stmt.Assign _ (Expr.ListComp _ [Comprehension.mk _ _ [] _] _ _) _) _) _ _ _); k_dflt (refine LCg.Assign_ListComp_U (F₀ := by k_asm) (by rfl) (by with_unfolding_all rfl) (by with_unfolding_all rfl) (by decide) (by rfl) (by decide) (by rfl) (by rfl) (by rfl) ?_)) | (k_here; (with_reducible show wpAny _ _ (eval (Expr.ListComp _ [Comprehension.mk _ _ [] _] _ _) _) _ _ _); k_dflt (refine LCg.ListComp_U (F₀ := by k_asm) (by with_unfolding_all rfl) (by decide) (by rfl) (by decide) (by rfl) ?_)) | (k_here; (with_reducible show wpAny _ _ (exec (Stmt.Assign _ (Expr.ListComp _ [Comprehension.mk _ _ [_] _] _ _) _) _) _ _ _); k_dflt (refine LCt.Assign_ListComp_T (F₀ := by k_asm) (by rfl) (by with_unfolding_all rfl) (by with_unfolding_all rfl) (by decide) (by rfl) (by decide) (by rfl) (by rfl) (by rfl) ?_)) | (k_here; (with_reducible show wpAny _ _ (eval (Expr.ListComp _ [Comprehension.mk _ _ [_] _] _ _) _) _ _ _); k_dflt (refine LCt.ListComp_T (F₀ := by k_asm) (by with_unfolding_all rfl) (by decide) (by rfl) (by decide) (by rfl) ?_)) | (k_here; (with_reducible show wpAny _ _ (compareOp CmpOp.NotEq (Value.ref _) (Value.ref _)) _ _ _); k_dflt (refine' normNo ?k1 ?k2 ?k3 ?k4 ?k5 ?k6 ?k7 ?k8 ?k9 ?ka ?_; (case k1 => k_asm); (case k2 => k_mem); (case k5 => k_mem); (case k3 => k_mem); (case k6 => k_mem); (case k4 => assumption); (case k7 => assumption); (case k8 => assumption); (case k9 => assumption); (case ka => ktr_units); k_whole)) | walk1)
  have hLF := lead_facts hL
  have hsl1 : (strValues l).toArray.size = (partsOf lead).length := by
    rw [partsOf, ← hsp]
    simp [strValues]
  have hge1 : ∀ (i : Nat) (v : Value), (strValues l).toArray[i]? = some v → ∃ c t, v = .str c t ∧ (partsOf lead)[i]? = some (c.length : Int) := by
    intro i v hv
    rw [List.getElem?_toArray, strValues, List.getElem?_map] at hv
    cases hq : l[i]? with
    | none => rw [hq] at hv; cases hv
    | some p =>
      rw [hq] at hv
      refine ⟨p.1, p.2, (Option.some.inj hv).symm, ?_⟩
      rw [partsOf, ← hsp, List.getElem?_map, List.getElem?_map, hq]; rfl
  refine LCg.CompSrc.ledger (by rfl) F1 N1 (.head _) (by rw [hsl1, sizeLine_eq]; have := hLF.len; omega) ?_
  intro g1
  refine comp_inv (fun i ys nw => nw = _ ∧ IntsAre ys ((partsOf lead).take i)) ⟨rfl, .nil⟩ ?_ ?_
  · rintro i v I oI C oC D m₂ ys nw h tk E' hi hv ⟨rfl, hys⟩ hC hx F₁ N₁ off ne
    obtain ⟨c, t, rfl, hc⟩ := hge1 i v hv
    have hb := hLF.bnd _ (List.mem_of_getElem? hc)
    repeat' (fail_if_success (with_reducible show wpAny _ _ (pyIter _) _ _ _)); (fail_if_success (with_reducible show LCg.CompSrc _ _ _ _ _ _ _ _ _ _ _ _ _ _)); (fail_if_success (with_reducible show LCt.CompSrcT _ _ _ _ _ _ _ _ _ _ _ _ _ _ _)); first | (k_unfold; (try dsimp only)) | (k_here; (try (dsimp only [List.cons_append, List.nil_append, List.append_nil])); (with_reducible show wpAny _ _ (call (Value.ref 38) [Value.ref _]) _ _ _); k_dflt (refine' Ct.useV (longest_c _ _ _ _ _ ?kW) ?k1 ?k2 ?k3 ?k4 ?k5 ?kK ?kd ?ku ?_; (case k1 => k_asm); (case k2 => k_asm); (case k3 => k_asm); (case k4 => k_asm); (case k5 => k_asm); (case kK => first | exact rfl | assumption); (case kd => ktr_room); (case ku => ktr_units); (case kW => first | assumption | exact WsIn.mono (by assumption) (by intro p hp; kst_mem)); k_whole); intro t9 h9 tk9 F9 N9; (try dsimp only); (try k_fold)) | (k_here; (try (dsimp only [List.cons_append, List.nil_append, List.append_nil])); (with_reducible show wpAny _ _ (call (Value.ref 45) [Value.ref _, Value.int _ _]) _ _ _); k_dflt (refine' Ct.useV (level_c _ _ _ _ _ _ _ ?kA ?kB ?kW) ?k1 ?k2 ?k3 ?k4 ?k5 ?kK ?kd ?ku ?_; (case k1 => k_asm); (case k2 => k_asm); (case k3 => k_asm); (case k4 => k_asm); (case k5 => k_asm); (case kK => first | exact rfl | assumption); (case kd => ktr_room); (case ku => ktr_units); (case kW => first | assumption | exact WsIn.mono (by assumption) (by intro p hp; kst_mem)); (case kA => omega); (case kB => omega); k_whole); intro t9 h9 tk9 F9 N9; (try dsimp only); (try k_fold)) | (k_here; (with_reducible show wpAny _ _ (call (Value.builtin "len") [Value.ref _]) _ _ _); k_dflt (refine' lenL ?k1 ?k2 ?k3 ?_; (case k1 => k_asm); (case k2 => k_mem); (case k3 => omega); k_whole)) | (k_here; (with_reducible show wpAny _ _ (call (Value.type _) [Value.ref _]) _ _ _); k_dflt (refine' kde_tupleOf ?k1 ?k2 ?k3 ?k4 ?k5 ?_; (case k1 => k_asm); (case k2 => k_asm); (case k3 => exact News.isList (by k_asm) (by k_mem)); (case k4 => (simp only [List.size_toArray]; omega)); (case k5 => exact List.toList_toArray); k_whole); intro tD th tF tN tl1; (try k_lt tl1); (try k_sweep)) | (k_here; (with_reducible show wpAny _ _ (call (Value.builtin "str.split") _) _ _ _); (refine KSpl.split1 (by k_asm) (by k_asm) (by decide) ?_ (by (rw [PySem.sizeLine_eq]; omega))); intro D1 l h1 kk hsp hSA F1 N1 lt1; (try k_lt lt1); (try dsimp only)) | (k_here; (with_reducible show wpAny _ _ (exec (Stmt.Assign _ (Expr.ListComp _ [Comprehension.mk _ _ [] _] _ _) _) _) _ _ _); k_dflt (refine assignCell (by k_asm) (by rfl) (by with_unfolding_all rfl) (by with_unfolding_all rfl) (by intro h; rfl) (by intro c; rfl) (by rfl) (by decide) (by rfl) (by rfl) (by rfl) ?_)) | (k_here; (with_reducible show wpAny _ _ (exec (Stmt.Assign _ (Expr.ListComp _ [Comprehension.mk _ _ [] _] _ _) _) _) _ _ _); k_dflt (refine LCg.Assign_ListComp_U (F₀ := by k_asm) (by rfl) (by with_unfolding_all rfl) (by with_unfolding_all rfl) (by decide) (by rfl) (by decide) (by rfl) (by rfl) (by rfl) ?_)) | (k_here; (with_reducible show wpAny _ _ (eval (Expr.ListComp _ [Comprehension.mk _ _ [] _] _ _) _) _ _ _); k_dflt (refine LCg.ListComp_U (F₀ := by k_asm) (by with_unfolding_all rfl) (by decide) (by rfl) (by decide) (by rfl) ?_)) | (k_here; (with_reducible show wpAny _ _ (exec (Stmt.Assign _ (Expr.ListComp _ [Comprehension.mk _ _ [_] _] _ _) _) _) _ _ _); k_dflt (refine LCt.Assign_ListComp_T (F₀ := by k_asm) (by rfl) (by with_unfolding_all rfl) (by with_unfolding_all rfl) (by decide) (by rfl) (by decide) (by rfl) (by rfl) (by rfl) ?_)) | (k_here; (with_reducible show wpAny _ _ (eval (Expr.ListComp _ [Comprehension.mk _ _ [_] _] _ _) _) _ _ _); k_dflt (refine LCt.ListComp_T (F₀ := by k_asm) (by with_unfolding_all rfl) (by decide) (by rfl) (by decide) (by rfl) ?_)) | (k_here; (with_reducible show wpAny _ _ (compareOp CmpOp.NotEq (Value.ref _) (Value.ref _)) _ _ _); k_dflt (refine' normNo ?k1 ?k2 ?k3 ?k4 ?k5 ?k6 ?k7 ?k8 ?k9 ?ka ?_; (case k1 => k_asm); (case k2 => k_mem); (case k5 => k_mem); (case k3 => k_mem); (case k6 => k_mem); (case k4 => assumption); (case k7 => assumption); (case k8 => assumption); (case k9 => assumption); (case ka => ktr_units); k_whole)) | walk1 | (dsimp only; first | (k_here; (try (dsimp only [List.cons_append, List.nil_append, List.append_nil])); (with_reducible show wpAny _ _ (call (Value.ref 38) [Value.ref _]) _ _ _); k_dflt (refine' Ct.useV (longest_c _ _ _ _ _ ?kW) ?k1 ?k2 ?k3 ?k4 ?k5 ?kK ?kd ?ku ?_; (case k1 => k_asm); (case k2 => k_asm); (case k3 => k_asm); (case k4 => k_asm); (case k5 => k_asm); (case kK => first | exact rfl | assumption); (case kd => ktr_room); (case ku => ktr_units); (case kW => first | assumption | exact WsIn.mono (by assumption) (by intro p hp; kst_mem)); k_whole); intro t9 h9 tk9 F9 N9; (try dsimp only); (try k_fold)) | (k_here; (try (dsimp only [List.cons_append, List.nil_append, List.append_nil])); (with_reducible show wpAny _ _ (call (Value.ref 45) [Value.ref _, Value.int _ _]) _ _ _); k_dflt (refine' Ct.useV (level_c _ _ _ _ _ _ _ ?kA ?kB ?kW) ?k1 ?k2 ?k3 ?k4 ?k5 ?kK ?kd ?ku ?_; (case k1 => k_asm); (case k2 => k_asm); (case k3 => k_asm); (case k4 => k_asm); (case k5 => k_asm); (case kK => first | exact rfl | assumption); (case kd => ktr_room); (case ku => ktr_units); (case kW => first | assumption | exact WsIn.mono (by assumption) (by intro p hp; kst_mem)); (case kA => omega); (case kB => omega); k_whole); intro t9 h9 tk9 F9 N9; (try dsimp only); (try k_fold)) | (k_here; (with_reducible show wpAny _ _ (call (Value.builtin "len") [Value.ref _]) _ _ _); k_dflt (refine' lenL ?k1 ?k2 ?k3 ?_; (case k1 => k_asm); (case k2 => k_mem); (case k3 => omega); k_whole)) | (k_here; (with_reducible show wpAny _ _ (call (Value.type _) [Value.ref _]) _ _ _); k_dflt (refine' kde_tupleOf ?k1 ?k2 ?k3 ?k4 ?k5 ?_; (case k1 => k_asm); (case k2 => k_asm); (case k3 => exact News.isList (by k_asm) (by k_mem)); (case k4 => (simp only [List.size_toArray]; omega)); (case k5 => exact List.toList_toArray); k_whole); intro tD th tF tN tl1; (try k_lt tl1); (try k_sweep)) | (k_here; (with_reducible show wpAny _ _ (call (Value.builtin "str.split") _) _ _ _); (refine KSpl.split1 (by k_asm) (by k_asm) (by decide) ?_ (by (rw [PySem.sizeLine_eq]; omega))); intro D1 l h1 kk hsp hSA F1 N1 lt1; (try k_lt lt1); (try dsimp only)) | (k_here; (with_reducible show wpAny _ _ (exec (Stmt.Assign _ (Expr.ListComp _ [Comprehension.mk _ _ [] _] _ _) _) _) _ _ _); k_dflt (refine assignCell (by k_asm) (by rfl) (by with_unfolding_all rfl) (by with_unfolding_all rfl) (by intro h; rfl) (by intro c; rfl) (by rfl) (by decide) (by rfl) (by rfl) (by rfl) ?_)) | (k_here; (with_reducible show wpAny _ _ (exec (Stmt.Assign _ (Expr.ListComp _ [Comprehension.mk _ _ [] _] _ _) _) _) _ _ _); k_dflt (refine LCg.Assign_ListComp_U (F₀ := by k_asm) (by rfl) (by with_unfolding_all rfl) (by with_unfolding_all rfl) (by decide) (by rfl) (by decide) (by rfl) (by rfl) (by rfl) ?_)) | (k_here; (with_reducible show wpAny _ _ (eval (Expr.ListComp _ [Comprehension.mk _ _ [] _] _ _) _) _ _ _); k_dflt (refine LCg.ListComp_U (F₀ := by k_asm) (by with_unfolding_all rfl) (by decide) (by rfl) (by decide) (by rfl) ?_)) | (k_here; (with_reducible show wpAny _ _ (exec (Stmt.Assign _ (Expr.ListComp _ [Comprehension.mk _ _ [_] _] _ _) _) _) _ _ _); k_dflt (refine LCt.Assign_ListComp_T (F₀ := by k_asm) (by rfl) (by with_unfolding_all rfl) (by with_unfolding_all rfl) (by decide) (by rfl) (by decide) (by rfl) (by rfl) (by rfl) ?_)) | (k_here; (with_reducible show wpAny _ _ (eval (Expr.ListComp _ [Comprehension.mk _ _ [_] _] _ _) _) _ _ _); k_dflt (refine LCt.ListComp_T (F₀ := by k_asm) (by with_unfolding_all rfl) (by decide) (by rfl) (by decide) (by rfl) ?_)) | (k_here; (with_reducible show wpAny _ _ (compareOp CmpOp.NotEq (Value.ref _) (Value.ref _)) _ _ _); k_dflt (refine' normNo ?k1 ?k2 ?k3 ?k4 ?k5 ?k6 ?k7 ?k8 ?k9 ?ka ?_; (case k1 => k_asm); (case k2 => k_mem); (case k5 => k_mem); (case k3 => k_mem); (case k6 => k_mem); (case k4 => assumption); (case k7 => assumption); (case k8 => assumption); (case k9 => assumption); (case ka => ktr_units); k_whole)) | walk1)
    exact LCg.CompEnd.intro F₁ N₁ _ (fun p hp => hp) off (.inr ⟨_, .head _, rfl, _, rfl⟩) ⟨rfl, ints_snoc hys hc⟩
  · rintro ys nw ⟨rfl, hys⟩
    rw [hsl1, List.take_length] at hys
    unfold LCg.FinA
    intro D2 h2 tk2 F2 N2 o2'
    simp only [LCg.Off1] at o2'
    have of1 := o2'.1
    have of2 := o2'.2.1
    have of3 := o2'.2.2.1
    have of4 := o2'.2.2.2
    clear o2'
    rename_i o1 o2 d1 d2
    replace N2 := kst_newsOf (l' := (D2, LCg.lst ys) :: (L' + 1 + 1, o1) :: (L' + 1, o2) :: news) N2 (by kst_in)
    clear N1 hsp hSA hge1 hsl1 lt1 F1
    have hn2 : ∀ p ∈ news, p.1 ≠ L' + 1 + 1 := fun p hp => Nat.ne_of_lt (Nat.lt_of_lt_of_le (l1 p hp) (by omega))
    have hn1 : ∀ p ∈ news, p.1 ≠ L' + 1 := fun p hp => Nat.ne_of_lt (Nat.lt_of_lt_of_le (l1 p hp) (by omega))
    have hyl := hys.length
    have hpl := hLF.len
    have hpp := hLF.pos
    dsimp only
    repeat' (fail_if_success (with_reducible show wpAny _ _ (pyIter _) _ _ _)); (fail_if_success (with_reducible show LCg.CompSrc _ _ _ _ _ _ _ _ _ _ _ _ _ _)); (fail_if_success (with_reducible show LCt.CompSrcT _ _ _ _ _ _ _ _ _ _ _ _ _ _ _)); (fail_if_success (with_reducible show wpAny _ _ (exec (Stmt.If (Expr.Name _ _) _ _ _) _) _ _ _)); first | (k_unfold; (try dsimp only)) | (k_here; (try (dsimp only [List.cons_append, List.nil_append, List.append_nil])); (with_reducible show wpAny _ _ (call (Value.ref 38) [Value.ref _]) _ _ _); k_dflt (refine' Ct.useV (longest_c _ _ _ _ _ ?kW) ?k1 ?k2 ?k3 ?k4 ?k5 ?kK ?kd ?ku ?_; (case k1 => k_asm); (case k2 => k_asm); (case k3 => k_asm); (case k4 => k_asm); (case k5 => k_asm); (case kK => first | exact rfl | assumption); (case kd => ktr_room); (case ku => ktr_units); (case kW => first | assumption | exact WsIn.mono (by assumption) (by intro p hp; kst_mem)); k_whole); intro t9 h9 tk9 F9 N9; (try dsimp only); (try k_fold)) | (k_here; (try (dsimp only [List.cons_append, List.nil_append, List.append_nil])); (with_reducible show wpAny _ _ (call (Value.ref 45) [Value.ref _, Value.int _ _]) _ _ _); k_dflt (refine' Ct.useV (level_c _ _ _ _ _ _ _ ?kA ?kB ?kW) ?k1 ?k2 ?k3 ?k4 ?k5 ?kK ?kd ?ku ?_; (case k1 => k_asm); (case k2 => k_asm); (case k3 => k_asm); (case k4 => k_asm); (case k5 => k_asm); (case kK => first | exact rfl | assumption); (case kd => ktr_room); (case ku => ktr_units); (case kW => first | assumption | exact WsIn.mono (by assumption) (by intro p hp; kst_mem)); (case kA => omega); (case kB => omega); k_whole); intro t9 h9 tk9 F9 N9; (try dsimp only); (try k_fold)) | (k_here; (with_reducible show wpAny _ _ (call (Value.builtin "len") [Value.ref _]) _ _ _); k_dflt (refine' lenL ?k1 ?k2 ?k3 ?_; (case k1 => k_asm); (case k2 => k_mem); (case k3 => omega); k_whole)) | (k_here; (with_reducible show wpAny _ _ (call (Value.type _) [Value.ref _]) _ _ _); k_dflt (refine' kde_tupleOf ?k1 ?k2 ?k3 ?k4 ?k5 ?_; (case k1 => k_asm); (case k2 => k_asm); (case k3 => exact News.isList (by k_asm) (by k_mem)); (case k4 => (simp only [List.size_toArray]; omega)); (case k5 => exact List.toList_toArray); k_whole); intro tD th tF tN tl1; (try k_lt tl1); (try k_sweep)) | (k_here; (with_reducible show wpAny _ _ (call (Value.builtin "str.split") _) _ _ _); (refine KSpl.split1 (by k_asm) (by k_asm) (by decide) ?_ (by (rw [PySem.sizeLine_eq]; omega))); intro D1 l h1 kk hsp hSA F1 N1 lt1; (try k_lt lt1); (try dsimp only)) | (k_here; (with_reducible show wpAny _ _ (exec (Stmt.Assign _ (Expr.ListComp _ [Comprehension.mk _ _ [] _] _ _) _) _) _ _ _); k_dflt (refine assignCell (by k_asm) (by rfl) (by with_unfolding_all rfl) (by with_unfolding_all rfl) (by intro h; rfl) (by intro c; rfl) (by rfl) (by decide) (by rfl) (by rfl) (by rfl) ?_)) | (k_here; (with_reducible show wpAny _ _ (exec (Stmt.Assign _ (Expr.ListComp _ [Comprehension.mk _ _ [] _] _ _) _) _) _ _ _); k_dflt (refine LCg.Assign_ListComp_U (F₀ := by k_asm) (by rfl) (by with_unfolding_all rfl) (by with_unfolding_all rfl) (by decide) (by rfl) (by decide) (by rfl) (by rfl) (by rfl) ?_)) | (k_here; (with_reducible show wpAny _ _ (eval (Expr.ListComp _ [Comprehension.mk _ _ [] _] _ _) _) _ _ _); k_dflt (refine LCg.ListComp_U (F₀ := by k_asm) (by with_unfolding_all rfl) (by decide) (by rfl) (by decide) (by rfl) ?_)) | (k_here; (with_reducible show wpAny _ _ (exec (Stmt.Assign _ (Expr.ListComp _ [Comprehension.mk _ _ [_] _] _ _) _) _) _ _ _); k_dflt (refine LCt.Assign_ListComp_T (F₀ := by k_asm) (by rfl) (by with_unfolding_all rfl) (by with_unfolding_all rfl) (by decide) (by rfl) (by decide) (by rfl) (by rfl) (by rfl) ?_)) | (k_here; (with_reducible show wpAny _ _ (eval (Expr.ListComp _ [Comprehension.mk _ _ [_] _] _ _) _) _ _ _); k_dflt (refine LCt.ListComp_T (F₀ := by k_asm) (by with_unfolding_all rfl) (by decide) (by rfl) (by decide) (by rfl) ?_)) | (k_here; (with_reducible show wpAny _ _ (compareOp CmpOp.NotEq (Value.ref _) (Value.ref _)) _ _ _); k_dflt (refine' normNo ?k1 ?k2 ?k3 ?k4 ?k5 ?k6 ?k7 ?k8 ?k9 ?ka ?_; (case k1 => k_asm); (case k2 => k_mem); (case k5 => k_mem); (case k3 => k_mem); (case k6 => k_mem); (case k4 => assumption); (case k7 => assumption); (case k8 => assumption); (case k9 => assumption); (case ka => ktr_units); k_whole)) | walk1 | (dsimp only; first | (k_here; (try (dsimp only [List.cons_append, List.nil_append, List.append_nil])); (with_reducible show wpAny _ _ (call (Value.ref 38) [Value.ref _]) _ _ _); k_dflt (refine' Ct.useV (longest_c _ _ _ _ _ ?kW) ?k1 ?k2 ?k3 ?k4 ?k5 ?kK ?kd ?ku ?_; (case k1 => k_asm); (case k2 => k_asm); (case k3 => k_asm); (case k4 => k_asm); (case k5 => k_asm); (case kK => first | exact rfl | assumption); (case kd => ktr_room); (case ku => ktr_units); (case kW => first | assumption | exact WsIn.mono (by assumption) (by intro p hp; kst_mem)); k_whole); intro t9 h9 tk9 F9 N9; (try dsimp only); (try k_fold)) | (k_here; (try (dsimp only [List.cons_append, List.nil_append, List.append_nil])); (with_reducible show wpAny _ _ (call (Value.ref 45) [Value.ref _, Value.int _ _]) _ _ _); k_dflt (refine' Ct.useV (level_c _ _ _ _ _ _ _ ?kA ?kB ?kW) ?k1 ?k2 ?k3 ?k4 ?k5 ?kK ?kd ?ku ?_; (case k1 => k_asm); (case k2 => k_asm); (case k3 => k_asm); (case k4 => k_asm); (case k5 => k_asm); (case kK => first | exact rfl | assumption); (case kd => ktr_room); (case ku => ktr_units); (case kW => first | assumption | exact WsIn.mono (by assumption) (by intro p hp; kst_mem)); (case kA => omega); (case kB => omega); k_whole); intro t9 h9 tk9 F9 N9; (try dsimp only); (try k_fold)) | (k_here; (with_reducible show wpAny _ _ (call (Value.builtin "len") [Value.ref _]) _ _ _); k_dflt (refine' lenL ?k1 ?k2 ?k3 ?_; (case k1 => k_asm); (case k2 => k_mem); (case k3 => omega); k_whole)) | (k_here; (with_reducible show wpAny _ _ (call (Value.type _) [Value.ref _]) _ _ _); k_dflt (refine' kde_tupleOf ?k1 ?k2 ?k3 ?k4 ?k5 ?_; (case k1 => k_asm); (case k2 => k_asm); (case k3 => exact News.isList (by k_asm) (by k_mem)); (case k4 => (simp only [List.size_toArray]; omega)); (case k5 => exact List.toList_toArray); k_whole); intro tD th tF tN tl1; (try k_lt tl1); (try k_sweep)) | (k_here; (with_reducible show wpAny _ _ (call (Value.builtin "str.split") _) _ _ _); (refine KSpl.split1 (by k_asm) (by k_asm) (by decide) ?_ (by (rw [PySem.sizeLine_eq]; omega))); intro D1 l h1 kk hsp hSA F1 N1 lt1; (try k_lt lt1); (try dsimp only)) | (k_here; (with_reducible show wpAny _ _ (exec (Stmt.Assign _ (Expr.ListComp _ [Comprehension.mk _ _ [] _] _ _) _) _) _ _ _); k_dflt (refine assignCell (by k_asm) (by rfl) (by with_unfolding_all rfl) (by with_unfolding_all rfl) (by intro h; rfl) (by intro c; rfl) (by rfl) (by decide) (by rfl) (by rfl) (by rfl) ?_)) | (k_here; (with_reducible show wpAny _ _ (exec (Stmt.Assign _ (Expr.ListComp _ [Comprehension.mk _ _ [] _] _ _) _) _) _ _ _); k_dflt (refine LCg.Assign_ListComp_U (F₀ := by k_asm) (by rfl) (by with_unfolding_all rfl) (by with_unfolding_all rfl) (by decide) (by rfl) (by decide) (by rfl) (by rfl) (by rfl) ?_)) | (k_here; (with_reducible show wpAny _ _ (eval (Expr.ListComp _ [Comprehension.mk _ _ [] _] _ _) _) _ _ _); k_dflt (refine LCg.ListComp_U (F₀ := by k_asm) (by with_unfolding_all rfl) (by decide) (by rfl) (by decide) (by rfl) ?_)) | (k_here; (with_reducible show wpAny _ _ (exec (Stmt.Assign _ (Expr.ListComp _ [Comprehension.mk _ _ [_] _] _ _) _) _) _ _ _); k_dflt (refine LCt.Assign_ListComp_T (F₀ := by k_asm) (by rfl) (by with_unfolding_all rfl) (by with_unfolding_all rfl) (by decide) (by rfl) (by decide) (by rfl) (by rfl) (by rfl) ?_)) | (k_here; (with_reducible show wpAny _ _ (eval (Expr.ListComp _ [Comprehension.mk _ _ [_] _] _ _) _) _ _ _); k_dflt (refine LCt.ListComp_T (F₀ := by k_asm) (by with_unfolding_all rfl) (by decide) (by rfl) (by decide) (by rfl) ?_)) | (k_here; (with_reducible show wpAny _ _ (compareOp CmpOp.NotEq (Value.ref _) (Value.ref _)) _ _ _); k_dflt (refine' normNo ?k1 ?k2 ?k3 ?k4 ?k5 ?k6 ?k7 ?k8 ?k9 ?ka ?_; (case k1 => k_asm); (case k2 => k_mem); (case k5 => k_mem); (case k3 => k_mem); (case k6 => k_mem); (case k4 => assumption); (case k7 => assumption); (case k8 => assumption); (case k9 => assumption); (case ka => ktr_units); k_whole)) | walk1)
    rename Fr _ _ _ _ => F3
    rename News _ _ _ _ => N3
    rename IntsAre _ (List.take _ _) => hI3
    rename _ = Data.cell (some (Value.ref _)) => hdc
    rename_i D3 ws h5 hC5 hL5 lt5 h6 oR l4 h7 lt6 h8
    have eR : List.take ((partsOf lead).length - 1) (partsOf lead) = (partsOf lead).dropLast := List.dropLast_eq_take.symm
    rw [eR] at hI3 hL5
    clear hC5
    have hwl := hI3.length
    have hRl : (partsOf lead).dropLast.length ≤ 6 := by rw [List.length_dropLast]; omega
    refine cut_if F3 ((D3, W.listOf ws.toArray 0) :: (D2, LCg.lst ys) :: (L' + 1 + 1, oR) :: (L' + 1, o2) :: news) (countsOf (partsOf lead).dropLast) ?_ ?_
    · repeat' (fail_if_success (with_reducible show wpAny _ _ (pyIter _) _ _ _)); (fail_if_success (with_reducible show LCg.CompSrc _ _ _ _ _ _ _ _ _ _ _ _ _ _)); (fail_if_success (with_reducible show LCt.CompSrcT _ _ _ _ _ _ _ _ _ _ _ _ _ _ _)); first | (k_unfold; (try dsimp only)) | (k_here; (try (dsimp only [List.cons_append, List.nil_append, List.append_nil])); (with_reducible show wpAny _ _ (call (Value.ref 38) [Value.ref _]) _ _ _); k_dflt (refine' Ct.useV (longest_c _ _ _ _ _ ?kW) ?k1 ?k2 ?k3 ?k4 ?k5 ?kK ?kd ?ku ?_; (case k1 => k_asm); (case k2 => k_asm); (case k3 => k_asm); (case k4 => k_asm); (case k5 => k_asm); (case kK => first | exact rfl | assumption); (case kd => ktr_room); (case ku => ktr_units); (case kW => first | assumption | exact WsIn.mono (by assumption) (by intro p hp; kst_mem)); k_whole); intro t9 h9 tk9 F9 N9; (try dsimp only); (try k_fold)) | (k_here; (try (dsimp only [List.cons_append, List.nil_append, List.append_nil])); (with_reducible show wpAny _ _ (call (Value.ref 45) [Value.ref _, Value.int _ _]) _ _ _); k_dflt (refine' Ct.useV (level_c _ _ _ _ _ _ _ ?kA ?kB ?kW) ?k1 ?k2 ?k3 ?k4 ?k5 ?kK ?kd ?ku ?_; (case k1 => k_asm); (case k2 => k_asm); (case k3 => k_asm); (case k4 => k_asm); (case k5 => k_asm); (case kK => first | exact rfl | assumption); (case kd => ktr_room); (case ku => ktr_units); (case kW => first | assumption | exact WsIn.mono (by assumption) (by intro p hp; kst_mem)); (case kA => omega); (case kB => omega); k_whole); intro t9 h9 tk9 F9 N9; (try dsimp only); (try k_fold)) | (k_here; (with_reducible show wpAny _ _ (call (Value.builtin "len") [Value.ref _]) _ _ _); k_dflt (refine' lenL ?k1 ?k2 ?k3 ?_; (case k1 => k_asm); (case k2 => k_mem); (case k3 => omega); k_whole)) | (k_here; (with_reducible show wpAny _ _ (call (Value.type _) [Value.ref _]) _ _ _); k_dflt (refine' kde_tupleOf ?k1 ?k2 ?k3 ?k4 ?k5 ?_; (case k1 => k_asm); (case k2 => k_asm); (case k3 => exact News.isList (by k_asm) (by k_mem)); (case k4 => (simp only [List.size_toArray]; omega)); (case k5 => exact List.toList_toArray); k_whole); intro tD th tF tN tl1; (try k_lt tl1); (try k_sweep)) | (k_here; (with_reducible show wpAny _ _ (call (Value.builtin "str.split") _) _ _ _); (refine KSpl.split1 (by k_asm) (by k_asm) (by decide) ?_ (by (rw [PySem.sizeLine_eq]; omega))); intro D1 l h1 kk hsp hSA F1 N1 lt1; (try k_lt lt1); (try dsimp only)) | (k_here; (with_reducible show wpAny _ _ (exec (Stmt.Assign _ (Expr.ListComp _ [Comprehension.mk _ _ [] _] _ _) _) _) _ _ _); k_dflt (refine assignCell (by k_asm) (by rfl) (by with_unfolding_all rfl) (by with_unfolding_all rfl) (by intro h; rfl) (by intro c; rfl) (by rfl) (by decide) (by rfl) (by rfl) (by rfl) ?_)) | (k_here; (with_reducible show wpAny _ _ (exec (Stmt.Assign _ (Expr.ListComp _ [Comprehension.mk _ _ [] _] _ _) _) _) _ _ _); k_dflt (refine LCg.Assign_ListComp_U (F₀ := by k_asm) (by rfl) (by with_unfolding_all rfl) (by with_unfolding_all rfl) (by decide) (by rfl) (by decide) (by rfl) (by rfl) (by rfl) ?_)) | (k_here; (with_reducible show wpAny _ _ (eval (Expr.ListComp _ [Comprehension.mk _ _ [] _] _ _) _) _ _ _); k_dflt (refine LCg.ListComp_U (F₀ := by k_asm) (by with_unfolding_all rfl) (by decide) (by rfl) (by decide) (by rfl) ?_)) | (k_here; (with_reducible show wpAny _ _ (exec (Stmt.Assign _ (Expr.ListComp _ [Comprehension.mk _ _ [_] _] _ _) _) _) _ _ _); k_dflt (refine LCt.Assign_ListComp_T (F₀ := by k_asm) (by rfl) (by with_unfolding_all rfl) (by with_unfolding_all rfl) (by decide) (by rfl) (by decide) (by rfl) (by rfl) (by rfl) ?_)) | (k_here; (with_reducible show wpAny _ _ (eval (Expr.ListComp _ [Comprehension.mk _ _ [_] _] _ _) _) _ _ _); k_dflt (refine LCt.ListComp_T (F₀ := by k_asm) (by with_unfolding_all rfl) (by decide) (by rfl) (by decide) (by rfl) ?_)) | (k_here; (with_reducible show wpAny _ _ (compareOp CmpOp.NotEq (Value.ref _) (Value.ref _)) _ _ _); k_dflt (refine' normNo ?k1 ?k2 ?k3 ?k4 ?k5 ?k6 ?k7 ?k8 ?k9 ?ka ?_; (case k1 => k_asm); (case k2 => k_mem); (case k5 => k_mem); (case k3 => k_mem); (case k6 => k_mem); (case k4 => assumption); (case k7 => assumption); (case k8 => assumption); (case k9 => assumption); (case ka => ktr_units); k_whole)) | walk1 | (dsimp only; first | (k_here; (try (dsimp only [List.cons_append, List.nil_append, List.append_nil])); (with_reducible show wpAny _ _ (call (Value.ref 38) [Value.ref _]) _ _ _); k_dflt (refine' Ct.useV (longest_c _ _ _ _ _ ?kW) ?k1 ?k2 ?k3 ?k4 ?k5 ?kK ?kd ?ku ?_; (case k1 => k_asm); (case k2 => k_asm); (case k3 => k_asm); (case k4 => k_asm); (case k5 => k_asm); (case kK => first | exact rfl | assumption); (case kd => ktr_room); (case ku => ktr_units); (case kW => first | assumption | exact WsIn.mono (by assumption) (by intro p hp; kst_mem)); k_whole); intro t9 h9 tk9 F9 N9; (try dsimp only); (try k_fold)) | (k_here; (try (dsimp only [List.cons_append, List.nil_append, List.append_nil])); (with_reducible show wpAny _ _ (call (Value.ref 45) [Value.ref _, Value.int _ _]) _ _ _); k_dflt (refine' Ct.useV (level_c _ _ _ _ _ _ _ ?kA ?kB ?kW) ?k1 ?k2 ?k3 ?k4 ?k5 ?kK ?kd ?ku ?_; (case k1 => k_asm); (case k2 => k_asm); (case k3 => k_asm); (case k4 => k_asm); (case k5 => k_asm); (case kK => first | exact rfl | assumption); (case kd => ktr_room); (case ku => ktr_units); (case kW => first | assumption | exact WsIn.mono (by assumption) (by intro p hp; kst_mem)); (case kA => omega); (case kB => omega); k_whole); intro t9 h9 tk9 F9 N9; (try dsimp only); (try k_fold)) | (k_here; (with_reducible show wpAny _ _ (call (Value.builtin "len") [Value.ref _]) _ _ _); k_dflt (refine' lenL ?k1 ?k2 ?k3 ?_; (case k1 => k_asm); (case k2 => k_mem); (case k3 => omega); k_whole)) | (k_here; (with_reducible show wpAny _ _ (call (Value.type _) [Value.ref _]) _ _ _); k_dflt (refine' kde_tupleOf ?k1 ?k2 ?k3 ?k4 ?k5 ?_; (case k1 => k_asm); (case k2 => k_asm); (case k3 => exact News.isList (by k_asm) (by k_mem)); (case k4 => (simp only [List.size_toArray]; omega)); (case k5 => exact List.toList_toArray); k_whole); intro tD th tF tN tl1; (try k_lt tl1); (try k_sweep)) | (k_here; (with_reducible show wpAny _ _ (call (Value.builtin "str.split") _) _ _ _); (refine KSpl.split1 (by k_asm) (by k_asm) (by decide) ?_ (by (rw [PySem.sizeLine_eq]; omega))); intro D1 l h1 kk hsp hSA F1 N1 lt1; (try k_lt lt1); (try dsimp only)) | (k_here; (with_reducible show wpAny _ _ (exec (Stmt.Assign _ (Expr.ListComp _ [Comprehension.mk _ _ [] _] _ _) _) _) _ _ _); k_dflt (refine assignCell (by k_asm) (by rfl) (by with_unfolding_all rfl) (by with_unfolding_all rfl) (by intro h; rfl) (by intro c; rfl) (by rfl) (by decide) (by rfl) (by rfl) (by rfl) ?_)) | (k_here; (with_reducible show wpAny _ _ (exec (Stmt.Assign _ (Expr.ListComp _ [Comprehension.mk _ _ [] _] _ _) _) _) _ _ _); k_dflt (refine LCg.Assign_ListComp_U (F₀ := by k_asm) (by rfl) (by with_unfolding_all rfl) (by with_unfolding_all rfl) (by decide) (by rfl) (by decide) (by rfl) (by rfl) (by rfl) ?_)) | (k_here; (with_reducible show wpAny _ _ (eval (Expr.ListComp _ [Comprehension.mk _ _ [] _] _ _) _) _ _ _); k_dflt (refine LCg.ListComp_U (F₀ := by k_asm) (by with_unfolding_all rfl) (by decide) (by rfl) (by decide) (by rfl) ?_)) | (k_here; (with_reducible show wpAny _ _ (exec (Stmt.Assign _ (Expr.ListComp _ [Comprehension.mk _ _ [_] _] _ _) _) _) _ _ _); k_dflt (refine LCt.Assign_ListComp_T (F₀ := by k_asm) (by rfl) (by with_unfolding_all rfl) (by with_unfolding_all rfl) (by decide) (by rfl) (by decide) (by rfl) (by rfl) (by rfl) ?_)) | (k_here; (with_reducible show wpAny _ _ (eval (Expr.ListComp _ [Comprehension.mk _ _ [_] _] _ _) _) _ _ _); k_dflt (refine LCt.ListComp_T (F₀ := by k_asm) (by with_unfolding_all rfl) (by decide) (by rfl) (by decide) (by rfl) ?_)) | (k_here; (with_reducible show wpAny _ _ (compareOp CmpOp.NotEq (Value.ref _) (Value.ref _)) _ _ _); k_dflt (refine' normNo ?k1 ?k2 ?k3 ?k4 ?k5 ?k6 ?k7 ?k8 ?k9 ?ka ?_; (case k1 => k_asm); (case k2 => k_mem); (case k5 => k_mem); (case k3 => k_mem); (case k6 => k_mem); (case k4 => assumption); (case k7 => assumption); (case k8 => assumption); (case k9 => assumption); (case ka => ktr_units); k_whole)) | walk1)
      · rename Fr _ _ _ _ => F4
        rename News _ _ _ _ => N4
        rename IsRange _ _ _ _ _ _ _ _ => hR4
        rename _ ∈ (partsOf lead).dropLast => hMm
        rename ∀ a ∈ (partsOf lead).dropLast, _ => hMb
        rename_i hpos h11 M t11 k11 F11 N11 e11 h12 tk12 t13 t14 t15 hup
        have hM6 := hLF.bnd M (List.dropLast_subset _ hMm)
        have hAnd := hM6
        clear hM6
        have hM0 := hAnd.1
        have hM6 := hAnd.2
        clear hAnd
        clear F11 N11 hup
        refine' cellRange (fun i zs nw => nw = ((l4, W.listOf #[] 0) :: (D3, W.listOf ws.toArray 0) :: (D2, LCg.lst ys) :: (L' + 1 + 1, oR) :: (L' + 1, o2) :: news) ∧ IntsAre zs ((List.range i).map fun (k : Nat) => (((partsOf lead).dropLast.filter fun r => decide (r = (k : Int))).length : Int))) (by with_unfolding_all rfl) F4 N4 hR4 (small_one (by omega) (by omega) (by omega) (by omega)) (rangeSize_nat _ _) (by rw [sizeLine_eq]; omega) ⟨rfl, .nil⟩ ?_ ?_
        · intro g4 i v I oI C oC mC K oK D zs nw h tk E' hi hv hJ hNC hoK F₁ N₁ off ne
          obtain ⟨rfl, hzs⟩ := hJ
          obtain ⟨t, rfl⟩ := hv
          dsimp only
          repeat' (fail_if_success (with_reducible show wpAny _ _ (pyIter _) _ _ _)); (fail_if_success (with_reducible show LCg.CompSrc _ _ _ _ _ _ _ _ _ _ _ _ _ _)); (fail_if_success (with_reducible show LCt.CompSrcT _ _ _ _ _ _ _ _ _ _ _ _ _ _ _)); first | (k_unfold; (try dsimp only)) | (k_here; (try (dsimp only [List.cons_append, List.nil_append, List.append_nil])); (with_reducible show wpAny _ _ (call (Value.ref 38) [Value.ref _]) _ _ _); k_dflt (refine' Ct.useV (longest_c _ _ _ _ _ ?kW) ?k1 ?k2 ?k3 ?k4 ?k5 ?kK ?kd ?ku ?_; (case k1 => k_asm); (case k2 => k_asm); (case k3 => k_asm); (case k4 => k_asm); (case k5 => k_asm); (case kK => first | exact rfl | assumption); (case kd => ktr_room); (case ku => ktr_units); (case kW => first | assumption | exact WsIn.mono (by assumption) (by intro p hp; kst_mem)); k_whole); intro t9 h9 tk9 F9 N9; (try dsimp only); (try k_fold)) | (k_here; (try (dsimp only [List.cons_append, List.nil_append, List.append_nil])); (with_reducible show wpAny _ _ (call (Value.ref 45) [Value.ref _, Value.int _ _]) _ _ _); k_dflt (refine' Ct.useV (level_c _ _ _ _ _ _ _ ?kA ?kB ?kW) ?k1 ?k2 ?k3 ?k4 ?k5 ?kK ?kd ?ku ?_; (case k1 => k_asm); (case k2 => k_asm); (case k3 => k_asm); (case k4 => k_asm); (case k5 => k_asm); (case kK => first | exact rfl | assumption); (case kd => ktr_room); (case ku => ktr_units); (case kW => first | assumption | exact WsIn.mono (by assumption) (by intro p hp; kst_mem)); (case kA => omega); (case kB => omega); k_whole); intro t9 h9 tk9 F9 N9; (try dsimp only); (try k_fold)) | (k_here; (with_reducible show wpAny _ _ (call (Value.builtin "len") [Value.ref _]) _ _ _); k_dflt (refine' lenL ?k1 ?k2 ?k3 ?_; (case k1 => k_asm); (case k2 => k_mem); (case k3 => omega); k_whole)) | (k_here; (with_reducible show wpAny _ _ (call (Value.type _) [Value.ref _]) _ _ _); k_dflt (refine' kde_tupleOf ?k1 ?k2 ?k3 ?k4 ?k5 ?_; (case k1 => k_asm); (case k2 => k_asm); (case k3 => exact News.isList (by k_asm) (by k_mem)); (case k4 => (simp only [List.size_toArray]; omega)); (case k5 => exact List.toList_toArray); k_whole); intro tD th tF tN tl1; (try k_lt tl1); (try k_sweep)) | (k_here; (with_reducible show wpAny _ _ (call (Value.builtin "str.split") _) _ _ _); (refine KSpl.split1 (by k_asm) (by k_asm) (by decide) ?_ (by (rw [PySem.sizeLine_eq]; omega))); intro D1 l h1 kk hsp hSA F1 N1 lt1; (try k_lt lt1); (try dsimp only)) | (k_here; (with_reducible show wpAny _ _ (exec (Stmt.Assign _ (Expr.ListComp _ [Comprehension.mk _ _ [] _] _ _) _) _) _ _ _); k_dflt (refine assignCell (by k_asm) (by rfl) (by with_unfolding_all rfl) (by with_unfolding_all rfl) (by intro h; rfl) (by intro c; rfl) (by rfl) (by decide) (by rfl) (by rfl) (by rfl) ?_)) | (k_here; (with_reducible show wpAny _ _ (exec (Stmt.Assign _ (Expr.ListComp _ [Comprehension.mk _ _ [] _] _ _) _) _) _ _ _); k_dflt (refine LCg.Assign_ListComp_U (F₀ := by k_asm) (by rfl) (by with_unfolding_all rfl) (by with_unfolding_all rfl) (by decide) (by rfl) (by decide) (by rfl) (by rfl) (by rfl) ?_)) | (k_here; (with_reducible show wpAny _ _ (eval (Expr.ListComp _ [Comprehension.mk _ _ [] _] _ _) _) _ _ _); k_dflt (refine LCg.ListComp_U (F₀ := by k_asm) (by with_unfolding_all rfl) (by decide) (by rfl) (by decide) (by rfl) ?_)) | (k_here; (with_reducible show wpAny _ _ (exec (Stmt.Assign _ (Expr.ListComp _ [Comprehension.mk _ _ [_] _] _ _) _) _) _ _ _); k_dflt (refine LCt.Assign_ListComp_T (F₀ := by k_asm) (by rfl) (by with_unfolding_all rfl) (by with_unfolding_all rfl) (by decide) (by rfl) (by decide) (by rfl) (by rfl) (by rfl) ?_)) | (k_here; (with_reducible show wpAny _ _ (eval (Expr.ListComp _ [Comprehension.mk _ _ [_] _] _ _) _) _ _ _); k_dflt (refine LCt.ListComp_T (F₀ := by k_asm) (by with_unfolding_all rfl) (by decide) (by rfl) (by decide) (by rfl) ?_)) | (k_here; (with_reducible show wpAny _ _ (compareOp CmpOp.NotEq (Value.ref _) (Value.ref _)) _ _ _); k_dflt (refine' normNo ?k1 ?k2 ?k3 ?k4 ?k5 ?k6 ?k7 ?k8 ?k9 ?ka ?_; (case k1 => k_asm); (case k2 => k_mem); (case k5 => k_mem); (case k3 => k_mem); (case k6 => k_mem); (case k4 => assumption); (case k7 => assumption); (case k8 => assumption); (case k9 => assumption); (case ka => ktr_units); k_whole)) | walk1 | (dsimp only; first | (k_here; (try (dsimp only [List.cons_append, List.nil_append, List.append_nil])); (with_reducible show wpAny _ _ (call (Value.ref 38) [Value.ref _]) _ _ _); k_dflt (refine' Ct.useV (longest_c _ _ _ _ _ ?kW) ?k1 ?k2 ?k3 ?k4 ?k5 ?kK ?kd ?ku ?_; (case k1 => k_asm); (case k2 => k_asm); (case k3 => k_asm); (case k4 => k_asm); (case k5 => k_asm); (case kK => first | exact rfl | assumption); (case kd => ktr_room); (case ku => ktr_units); (case kW => first | assumption | exact WsIn.mono (by assumption) (by intro p hp; kst_mem)); k_whole); intro t9 h9 tk9 F9 N9; (try dsimp only); (try k_fold)) | (k_here; (try (dsimp only [List.cons_append, List.nil_append, List.append_nil])); (with_reducible show wpAny _ _ (call (Value.ref 45) [Value.ref _, Value.int _ _]) _ _ _); k_dflt (refine' Ct.useV (level_c _ _ _ _ _ _ _ ?kA ?kB ?kW) ?k1 ?k2 ?k3 ?k4 ?k5 ?kK ?kd ?ku ?_; (case k1 => k_asm); (case k2 => k_asm); (case k3 => k_asm); (case k4 => k_asm); (case k5 => k_asm); (case kK => first | exact rfl | assumption); (case kd => ktr_room); (case ku => ktr_units); (case kW => first | assumption | exact WsIn.mono (by assumption) (by intro p hp; kst_mem)); (case kA => omega); (case kB => omega); k_whole); intro t9 h9 tk9 F9 N9; (try dsimp only); (try k_fold)) | (k_here; (with_reducible show wpAny _ _ (call (Value.builtin "len") [Value.ref _]) _ _ _); k_dflt (refine' lenL ?k1 ?k2 ?k3 ?_; (case k1 => k_asm); (case k2 => k_mem); (case k3 => omega); k_whole)) | (k_here; (with_reducible show wpAny _ _ (call (Value.type _) [Value.ref _]) _ _ _); k_dflt (refine' kde_tupleOf ?k1 ?k2 ?k3 ?k4 ?k5 ?_; (case k1 => k_asm); (case k2 => k_asm); (case k3 => exact News.isList (by k_asm) (by k_mem)); (case k4 => (simp only [List.size_toArray]; omega)); (case k5 => exact List.toList_toArray); k_whole); intro tD th tF tN tl1; (try k_lt tl1); (try k_sweep)) | (k_here; (with_reducible show wpAny _ _ (call (Value.builtin "str.split") _) _ _ _); (refine KSpl.split1 (by k_asm) (by k_asm) (by decide) ?_ (by (rw [PySem.sizeLine_eq]; omega))); intro D1 l h1 kk hsp hSA F1 N1 lt1; (try k_lt lt1); (try dsimp only)) | (k_here; (with_reducible show wpAny _ _ (exec (Stmt.Assign _ (Expr.ListComp _ [Comprehension.mk _ _ [] _] _ _) _) _) _ _ _); k_dflt (refine assignCell (by k_asm) (by rfl) (by with_unfolding_all rfl) (by with_unfolding_all rfl) (by intro h; rfl) (by intro c; rfl) (by rfl) (by decide) (by rfl) (by rfl) (by rfl) ?_)) | (k_here; (with_reducible show wpAny _ _ (exec (Stmt.Assign _ (Expr.ListComp _ [Comprehension.mk _ _ [] _] _ _) _) _) _ _ _); k_dflt (refine LCg.Assign_ListComp_U (F₀ := by k_asm) (by rfl) (by with_unfolding_all rfl) (by with_unfolding_all rfl) (by decide) (by rfl) (by decide) (by rfl) (by rfl) (by rfl) ?_)) | (k_here; (with_reducible show wpAny _ _ (eval (Expr.ListComp _ [Comprehension.mk _ _ [] _] _ _) _) _ _ _); k_dflt (refine LCg.ListComp_U (F₀ := by k_asm) (by with_unfolding_all rfl) (by decide) (by rfl) (by decide) (by rfl) ?_)) | (k_here; (with_reducible show wpAny _ _ (exec (Stmt.Assign _ (Expr.ListComp _ [Comprehension.mk _ _ [_] _] _ _) _) _) _ _ _); k_dflt (refine LCt.Assign_ListComp_T (F₀ := by k_asm) (by rfl) (by with_unfolding_all rfl) (by with_unfolding_all rfl) (by decide) (by rfl) (by decide) (by rfl) (by rfl) (by rfl) ?_)) | (k_here; (with_reducible show wpAny _ _ (eval (Expr.ListComp _ [Comprehension.mk _ _ [_] _] _ _) _) _ _ _); k_dflt (refine LCt.ListComp_T (F₀ := by k_asm) (by with_unfolding_all rfl) (by decide) (by rfl) (by decide) (by rfl) ?_)) | (k_here; (with_reducible show wpAny _ _ (compareOp CmpOp.NotEq (Value.ref _) (Value.ref _)) _ _ _); k_dflt (refine' normNo ?k1 ?k2 ?k3 ?k4 ?k5 ?k6 ?k7 ?k8 ?k9 ?ka ?_; (case k1 => k_asm); (case k2 => k_mem); (case k5 => k_mem); (case k3 => k_mem); (case k6 => k_mem); (case k4 => assumption); (case k7 => assumption); (case k8 => assumption); (case k9 => assumption); (case ka => ktr_units); k_whole)) | walk1)
          refine LCt.CompSrcT.ledger (by with_unfolding_all rfl) F₁ N₁ (.tail _ (.tail _ (.tail _ (.tail _ (.tail _ (.head _)))))) (by rw [List.size_toArray, hwl, sizeLine_eq]; omega) ?_
          intro g5
          refine comp_invT (fun j zs2 nw => nw = _ ∧ IntsAre zs2 (((partsOf lead).dropLast.take j).filter fun r => decide (r = (i : Int)))) ⟨rfl, .nil⟩ ?_ ?_
          · intro j v I2 oI2 C2 oC2 D6 m2 zs2 nw h13 tk13 E2 hj hv hJ hNC2 hx2 F13 N13 off2 ne2
            obtain ⟨rfl, hzs2⟩ := hJ
            rename IntsAre ws _ => hI3
            obtain ⟨r, t2, rfl, hr⟩ := IntsAre.at hI3 j v (by simpa using hv)
            repeat' (fail_if_success (with_reducible show wpAny _ _ (pyIter _) _ _ _)); (fail_if_success (with_reducible show LCg.CompSrc _ _ _ _ _ _ _ _ _ _ _ _ _ _)); (fail_if_success (with_reducible show LCt.CompSrcT _ _ _ _ _ _ _ _ _ _ _ _ _ _ _)); (fail_if_success (with_reducible show LCg.CompEnd _ _ _ _ _ _ _ _ _ _ _ _ _ _)); (fail_if_success (with_reducible show CellEnd _ _ _ _ _ _ _ _ _ _ _ _ _ _ _ _)); first | (k_unfold; (try dsimp only)) | (k_here; (try (dsimp only [List.cons_append, List.nil_append, List.append_nil])); (with_reducible show wpAny _ _ (call (Value.ref 38) [Value.ref _]) _ _ _); k_dflt (refine' Ct.useV (longest_c _ _ _ _ _ ?kW) ?k1 ?k2 ?k3 ?k4 ?k5 ?kK ?kd ?ku ?_; (case k1 => k_asm); (case k2 => k_asm); (case k3 => k_asm); (case k4 => k_asm); (case k5 => k_asm); (case kK => first | exact rfl | assumption); (case kd => ktr_room); (case ku => ktr_units); (case kW => first | assumption | exact WsIn.mono (by assumption) (by intro p hp; kst_mem)); k_whole); intro t9 h9 tk9 F9 N9; (try dsimp only); (try k_fold)) | (k_here; (try (dsimp only [List.cons_append, List.nil_append, List.append_nil])); (with_reducible show wpAny _ _ (call (Value.ref 45) [Value.ref _, Value.int _ _]) _ _ _); k_dflt (refine' Ct.useV (level_c _ _ _ _ _ _ _ ?kA ?kB ?kW) ?k1 ?k2 ?k3 ?k4 ?k5 ?kK ?kd ?ku ?_; (case k1 => k_asm); (case k2 => k_asm); (case k3 => k_asm); (case k4 => k_asm); (case k5 => k_asm); (case kK => first | exact rfl | assumption); (case kd => ktr_room); (case ku => ktr_units); (case kW => first | assumption | exact WsIn.mono (by assumption) (by intro p hp; kst_mem)); (case kA => omega); (case kB => omega); k_whole); intro t9 h9 tk9 F9 N9; (try dsimp only); (try k_fold)) | (k_here; (with_reducible show wpAny _ _ (call (Value.builtin "len") [Value.ref _]) _ _ _); k_dflt (refine' lenL ?k1 ?k2 ?k3 ?_; (case k1 => k_asm); (case k2 => k_mem); (case k3 => omega); k_whole)) | (k_here; (with_reducible show wpAny _ _ (call (Value.type _) [Value.ref _]) _ _ _); k_dflt (refine' kde_tupleOf ?k1 ?k2 ?k3 ?k4 ?k5 ?_; (case k1 => k_asm); (case k2 => k_asm); (case k3 => exact News.isList (by k_asm) (by k_mem)); (case k4 => (simp only [List.size_toArray]; omega)); (case k5 => exact List.toList_toArray); k_whole); intro tD th tF tN tl1; (try k_lt tl1); (try k_sweep)) | (k_here; (with_reducible show wpAny _ _ (call (Value.builtin "str.split") _) _ _ _); (refine KSpl.split1 (by k_asm) (by k_asm) (by decide) ?_ (by (rw [PySem.sizeLine_eq]; omega))); intro D1 l h1 kk hsp hSA F1 N1 lt1; (try k_lt lt1); (try dsimp only)) | (k_here; (with_reducible show wpAny _ _ (exec (Stmt.Assign _ (Expr.ListComp _ [Comprehension.mk _ _ [] _] _ _) _) _) _ _ _); k_dflt (refine assignCell (by k_asm) (by rfl) (by with_unfolding_all rfl) (by with_unfolding_all rfl) (by intro h; rfl) (by intro c; rfl) (by rfl) (by decide) (by rfl) (by rfl) (by rfl) ?_)) | (k_here; (with_reducible show wpAny _ _ (exec (Stmt.Assign _ (Expr.ListComp _ [Comprehension.mk _ _ [] _] _ _) _) _) _ _ _); k_dflt (refine LCg.Assign_ListComp_U (F₀ := by k_asm) (by rfl) (by with_unfolding_all rfl) (by with_unfolding_all rfl) (by decide) (by rfl) (by decide) (by rfl) (by rfl) (by rfl) ?_)) | (k_here; (with_reducible show wpAny _ _ (eval (Expr.ListComp _ [Comprehension.mk _ _ [] _] _ _) _) _ _ _); k_dflt (refine LCg.ListComp_U (F₀ := by k_asm) (by with_unfolding_all rfl) (by decide) (by rfl) (by decide) (by rfl) ?_)) | (k_here; (with_reducible show wpAny _ _ (exec (Stmt.Assign _ (Expr.ListComp _ [Comprehension.mk _ _ [_] _] _ _) _) _) _ _ _); k_dflt (refine LCt.Assign_ListComp_T (F₀ := by k_asm) (by rfl) (by with_unfolding_all rfl) (by with_unfolding_all rfl) (by decide) (by rfl) (by decide) (by rfl) (by rfl) (by rfl) ?_)) | (k_here; (with_reducible show wpAny _ _ (eval (Expr.ListComp _ [Comprehension.mk _ _ [_] _] _ _) _) _ _ _); k_dflt (refine LCt.ListComp_T (F₀ := by k_asm) (by with_unfolding_all rfl) (by decide) (by rfl) (by decide) (by rfl) ?_)) | (k_here; (with_reducible show wpAny _ _ (compareOp CmpOp.NotEq (Value.ref _) (Value.ref _)) _ _ _); k_dflt (refine' normNo ?k1 ?k2 ?k3 ?k4 ?k5 ?k6 ?k7 ?k8 ?k9 ?ka ?_; (case k1 => k_asm); (case k2 => k_mem); (case k5 => k_mem); (case k3 => k_mem); (case k6 => k_mem); (case k4 => assumption); (case k7 => assumption); (case k8 => assumption); (case k9 => assumption); (case ka => ktr_units); k_whole)) | walk1 | (dsimp only; first | (k_here; (try (dsimp only [List.cons_append, List.nil_append, List.append_nil])); (with_reducible show wpAny _ _ (call (Value.ref 38) [Value.ref _]) _ _ _); k_dflt (refine' Ct.useV (longest_c _ _ _ _ _ ?kW) ?k1 ?k2 ?k3 ?k4 ?k5 ?kK ?kd ?ku ?_; (case k1 => k_asm); (case k2 => k_asm); (case k3 => k_asm); (case k4 => k_asm); (case k5 => k_asm); (case kK => first | exact rfl | assumption); (case kd => ktr_room); (case ku => ktr_units); (case kW => first | assumption | exact WsIn.mono (by assumption) (by intro p hp; kst_mem)); k_whole); intro t9 h9 tk9 F9 N9; (try dsimp only); (try k_fold)) | (k_here; (try (dsimp only [List.cons_append, List.nil_append, List.append_nil])); (with_reducible show wpAny _ _ (call (Value.ref 45) [Value.ref _, Value.int _ _]) _ _ _); k_dflt (refine' Ct.useV (level_c _ _ _ _ _ _ _ ?kA ?kB ?kW) ?k1 ?k2 ?k3 ?k4 ?k5 ?kK ?kd ?ku ?_; (case k1 => k_asm); (case k2 => k_asm); (case k3 => k_asm); (case k4 => k_asm); (case k5 => k_asm); (case kK => first | exact rfl | assumption); (case kd => ktr_room); (case ku => ktr_units); (case kW => first | assumption | exact WsIn.mono (by assumption) (by intro p hp; kst_mem)); (case kA => omega); (case kB => omega); k_whole); intro t9 h9 tk9 F9 N9; (try dsimp only); (try k_fold)) | (k_here; (with_reducible show wpAny _ _ (call (Value.builtin "len") [Value.ref _]) _ _ _); k_dflt (refine' lenL ?k1 ?k2 ?k3 ?_; (case k1 => k_asm); (case k2 => k_mem); (case k3 => omega); k_whole)) | (k_here; (with_reducible show wpAny _ _ (call (Value.type _) [Value.ref _]) _ _ _); k_dflt (refine' kde_tupleOf ?k1 ?k2 ?k3 ?k4 ?k5 ?_; (case k1 => k_asm); (case k2 => k_asm); (case k3 => exact News.isList (by k_asm) (by k_mem)); (case k4 => (simp only [List.size_toArray]; omega)); (case k5 => exact List.toList_toArray); k_whole); intro tD th tF tN tl1; (try k_lt tl1); (try k_sweep)) | (k_here; (with_reducible show wpAny _ _ (call (Value.builtin "str.split") _) _ _ _); (refine KSpl.split1 (by k_asm) (by k_asm) (by decide) ?_ (by (rw [PySem.sizeLine_eq]; omega))); intro D1 l h1 kk hsp hSA F1 N1 lt1; (try k_lt lt1); (try dsimp only)) | (k_here; (with_reducible show wpAny _ _ (exec (Stmt.Assign _ (Expr.ListComp _ [Comprehension.mk _ _ [] _] _ _) _) _) _ _ _); k_dflt (refine assignCell (by k_asm) (by rfl) (by with_unfolding_all rfl) (by with_unfolding_all rfl) (by intro h; rfl) (by intro c; rfl) (by rfl) (by decide) (by rfl) (by rfl) (by rfl) ?_)) | (k_here; (with_reducible show wpAny _ _ (exec (Stmt.Assign _ (Expr.ListComp _ [Comprehension.mk _ _ [] _] _ _) _) _) _ _ _); k_dflt (refine LCg.Assign_ListComp_U (F₀ := by k_asm) (by rfl) (by with_unfolding_all rfl) (by with_unfolding_all rfl) (by decide) (by rfl) (by decide) (by rfl) (by rfl) (by rfl) ?_)) | (k_here; (with_reducible show wpAny _ _ (eval (Expr.ListComp _ [Comprehension.mk _ _ [] _] _ _) _) _ _ _); k_dflt (refine LCg.ListComp_U (F₀ := by k_asm) (by with_unfolding_all rfl) (by decide) (by rfl) (by decide) (by rfl) ?_)) | (k_here; (with_reducible show wpAny _ _ (exec (Stmt.Assign _ (Expr.ListComp _ [Comprehension.mk _ _ [_] _] _ _) _) _) _ _ _); k_dflt (refine LCt.Assign_ListComp_T (F₀ := by k_asm) (by rfl) (by with_unfolding_all rfl) (by with_unfolding_all rfl) (by decide) (by rfl) (by decide) (by rfl) (by rfl) (by rfl) ?_)) | (k_here; (with_reducible show wpAny _ _ (eval (Expr.ListComp _ [Comprehension.mk _ _ [_] _] _ _) _) _ _ _); k_dflt (refine LCt.ListComp_T (F₀ := by k_asm) (by with_unfolding_all rfl) (by decide) (by rfl) (by decide) (by rfl) ?_)) | (k_here; (with_reducible show wpAny _ _ (compareOp CmpOp.NotEq (Value.ref _) (Value.ref _)) _ _ _); k_dflt (refine' normNo ?k1 ?k2 ?k3 ?k4 ?k5 ?k6 ?k7 ?k8 ?k9 ?ka ?_; (case k1 => k_asm); (case k2 => k_mem); (case k5 => k_mem); (case k3 => k_mem); (case k6 => k_mem); (case k4 => assumption); (case k7 => assumption); (case k8 => assumption); (case k9 => assumption); (case ka => ktr_units); k_whole)) | walk1)
            · refine LCg.CompEnd.intro F13 N13 _ (fun p hp => hp) off2 (.inr ⟨_, .tail _ (.tail _ (.tail _ (.tail _ (.tail _ (.head _))))), rfl, _, rfl⟩) ⟨rfl, ?_⟩
              rw [filter_take_yes hr (decide_eq_true (by omega))]
              exact IntsAre.append hzs2 (.cons _ _ .nil)
            · refine LCg.CompEnd.intro F13 N13 _ (fun p hp => hp) off2 (.inr ⟨_, .tail _ (.tail _ (.tail _ (.tail _ (.tail _ (.head _))))), rfl, _, rfl⟩) ⟨rfl, ?_⟩
              rw [filter_take_no hr (decide_eq_false (by omega))]
              exact hzs2
          · rintro zs2 nw ⟨rfl, hzs2⟩
            rw [List.size_toArray, hwl, List.take_length] at hzs2
            unfold LCg.FinE
            intro D6 h13 tk13 F13 N13 off13
            have hz7 : zs2.length ≤ 6 := by
              rw [hzs2.length]
              exact Nat.le_trans (List.length_filter_le _ _) hRl
            dsimp only
            repeat' (fail_if_success (with_reducible show wpAny _ _ (pyIter _) _ _ _)); (fail_if_success (with_reducible show LCg.CompSrc _ _ _ _ _ _ _ _ _ _ _ _ _ _)); (fail_if_success (with_reducible show LCt.CompSrcT _ _ _ _ _ _ _ _ _ _ _ _ _ _ _)); (fail_if_success (with_reducible show LCg.CompEnd _ _ _ _ _ _ _ _ _ _ _ _ _ _)); (fail_if_success (with_reducible show CellEnd _ _ _ _ _ _ _ _ _ _ _ _ _ _ _ _)); first | (k_unfold; (try dsimp only)) | (k_here; (try (dsimp only [List.cons_append, List.nil_append, List.append_nil])); (with_reducible show wpAny _ _ (call (Value.ref 38) [Value.ref _]) _ _ _); k_dflt (refine' Ct.useV (longest_c _ _ _ _ _ ?kW) ?k1 ?k2 ?k3 ?k4 ?k5 ?kK ?kd ?ku ?_; (case k1 => k_asm); (case k2 => k_asm); (case k3 => k_asm); (case k4 => k_asm); (case k5 => k_asm); (case kK => first | exact rfl | assumption); (case kd => ktr_room); (case ku => ktr_units); (case kW => first | assumption | exact WsIn.mono (by assumption) (by intro p hp; kst_mem)); k_whole); intro t9 h9 tk9 F9 N9; (try dsimp only); (try k_fold)) | (k_here; (try (dsimp only [List.cons_append, List.nil_append, List.append_nil])); (with_reducible show wpAny _ _ (call (Value.ref 45) [Value.ref _, Value.int _ _]) _ _ _); k_dflt (refine' Ct.useV (level_c _ _ _ _ _ _ _ ?kA ?kB ?kW) ?k1 ?k2 ?k3 ?k4 ?k5 ?kK ?kd ?ku ?_; (case k1 => k_asm); (case k2 => k_asm); (case k3 => k_asm); (case k4 => k_asm); (case k5 => k_asm); (case kK => first | exact rfl | assumption); (case kd => ktr_room); (case ku => ktr_units); (case kW => first | assumption | exact WsIn.mono (by assumption) (by intro p hp; kst_mem)); (case kA => omega); (case kB => omega); k_whole); intro t9 h9 tk9 F9 N9; (try dsimp only); (try k_fold)) | (k_here; (with_reducible show wpAny _ _ (call (Value.builtin "len") [Value.ref _]) _ _ _); k_dflt (refine' lenL ?k1 ?k2 ?k3 ?_; (case k1 => k_asm); (case k2 => k_mem); (case k3 => omega); k_whole)) | (k_here; (with_reducible show wpAny _ _ (call (Value.type _) [Value.ref _]) _ _ _); k_dflt (refine' kde_tupleOf ?k1 ?k2 ?k3 ?k4 ?k5 ?_; (case k1 => k_asm); (case k2 => k_asm); (case k3 => exact News.isList (by k_asm) (by k_mem)); (case k4 => (simp only [List.size_toArray]; omega)); (case k5 => exact List.toList_toArray); k_whole); intro tD th tF tN tl1; (try k_lt tl1); (try k_sweep)) | (k_here; (with_reducible show wpAny _ _ (call (Value.builtin "str.split") _) _ _ _); (refine KSpl.split1 (by k_asm) (by k_asm) (by decide) ?_ (by (rw [PySem.sizeLine_eq]; omega))); intro D1 l h1 kk hsp hSA F1 N1 lt1; (try k_lt lt1); (try dsimp only)) | (k_here; (with_reducible show wpAny _ _ (exec (Stmt.Assign _ (Expr.ListComp _ [Comprehension.mk _ _ [] _] _ _) _) _) _ _ _); k_dflt (refine assignCell (by k_asm) (by rfl) (by with_unfolding_all rfl) (by with_unfolding_all rfl) (by intro h; rfl) (by intro c; rfl) (by rfl) (by decide) (by rfl) (by rfl) (by rfl) ?_)) | (k_here; (with_reducible show wpAny _ _ (exec (Stmt.Assign _ (Expr.ListComp _ [Comprehension.mk _ _ [] _] _ _) _) _) _ _ _); k_dflt (refine LCg.Assign_ListComp_U (F₀ := by k_asm) (by rfl) (by with_unfolding_all rfl) (by with_unfolding_all rfl) (by decide) (by rfl) (by decide) (by rfl) (by rfl) (by rfl) ?_)) | (k_here; (with_reducible show wpAny _ _ (eval (Expr.ListComp _ [Comprehension.mk _ _ [] _] _ _) _) _ _ _); k_dflt (refine LCg.ListComp_U (F₀ := by k_asm) (by with_unfolding_all rfl) (by decide) (by rfl) (by decide) (by rfl) ?_)) | (k_here; (with_reducible show wpAny _ _ (exec (Stmt.Assign _ (Expr.ListComp _ [Comprehension.mk _ _ [_] _] _ _) _) _) _ _ _); k_dflt (refine LCt.Assign_ListComp_T (F₀ := by k_asm) (by rfl) (by with_unfolding_all rfl) (by with_unfolding_all rfl) (by decide) (by rfl) (by decide) (by rfl) (by rfl) (by rfl) ?_)) | (k_here; (with_reducible show wpAny _ _ (eval (Expr.ListComp _ [Comprehension.mk _ _ [_] _] _ _) _) _ _ _); k_dflt (refine LCt.ListComp_T (F₀ := by k_asm) (by with_unfolding_all rfl) (by decide) (by rfl) (by decide) (by rfl) ?_)) | (k_here; (with_reducible show wpAny _ _ (compareOp CmpOp.NotEq (Value.ref _) (Value.ref _)) _ _ _); k_dflt (refine' normNo ?k1 ?k2 ?k3 ?k4 ?k5 ?k6 ?k7 ?k8 ?k9 ?ka ?_; (case k1 => k_asm); (case k2 => k_mem); (case k5 => k_mem); (case k3 => k_mem); (case k6 => k_mem); (case k4 => assumption); (case k7 => assumption); (case k8 => assumption); (case k9 => assumption); (case ka => ktr_units); k_whole)) | walk1 | (dsimp only; first | (k_here; (try (dsimp only [List.cons_append, List.nil_append, List.append_nil])); (with_reducible show wpAny _ _ (call (Value.ref 38) [Value.ref _]) _ _ _); k_dflt (refine' Ct.useV (longest_c _ _ _ _ _ ?kW) ?k1 ?k2 ?k3 ?k4 ?k5 ?kK ?kd ?ku ?_; (case k1 => k_asm); (case k2 => k_asm); (case k3 => k_asm); (case k4 => k_asm); (case k5 => k_asm); (case kK => first | exact rfl | assumption); (case kd => ktr_room); (case ku => ktr_units); (case kW => first | assumption | exact WsIn.mono (by assumption) (by intro p hp; kst_mem)); k_whole); intro t9 h9 tk9 F9 N9; (try dsimp only); (try k_fold)) | (k_here; (try (dsimp only [List.cons_append, List.nil_append, List.append_nil])); (with_reducible show wpAny _ _ (call (Value.ref 45) [Value.ref _, Value.int _ _]) _ _ _); k_dflt (refine' Ct.useV (level_c _ _ _ _ _ _ _ ?kA ?kB ?kW) ?k1 ?k2 ?k3 ?k4 ?k5 ?kK ?kd ?ku ?_; (case k1 => k_asm); (case k2 => k_asm); (case k3 => k_asm); (case k4 => k_asm); (case k5 => k_asm); (case kK => first | exact rfl | assumption); (case kd => ktr_room); (case ku => ktr_units); (case kW => first | assumption | exact WsIn.mono (by assumption) (by intro p hp; kst_mem)); (case kA => omega); (case kB => omega); k_whole); intro t9 h9 tk9 F9 N9; (try dsimp only); (try k_fold)) | (k_here; (with_reducible show wpAny _ _ (call (Value.builtin "len") [Value.ref _]) _ _ _); k_dflt (refine' lenL ?k1 ?k2 ?k3 ?_; (case k1 => k_asm); (case k2 => k_mem); (case k3 => omega); k_whole)) | (k_here; (with_reducible show wpAny _ _ (call (Value.type _) [Value.ref _]) _ _ _); k_dflt (refine' kde_tupleOf ?k1 ?k2 ?k3 ?k4 ?k5 ?_; (case k1 => k_asm); (case k2 => k_asm); (case k3 => exact News.isList (by k_asm) (by k_mem)); (case k4 => (simp only [List.size_toArray]; omega)); (case k5 => exact List.toList_toArray); k_whole); intro tD th tF tN tl1; (try k_lt tl1); (try k_sweep)) | (k_here; (with_reducible show wpAny _ _ (call (Value.builtin "str.split") _) _ _ _); (refine KSpl.split1 (by k_asm) (by k_asm) (by decide) ?_ (by (rw [PySem.sizeLine_eq]; omega))); intro D1 l h1 kk hsp hSA F1 N1 lt1; (try k_lt lt1); (try dsimp only)) | (k_here; (with_reducible show wpAny _ _ (exec (Stmt.Assign _ (Expr.ListComp _ [Comprehension.mk _ _ [] _] _ _) _) _) _ _ _); k_dflt (refine assignCell (by k_asm) (by rfl) (by with_unfolding_all rfl) (by with_unfolding_all rfl) (by intro h; rfl) (by intro c; rfl) (by rfl) (by decide) (by rfl) (by rfl) (by rfl) ?_)) | (k_here; (with_reducible show wpAny _ _ (exec (Stmt.Assign _ (Expr.ListComp _ [Comprehension.mk _ _ [] _] _ _) _) _) _ _ _); k_dflt (refine LCg.Assign_ListComp_U (F₀ := by k_asm) (by rfl) (by with_unfolding_all rfl) (by with_unfolding_all rfl) (by decide) (by rfl) (by decide) (by rfl) (by rfl) (by rfl) ?_)) | (k_here; (with_reducible show wpAny _ _ (eval (Expr.ListComp _ [Comprehension.mk _ _ [] _] _ _) _) _ _ _); k_dflt (refine LCg.ListComp_U (F₀ := by k_asm) (by with_unfolding_all rfl) (by decide) (by rfl) (by decide) (by rfl) ?_)) | (k_here; (with_reducible show wpAny _ _ (exec (Stmt.Assign _ (Expr.ListComp _ [Comprehension.mk _ _ [_] _] _ _) _) _) _ _ _); k_dflt (refine LCt.Assign_ListComp_T (F₀ := by k_asm) (by rfl) (by with_unfolding_all rfl) (by with_unfolding_all rfl) (by decide) (by rfl) (by decide) (by rfl) (by rfl) (by rfl) ?_)) | (k_here; (with_reducible show wpAny _ _ (eval (Expr.ListComp _ [Comprehension.mk _ _ [_] _] _ _) _) _ _ _); k_dflt (refine LCt.ListComp_T (F₀ := by k_asm) (by with_unfolding_all rfl) (by decide) (by rfl) (by decide) (by rfl) ?_)) | (k_here; (with_reducible show wpAny _ _ (compareOp CmpOp.NotEq (Value.ref _) (Value.ref _)) _ _ _); k_dflt (refine' normNo ?k1 ?k2 ?k3 ?k4 ?k5 ?k6 ?k7 ?k8 ?k9 ?ka ?_; (case k1 => k_asm); (case k2 => k_mem); (case k5 => k_mem); (case k3 => k_mem); (case k6 => k_mem); (case k4 => assumption); (case k7 => assumption); (case k8 => assumption); (case k9 => assumption); (case ka => ktr_units); k_whole)) | walk1)
            refine ⟨_, _, _, rfl, F13, kst_newsOf N13 (by kst_in), off, trivial, rfl, ?_⟩
            rw [hzs2.length]
            exact ints_range_snoc hzs
        · rintro g4 zs nw ⟨rfl, hzs⟩
          unfold LCg.FinA
          intro D6 h13 tk13 F13 N13 off13
          dsimp only
          repeat' (fail_if_success (with_reducible show wpAny _ _ (pyIter _) _ _ _)); (fail_if_success (with_reducible show LCg.CompSrc _ _ _ _ _ _ _ _ _ _ _ _ _ _)); (fail_if_success (with_reducible show LCt.CompSrcT _ _ _ _ _ _ _ _ _ _ _ _ _ _ _)); (fail_if_success (with_reducible show LCg.CompEnd _ _ _ _ _ _ _ _ _ _ _ _ _ _)); (fail_if_success (with_reducible show CellEnd _ _ _ _ _ _ _ _ _ _ _ _ _ _ _ _)); first | (k_unfold; (try dsimp only)) | (k_here; (try (dsimp only [List.cons_append, List.nil_append, List.append_nil])); (with_reducible show wpAny _ _ (call (Value.ref 38) [Value.ref _]) _ _ _); k_dflt (refine' Ct.useV (longest_c _ _ _ _ _ ?kW) ?k1 ?k2 ?k3 ?k4 ?k5 ?kK ?kd ?ku ?_; (case k1 => k_asm); (case k2 => k_asm); (case k3 => k_asm); (case k4 => k_asm); (case k5 => k_asm); (case kK => first | exact rfl | assumption); (case kd => ktr_room); (case ku => ktr_units); (case kW => first | assumption | exact WsIn.mono (by assumption) (by intro p hp; kst_mem)); k_whole); intro t9 h9 tk9 F9 N9; (try dsimp only); (try k_fold)) | (k_here; (try (dsimp only [List.cons_append, List.nil_append, List.append_nil])); (with_reducible show wpAny _ _ (call (Value.ref 45) [Value.ref _, Value.int _ _]) _ _ _); k_dflt (refine' Ct.useV (level_c _ _ _ _ _ _ _ ?kA ?kB ?kW) ?k1 ?k2 ?k3 ?k4 ?k5 ?kK ?kd ?ku ?_; (case k1 => k_asm); (case k2 => k_asm); (case k3 => k_asm); (case k4 => k_asm); (case k5 => k_asm); (case kK => first | exact rfl | assumption); (case kd => ktr_room); (case ku => ktr_units); (case kW => first | assumption | exact WsIn.mono (by assumption) (by intro p hp; kst_mem)); (case kA => omega); (case kB => omega); k_whole); intro t9 h9 tk9 F9 N9; (try dsimp only); (try k_fold)) | (k_here; (with_reducible show wpAny _ _ (call (Value.builtin "len") [Value.ref _]) _ _ _); k_dflt (refine' lenL ?k1 ?k2 ?k3 ?_; (case k1 => k_asm); (case k2 => k_mem); (case k3 => omega); k_whole)) | (k_here; (with_reducible show wpAny _ _ (call (Value.type _) [Value.ref _]) _ _ _); k_dflt (refine' kde_tupleOf ?k1 ?k2 ?k3 ?k4 ?k5 ?_; (case k1 => k_asm); (case k2 => k_asm); (case k3 => exact News.isList (by k_asm) (by k_mem)); (case k4 => (simp only [List.size_toArray]; omega)); (case k5 => exact List.toList_toArray); k_whole); intro tD th tF tN tl1; (try k_lt tl1); (try k_sweep)) | (k_here; (with_reducible show wpAny _ _ (call (Value.builtin "str.split") _) _ _ _); (refine KSpl.split1 (by k_asm) (by k_asm) (by decide) ?_ (by (rw [PySem.sizeLine_eq]; omega))); intro D1 l h1 kk hsp hSA F1 N1 lt1; (try k_lt lt1); (try dsimp only)) | (k_here; (with_reducible show wpAny _ _ (exec (Stmt.Assign _ (Expr.ListComp _ [Comprehension.mk _ _ [] _] _ _) _) _) _ _ _); k_dflt (refine assignCell (by k_asm) (by rfl) (by with_unfolding_all rfl) (by with_unfolding_all rfl) (by intro h; rfl) (by intro c; rfl) (by rfl) (by decide) (by rfl) (by rfl) (by rfl) ?_)) | (k_here; (with_reducible show wpAny _ _ (exec (Stmt.Assign _ (Expr.ListComp _ [Comprehension.mk _ _ [] _] _ _) _) _) _ _ _); k_dflt (refine LCg.Assign_ListComp_U (F₀ := by k_asm) (by rfl) (by with_unfolding_all rfl) (by with_unfolding_all rfl) (by decide) (by rfl) (by decide) (by rfl) (by rfl) (by rfl) ?_)) | (k_here; (with_reducible show wpAny _ _ (eval (Expr.ListComp _ [Comprehension.mk _ _ [] _] _ _) _) _ _ _); k_dflt (refine LCg.ListComp_U (F₀ := by k_asm) (by with_unfolding_all rfl) (by decide) (by rfl) (by decide) (by rfl) ?_)) | (k_here; (with_reducible show wpAny _ _ (exec (Stmt.Assign _ (Expr.ListComp _ [Comprehension.mk _ _ [_] _] _ _) _) _) _ _ _); k_dflt (refine LCt.Assign_ListComp_T (F₀ := by k_asm) (by rfl) (by with_unfolding_all rfl) (by with_unfolding_all rfl) (by decide) (by rfl) (by decide) (by rfl) (by rfl) (by rfl) ?_)) | (k_here; (with_reducible show wpAny _ _ (eval (Expr.ListComp _ [Comprehension.mk _ _ [_] _] _ _) _) _ _ _); k_dflt (refine LCt.ListComp_T (F₀ := by k_asm) (by with_unfolding_all rfl) (by decide) (by rfl) (by decide) (by rfl) ?_)) | (k_here; (with_reducible show wpAny _ _ (compareOp CmpOp.NotEq (Value.ref _) (Value.ref _)) _ _ _); k_dflt (refine' normNo ?k1 ?k2 ?k3 ?k4 ?k5 ?k6 ?k7 ?k8 ?k9 ?ka ?_; (case k1 => k_asm); (case k2 => k_mem); (case k5 => k_mem); (case k3 => k_mem); (case k6 => k_mem); (case k4 => assumption); (case k7 => assumption); (case k8 => assumption); (case k9 => assumption); (case ka => ktr_units); k_whole)) | walk1 | (dsimp only; first | (k_here; (try (dsimp only [List.cons_append, List.nil_append, List.append_nil])); (with_reducible show wpAny _ _ (call (Value.ref 38) [Value.ref _]) _ _ _); k_dflt (refine' Ct.useV (longest_c _ _ _ _ _ ?kW) ?k1 ?k2 ?k3 ?k4 ?k5 ?kK ?kd ?ku ?_; (case k1 => k_asm); (case k2 => k_asm); (case k3 => k_asm); (case k4 => k_asm); (case k5 => k_asm); (case kK => first | exact rfl | assumption); (case kd => ktr_room); (case ku => ktr_units); (case kW => first | assumption | exact WsIn.mono (by assumption) (by intro p hp; kst_mem)); k_whole); intro t9 h9 tk9 F9 N9; (try dsimp only); (try k_fold)) | (k_here; (try (dsimp only [List.cons_append, List.nil_append, List.append_nil])); (with_reducible show wpAny _ _ (call (Value.ref 45) [Value.ref _, Value.int _ _]) _ _ _); k_dflt (refine' Ct.useV (level_c _ _ _ _ _ _ _ ?kA ?kB ?kW) ?k1 ?k2 ?k3 ?k4 ?k5 ?kK ?kd ?ku ?_; (case k1 => k_asm); (case k2 => k_asm); (case k3 => k_asm); (case k4 => k_asm); (case k5 => k_asm); (case kK => first | exact rfl | assumption); (case kd => ktr_room); (case ku => ktr_units); (case kW => first | assumption | exact WsIn.mono (by assumption) (by intro p hp; kst_mem)); (case kA => omega); (case kB => omega); k_whole); intro t9 h9 tk9 F9 N9; (try dsimp only); (try k_fold)) | (k_here; (with_reducible show wpAny _ _ (call (Value.builtin "len") [Value.ref _]) _ _ _); k_dflt (refine' lenL ?k1 ?k2 ?k3 ?_; (case k1 => k_asm); (case k2 => k_mem); (case k3 => omega); k_whole)) | (k_here; (with_reducible show wpAny _ _ (call (Value.type _) [Value.ref _]) _ _ _); k_dflt (refine' kde_tupleOf ?k1 ?k2 ?k3 ?k4 ?k5 ?_; (case k1 => k_asm); (case k2 => k_asm); (case k3 => exact News.isList (by k_asm) (by k_mem)); (case k4 => (simp only [List.size_toArray]; omega)); (case k5 => exact List.toList_toArray); k_whole); intro tD th tF tN tl1; (try k_lt tl1); (try k_sweep)) | (k_here; (with_reducible show wpAny _ _ (call (Value.builtin "str.split") _) _ _ _); (refine KSpl.split1 (by k_asm) (by k_asm) (by decide) ?_ (by (rw [PySem.sizeLine_eq]; omega))); intro D1 l h1 kk hsp hSA F1 N1 lt1; (try k_lt lt1); (try dsimp only)) | (k_here; (with_reducible show wpAny _ _ (exec (Stmt.Assign _ (Expr.ListComp _ [Comprehension.mk _ _ [] _] _ _) _) _) _ _ _); k_dflt (refine assignCell (by k_asm) (by rfl) (by with_unfolding_all rfl) (by with_unfolding_all rfl) (by intro h; rfl) (by intro c; rfl) (by rfl) (by decide) (by rfl) (by rfl) (by rfl) ?_)) | (k_here; (with_reducible show wpAny _ _ (exec (Stmt.Assign _ (Expr.ListComp _ [Comprehension.mk _ _ [] _] _ _) _) _) _ _ _); k_dflt (refine LCg.Assign_ListComp_U (F₀ := by k_asm) (by rfl) (by with_unfolding_all rfl) (by with_unfolding_all rfl) (by decide) (by rfl) (by decide) (by rfl) (by rfl) (by rfl) ?_)) | (k_here; (with_reducible show wpAny _ _ (eval (Expr.ListComp _ [Comprehension.mk _ _ [] _] _ _) _) _ _ _); k_dflt (refine LCg.ListComp_U (F₀ := by k_asm) (by with_unfolding_all rfl) (by decide) (by rfl) (by decide) (by rfl) ?_)) | (k_here; (with_reducible show wpAny _ _ (exec (Stmt.Assign _ (Expr.ListComp _ [Comprehension.mk _ _ [_] _] _ _) _) _) _ _ _); k_dflt (refine LCt.Assign_ListComp_T (F₀ := by k_asm) (by rfl) (by with_unfolding_all rfl) (by with_unfolding_all rfl) (by decide) (by rfl) (by decide) (by rfl) (by rfl) (by rfl) ?_)) | (k_here; (with_reducible show wpAny _ _ (eval (Expr.ListComp _ [Comprehension.mk _ _ [_] _] _ _) _) _ _ _); k_dflt (refine LCt.ListComp_T (F₀ := by k_asm) (by with_unfolding_all rfl) (by decide) (by rfl) (by decide) (by rfl) ?_)) | (k_here; (with_reducible show wpAny _ _ (compareOp CmpOp.NotEq (Value.ref _) (Value.ref _)) _ _ _); k_dflt (refine' normNo ?k1 ?k2 ?k3 ?k4 ?k5 ?k6 ?k7 ?k8 ?k9 ?ka ?_; (case k1 => k_asm); (case k2 => k_mem); (case k5 => k_mem); (case k3 => k_mem); (case k6 => k_mem); (case k4 => assumption); (case k7 => assumption); (case k8 => assumption); (case k9 => assumption); (case ka => ktr_units); k_whole)) | walk1)
          exact ⟨rfl, D6, zs, _, _, _, rfl, F13, kst_newsOf N13 (by kst_in), by rw [counts_cons hMm hMb]; exact hzs⟩
      · rename_i hno
        refine ⟨rfl, l4, [], 0, _, _, rfl, ?_, N3, ?_⟩
        · rw [mid_same (by rfl)]; exact F3
        · rw [counts_nil hno]; exact .nil
    · rintro f s' ⟨rfl, D5, zs, nz, h10, tk10, rfl, F10, N10, hI10⟩
      have hF1 : (text != text) = false := by simp
      have hF2 : ((wst lead.cps.toList).n : Int) = (lead.length : Int) := by rw [(wst_bounds lead.cps.toList).2.1, Array.length_toList]; rfl
      have hF3 := hLF.nt
      have hF4 := hLF.cnt
      have hF5 : ((wst lead.cps.toList).b : Int) = (partsOf lead).getD (-1 + ((partsOf lead).length : Int)).toNat 0 := by
        rw [hLF.b, show (-1 + ((partsOf lead).length : Int)).toNat = (partsOf lead).length - 1 by omega, List.getLastD_eq_getLast?, List.getLast?_eq_getElem?, List.getD_eq_getElem?_getD]
      have hF6 := hLF.long
      have hF7 := hLF.simple
      have hzl := hI10.length
      have hcb := wst_bounds lead.cps.toList
      rw [← hF4] at hzl
      dsimp only
      repeat' (fail_if_success (with_reducible show wpAny _ _ (pyIter _) _ _ _)); (fail_if_success (with_reducible show LCg.CompSrc _ _ _ _ _ _ _ _ _ _ _ _ _ _)); (fail_if_success (with_reducible show LCt.CompSrcT _ _ _ _ _ _ _ _ _ _ _ _ _ _ _)); first | (k_unfold; (try dsimp only)) | (k_here; (try (dsimp only [List.cons_append, List.nil_append, List.append_nil])); (with_reducible show wpAny _ _ (call (Value.ref 38) [Value.ref _]) _ _ _); k_dflt (refine' Ct.useV (longest_c _ _ _ _ _ ?kW) ?k1 ?k2 ?k3 ?k4 ?k5 ?kK ?kd ?ku ?_; (case k1 => k_asm); (case k2 => k_asm); (case k3 => k_asm); (case k4 => k_asm); (case k5 => k_asm); (case kK => first | exact rfl | assumption); (case kd => ktr_room); (case ku => ktr_units); (case kW => first | assumption | exact WsIn.mono (by assumption) (by intro p hp; kst_mem)); k_whole); intro t9 h9 tk9 F9 N9; (try dsimp only); (try k_fold)) | (k_here; (try (dsimp only [List.cons_append, List.nil_append, List.append_nil])); (with_reducible show wpAny _ _ (call (Value.ref 45) [Value.ref _, Value.int _ _]) _ _ _); k_dflt (refine' Ct.useV (level_c _ _ _ _ _ _ _ ?kA ?kB ?kW) ?k1 ?k2 ?k3 ?k4 ?k5 ?kK ?kd ?ku ?_; (case k1 => k_asm); (case k2 => k_asm); (case k3 => k_asm); (case k4 => k_asm); (case k5 => k_asm); (case kK => first | exact rfl | assumption); (case kd => ktr_room); (case ku => ktr_units); (case kW => first | assumption | exact WsIn.mono (by assumption) (by intro p hp; kst_mem)); (case kA => omega); (case kB => omega); k_whole); intro t9 h9 tk9 F9 N9; (try dsimp only); (try k_fold)) | (k_here; (with_reducible show wpAny _ _ (call (Value.builtin "len") [Value.ref _]) _ _ _); k_dflt (refine' lenL ?k1 ?k2 ?k3 ?_; (case k1 => k_asm); (case k2 => k_mem); (case k3 => omega); k_whole)) | (k_here; (with_reducible show wpAny _ _ (call (Value.type _) [Value.ref _]) _ _ _); k_dflt (refine' kde_tupleOf ?k1 ?k2 ?k3 ?k4 ?k5 ?_; (case k1 => k_asm); (case k2 => k_asm); (case k3 => exact News.isList (by k_asm) (by k_mem)); (case k4 => (simp only [List.size_toArray]; omega)); (case k5 => exact List.toList_toArray); k_whole); intro tD th tF tN tl1; (try k_lt tl1); (try k_sweep)) | (k_here; (with_reducible show wpAny _ _ (call (Value.builtin "str.split") _) _ _ _); (refine KSpl.split1 (by k_asm) (by k_asm) (by decide) ?_ (by (rw [PySem.sizeLine_eq]; omega))); intro D1 l h1 kk hsp hSA F1 N1 lt1; (try k_lt lt1); (try dsimp only)) | (k_here; (with_reducible show wpAny _ _ (exec (Stmt.Assign _ (Expr.ListComp _ [Comprehension.mk _ _ [] _] _ _) _) _) _ _ _); k_dflt (refine assignCell (by k_asm) (by rfl) (by with_unfolding_all rfl) (by with_unfolding_all rfl) (by intro h; rfl) (by intro c; rfl) (by rfl) (by decide) (by rfl) (by rfl) (by rfl) ?_)) | (k_here; (with_reducible show wpAny _ _ (exec (Stmt.Assign _ (Expr.ListComp _ [Comprehension.mk _ _ [] _] _ _) _) _) _ _ _); k_dflt (refine LCg.Assign_ListComp_U (F₀ := by k_asm) (by rfl) (by with_unfolding_all rfl) (by with_unfolding_all rfl) (by decide) (by rfl) (by decide) (by rfl) (by rfl) (by rfl) ?_)) | (k_here; (with_reducible show wpAny _ _ (eval (Expr.ListComp _ [Comprehension.mk _ _ [] _] _ _) _) _ _ _); k_dflt (refine LCg.ListComp_U (F₀ := by k_asm) (by with_unfolding_all rfl) (by decide) (by rfl) (by decide) (by rfl) ?_)) | (k_here; (with_reducible show wpAny _ _ (exec (Stmt.Assign _ (Expr.ListComp _ [Comprehension.mk _ _ [_] _] _ _) _) _) _ _ _); k_dflt (refine LCt.Assign_ListComp_T (F₀ := by k_asm) (by rfl) (by with_unfolding_all rfl) (by with_unfolding_all rfl) (by decide) (by rfl) (by decide) (by rfl) (by rfl) (by rfl) ?_)) | (k_here; (with_reducible show wpAny _ _ (eval (Expr.ListComp _ [Comprehension.mk _ _ [_] _] _ _) _) _ _ _); k_dflt (refine LCt.ListComp_T (F₀ := by k_asm) (by with_unfolding_all rfl) (by decide) (by rfl) (by decide) (by rfl) ?_)) | (k_here; (with_reducible show wpAny _ _ (compareOp CmpOp.NotEq (Value.ref _) (Value.ref _)) _ _ _); k_dflt (refine' normNo ?k1 ?k2 ?k3 ?k4 ?k5 ?k6 ?k7 ?k8 ?k9 ?ka ?_; (case k1 => k_asm); (case k2 => k_mem); (case k5 => k_mem); (case k3 => k_mem); (case k6 => k_mem); (case k4 => assumption); (case k7 => assumption); (case k8 => assumption); (case k9 => assumption); (case ka => ktr_units); k_whole)) | walk1 | (dsimp only; first | (k_here; (try (dsimp only [List.cons_append, List.nil_append, List.append_nil])); (with_reducible show wpAny _ _ (call (Value.ref 38) [Value.ref _]) _ _ _); k_dflt (refine' Ct.useV (longest_c _ _ _ _ _ ?kW) ?k1 ?k2 ?k3 ?k4 ?k5 ?kK ?kd ?ku ?_; (case k1 => k_asm); (case k2 => k_asm); (case k3 => k_asm); (case k4 => k_asm); (case k5 => k_asm); (case kK => first | exact rfl | assumption); (case kd => ktr_room); (case ku => ktr_units); (case kW => first | assumption | exact WsIn.mono (by assumption) (by intro p hp; kst_mem)); k_whole); intro t9 h9 tk9 F9 N9; (try dsimp only); (try k_fold)) | (k_here; (try (dsimp only [List.cons_append, List.nil_append, List.append_nil])); (with_reducible show wpAny _ _ (call (Value.ref 45) [Value.ref _, Value.int _ _]) _ _ _); k_dflt (refine' Ct.useV (level_c _ _ _ _ _ _ _ ?kA ?kB ?kW) ?k1 ?k2 ?k3 ?k4 ?k5 ?kK ?kd ?ku ?_; (case k1 => k_asm); (case k2 => k_asm); (case k3 => k_asm); (case k4 => k_asm); (case k5 => k_asm); (case kK => first | exact rfl | assumption); (case kd => ktr_room); (case ku => ktr_units); (case kW => first | assumption | exact WsIn.mono (by assumption) (by intro p hp; kst_mem)); (case kA => omega); (case kB => omega); k_whole); intro t9 h9 tk9 F9 N9; (try dsimp only); (try k_fold)) | (k_here; (with_reducible show wpAny _ _ (call (Value.builtin "len") [Value.ref _]) _ _ _); k_dflt (refine' lenL ?k1 ?k2 ?k3 ?_; (case k1 => k_asm); (case k2 => k_mem); (case k3 => omega); k_whole)) | (k_here; (with_reducible show wpAny _ _ (call (Value.type _) [Value.ref _]) _ _ _); k_dflt (refine' kde_tupleOf ?k1 ?k2 ?k3 ?k4 ?k5 ?_; (case k1 => k_asm); (case k2 => k_asm); (case k3 => exact News.isList (by k_asm) (by k_mem)); (case k4 => (simp only [List.size_toArray]; omega)); (case k5 => exact List.toList_toArray); k_whole); intro tD th tF tN tl1; (try k_lt tl1); (try k_sweep)) | (k_here; (with_reducible show wpAny _ _ (call (Value.builtin "str.split") _) _ _ _); (refine KSpl.split1 (by k_asm) (by k_asm) (by decide) ?_ (by (rw [PySem.sizeLine_eq]; omega))); intro D1 l h1 kk hsp hSA F1 N1 lt1; (try k_lt lt1); (try dsimp only)) | (k_here; (with_reducible show wpAny _ _ (exec (Stmt.Assign _ (Expr.ListComp _ [Comprehension.mk _ _ [] _] _ _) _) _) _ _ _); k_dflt (refine assignCell (by k_asm) (by rfl) (by with_unfolding_all rfl) (by with_unfolding_all rfl) (by intro h; rfl) (by intro c; rfl) (by rfl) (by decide) (by rfl) (by rfl) (by rfl) ?_)) | (k_here; (with_reducible show wpAny _ _ (exec (Stmt.Assign _ (Expr.ListComp _ [Comprehension.mk _ _ [] _] _ _) _) _) _ _ _); k_dflt (refine LCg.Assign_ListComp_U (F₀ := by k_asm) (by rfl) (by with_unfolding_all rfl) (by with_unfolding_all rfl) (by decide) (by rfl) (by decide) (by rfl) (by rfl) (by rfl) ?_)) | (k_here; (with_reducible show wpAny _ _ (eval (Expr.ListComp _ [Comprehension.mk _ _ [] _] _ _) _) _ _ _); k_dflt (refine LCg.ListComp_U (F₀ := by k_asm) (by with_unfolding_all rfl) (by decide) (by rfl) (by decide) (by rfl) ?_)) | (k_here; (with_reducible show wpAny _ _ (exec (Stmt.Assign _ (Expr.ListComp _ [Comprehension.mk _ _ [_] _] _ _) _) _) _ _ _); k_dflt (refine LCt.Assign_ListComp_T (F₀ := by k_asm) (by rfl) (by with_unfolding_all rfl) (by with_unfolding_all rfl) (by decide) (by rfl) (by decide) (by rfl) (by rfl) (by rfl) ?_)) | (k_here; (with_reducible show wpAny _ _ (eval (Expr.ListComp _ [Comprehension.mk _ _ [_] _] _ _) _) _ _ _); k_dflt (refine LCt.ListComp_T (F₀ := by k_asm) (by with_unfolding_all rfl) (by decide) (by rfl) (by decide) (by rfl) ?_)) | (k_here; (with_reducible show wpAny _ _ (compareOp CmpOp.NotEq (Value.ref _) (Value.ref _)) _ _ _); k_dflt (refine' normNo ?k1 ?k2 ?k3 ?k4 ?k5 ?k6 ?k7 ?k8 ?k9 ?ka ?_; (case k1 => k_asm); (case k2 => k_mem); (case k5 => k_mem); (case k3 => k_mem); (case k6 => k_mem); (case k4 => assumption); (case k7 => assumption); (case k8 => assumption); (case k9 => assumption); (case ka => ktr_units); k_whole)) | walk1)
      · exact absurd hF2 (by assumption)
      · exact absurd (show ((wst lead.cps.toList).nt : Int) = (ws.length : Int) by rw [hF3, hwl]) (by assumption)
      · exact absurd (hF6.trans (listMax_eq (by assumption) (by assumption))) (by assumption)
      · rename (_ != _) = true => hq
        rw [hF7] at hq
        simp [Txt.contains] at hq
      · rename Fr _ _ _ _ => F15
        rename News _ _ _ _ => N15
        refine LCg.CompSrc.ledger (by with_unfolding_all rfl) F15 N15 (.tail _ (.tail _ (.tail _ (.tail _ (.tail _ (.tail _ (.tail _ ms))))))) (by rw [List.size_toArray, hsz.length, sizeLine_eq]; omega) ?_
        intro g6
        refine comp_inv (fun j zs2 nw => nw = _ ∧ IntsAre zs2 ((sizes.map (levelOf lead.cps.toList)).take j)) ⟨rfl, .nil⟩ ?_ ?_
        · rintro j v I oI C oC D6 m2 zs2 nw h16 tk16 E2 hj hv ⟨rfl, hzs2⟩ hNC hx2 F16 N16 off16 ne16
          obtain ⟨r, t5, rfl, hr⟩ := IntsAre.at hsz j v (by simpa using hv)
          have hAnd := hszb r (List.mem_of_getElem? hr)
          have hb1 := hAnd.1
          have hb2 := hAnd.2
          clear hAnd
          repeat' (fail_if_success (with_reducible show wpAny _ _ (pyIter _) _ _ _)); (fail_if_success (with_reducible show LCg.CompSrc _ _ _ _ _ _ _ _ _ _ _ _ _ _)); (fail_if_success (with_reducible show LCt.CompSrcT _ _ _ _ _ _ _ _ _ _ _ _ _ _ _)); (fail_if_success (with_reducible show LCg.CompEnd _ _ _ _ _ _ _ _ _ _ _ _ _ _)); (fail_if_success (with_reducible show CellEnd _ _ _ _ _ _ _ _ _ _ _ _ _ _ _ _)); first | (k_unfold; (try dsimp only)) | (k_here; (try (dsimp only [List.cons_append, List.nil_append, List.append_nil])); (with_reducible show wpAny _ _ (call (Value.ref 38) [Value.ref _]) _ _ _); k_dflt (refine' Ct.useV (longest_c _ _ _ _ _ ?kW) ?k1 ?k2 ?k3 ?k4 ?k5 ?kK ?kd ?ku ?_; (case k1 => k_asm); (case k2 => k_asm); (case k3 => k_asm); (case k4 => k_asm); (case k5 => k_asm); (case kK => first | exact rfl | assumption); (case kd => ktr_room); (case ku => ktr_units); (case kW => first | assumption | exact WsIn.mono (by assumption) (by intro p hp; kst_mem)); k_whole); intro t9 h9 tk9 F9 N9; (try dsimp only); (try k_fold)) | (k_here; (try (dsimp only [List.cons_append, List.nil_append, List.append_nil])); (with_reducible show wpAny _ _ (call (Value.ref 45) [Value.ref _, Value.int _ _]) _ _ _); k_dflt (refine' Ct.useV (level_c _ _ _ _ _ _ _ ?kA ?kB ?kW) ?k1 ?k2 ?k3 ?k4 ?k5 ?kK ?kd ?ku ?_; (case k1 => k_asm); (case k2 => k_asm); (case k3 => k_asm); (case k4 => k_asm); (case k5 => k_asm); (case kK => first | exact rfl | assumption); (case kd => ktr_room); (case ku => ktr_units); (case kW => first | assumption | exact WsIn.mono (by assumption) (by intro p hp; kst_mem)); (case kA => omega); (case kB => omega); k_whole); intro t9 h9 tk9 F9 N9; (try dsimp only); (try k_fold)) | (k_here; (with_reducible show wpAny _ _ (call (Value.builtin "len") [Value.ref _]) _ _ _); k_dflt (refine' lenL ?k1 ?k2 ?k3 ?_; (case k1 => k_asm); (case k2 => k_mem); (case k3 => omega); k_whole)) | (k_here; (with_reducible show wpAny _ _ (call (Value.type _) [Value.ref _]) _ _ _); k_dflt (refine' kde_tupleOf ?k1 ?k2 ?k3 ?k4 ?k5 ?_; (case k1 => k_asm); (case k2 => k_asm); (case k3 => exact News.isList (by k_asm) (by k_mem)); (case k4 => (simp only [List.size_toArray]; omega)); (case k5 => exact List.toList_toArray); k_whole); intro tD th tF tN tl1; (try k_lt tl1); (try k_sweep)) | (k_here; (with_reducible show wpAny _ _ (call (Value.builtin "str.split") _) _ _ _); (refine KSpl.split1 (by k_asm) (by k_asm) (by decide) ?_ (by (rw [PySem.sizeLine_eq]; omega))); intro D1 l h1 kk hsp hSA F1 N1 lt1; (try k_lt lt1); (try dsimp only)) | (k_here; (with_reducible show wpAny _ _ (exec (Stmt.Assign _ (Expr.ListComp _ [Comprehension.mk _ _ [] _] _ _) _) _) _ _ _); k_dflt (refine assignCell (by k_asm) (by rfl) (by with_unfolding_all rfl) (by with_unfolding_all rfl) (by intro h; rfl) (by intro c; rfl) (by rfl) (by decide) (by rfl) (by rfl) (by rfl) ?_)) | (k_here; (with_reducible show wpAny _ _ (exec (Stmt.Assign _ (Expr.ListComp _ [Comprehension.mk _ _ [] _] _ _) _) _) _ _ _); k_dflt (refine LCg.Assign_ListComp_U (F₀ := by k_asm) (by rfl) (by with_unfolding_all rfl) (by with_unfolding_all rfl) (by decide) (by rfl) (by decide) (by rfl) (by rfl) (by rfl) ?_)) | (k_here; (with_reducible show wpAny _ _ (eval (Expr.ListComp _ [Comprehension.mk _ _ [] _] _ _) _) _ _ _); k_dflt (refine LCg.ListComp_U (F₀ := by k_asm) (by with_unfolding_all rfl) (by decide) (by rfl) (by decide) (by rfl) ?_)) | (k_here; (with_reducible show wpAny _ _ (exec (Stmt.Assign _ (Expr.ListComp _ [Comprehension.mk _ _ [_] _] _ _) _) _) _ _ _); k_dflt (refine LCt.Assign_ListComp_T (F₀ := by k_asm) (by rfl) (by with_unfolding_all rfl) (by with_unfolding_all rfl) (by decide) (by rfl) (by decide) (by rfl) (by rfl) (by rfl) ?_)) | (k_here; (with_reducible show wpAny _ _ (eval (Expr.ListComp _ [Comprehension.mk _ _ [_] _] _ _) _) _ _ _); k_dflt (refine LCt.ListComp_T (F₀ := by k_asm) (by with_unfolding_all rfl) (by decide) (by rfl) (by decide) (by rfl) ?_)) | (k_here; (with_reducible show wpAny _ _ (compareOp CmpOp.NotEq (Value.ref _) (Value.ref _)) _ _ _); k_dflt (refine' normNo ?k1 ?k2 ?k3 ?k4 ?k5 ?k6 ?k7 ?k8 ?k9 ?ka ?_; (case k1 => k_asm); (case k2 => k_mem); (case k5 => k_mem); (case k3 => k_mem); (case k6 => k_mem); (case k4 => assumption); (case k7 => assumption); (case k8 => assumption); (case k9 => assumption); (case ka => ktr_units); k_whole)) | walk1 | (dsimp only; first | (k_here; (try (dsimp only [List.cons_append, List.nil_append, List.append_nil])); (with_reducible show wpAny _ _ (call (Value.ref 38) [Value.ref _]) _ _ _); k_dflt (refine' Ct.useV (longest_c _ _ _ _ _ ?kW) ?k1 ?k2 ?k3 ?k4 ?k5 ?kK ?kd ?ku ?_; (case k1 => k_asm); (case k2 => k_asm); (case k3 => k_asm); (case k4 => k_asm); (case k5 => k_asm); (case kK => first | exact rfl | assumption); (case kd => ktr_room); (case ku => ktr_units); (case kW => first | assumption | exact WsIn.mono (by assumption) (by intro p hp; kst_mem)); k_whole); intro t9 h9 tk9 F9 N9; (try dsimp only); (try k_fold)) | (k_here; (try (dsimp only [List.cons_append, List.nil_append, List.append_nil])); (with_reducible show wpAny _ _ (call (Value.ref 45) [Value.ref _, Value.int _ _]) _ _ _); k_dflt (refine' Ct.useV (level_c _ _ _ _ _ _ _ ?kA ?kB ?kW) ?k1 ?k2 ?k3 ?k4 ?k5 ?kK ?kd ?ku ?_; (case k1 => k_asm); (case k2 => k_asm); (case k3 => k_asm); (case k4 => k_asm); (case k5 => k_asm); (case kK => first | exact rfl | assumption); (case kd => ktr_room); (case ku => ktr_units); (case kW => first | assumption | exact WsIn.mono (by assumption) (by intro p hp; kst_mem)); (case kA => omega); (case kB => omega); k_whole); intro t9 h9 tk9 F9 N9; (try dsimp only); (try k_fold)) | (k_here; (with_reducible show wpAny _ _ (call (Value.builtin "len") [Value.ref _]) _ _ _); k_dflt (refine' lenL ?k1 ?k2 ?k3 ?_; (case k1 => k_asm); (case k2 => k_mem); (case k3 => omega); k_whole)) | (k_here; (with_reducible show wpAny _ _ (call (Value.type _) [Value.ref _]) _ _ _); k_dflt (refine' kde_tupleOf ?k1 ?k2 ?k3 ?k4 ?k5 ?_; (case k1 => k_asm); (case k2 => k_asm); (case k3 => exact News.isList (by k_asm) (by k_mem)); (case k4 => (simp only [List.size_toArray]; omega)); (case k5 => exact List.toList_toArray); k_whole); intro tD th tF tN tl1; (try k_lt tl1); (try k_sweep)) | (k_here; (with_reducible show wpAny _ _ (call (Value.builtin "str.split") _) _ _ _); (refine KSpl.split1 (by k_asm) (by k_asm) (by decide) ?_ (by (rw [PySem.sizeLine_eq]; omega))); intro D1 l h1 kk hsp hSA F1 N1 lt1; (try k_lt lt1); (try dsimp only)) | (k_here; (with_reducible show wpAny _ _ (exec (Stmt.Assign _ (Expr.ListComp _ [Comprehension.mk _ _ [] _] _ _) _) _) _ _ _); k_dflt (refine assignCell (by k_asm) (by rfl) (by with_unfolding_all rfl) (by with_unfolding_all rfl) (by intro h; rfl) (by intro c; rfl) (by rfl) (by decide) (by rfl) (by rfl) (by rfl) ?_)) | (k_here; (with_reducible show wpAny _ _ (exec (Stmt.Assign _ (Expr.ListComp _ [Comprehension.mk _ _ [] _] _ _) _) _) _ _ _); k_dflt (refine LCg.Assign_ListComp_U (F₀ := by k_asm) (by rfl) (by with_unfolding_all rfl) (by with_unfolding_all rfl) (by decide) (by rfl) (by decide) (by rfl) (by rfl) (by rfl) ?_)) | (k_here; (with_reducible show wpAny _ _ (eval (Expr.ListComp _ [Comprehension.mk _ _ [] _] _ _) _) _ _ _); k_dflt (refine LCg.ListComp_U (F₀ := by k_asm) (by with_unfolding_all rfl) (by decide) (by rfl) (by decide) (by rfl) ?_)) | (k_here; (with_reducible show wpAny _ _ (exec (Stmt.Assign _ (Expr.ListComp _ [Comprehension.mk _ _ [_] _] _ _) _) _) _ _ _); k_dflt (refine LCt.Assign_ListComp_T (F₀ := by k_asm) (by rfl) (by with_unfolding_all rfl) (by with_unfolding_all rfl) (by decide) (by rfl) (by decide) (by rfl) (by rfl) (by rfl) ?_)) | (k_here; (with_reducible show wpAny _ _ (eval (Expr.ListComp _ [Comprehension.mk _ _ [_] _] _ _) _) _ _ _); k_dflt (refine LCt.ListComp_T (F₀ := by k_asm) (by with_unfolding_all rfl) (by decide) (by rfl) (by decide) (by rfl) ?_)) | (k_here; (with_reducible show wpAny _ _ (compareOp CmpOp.NotEq (Value.ref _) (Value.ref _)) _ _ _); k_dflt (refine' normNo ?k1 ?k2 ?k3 ?k4 ?k5 ?k6 ?k7 ?k8 ?k9 ?ka ?_; (case k1 => k_asm); (case k2 => k_mem); (case k5 => k_mem); (case k3 => k_mem); (case k6 => k_mem); (case k4 => assumption); (case k7 => assumption); (case k8 => assumption); (case k9 => assumption); (case ka => ktr_units); k_whole)) | walk1)
          rename Fr _ _ _ _ => F18
          rename News _ _ _ _ => N18
          show LCg.CompEnd _ _ _ _ _ _ _ _ _ _ _ _ _ _
          exact LCg.CompEnd.intro F18 N18 _ (fun p hp => hp) off16 (.inr ⟨_, .tail _ (.tail _ (.tail _ (.tail _ (.tail _ (.tail _ (.tail _ ms)))))), rfl, _, rfl⟩) ⟨rfl, ints_snoc hzs2 (by rw [List.getElem?_map, hr]; rfl)⟩
        · rintro zs2 nw ⟨rfl, hzs2⟩
          rw [List.size_toArray, hsz.length, ← List.length_map (f := levelOf lead.cps.toList), List.take_length] at hzs2
          unfold LCg.FinE
          intro D6 h17 tk17 F17 N17 off17
          dsimp only
          have hlc : sizes.map (levelOf lead.cps.toList) = cols := by
            rw [hcols]
            exact List.map_congr_left hlev
          repeat' (fail_if_success (with_reducible show wpAny _ _ (compareOp _ _ _) _ _ _)); first | (k_unfold; (try dsimp only)) | (k_here; (try (dsimp only [List.cons_append, List.nil_append, List.append_nil])); (with_reducible show wpAny _ _ (call (Value.ref 38) [Value.ref _]) _ _ _); k_dflt (refine' Ct.useV (longest_c _ _ _ _ _ ?kW) ?k1 ?k2 ?k3 ?k4 ?k5 ?kK ?kd ?ku ?_; (case k1 => k_asm); (case k2 => k_asm); (case k3 => k_asm); (case k4 => k_asm); (case k5 => k_asm); (case kK => first | exact rfl | assumption); (case kd => ktr_room); (case ku => ktr_units); (case kW => first | assumption | exact WsIn.mono (by assumption) (by intro p hp; kst_mem)); k_whole); intro t9 h9 tk9 F9 N9; (try dsimp only); (try k_fold)) | (k_here; (try (dsimp only [List.cons_append, List.nil_append, List.append_nil])); (with_reducible show wpAny _ _ (call (Value.ref 45) [Value.ref _, Value.int _ _]) _ _ _); k_dflt (refine' Ct.useV (level_c _ _ _ _ _ _ _ ?kA ?kB ?kW) ?k1 ?k2 ?k3 ?k4 ?k5 ?kK ?kd ?ku ?_; (case k1 => k_asm); (case k2 => k_asm); (case k3 => k_asm); (case k4 => k_asm); (case k5 => k_asm); (case kK => first | exact rfl | assumption); (case kd => ktr_room); (case ku => ktr_units); (case kW => first | assumption | exact WsIn.mono (by assumption) (by intro p hp; kst_mem)); (case kA => omega); (case kB => omega); k_whole); intro t9 h9 tk9 F9 N9; (try dsimp only); (try k_fold)) | (k_here; (with_reducible show wpAny _ _ (call (Value.builtin "len") [Value.ref _]) _ _ _); k_dflt (refine' lenL ?k1 ?k2 ?k3 ?_; (case k1 => k_asm); (case k2 => k_mem); (case k3 => omega); k_whole)) | (k_here; (with_reducible show wpAny _ _ (call (Value.type _) [Value.ref _]) _ _ _); k_dflt (refine' kde_tupleOf ?k1 ?k2 ?k3 ?k4 ?k5 ?_; (case k1 => k_asm); (case k2 => k_asm); (case k3 => exact News.isList (by k_asm) (by k_mem)); (case k4 => (simp only [List.size_toArray]; omega)); (case k5 => exact List.toList_toArray); k_whole); intro tD th tF tN tl1; (try k_lt tl1); (try k_sweep)) | (k_here; (with_reducible show wpAny _ _ (call (Value.builtin "str.split") _) _ _ _); (refine KSpl.split1 (by k_asm) (by k_asm) (by decide) ?_ (by (rw [PySem.sizeLine_eq]; omega))); intro D1 l h1 kk hsp hSA F1 N1 lt1; (try k_lt lt1); (try dsimp only)) | (k_here; (with_reducible show wpAny _ _ (exec (Stmt.Assign _ (Expr.ListComp _ [Comprehension.mk _ _ [] _] _ _) _) _) _ _ _); k_dflt (refine assignCell (by k_asm) (by rfl) (by with_unfolding_all rfl) (by with_unfolding_all rfl) (by intro h; rfl) (by intro c; rfl) (by rfl) (by decide) (by rfl) (by rfl) (by rfl) ?_)) | (k_here; (with_reducible show wpAny _ _ (exec (Stmt.Assign _ (Expr.ListComp _ [Comprehension.mk _ _ [] _] _ _) _) _) _ _ _); k_dflt (refine LCg.Assign_ListComp_U (F₀ := by k_asm) (by rfl) (by with_unfolding_all rfl) (by with_unfolding_all rfl) (by decide) (by rfl) (by decide) (by rfl) (by rfl) (by rfl) ?_)) | (k_here; (with_reducible show wpAny _ _ (eval (Expr.ListComp _ [Comprehension.mk _ _ [] _] _ _) _) _ _ _); k_dflt (refine LCg.ListComp_U (F₀ := by k_asm) (by with_unfolding_all rfl) (by decide) (by rfl) (by decide) (by rfl) ?_)) | (k_here; (with_reducible show wpAny _ _ (exec (Stmt.Assign _ (Expr.ListComp _ [Comprehension.mk _ _ [_] _] _ _) _) _) _ _ _); k_dflt (refine LCt.Assign_ListComp_T (F₀ := by k_asm) (by rfl) (by with_unfolding_all rfl) (by with_unfolding_all rfl) (by decide) (by rfl) (by decide) (by rfl) (by rfl) (by rfl) ?_)) | (k_here; (with_reducible show wpAny _ _ (eval (Expr.ListComp _ [Comprehension.mk _ _ [_] _] _ _) _) _ _ _); k_dflt (refine LCt.ListComp_T (F₀ := by k_asm) (by with_unfolding_all rfl) (by decide) (by rfl) (by decide) (by rfl) ?_)) | (k_here; (with_reducible show wpAny _ _ (compareOp CmpOp.NotEq (Value.ref _) (Value.ref _)) _ _ _); k_dflt (refine' normNo ?k1 ?k2 ?k3 ?k4 ?k5 ?k6 ?k7 ?k8 ?k9 ?ka ?_; (case k1 => k_asm); (case k2 => k_mem); (case k5 => k_mem); (case k3 => k_mem); (case k6 => k_mem); (case k4 => assumption); (case k7 => assumption); (case k8 => assumption); (case k9 => assumption); (case ka => ktr_units); k_whole)) | walk1 | (dsimp only; first | (k_here; (try (dsimp only [List.cons_append, List.nil_append, List.append_nil])); (with_reducible show wpAny _ _ (call (Value.ref 38) [Value.ref _]) _ _ _); k_dflt (refine' Ct.useV (longest_c _ _ _ _ _ ?kW) ?k1 ?k2 ?k3 ?k4 ?k5 ?kK ?kd ?ku ?_; (case k1 => k_asm); (case k2 => k_asm); (case k3 => k_asm); (case k4 => k_asm); (case k5 => k_asm); (case kK => first | exact rfl | assumption); (case kd => ktr_room); (case ku => ktr_units); (case kW => first | assumption | exact WsIn.mono (by assumption) (by intro p hp; kst_mem)); k_whole); intro t9 h9 tk9 F9 N9; (try dsimp only); (try k_fold)) | (k_here; (try (dsimp only [List.cons_append, List.nil_append, List.append_nil])); (with_reducible show wpAny _ _ (call (Value.ref 45) [Value.ref _, Value.int _ _]) _ _ _); k_dflt (refine' Ct.useV (level_c _ _ _ _ _ _ _ ?kA ?kB ?kW) ?k1 ?k2 ?k3 ?k4 ?k5 ?kK ?kd ?ku ?_; (case k1 => k_asm); (case k2 => k_asm); (case k3 => k_asm); (case k4 => k_asm); (case k5 => k_asm); (case kK => first | exact rfl | assumption); (case kd => ktr_room); (case ku => ktr_units); (case kW => first | assumption | exact WsIn.mono (by assumption) (by intro p hp; kst_mem)); (case kA => omega); (case kB => omega); k_whole); intro t9 h9 tk9 F9 N9; (try dsimp only); (try k_fold)) | (k_here; (with_reducible show wpAny _ _ (call (Value.builtin "len") [Value.ref _]) _ _ _); k_dflt (refine' lenL ?k1 ?k2 ?k3 ?_; (case k1 => k_asm); (case k2 => k_mem); (case k3 => omega); k_whole)) | (k_here; (with_reducible show wpAny _ _ (call (Value.type _) [Value.ref _]) _ _ _); k_dflt (refine' kde_tupleOf ?k1 ?k2 ?k3 ?k4 ?k5 ?_; (case k1 => k_asm); (case k2 => k_asm); (case k3 => exact News.isList (by k_asm) (by k_mem)); (case k4 => (simp only [List.size_toArray]; omega)); (case k5 => exact List.toList_toArray); k_whole); intro tD th tF tN tl1; (try k_lt tl1); (try k_sweep)) | (k_here; (with_reducible show wpAny _ _ (call (Value.builtin "str.split") _) _ _ _); (refine KSpl.split1 (by k_asm) (by k_asm) (by decide) ?_ (by (rw [PySem.sizeLine_eq]; omega))); intro D1 l h1 kk hsp hSA F1 N1 lt1; (try k_lt lt1); (try dsimp only)) | (k_here; (with_reducible show wpAny _ _ (exec (Stmt.Assign _ (Expr.ListComp _ [Comprehension.mk _ _ [] _] _ _) _) _) _ _ _); k_dflt (refine assignCell (by k_asm) (by rfl) (by with_unfolding_all rfl) (by with_unfolding_all rfl) (by intro h; rfl) (by intro c; rfl) (by rfl) (by decide) (by rfl) (by rfl) (by rfl) ?_)) | (k_here; (with_reducible show wpAny _ _ (exec (Stmt.Assign _ (Expr.ListComp _ [Comprehension.mk _ _ [] _] _ _) _) _) _ _ _); k_dflt (refine LCg.Assign_ListComp_U (F₀ := by k_asm) (by rfl) (by with_unfolding_all rfl) (by with_unfolding_all rfl) (by decide) (by rfl) (by decide) (by rfl) (by rfl) (by rfl) ?_)) | (k_here; (with_reducible show wpAny _ _ (eval (Expr.ListComp _ [Comprehension.mk _ _ [] _] _ _) _) _ _ _); k_dflt (refine LCg.ListComp_U (F₀ := by k_asm) (by with_unfolding_all rfl) (by decide) (by rfl) (by decide) (by rfl) ?_)) | (k_here; (with_reducible show wpAny _ _ (exec (Stmt.Assign _ (Expr.ListComp _ [Comprehension.mk _ _ [_] _] _ _) _) _) _ _ _); k_dflt (refine LCt.Assign_ListComp_T (F₀ := by k_asm) (by rfl) (by with_unfolding_all rfl) (by with_unfolding_all rfl) (by decide) (by rfl) (by decide) (by rfl) (by rfl) (by rfl) ?_)) | (k_here; (with_reducible show wpAny _ _ (eval (Expr.ListComp _ [Comprehension.mk _ _ [_] _] _ _) _) _ _ _); k_dflt (refine LCt.ListComp_T (F₀ := by k_asm) (by with_unfolding_all rfl) (by decide) (by rfl) (by decide) (by rfl) ?_)) | (k_here; (with_reducible show wpAny _ _ (compareOp CmpOp.NotEq (Value.ref _) (Value.ref _)) _ _ _); k_dflt (refine' normNo ?k1 ?k2 ?k3 ?k4 ?k5 ?k6 ?k7 ?k8 ?k9 ?ka ?_; (case k1 => k_asm); (case k2 => k_mem); (case k5 => k_mem); (case k3 => k_mem); (case k6 => k_mem); (case k4 => assumption); (case k7 => assumption); (case k8 => assumption); (case k9 => assumption); (case ka => ktr_units); k_whole)) | walk1)
          refine listYes N17 (.head _) (.tail _ (.tail _ (.tail _ (.tail _ (.tail _ (.tail _ (.tail _ (.tail _ mc)))))))) hzs2 hco hlc (by ktr_units) ?_
          try dsimp only
          repeat' first | (k_unfold; (try dsimp only)) | (k_here; (try (dsimp only [List.cons_append, List.nil_append, List.append_nil])); (with_reducible show wpAny _ _ (call (Value.ref 38) [Value.ref _]) _ _ _); k_dflt (refine' Ct.useV (longest_c _ _ _ _ _ ?kW) ?k1 ?k2 ?k3 ?k4 ?k5 ?kK ?kd ?ku ?_; (case k1 => k_asm); (case k2 => k_asm); (case k3 => k_asm); (case k4 => k_asm); (case k5 => k_asm); (case kK => first | exact rfl | assumption); (case kd => ktr_room); (case ku => ktr_units); (case kW => first | assumption | exact WsIn.mono (by assumption) (by intro p hp; kst_mem)); k_whole); intro t9 h9 tk9 F9 N9; (try dsimp only); (try k_fold)) | (k_here; (try (dsimp only [List.cons_append, List.nil_append, List.append_nil])); (with_reducible show wpAny _ _ (call (Value.ref 45) [Value.ref _, Value.int _ _]) _ _ _); k_dflt (refine' Ct.useV (level_c _ _ _ _ _ _ _ ?kA ?kB ?kW) ?k1 ?k2 ?k3 ?k4 ?k5 ?kK ?kd ?ku ?_; (case k1 => k_asm); (case k2 => k_asm); (case k3 => k_asm); (case k4 => k_asm); (case k5 => k_asm); (case kK => first | exact rfl | assumption); (case kd => ktr_room); (case ku => ktr_units); (case kW => first | assumption | exact WsIn.mono (by assumption) (by intro p hp; kst_mem)); (case kA => omega); (case kB => omega); k_whole); intro t9 h9 tk9 F9 N9; (try dsimp only); (try k_fold)) | (k_here; (with_reducible show wpAny _ _ (call (Value.builtin "len") [Value.ref _]) _ _ _); k_dflt (refine' lenL ?k1 ?k2 ?k3 ?_; (case k1 => k_asm); (case k2 => k_mem); (case k3 => omega); k_whole)) | (k_here; (with_reducible show wpAny _ _ (call (Value.type _) [Value.ref _]) _ _ _); k_dflt (refine' kde_tupleOf ?k1 ?k2 ?k3 ?k4 ?k5 ?_; (case k1 => k_asm); (case k2 => k_asm); (case k3 => exact News.isList (by k_asm) (by k_mem)); (case k4 => (simp only [List.size_toArray]; omega)); (case k5 => exact List.toList_toArray); k_whole); intro tD th tF tN tl1; (try k_lt tl1); (try k_sweep)) | (k_here; (with_reducible show wpAny _ _ (call (Value.builtin "str.split") _) _ _ _); (refine KSpl.split1 (by k_asm) (by k_asm) (by decide) ?_ (by (rw [PySem.sizeLine_eq]; omega))); intro D1 l h1 kk hsp hSA F1 N1 lt1; (try k_lt lt1); (try dsimp only)) | (k_here; (with_reducible show wpAny _ _ (exec (Stmt.Assign _ (Expr.ListComp _ [Comprehension.mk _ _ [] _] _ _) _) _) _ _ _); k_dflt (refine assignCell (by k_asm) (by rfl) (by with_unfolding_all rfl) (by with_unfolding_all rfl) (by intro h; rfl) (by intro c; rfl) (by rfl) (by decide) (by rfl) (by rfl) (by rfl) ?_)) | (k_here; (with_reducible show wpAny _ _ (exec (Stmt.Assign _ (Expr.ListComp _ [Comprehension.mk _ _ [] _] _ _) _) _) _ _ _); k_dflt (refine LCg.Assign_ListComp_U (F₀ := by k_asm) (by rfl) (by with_unfolding_all rfl) (by with_unfolding_all rfl) (by decide) (by rfl) (by decide) (by rfl) (by rfl) (by rfl) ?_)) | (k_here; (with_reducible show wpAny _ _ (eval (Expr.ListComp _ [Comprehension.mk _ _ [] _] _ _) _) _ _ _); k_dflt (refine LCg.ListComp_U (F₀ := by k_asm) (by with_unfolding_all rfl) (by decide) (by rfl) (by decide) (by rfl) ?_)) | (k_here; (with_reducible show wpAny _ _ (exec (Stmt.Assign _ (Expr.ListComp _ [Comprehension.mk _ _ [_] _] _ _) _) _) _ _ _); k_dflt (refine LCt.Assign_ListComp_T (F₀ := by k_asm) (by rfl) (by with_unfolding_all rfl) (by with_unfolding_all rfl) (by decide) (by rfl) (by decide) (by rfl) (by rfl) (by rfl) ?_)) | (k_here; (with_reducible show wpAny _ _ (eval (Expr.ListComp _ [Comprehension.mk _ _ [_] _] _ _) _) _ _ _); k_dflt (refine LCt.ListComp_T (F₀ := by k_asm) (by with_unfolding_all rfl) (by decide) (by rfl) (by decide) (by rfl) ?_)) | (k_here; (with_reducible show wpAny _ _ (compareOp CmpOp.NotEq (Value.ref _) (Value.ref _)) _ _ _); k_dflt (refine' normNo ?k1 ?k2 ?k3 ?k4 ?k5 ?k6 ?k7 ?k8 ?k9 ?ka ?_; (case k1 => k_asm); (case k2 => k_mem); (case k5 => k_mem); (case k3 => k_mem); (case k6 => k_mem); (case k4 => assumption); (case k7 => assumption); (case k8 => assumption); (case k9 => assumption); (case ka => ktr_units); k_whole)) | walk1 | (dsimp only; first | (k_here; (try (dsimp only [List.cons_append, List.nil_append, List.append_nil])); (with_reducible show wpAny _ _ (call (Value.ref 38) [Value.ref _]) _ _ _); k_dflt (refine' Ct.useV (longest_c _ _ _ _ _ ?kW) ?k1 ?k2 ?k3 ?k4 ?k5 ?kK ?kd ?ku ?_; (case k1 => k_asm); (case k2 => k_asm); (case k3 => k_asm); (case k4 => k_asm); (case k5 => k_asm); (case kK => first | exact rfl | assumption); (case kd => ktr_room); (case ku => ktr_units); (case kW => first | assumption | exact WsIn.mono (by assumption) (by intro p hp; kst_mem)); k_whole); intro t9 h9 tk9 F9 N9; (try dsimp only); (try k_fold)) | (k_here; (try (dsimp only [List.cons_append, List.nil_append, List.append_nil])); (with_reducible show wpAny _ _ (call (Value.ref 45) [Value.ref _, Value.int _ _]) _ _ _); k_dflt (refine' Ct.useV (level_c _ _ _ _ _ _ _ ?kA ?kB ?kW) ?k1 ?k2 ?k3 ?k4 ?k5 ?kK ?kd ?ku ?_; (case k1 => k_asm); (case k2 => k_asm); (case k3 => k_asm); (case k4 => k_asm); (case k5 => k_asm); (case kK => first | exact rfl | assumption); (case kd => ktr_room); (case ku => ktr_units); (case kW => first | assumption | exact WsIn.mono (by assumption) (by intro p hp; kst_mem)); (case kA => omega); (case kB => omega); k_whole); intro t9 h9 tk9 F9 N9; (try dsimp only); (try k_fold)) | (k_here; (with_reducible show wpAny _ _ (call (Value.builtin "len") [Value.ref _]) _ _ _); k_dflt (refine' lenL ?k1 ?k2 ?k3 ?_; (case k1 => k_asm); (case k2 => k_mem); (case k3 => omega); k_whole)) | (k_here; (with_reducible show wpAny _ _ (call (Value.type _) [Value.ref _]) _ _ _); k_dflt (refine' kde_tupleOf ?k1 ?k2 ?k3 ?k4 ?k5 ?_; (case k1 => k_asm); (case k2 => k_asm); (case k3 => exact News.isList (by k_asm) (by k_mem)); (case k4 => (simp only [List.size_toArray]; omega)); (case k5 => exact List.toList_toArray); k_whole); intro tD th tF tN tl1; (try k_lt tl1); (try k_sweep)) | (k_here; (with_reducible show wpAny _ _ (call (Value.builtin "str.split") _) _ _ _); (refine KSpl.split1 (by k_asm) (by k_asm) (by decide) ?_ (by (rw [PySem.sizeLine_eq]; omega))); intro D1 l h1 kk hsp hSA F1 N1 lt1; (try k_lt lt1); (try dsimp only)) | (k_here; (with_reducible show wpAny _ _ (exec (Stmt.Assign _ (Expr.ListComp _ [Comprehension.mk _ _ [] _] _ _) _) _) _ _ _); k_dflt (refine assignCell (by k_asm) (by rfl) (by with_unfolding_all rfl) (by with_unfolding_all rfl) (by intro h; rfl) (by intro c; rfl) (by rfl) (by decide) (by rfl) (by rfl) (by rfl) ?_)) | (k_here; (with_reducible show wpAny _ _ (exec (Stmt.Assign _ (Expr.ListComp _ [Comprehension.mk _ _ [] _] _ _) _) _) _ _ _); k_dflt (refine LCg.Assign_ListComp_U (F₀ := by k_asm) (by rfl) (by with_unfolding_all rfl) (by with_unfolding_all rfl) (by decide) (by rfl) (by decide) (by rfl) (by rfl) (by rfl) ?_)) | (k_here; (with_reducible show wpAny _ _ (eval (Expr.ListComp _ [Comprehension.mk _ _ [] _] _ _) _) _ _ _); k_dflt (refine LCg.ListComp_U (F₀ := by k_asm) (by with_unfolding_all rfl) (by decide) (by rfl) (by decide) (by rfl) ?_)) | (k_here; (with_reducible show wpAny _ _ (exec (Stmt.Assign _ (Expr.ListComp _ [Comprehension.mk _ _ [_] _] _ _) _) _) _ _ _); k_dflt (refine LCt.Assign_ListComp_T (F₀ := by k_asm) (by rfl) (by with_unfolding_all rfl) (by with_unfolding_all rfl) (by decide) (by rfl) (by decide) (by rfl) (by rfl) (by rfl) ?_)) | (k_here; (with_reducible show wpAny _ _ (eval (Expr.ListComp _ [Comprehension.mk _ _ [_] _] _ _) _) _ _ _); k_dflt (refine LCt.ListComp_T (F₀ := by k_asm) (by with_unfolding_all rfl) (by decide) (by rfl) (by decide) (by rfl) ?_)) | (k_here; (with_reducible show wpAny _ _ (compareOp CmpOp.NotEq (Value.ref _) (Value.ref _)) _ _ _); k_dflt (refine' normNo ?k1 ?k2 ?k3 ?k4 ?k5 ?k6 ?k7 ?k8 ?k9 ?ka ?_; (case k1 => k_asm); (case k2 => k_mem); (case k5 => k_mem); (case k3 => k_mem); (case k6 => k_mem); (case k4 => assumption); (case k7 => assumption); (case k8 => assumption); (case k9 => assumption); (case ka => ktr_units); k_whole)) | walk1)
          rename_i kF kN Tc kX
          exact hret _ [] _ _ kF (kst_newsOf kN (by kst_in)) (fun _ _ _ h => nomatch h) ⟨rfl, rfl⟩
end
section
open PySem PySem.W PyProof.Rows PySem.Spec PySem.Calls
theorem ints_at {vs : List Value} {ns : List Int} (h : IntsAre vs ns) {k : Nat} {v : Int} (hk : ns[k]? = some v) : ∃ t, vs[k]? = some (.int v t) := by
  have hl : k < ns.length := (List.getElem?_eq_some_iff.mp hk).1
  obtain ⟨u, hu⟩ : ∃ u, vs[k]? = some u := ⟨_, List.getElem?_eq_getElem (by rw [h.length]; exact hl)⟩
  obtain ⟨z, t, rfl, hz⟩ := IntsAre.at h k u hu
  rw [hk] at hz
  cases hz
  exact ⟨t, hu⟩
theorem rows_filter_yes {l : List (Int × Int × Int)} {p : Int × Int × Int → Bool} {j : Nat} {r : Int × Int × Int} (h : l[j]? = some r) (hp : p r = true) : (l.take (j + 1)).filter p = (l.take j).filter p ++ [r] := by
  rw [List.take_add_one, h, List.filter_append]
  simp [hp]
theorem rows_filter_no {l : List (Int × Int × Int)} {p : Int × Int × Int → Bool} {j : Nat} {r : Int × Int × Int} (h : l[j]? = some r) (hp : p r = false) : (l.take (j + 1)).filter p = (l.take j).filter p := by
  rw [List.take_add_one, h, List.filter_append]
  simp [hp]
theorem off1_ne {D : Addr} : ∀ {l : List (Addr × Obj)}, LCg.Off1 D l → ∀ p ∈ l, @Ne Nat p.1 D
  | [], _, _, h => nomatch h
  | _ :: _, x, p, h => by
    rcases List.mem_cons.mp h with rfl | h
    · exact x.1
    · exact off1_ne x.2 p h
structure PLed (w : World) (R : List (Addr × Obj)) (x x2 : Addr) (t t2 : Str) (l l2 : List Nat) (o1 o2 cT cO : Addr) (b1 b2 oT oO : Obj) (D3 D4 : Addr) (un ge : List (Int × Int × Int)) : Prop where
  w1 : WsIn w R x t l
  w2 : WsIn w R x2 t2 l2
  m1 : (o1, b1) ∈ R
  m2 : (o2, b2) ∈ R
  mT : (cT, oT) ∈ R
  mO : (cO, oO) ∈ R
  r3 : LstIn R D3 un
  r4 : LstIn R D4 ge
  hi : ∀ p ∈ R, @Ne Nat p.1 82
theorem LstIn.mono {a b : List (Addr × Obj)} (hs : ∀ p ∈ a, p ∈ b) {l : Addr} {rows} (h : LstIn a l rows) : LstIn b l rows := by
  obtain ⟨vs, n, hm, hr⟩ := h
  exact ⟨vs, n, hs _ hm, hr.mono hs⟩
theorem PLed.more {w : World} {R : List (Addr × Obj)} {x x2 : Addr} {t t2 : Str} {l l2 : List Nat} {o1 o2 cT cO : Addr} {b1 b2 oT oO : Obj} {D3 D4 : Addr} {un ge : List (Int × Int × Int)} (h : PLed w R x x2 t t2 l l2 o1 o2 cT cO b1 b2 oT oO D3 D4 un ge) {tl : List (Addr × Obj)} (ht : ∀ p ∈ tl, @Ne Nat p.1 82) :
    PLed w (tl ++ R) x x2 t t2 l l2 o1 o2 cT cO b1 b2 oT oO D3 D4 un ge := by
  have hs : ∀ p ∈ R, p ∈ tl ++ R := fun p hp => List.mem_append_right _ hp
  refine ⟨h.w1.mono hs, h.w2.mono hs, hs _ h.m1, hs _ h.m2, hs _ h.mT, hs _ h.mO, h.r3.mono hs, h.r4.mono hs, fun p hp => ?_⟩
  rcases List.mem_append.mp hp with hp | hp
  · exact ht p hp
  · exact h.hi p hp
theorem row_bound {l l2 : List Nat} {n : Nat} {rows : List (Int × Int × Int)} (h : ∀ r ∈ rows, r ∈ tabOf l l2 n) (hn : n ≤ 7) : ∀ k ∈ rows.map (·.1), 0 ≤ k ∧ k ≤ 9 := by
  intro k hk
  obtain ⟨r, hr, rfl⟩ := List.mem_map.mp hk
  obtain ⟨j, hj, rfl⟩ := List.mem_map.mp (h r hr)
  have := List.mem_range.mp hj
  dsimp only
  omega
theorem off3_of {I C D : Addr} {l : List (Addr × Obj)} (h : ∀ p ∈ l, p.1 ≠ I ∧ p.1 ≠ C ∧ p.1 ≠ D) : LCg.Off3 I C D l := LCg.Off3.of h
set_option maxRecDepth 100000 in
set_option maxHeartbeats 8000000 in
theorem pair_c (w : World) (news) (x x2 : Addr) (text text2 lead lead2 : Str) (o1 o2 : Addr) (vs1 vs2 : List Value) (n1 n2 : Nat) (ours theirs : List Int) (longest : Int) (tl0 : Tok)
    (hW : WsIn w news x text lead.cps.toList) (hW2 : WsIn w news x2 text2 lead2.cps.toList) (m1 : (o1, W.listOf vs1.toArray n1) ∈ news) (m2 : (o2, W.listOf vs2.toArray n2) ∈ news) (hi1 : IntsAre vs1 ours) (hi2 : IntsAre vs2 theirs)
    (hl1 : ours.length = 9) (hl2 : theirs.length = 9) (hlong : longest + 1 = topOf lead.cps.toList lead2.cps.toList) (htop : topOf lead.cps.toList lead2.cps.toList ≤ 7)
    (hlev1 : ∀ k : Nat, k < 7 → ours[k]? = some (levelOf lead.cps.toList (1 + (k : Int)))) (hlev2 : ∀ k : Nat, k < 7 → theirs[k]? = some (levelOf lead2.cps.toList (1 + (k : Int))))
    (hsame : decide ((wst lead.cps.toList).cnt = (wst lead2.cps.toList).cnt ∧ ((wst lead.cps.toList).b : Int) = ((wst lead2.cps.toList).b : Int)) = decide (ours = theirs)) (hless : lessOf lead.cps.toList lead2.cps.toList = decide ((((List.range 9).filter fun k => decide (theirs.getD k 0 ≤ ours.getD k 0)).length : Int) = 0)) : CtP 3 w 125 news [.ref x, .ref x2, .ref o1, .ref o2, .int longest tl0] (fun r tl => tl = [] ∧ r = .bool true) := by
  unfold CtP
  w_on
  k_fill
  intro p₀ lo₀ mean mg mb dp un gd cn cs a ccd cl outer A₀ base h₀ L m s op Q E B F X N hop h82 T hG hk hd' hu' hret
  have hv1 := hi1.length
  have hv2 := hi2.length
  refine WsIn.elim hW ?_
  intro d nm ct vs k1 k2 k3 k4 k5 u1 u2 u3 u4 M1 M2 M3 M4 hI hl6
  refine WsIn.elim hW2 ?_
  intro xd xnm xct xvs xk1 xk2 xk3 xk4 xk5 xu1 xu2 xu3 xu4 xM1 xM2 xM3 xM4 xhI xhl6
  have hb3 := topOf_bounds hl6 xhl6
  refine wpAny_call ?_
  k_dflt (refine' code_defC ?k1 ?k2 ?k3 ?k4 ?k5 ?kA ?kF ?kK ?k6 ?k7 ?k8 ?k9 ?kB ?kD ?_ ?c2 ?c3 ?c4; (case kA => exact rfl); (case kF => exact rfl); (case kK => assumption); (case k1 => k_asm); (case k2 => k_asm); (case k3 => k_asm); (case k4 => k_asm); (case k5 => k_asm); (case k6 => k_is); (case k7 => k_is); (case k8 => ktr_room); (case k9 => exact BindsTo.of_eq rfl); (case kB => exact rfl); (case kD => decide +kernel); (case c2 => exact rfl); (case c3 => exact rfl); (case c4 => exact rfl); k_whole; intro g' L' h' tk' cells' FG' F' N' Y' B' X' T' l1; (try k_lt l1); k_cells Y'; (try simp only [List.cons_append, List.nil_append] at N'); (try dsimp only); (try k_lift B'); (try k_fold))
  refine wpAny_mono (E := fun _ _ => False) ?_ (fun _ _ h => h) (fun _ _ h => h.elim)
  have kM : KstMark := kstMark
  repeat' (fail_if_success (with_reducible show wpAny _ _ (pyIter _) _ _ _)); (fail_if_success (with_reducible show LCg.CompSrc _ _ _ _ _ _ _ _ _ _ _ _ _ _)); (fail_if_success (with_reducible show LCt.CompSrcT _ _ _ _ _ _ _ _ _ _ _ _ _ _ _)); (fail_if_success (with_reducible show LCg.CompEnd _ _ _ _ _ _ _ _ _ _ _ _ _ _)); (fail_if_success (with_reducible show CellEnd _ _ _ _ _ _ _ _ _ _ _ _ _ _ _ _)); (fail_if_success (with_reducible show wpAny _ _ (call (Value.ref _) _) _ _ _)); (fail_if_success (with_reducible show wpAny _ _ (compareOp _ (Value.ref _) (Value.ref _)) _ _ _)); first | (k_unfold; (try dsimp only)) | (k_here; (with_reducible show wpAny _ _ (call (Value.builtin "len") [Value.ref _]) _ _ _); k_dflt (refine' lenL ?k1 ?k2 ?k3 ?_; (case k1 => k_asm); (case k2 => k_mem); (case k3 => omega); k_whole)) | (k_here; (with_reducible show wpAny _ _ (subscriptTail _ _ (Value.ref _) (Value.int _ _)) _ _ _); (with_unfolding_all refine' itemL ?k1 ?k2 ?k3 ?k4 ?k5 ?_ ?k6; (case k1 => k_asm); (case k2 => k_mem); (case k3 => omega); (case k4 => omega); (case k5 => assumption); (case k6 => with_unfolding_all rfl); k_whole)) | (k_here; (with_reducible show wpAny _ _ (exec (Stmt.Assign _ (Expr.ListComp _ [Comprehension.mk _ _ [] _] _ _) _) _) _ _ _); k_dflt (refine assignCell (by k_asm) (by rfl) (by with_unfolding_all rfl) (by with_unfolding_all rfl) (by intro h; rfl) (by intro c; rfl) (by rfl) (by decide) (by rfl) (by rfl) (by rfl) ?_)) | (k_here; (with_reducible show wpAny _ _ (exec (Stmt.Assign _ (Expr.ListComp _ [Comprehension.mk _ _ [] _] _ _) _) _) _ _ _); k_dflt (refine LCg.Assign_ListComp_U (F₀ := by k_asm) (by rfl) (by with_unfolding_all rfl) (by with_unfolding_all rfl) (by decide) (by rfl) (by decide) (by rfl) (by rfl) (by rfl) ?_)) | (k_here; (with_reducible show wpAny _ _ (eval (Expr.ListComp _ [Comprehension.mk _ _ [] _] _ _) _) _ _ _); k_dflt (refine LCg.ListComp_U (F₀ := by k_asm) (by with_unfolding_all rfl) (by decide) (by rfl) (by decide) (by rfl) ?_)) | (k_here; (with_reducible show wpAny _ _ (exec (Stmt.Assign _ (Expr.ListComp _ [Comprehension.mk _ _ [_] _] _ _) _) _) _ _ _); k_dflt (refine LCt.Assign_ListComp_T (F₀ := by k_asm) (by rfl) (by with_unfolding_all rfl) (by with_unfolding_all rfl) (by decide) (by rfl) (by decide) (by rfl) (by rfl) (by rfl) ?_)) | (k_here; (with_reducible show wpAny _ _ (eval (Expr.ListComp _ [Comprehension.mk _ _ [_] _] _ _) _) _ _ _); k_dflt (refine LCt.ListComp_T (F₀ := by k_asm) (by with_unfolding_all rfl) (by decide) (by rfl) (by decide) (by rfl) ?_)) | (k_here; (with_reducible show wpAny _ _ (call (Value.builtin "isinstance") [Value.bool _, Value.type "bool"]) _ _ _); (refine PySem.IsiPair.bool_bool ?_)) | walk1 | (dsimp only; first | (k_here; (with_reducible show wpAny _ _ (call (Value.builtin "len") [Value.ref _]) _ _ _); k_dflt (refine' lenL ?k1 ?k2 ?k3 ?_; (case k1 => k_asm); (case k2 => k_mem); (case k3 => omega); k_whole)) | (k_here; (with_reducible show wpAny _ _ (subscriptTail _ _ (Value.ref _) (Value.int _ _)) _ _ _); (with_unfolding_all refine' itemL ?k1 ?k2 ?k3 ?k4 ?k5 ?_ ?k6; (case k1 => k_asm); (case k2 => k_mem); (case k3 => omega); (case k4 => omega); (case k5 => assumption); (case k6 => with_unfolding_all rfl); k_whole)) | (k_here; (with_reducible show wpAny _ _ (exec (Stmt.Assign _ (Expr.ListComp _ [Comprehension.mk _ _ [] _] _ _) _) _) _ _ _); k_dflt (refine assignCell (by k_asm) (by rfl) (by with_unfolding_all rfl) (by with_unfolding_all rfl) (by intro h; rfl) (by intro c; rfl) (by rfl) (by decide) (by rfl) (by rfl) (by rfl) ?_)) | (k_here; (with_reducible show wpAny _ _ (exec (Stmt.Assign _ (Expr.ListComp _ [Comprehension.mk _ _ [] _] _ _) _) _) _ _ _); k_dflt (refine LCg.Assign_ListComp_U (F₀ := by k_asm) (by rfl) (by with_unfolding_all rfl) (by with_unfolding_all rfl) (by decide) (by rfl) (by decide) (by rfl) (by rfl) (by rfl) ?_)) | (k_here; (with_reducible show wpAny _ _ (eval (Expr.ListComp _ [Comprehension.mk _ _ [] _] _ _) _) _ _ _); k_dflt (refine LCg.ListComp_U (F₀ := by k_asm) (by with_unfolding_all rfl) (by decide) (by rfl) (by decide) (by rfl) ?_)) | (k_here; (with_reducible show wpAny _ _ (exec (Stmt.Assign _ (Expr.ListComp _ [Comprehension.mk _ _ [_] _] _ _) _) _) _ _ _); k_dflt (refine LCt.Assign_ListComp_T (F₀ := by k_asm) (by rfl) (by with_unfolding_all rfl) (by with_unfolding_all rfl) (by decide) (by rfl) (by decide) (by rfl) (by rfl) (by rfl) ?_)) | (k_here; (with_reducible show wpAny _ _ (eval (Expr.ListComp _ [Comprehension.mk _ _ [_] _] _ _) _) _ _ _); k_dflt (refine LCt.ListComp_T (F₀ := by k_asm) (by with_unfolding_all rfl) (by decide) (by rfl) (by decide) (by rfl) ?_)) | (k_here; (with_reducible show wpAny _ _ (call (Value.builtin "isinstance") [Value.bool _, Value.type "bool"]) _ _ _); (refine PySem.IsiPair.bool_bool ?_)) | walk1)
  rename Fr _ _ _ _ => F1
  rename News _ _ _ _ => N1
  rename IsRange _ _ _ _ _ _ _ _ => hR1
  rename_i oT oO dT dO _ _ _ _ _ _ _ _
  have l1a := l1.1
  have l1b := l1.2
  clear l1
  have h82L : @LT.lt Nat _ 82 L' := l1a
  refine LCg.CompSrc.range (by with_unfolding_all rfl) F1 N1 hR1 (small_one (by omega) (by omega) (by omega) (by omega)) (rangeSize_nat _ _) (by rw [sizeLine_eq]; omega) ?_
  intro g1
  refine comp_inv (fun i ys nw => ∃ tb, nw = tb ++ ((L' + 1 + 1, oT) :: (L' + 1, oO) :: (82, op) :: news) ∧ RowsIn tb ys (tabOf lead.cps.toList lead2.cps.toList i) ∧ (∀ p ∈ tb, @Ne Nat p.1 82)) ⟨[], rfl, .nil, fun _ h => nomatch h⟩ ?_ ?_
  · intro i v I oI C oC D m₂ ys nw h tk E' hi hv hJ hC hx F₁ N₁ off ne
    obtain ⟨t, rfl⟩ := hv
    obtain ⟨tb, rfl, hrows, h82b⟩ := hJ
    obtain ⟨ta, hva⟩ := ints_at hi1 (hlev1 i (by omega))
    obtain ⟨tb2, hvb⟩ := ints_at hi2 (hlev2 i (by omega))
    have hva' : vs1[(0 + (i : Int)).toNat]? = some (.int (levelOf lead.cps.toList (1 + (i : Int))) ta) := by rw [show (0 + (i : Int)).toNat = i by omega]; exact hva
    have hvb' : vs2[(0 + (i : Int)).toNat]? = some (.int (levelOf lead2.cps.toList (1 + (i : Int))) tb2) := by rw [show (0 + (i : Int)).toNat = i by omega]; exact hvb
    have m1' : (o1, W.listOf vs1.toArray n1) ∈ tb ++ ((L' + 1 + 1, oT) :: (L' + 1, oO) :: (82, op) :: news) := List.mem_append_right _ (.tail _ (.tail _ (.tail _ m1)))
    have m2' : (o2, W.listOf vs2.toArray n2) ∈ tb ++ ((L' + 1 + 1, oT) :: (L' + 1, oO) :: (82, op) :: news) := List.mem_append_right _ (.tail _ (.tail _ (.tail _ m2)))
    have mT' : (L' + 1 + 1, oT) ∈ tb ++ ((L' + 1 + 1, oT) :: (L' + 1, oO) :: (82, op) :: news) := List.mem_append_right _ (.head _)
    have mO' : (L' + 1, oO) ∈ tb ++ ((L' + 1 + 1, oT) :: (L' + 1, oO) :: (82, op) :: news) := List.mem_append_right _ (.tail _ (.head _))
    repeat' (fail_if_success (with_reducible show wpAny _ _ (pyIter _) _ _ _)); (fail_if_success (with_reducible show LCg.CompSrc _ _ _ _ _ _ _ _ _ _ _ _ _ _)); (fail_if_success (with_reducible show LCt.CompSrcT _ _ _ _ _ _ _ _ _ _ _ _ _ _ _)); (fail_if_success (with_reducible show LCg.CompEnd _ _ _ _ _ _ _ _ _ _ _ _ _ _)); (fail_if_success (with_reducible show CellEnd _ _ _ _ _ _ _ _ _ _ _ _ _ _ _ _)); (fail_if_success (with_reducible show wpAny _ _ (call (Value.ref _) _) _ _ _)); (fail_if_success (with_reducible show wpAny _ _ (compareOp _ (Value.ref _) (Value.ref _)) _ _ _)); first | (k_unfold; (try dsimp only)) | (k_here; (with_reducible show wpAny _ _ (call (Value.builtin "len") [Value.ref _]) _ _ _); k_dflt (refine' lenL ?k1 ?k2 ?k3 ?_; (case k1 => k_asm); (case k2 => k_mem); (case k3 => omega); k_whole)) | (k_here; (with_reducible show wpAny _ _ (subscriptTail _ _ (Value.ref _) (Value.int _ _)) _ _ _); (with_unfolding_all refine' itemL ?k1 ?k2 ?k3 ?k4 ?k5 ?_ ?k6; (case k1 => k_asm); (case k2 => k_mem); (case k3 => omega); (case k4 => omega); (case k5 => assumption); (case k6 => with_unfolding_all rfl); k_whole)) | (k_here; (with_reducible show wpAny _ _ (exec (Stmt.Assign _ (Expr.ListComp _ [Comprehension.mk _ _ [] _] _ _) _) _) _ _ _); k_dflt (refine assignCell (by k_asm) (by rfl) (by with_unfolding_all rfl) (by with_unfolding_all rfl) (by intro h; rfl) (by intro c; rfl) (by rfl) (by decide) (by rfl) (by rfl) (by rfl) ?_)) | (k_here; (with_reducible show wpAny _ _ (exec (Stmt.Assign _ (Expr.ListComp _ [Comprehension.mk _ _ [] _] _ _) _) _) _ _ _); k_dflt (refine LCg.Assign_ListComp_U (F₀ := by k_asm) (by rfl) (by with_unfolding_all rfl) (by with_unfolding_all rfl) (by decide) (by rfl) (by decide) (by rfl) (by rfl) (by rfl) ?_)) | (k_here; (with_reducible show wpAny _ _ (eval (Expr.ListComp _ [Comprehension.mk _ _ [] _] _ _) _) _ _ _); k_dflt (refine LCg.ListComp_U (F₀ := by k_asm) (by with_unfolding_all rfl) (by decide) (by rfl) (by decide) (by rfl) ?_)) | (k_here; (with_reducible show wpAny _ _ (exec (Stmt.Assign _ (Expr.ListComp _ [Comprehension.mk _ _ [_] _] _ _) _) _) _ _ _); k_dflt (refine LCt.Assign_ListComp_T (F₀ := by k_asm) (by rfl) (by with_unfolding_all rfl) (by with_unfolding_all rfl) (by decide) (by rfl) (by decide) (by rfl) (by rfl) (by rfl) ?_)) | (k_here; (with_reducible show wpAny _ _ (eval (Expr.ListComp _ [Comprehension.mk _ _ [_] _] _ _) _) _ _ _); k_dflt (refine LCt.ListComp_T (F₀ := by k_asm) (by with_unfolding_all rfl) (by decide) (by rfl) (by decide) (by rfl) ?_)) | (k_here; (with_reducible show wpAny _ _ (call (Value.builtin "isinstance") [Value.bool _, Value.type "bool"]) _ _ _); (refine PySem.IsiPair.bool_bool ?_)) | walk1 | (dsimp only; first | (k_here; (with_reducible show wpAny _ _ (call (Value.builtin "len") [Value.ref _]) _ _ _); k_dflt (refine' lenL ?k1 ?k2 ?k3 ?_; (case k1 => k_asm); (case k2 => k_mem); (case k3 => omega); k_whole)) | (k_here; (with_reducible show wpAny _ _ (subscriptTail _ _ (Value.ref _) (Value.int _ _)) _ _ _); (with_unfolding_all refine' itemL ?k1 ?k2 ?k3 ?k4 ?k5 ?_ ?k6; (case k1 => k_asm); (case k2 => k_mem); (case k3 => omega); (case k4 => omega); (case k5 => assumption); (case k6 => with_unfolding_all rfl); k_whole)) | (k_here; (with_reducible show wpAny _ _ (exec (Stmt.Assign _ (Expr.ListComp _ [Comprehension.mk _ _ [] _] _ _) _) _) _ _ _); k_dflt (refine assignCell (by k_asm) (by rfl) (by with_unfolding_all rfl) (by with_unfolding_all rfl) (by intro h; rfl) (by intro c; rfl) (by rfl) (by decide) (by rfl) (by rfl) (by rfl) ?_)) | (k_here; (with_reducible show wpAny _ _ (exec (Stmt.Assign _ (Expr.ListComp _ [Comprehension.mk _ _ [] _] _ _) _) _) _ _ _); k_dflt (refine LCg.Assign_ListComp_U (F₀ := by k_asm) (by rfl) (by with_unfolding_all rfl) (by with_unfolding_all rfl) (by decide) (by rfl) (by decide) (by rfl) (by rfl) (by rfl) ?_)) | (k_here; (with_reducible show wpAny _ _ (eval (Expr.ListComp _ [Comprehension.mk _ _ [] _] _ _) _) _ _ _); k_dflt (refine LCg.ListComp_U (F₀ := by k_asm) (by with_unfolding_all rfl) (by decide) (by rfl) (by decide) (by rfl) ?_)) | (k_here; (with_reducible show wpAny _ _ (exec (Stmt.Assign _ (Expr.ListComp _ [Comprehension.mk _ _ [_] _] _ _) _) _) _ _ _); k_dflt (refine LCt.Assign_ListComp_T (F₀ := by k_asm) (by rfl) (by with_unfolding_all rfl) (by with_unfolding_all rfl) (by decide) (by rfl) (by decide) (by rfl) (by rfl) (by rfl) ?_)) | (k_here; (with_reducible show wpAny _ _ (eval (Expr.ListComp _ [Comprehension.mk _ _ [_] _] _ _) _) _ _ _); k_dflt (refine LCt.ListComp_T (F₀ := by k_asm) (by with_unfolding_all rfl) (by decide) (by rfl) (by decide) (by rfl) ?_)) | (k_here; (with_reducible show wpAny _ _ (call (Value.builtin "isinstance") [Value.bool _, Value.type "bool"]) _ _ _); (refine PySem.IsiPair.bool_bool ?_)) | walk1)
    rename Fr _ _ _ _ => F5
    rename News _ _ _ _ => N5
    rename (@LT.lt Nat _ _ _ ∧ _) => l5
    rename_i D5 _
    have q1 := l5.1
    have q2 := l5.2.1
    have q3 := l5.2.2.1
    have q4 := l5.2.2.2
    clear l5
    have q82 : @LT.lt Nat _ 82 D5 := kst_ltOf q4 (82, op) (List.mem_append_right _ (.tail _ (.tail _ (.head _))))
    refine LCg.CompEnd.intro F5 N5 ((D5, tupO #[.int (0 + (i : Int) + 1) (tk + 1), .int (levelOf lead.cps.toList (1 + (i : Int))) ta, .int (levelOf lead2.cps.toList (1 + (i : Int))) tb2]) :: (tb ++ ((L' + 1 + 1, oT) :: (L' + 1, oO) :: (82, op) :: news))) ?_ ⟨⟨Nat.ne_of_gt q1, Nat.ne_of_gt q2, Nat.ne_of_gt q3⟩, off⟩ trivial ⟨(D5, _) :: tb, rfl, ?_, ?_⟩
    · intro p hp
      simp only [List.mem_cons] at hp ⊢
      rcases hp with hp | hp | hp | hp | hp
      · exact .inr (.inl hp)
      · exact .inr (.inr (.inl hp))
      · exact .inr (.inr (.inr (.inl hp)))
      · exact .inl hp
      · exact .inr (.inr (.inr (.inr hp)))
    · rw [tabOf_succ]
      refine (hrows.mono (fun p hp => List.mem_cons_of_mem _ hp)).snoc ⟨D5, tk + 1, ta, tb2, rfl, ?_⟩
      rw [show (1 : Int) + (i : Int) = 0 + (i : Int) + 1 by omega]
      exact .head _
    · intro p hp
      rcases List.mem_cons.mp hp with rfl | hp
      · exact Nat.ne_of_gt q82
      · exact h82b p hp
  · rintro ys nw ⟨tb, rfl, hrows, h82b⟩
    rw [show (longest + 1 - 0).toNat = (topOf lead.cps.toList lead2.cps.toList).toNat by omega] at hrows
    have hyl := hrows.length
    have htl : (tabOf lead.cps.toList lead2.cps.toList (topOf lead.cps.toList lead2.cps.toList).toNat).length ≤ 7 := by simp [tabOf]; omega
    unfold LCg.FinA
    intro D2 h2 tk2 F2 N2 off2
    dsimp only
    repeat' (fail_if_success (with_reducible show wpAny _ _ (pyIter _) _ _ _)); (fail_if_success (with_reducible show LCg.CompSrc _ _ _ _ _ _ _ _ _ _ _ _ _ _)); (fail_if_success (with_reducible show LCt.CompSrcT _ _ _ _ _ _ _ _ _ _ _ _ _ _ _)); (fail_if_success (with_reducible show LCg.CompEnd _ _ _ _ _ _ _ _ _ _ _ _ _ _)); (fail_if_success (with_reducible show CellEnd _ _ _ _ _ _ _ _ _ _ _ _ _ _ _ _)); (fail_if_success (with_reducible show wpAny _ _ (call (Value.ref _) _) _ _ _)); (fail_if_success (with_reducible show wpAny _ _ (compareOp _ (Value.ref _) (Value.ref _)) _ _ _)); first | (k_unfold; (try dsimp only)) | (k_here; (with_reducible show wpAny _ _ (call (Value.builtin "len") [Value.ref _]) _ _ _); k_dflt (refine' lenL ?k1 ?k2 ?k3 ?_; (case k1 => k_asm); (case k2 => k_mem); (case k3 => omega); k_whole)) | (k_here; (with_reducible show wpAny _ _ (subscriptTail _ _ (Value.ref _) (Value.int _ _)) _ _ _); (with_unfolding_all refine' itemL ?k1 ?k2 ?k3 ?k4 ?k5 ?_ ?k6; (case k1 => k_asm); (case k2 => k_mem); (case k3 => omega); (case k4 => omega); (case k5 => assumption); (case k6 => with_unfolding_all rfl); k_whole)) | (k_here; (with_reducible show wpAny _ _ (exec (Stmt.Assign _ (Expr.ListComp _ [Comprehension.mk _ _ [] _] _ _) _) _) _ _ _); k_dflt (refine assignCell (by k_asm) (by rfl) (by with_unfolding_all rfl) (by with_unfolding_all rfl) (by intro h; rfl) (by intro c; rfl) (by rfl) (by decide) (by rfl) (by rfl) (by rfl) ?_)) | (k_here; (with_reducible show wpAny _ _ (exec (Stmt.Assign _ (Expr.ListComp _ [Comprehension.mk _ _ [] _] _ _) _) _) _ _ _); k_dflt (refine LCg.Assign_ListComp_U (F₀ := by k_asm) (by rfl) (by with_unfolding_all rfl) (by with_unfolding_all rfl) (by decide) (by rfl) (by decide) (by rfl) (by rfl) (by rfl) ?_)) | (k_here; (with_reducible show wpAny _ _ (eval (Expr.ListComp _ [Comprehension.mk _ _ [] _] _ _) _) _ _ _); k_dflt (refine LCg.ListComp_U (F₀ := by k_asm) (by with_unfolding_all rfl) (by decide) (by rfl) (by decide) (by rfl) ?_)) | (k_here; (with_reducible show wpAny _ _ (exec (Stmt.Assign _ (Expr.ListComp _ [Comprehension.mk _ _ [_] _] _ _) _) _) _ _ _); k_dflt (refine LCt.Assign_ListComp_T (F₀ := by k_asm) (by rfl) (by with_unfolding_all rfl) (by with_unfolding_all rfl) (by decide) (by rfl) (by decide) (by rfl) (by rfl) (by rfl) ?_)) | (k_here; (with_reducible show wpAny _ _ (eval (Expr.ListComp _ [Comprehension.mk _ _ [_] _] _ _) _) _ _ _); k_dflt (refine LCt.ListComp_T (F₀ := by k_asm) (by with_unfolding_all rfl) (by decide) (by rfl) (by decide) (by rfl) ?_)) | (k_here; (with_reducible show wpAny _ _ (call (Value.builtin "isinstance") [Value.bool _, Value.type "bool"]) _ _ _); (refine PySem.IsiPair.bool_bool ?_)) | walk1 | (dsimp only; first | (k_here; (with_reducible show wpAny _ _ (call (Value.builtin "len") [Value.ref _]) _ _ _); k_dflt (refine' lenL ?k1 ?k2 ?k3 ?_; (case k1 => k_asm); (case k2 => k_mem); (case k3 => omega); k_whole)) | (k_here; (with_reducible show wpAny _ _ (subscriptTail _ _ (Value.ref _) (Value.int _ _)) _ _ _); (with_unfolding_all refine' itemL ?k1 ?k2 ?k3 ?k4 ?k5 ?_ ?k6; (case k1 => k_asm); (case k2 => k_mem); (case k3 => omega); (case k4 => omega); (case k5 => assumption); (case k6 => with_unfolding_all rfl); k_whole)) | (k_here; (with_reducible show wpAny _ _ (exec (Stmt.Assign _ (Expr.ListComp _ [Comprehension.mk _ _ [] _] _ _) _) _) _ _ _); k_dflt (refine assignCell (by k_asm) (by rfl) (by with_unfolding_all rfl) (by with_unfolding_all rfl) (by intro h; rfl) (by intro c; rfl) (by rfl) (by decide) (by rfl) (by rfl) (by rfl) ?_)) | (k_here; (with_reducible show wpAny _ _ (exec (Stmt.Assign _ (Expr.ListComp _ [Comprehension.mk _ _ [] _] _ _) _) _) _ _ _); k_dflt (refine LCg.Assign_ListComp_U (F₀ := by k_asm) (by rfl) (by with_unfolding_all rfl) (by with_unfolding_all rfl) (by decide) (by rfl) (by decide) (by rfl) (by rfl) (by rfl) ?_)) | (k_here; (with_reducible show wpAny _ _ (eval (Expr.ListComp _ [Comprehension.mk _ _ [] _] _ _) _) _ _ _); k_dflt (refine LCg.ListComp_U (F₀ := by k_asm) (by with_unfolding_all rfl) (by decide) (by rfl) (by decide) (by rfl) ?_)) | (k_here; (with_reducible show wpAny _ _ (exec (Stmt.Assign _ (Expr.ListComp _ [Comprehension.mk _ _ [_] _] _ _) _) _) _ _ _); k_dflt (refine LCt.Assign_ListComp_T (F₀ := by k_asm) (by rfl) (by with_unfolding_all rfl) (by with_unfolding_all rfl) (by decide) (by rfl) (by decide) (by rfl) (by rfl) (by rfl) ?_)) | (k_here; (with_reducible show wpAny _ _ (eval (Expr.ListComp _ [Comprehension.mk _ _ [_] _] _ _) _) _ _ _); k_dflt (refine LCt.ListComp_T (F₀ := by k_asm) (by with_unfolding_all rfl) (by decide) (by rfl) (by decide) (by rfl) ?_)) | (k_here; (with_reducible show wpAny _ _ (call (Value.builtin "isinstance") [Value.bool _, Value.type "bool"]) _ _ _); (refine PySem.IsiPair.bool_bool ?_)) | walk1)
    refine LCt.CompSrcT.ledger (by with_unfolding_all rfl) F2 N2 (.head _) (by rw [List.size_toArray, hyl, sizeLine_eq]; omega) ?_
    intro g2
    refine comp_invT (fun j zs nw => nw = _ ∧ RowsIn tb zs (((tabOf lead.cps.toList lead2.cps.toList (topOf lead.cps.toList lead2.cps.toList).toNat).take j).filter fun r => decide (r.2.1 ≠ r.2.2))) ⟨rfl, .nil⟩ ?_ ?_
    · rintro j v I oI C oC D m₂ zs nw h tk E' hj hv ⟨rfl, hzs⟩ hNC hx F₁ N₁ off ne
      obtain ⟨r, hr, a5, t5, t6, t7, rfl, hm5⟩ := hrows.at j v (by simpa using hv)
      have hm5' := List.mem_append_left ((L' + 1 + 1, oT) :: (L' + 1, oO) :: (82, op) :: news) hm5
      repeat' (fail_if_success (with_reducible show wpAny _ _ (pyIter _) _ _ _)); (fail_if_success (with_reducible show LCg.CompSrc _ _ _ _ _ _ _ _ _ _ _ _ _ _)); (fail_if_success (with_reducible show LCt.CompSrcT _ _ _ _ _ _ _ _ _ _ _ _ _ _ _)); (fail_if_success (with_reducible show LCg.CompEnd _ _ _ _ _ _ _ _ _ _ _ _ _ _)); (fail_if_success (with_reducible show CellEnd _ _ _ _ _ _ _ _ _ _ _ _ _ _ _ _)); (fail_if_success (with_reducible show wpAny _ _ (call (Value.ref _) _) _ _ _)); (fail_if_success (with_reducible show wpAny _ _ (compareOp _ (Value.ref _) (Value.ref _)) _ _ _)); first | (k_unfold; (try dsimp only)) | (k_here; (with_reducible show wpAny _ _ (call (Value.builtin "len") [Value.ref _]) _ _ _); k_dflt (refine' lenL ?k1 ?k2 ?k3 ?_; (case k1 => k_asm); (case k2 => k_mem); (case k3 => omega); k_whole)) | (k_here; (with_reducible show wpAny _ _ (subscriptTail _ _ (Value.ref _) (Value.int _ _)) _ _ _); (with_unfolding_all refine' itemL ?k1 ?k2 ?k3 ?k4 ?k5 ?_ ?k6; (case k1 => k_asm); (case k2 => k_mem); (case k3 => omega); (case k4 => omega); (case k5 => assumption); (case k6 => with_unfolding_all rfl); k_whole)) | (k_here; (with_reducible show wpAny _ _ (exec (Stmt.Assign _ (Expr.ListComp _ [Comprehension.mk _ _ [] _] _ _) _) _) _ _ _); k_dflt (refine assignCell (by k_asm) (by rfl) (by with_unfolding_all rfl) (by with_unfolding_all rfl) (by intro h; rfl) (by intro c; rfl) (by rfl) (by decide) (by rfl) (by rfl) (by rfl) ?_)) | (k_here; (with_reducible show wpAny _ _ (exec (Stmt.Assign _ (Expr.ListComp _ [Comprehension.mk _ _ [] _] _ _) _) _) _ _ _); k_dflt (refine LCg.Assign_ListComp_U (F₀ := by k_asm) (by rfl) (by with_unfolding_all rfl) (by with_unfolding_all rfl) (by decide) (by rfl) (by decide) (by rfl) (by rfl) (by rfl) ?_)) | (k_here; (with_reducible show wpAny _ _ (eval (Expr.ListComp _ [Comprehension.mk _ _ [] _] _ _) _) _ _ _); k_dflt (refine LCg.ListComp_U (F₀ := by k_asm) (by with_unfolding_all rfl) (by decide) (by rfl) (by decide) (by rfl) ?_)) | (k_here; (with_reducible show wpAny _ _ (exec (Stmt.Assign _ (Expr.ListComp _ [Comprehension.mk _ _ [_] _] _ _) _) _) _ _ _); k_dflt (refine LCt.Assign_ListComp_T (F₀ := by k_asm) (by rfl) (by with_unfolding_all rfl) (by with_unfolding_all rfl) (by decide) (by rfl) (by decide) (by rfl) (by rfl) (by rfl) ?_)) | (k_here; (with_reducible show wpAny _ _ (eval (Expr.ListComp _ [Comprehension.mk _ _ [_] _] _ _) _) _ _ _); k_dflt (refine LCt.ListComp_T (F₀ := by k_asm) (by with_unfolding_all rfl) (by decide) (by rfl) (by decide) (by rfl) ?_)) | (k_here; (with_reducible show wpAny _ _ (call (Value.builtin "isinstance") [Value.bool _, Value.type "bool"]) _ _ _); (refine PySem.IsiPair.bool_bool ?_)) | walk1 | (dsimp only; first | (k_here; (with_reducible show wpAny _ _ (call (Value.builtin "len") [Value.ref _]) _ _ _); k_dflt (refine' lenL ?k1 ?k2 ?k3 ?_; (case k1 => k_asm); (case k2 => k_mem); (case k3 => omega); k_whole)) | (k_here; (with_reducible show wpAny _ _ (subscriptTail _ _ (Value.ref _) (Value.int _ _)) _ _ _); (with_unfolding_all refine' itemL ?k1 ?k2 ?k3 ?k4 ?k5 ?_ ?k6; (case k1 => k_asm); (case k2 => k_mem); (case k3 => omega); (case k4 => omega); (case k5 => assumption); (case k6 => with_unfolding_all rfl); k_whole)) | (k_here; (with_reducible show wpAny _ _ (exec (Stmt.Assign _ (Expr.ListComp _ [Comprehension.mk _ _ [] _] _ _) _) _) _ _ _); k_dflt (refine assignCell (by k_asm) (by rfl) (by with_unfolding_all rfl) (by with_unfolding_all rfl) (by intro h; rfl) (by intro c; rfl) (by rfl) (by decide) (by rfl) (by rfl) (by rfl) ?_)) | (k_here; (with_reducible show wpAny _ _ (exec (Stmt.Assign _ (Expr.ListComp _ [Comprehension.mk _ _ [] _] _ _) _) _) _ _ _); k_dflt (refine LCg.Assign_ListComp_U (F₀ := by k_asm) (by rfl) (by with_unfolding_all rfl) (by with_unfolding_all rfl) (by decide) (by rfl) (by decide) (by rfl) (by rfl) (by rfl) ?_)) | (k_here; (with_reducible show wpAny _ _ (eval (Expr.ListComp _ [Comprehension.mk _ _ [] _] _ _) _) _ _ _); k_dflt (refine LCg.ListComp_U (F₀ := by k_asm) (by with_unfolding_all rfl) (by decide) (by rfl) (by decide) (by rfl) ?_)) | (k_here; (with_reducible show wpAny _ _ (exec (Stmt.Assign _ (Expr.ListComp _ [Comprehension.mk _ _ [_] _] _ _) _) _) _ _ _); k_dflt (refine LCt.Assign_ListComp_T (F₀ := by k_asm) (by rfl) (by with_unfolding_all rfl) (by with_unfolding_all rfl) (by decide) (by rfl) (by decide) (by rfl) (by rfl) (by rfl) ?_)) | (k_here; (with_reducible show wpAny _ _ (eval (Expr.ListComp _ [Comprehension.mk _ _ [_] _] _ _) _) _ _ _); k_dflt (refine LCt.ListComp_T (F₀ := by k_asm) (by with_unfolding_all rfl) (by decide) (by rfl) (by decide) (by rfl) ?_)) | (k_here; (with_reducible show wpAny _ _ (call (Value.builtin "isinstance") [Value.bool _, Value.type "bool"]) _ _ _); (refine PySem.IsiPair.bool_bool ?_)) | walk1)
      · refine LCg.CompEnd.intro F₁ N₁ _ (fun p hp => hp) off (.inr ⟨_, .head _, rfl, _, rfl⟩) ⟨rfl, ?_⟩
        rw [rows_filter_yes hr (decide_eq_true (by assumption))]
        exact hzs.snoc ⟨a5, t5, t6, t7, rfl, hm5⟩
      · refine LCg.CompEnd.intro F₁ N₁ _ (fun p hp => hp) off (.inr ⟨_, .head _, rfl, _, rfl⟩) ⟨rfl, ?_⟩
        rw [rows_filter_no hr (decide_eq_false (by simpa using (by assumption)))]
        exact hzs
    · rintro zu nw ⟨rfl, hzu⟩
      rw [List.size_toArray, hyl, List.take_length] at hzu
      unfold LCg.FinA
      intro D3 h3 tk3 F3 N3 off3
      dsimp only
      repeat' (fail_if_success (with_reducible show wpAny _ _ (pyIter _) _ _ _)); (fail_if_success (with_reducible show LCg.CompSrc _ _ _ _ _ _ _ _ _ _ _ _ _ _)); (fail_if_success (with_reducible show LCt.CompSrcT _ _ _ _ _ _ _ _ _ _ _ _ _ _ _)); (fail_if_success (with_reducible show LCg.CompEnd _ _ _ _ _ _ _ _ _ _ _ _ _ _)); (fail_if_success (with_reducible show CellEnd _ _ _ _ _ _ _ _ _ _ _ _ _ _ _ _)); (fail_if_success (with_reducible show wpAny _ _ (call (Value.ref _) _) _ _ _)); (fail_if_success (with_reducible show wpAny _ _ (compareOp _ (Value.ref _) (Value.ref _)) _ _ _)); first | (k_unfold; (try dsimp only)) | (k_here; (with_reducible show wpAny _ _ (call (Value.builtin "len") [Value.ref _]) _ _ _); k_dflt (refine' lenL ?k1 ?k2 ?k3 ?_; (case k1 => k_asm); (case k2 => k_mem); (case k3 => omega); k_whole)) | (k_here; (with_reducible show wpAny _ _ (subscriptTail _ _ (Value.ref _) (Value.int _ _)) _ _ _); (with_unfolding_all refine' itemL ?k1 ?k2 ?k3 ?k4 ?k5 ?_ ?k6; (case k1 => k_asm); (case k2 => k_mem); (case k3 => omega); (case k4 => omega); (case k5 => assumption); (case k6 => with_unfolding_all rfl); k_whole)) | (k_here; (with_reducible show wpAny _ _ (exec (Stmt.Assign _ (Expr.ListComp _ [Comprehension.mk _ _ [] _] _ _) _) _) _ _ _); k_dflt (refine assignCell (by k_asm) (by rfl) (by with_unfolding_all rfl) (by with_unfolding_all rfl) (by intro h; rfl) (by intro c; rfl) (by rfl) (by decide) (by rfl) (by rfl) (by rfl) ?_)) | (k_here; (with_reducible show wpAny _ _ (exec (Stmt.Assign _ (Expr.ListComp _ [Comprehension.mk _ _ [] _] _ _) _) _) _ _ _); k_dflt (refine LCg.Assign_ListComp_U (F₀ := by k_asm) (by rfl) (by with_unfolding_all rfl) (by with_unfolding_all rfl) (by decide) (by rfl) (by decide) (by rfl) (by rfl) (by rfl) ?_)) | (k_here; (with_reducible show wpAny _ _ (eval (Expr.ListComp _ [Comprehension.mk _ _ [] _] _ _) _) _ _ _); k_dflt (refine LCg.ListComp_U (F₀ := by k_asm) (by with_unfolding_all rfl) (by decide) (by rfl) (by decide) (by rfl) ?_)) | (k_here; (with_reducible show wpAny _ _ (exec (Stmt.Assign _ (Expr.ListComp _ [Comprehension.mk _ _ [_] _] _ _) _) _) _ _ _); k_dflt (refine LCt.Assign_ListComp_T (F₀ := by k_asm) (by rfl) (by with_unfolding_all rfl) (by with_unfolding_all rfl) (by decide) (by rfl) (by decide) (by rfl) (by rfl) (by rfl) ?_)) | (k_here; (with_reducible show wpAny _ _ (eval (Expr.ListComp _ [Comprehension.mk _ _ [_] _] _ _) _) _ _ _); k_dflt (refine LCt.ListComp_T (F₀ := by k_asm) (by with_unfolding_all rfl) (by decide) (by rfl) (by decide) (by rfl) ?_)) | (k_here; (with_reducible show wpAny _ _ (call (Value.builtin "isinstance") [Value.bool _, Value.type "bool"]) _ _ _); (refine PySem.IsiPair.bool_bool ?_)) | walk1 | (dsimp only; first | (k_here; (with_reducible show wpAny _ _ (call (Value.builtin "len") [Value.ref _]) _ _ _); k_dflt (refine' lenL ?k1 ?k2 ?k3 ?_; (case k1 => k_asm); (case k2 => k_mem); (case k3 => omega); k_whole)) | (k_here; (with_reducible show wpAny _ _ (subscriptTail _ _ (Value.ref _) (Value.int _ _)) _ _ _); (with_unfolding_all refine' itemL ?k1 ?k2 ?k3 ?k4 ?k5 ?_ ?k6; (case k1 => k_asm); (case k2 => k_mem); (case k3 => omega); (case k4 => omega); (case k5 => assumption); (case k6 => with_unfolding_all rfl); k_whole)) | (k_here; (with_reducible show wpAny _ _ (exec (Stmt.Assign _ (Expr.ListComp _ [Comprehension.mk _ _ [] _] _ _) _) _) _ _ _); k_dflt (refine assignCell (by k_asm) (by rfl) (by with_unfolding_all rfl) (by with_unfolding_all rfl) (by intro h; rfl) (by intro c; rfl) (by rfl) (by decide) (by rfl) (by rfl) (by rfl) ?_)) | (k_here; (with_reducible show wpAny _ _ (exec (Stmt.Assign _ (Expr.ListComp _ [Comprehension.mk _ _ [] _] _ _) _) _) _ _ _); k_dflt (refine LCg.Assign_ListComp_U (F₀ := by k_asm) (by rfl) (by with_unfolding_all rfl) (by with_unfolding_all rfl) (by decide) (by rfl) (by decide) (by rfl) (by rfl) (by rfl) ?_)) | (k_here; (with_reducible show wpAny _ _ (eval (Expr.ListComp _ [Comprehension.mk _ _ [] _] _ _) _) _ _ _); k_dflt (refine LCg.ListComp_U (F₀ := by k_asm) (by with_unfolding_all rfl) (by decide) (by rfl) (by decide) (by rfl) ?_)) | (k_here; (with_reducible show wpAny _ _ (exec (Stmt.Assign _ (Expr.ListComp _ [Comprehension.mk _ _ [_] _] _ _) _) _) _ _ _); k_dflt (refine LCt.Assign_ListComp_T (F₀ := by k_asm) (by rfl) (by with_unfolding_all rfl) (by with_unfolding_all rfl) (by decide) (by rfl) (by decide) (by rfl) (by rfl) (by rfl) ?_)) | (k_here; (with_reducible show wpAny _ _ (eval (Expr.ListComp _ [Comprehension.mk _ _ [_] _] _ _) _) _ _ _); k_dflt (refine LCt.ListComp_T (F₀ := by k_asm) (by with_unfolding_all rfl) (by decide) (by rfl) (by decide) (by rfl) ?_)) | (k_here; (with_reducible show wpAny _ _ (call (Value.builtin "isinstance") [Value.bool _, Value.type "bool"]) _ _ _); (refine PySem.IsiPair.bool_bool ?_)) | walk1)
      refine LCt.CompSrcT.ledger (by with_unfolding_all rfl) F3 N3 (.tail _ (.head _)) (by rw [List.size_toArray, hyl, sizeLine_eq]; omega) ?_
      intro g3
      refine comp_invT (fun j zs nw => nw = _ ∧ RowsIn tb zs (((tabOf lead.cps.toList lead2.cps.toList (topOf lead.cps.toList lead2.cps.toList).toNat).take j).filter fun r => decide (r.2.2 ≤ r.2.1))) ⟨rfl, .nil⟩ ?_ ?_
      · rintro j v I oI C oC D m₂ zs nw h tk E' hj hv ⟨rfl, hzs⟩ hNC hx F₁ N₁ off ne
        obtain ⟨r, hr, a5, t5, t6, t7, rfl, hm5⟩ := hrows.at j v (by simpa using hv)
        have hm5' := List.mem_append_left ((L' + 1 + 1, oT) :: (L' + 1, oO) :: (82, op) :: news) hm5
        repeat' (fail_if_success (with_reducible show wpAny _ _ (pyIter _) _ _ _)); (fail_if_success (with_reducible show LCg.CompSrc _ _ _ _ _ _ _ _ _ _ _ _ _ _)); (fail_if_success (with_reducible show LCt.CompSrcT _ _ _ _ _ _ _ _ _ _ _ _ _ _ _)); (fail_if_success (with_reducible show LCg.CompEnd _ _ _ _ _ _ _ _ _ _ _ _ _ _)); (fail_if_success (with_reducible show CellEnd _ _ _ _ _ _ _ _ _ _ _ _ _ _ _ _)); (fail_if_success (with_reducible show wpAny _ _ (call (Value.ref _) _) _ _ _)); (fail_if_success (with_reducible show wpAny _ _ (compareOp _ (Value.ref _) (Value.ref _)) _ _ _)); first | (k_unfold; (try dsimp only)) | (k_here; (with_reducible show wpAny _ _ (call (Value.builtin "len") [Value.ref _]) _ _ _); k_dflt (refine' lenL ?k1 ?k2 ?k3 ?_; (case k1 => k_asm); (case k2 => k_mem); (case k3 => omega); k_whole)) | (k_here; (with_reducible show wpAny _ _ (subscriptTail _ _ (Value.ref _) (Value.int _ _)) _ _ _); (with_unfolding_all refine' itemL ?k1 ?k2 ?k3 ?k4 ?k5 ?_ ?k6; (case k1 => k_asm); (case k2 => k_mem); (case k3 => omega); (case k4 => omega); (case k5 => assumption); (case k6 => with_unfolding_all rfl); k_whole)) | (k_here; (with_reducible show wpAny _ _ (exec (Stmt.Assign _ (Expr.ListComp _ [Comprehension.mk _ _ [] _] _ _) _) _) _ _ _); k_dflt (refine assignCell (by k_asm) (by rfl) (by with_unfolding_all rfl) (by with_unfolding_all rfl) (by intro h; rfl) (by intro c; rfl) (by rfl) (by decide) (by rfl) (by rfl) (by rfl) ?_)) | (k_here; (with_reducible show wpAny _ _ (exec (Stmt.Assign _ (Expr.ListComp _ [Comprehension.mk _ _ [] _] _ _) _) _) _ _ _); k_dflt (refine LCg.Assign_ListComp_U (F₀ := by k_asm) (by rfl) (by with_unfolding_all rfl) (by with_unfolding_all rfl) (by decide) (by rfl) (by decide) (by rfl) (by rfl) (by rfl) ?_)) | (k_here; (with_reducible show wpAny _ _ (eval (Expr.ListComp _ [Comprehension.mk _ _ [] _] _ _) _) _ _ _); k_dflt (refine LCg.ListComp_U (F₀ := by k_asm) (by with_unfolding_all rfl) (by decide) (by rfl) (by decide) (by rfl) ?_)) | (k_here; (with_reducible show wpAny _ _ (exec (Stmt.Assign _ (Expr.ListComp _ [Comprehension.mk _ _ [_] _] _ _) _) _) _ _ _); k_dflt (refine LCt.Assign_ListComp_T (F₀ := by k_asm) (by rfl) (by with_unfolding_all rfl) (by with_unfolding_all rfl) (by decide) (by rfl) (by decide) (by rfl) (by rfl) (by rfl) ?_)) | (k_here; (with_reducible show wpAny _ _ (eval (Expr.ListComp _ [Comprehension.mk _ _ [_] _] _ _) _) _ _ _); k_dflt (refine LCt.ListComp_T (F₀ := by k_asm) (by with_unfolding_all rfl) (by decide) (by rfl) (by decide) (by rfl) ?_)) | (k_here; (with_reducible show wpAny _ _ (call (Value.builtin "isinstance") [Value.bool _, Value.type "bool"]) _ _ _); (refine PySem.IsiPair.bool_bool ?_)) | walk1 | (dsimp only; first | (k_here; (with_reducible show wpAny _ _ (call (Value.builtin "len") [Value.ref _]) _ _ _); k_dflt (refine' lenL ?k1 ?k2 ?k3 ?_; (case k1 => k_asm); (case k2 => k_mem); (case k3 => omega); k_whole)) | (k_here; (with_reducible show wpAny _ _ (subscriptTail _ _ (Value.ref _) (Value.int _ _)) _ _ _); (with_unfolding_all refine' itemL ?k1 ?k2 ?k3 ?k4 ?k5 ?_ ?k6; (case k1 => k_asm); (case k2 => k_mem); (case k3 => omega); (case k4 => omega); (case k5 => assumption); (case k6 => with_unfolding_all rfl); k_whole)) | (k_here; (with_reducible show wpAny _ _ (exec (Stmt.Assign _ (Expr.ListComp _ [Comprehension.mk _ _ [] _] _ _) _) _) _ _ _); k_dflt (refine assignCell (by k_asm) (by rfl) (by with_unfolding_all rfl) (by with_unfolding_all rfl) (by intro h; rfl) (by intro c; rfl) (by rfl) (by decide) (by rfl) (by rfl) (by rfl) ?_)) | (k_here; (with_reducible show wpAny _ _ (exec (Stmt.Assign _ (Expr.ListComp _ [Comprehension.mk _ _ [] _] _ _) _) _) _ _ _); k_dflt (refine LCg.Assign_ListComp_U (F₀ := by k_asm) (by rfl) (by with_unfolding_all rfl) (by with_unfolding_all rfl) (by decide) (by rfl) (by decide) (by rfl) (by rfl) (by rfl) ?_)) | (k_here; (with_reducible show wpAny _ _ (eval (Expr.ListComp _ [Comprehension.mk _ _ [] _] _ _) _) _ _ _); k_dflt (refine LCg.ListComp_U (F₀ := by k_asm) (by with_unfolding_all rfl) (by decide) (by rfl) (by decide) (by rfl) ?_)) | (k_here; (with_reducible show wpAny _ _ (exec (Stmt.Assign _ (Expr.ListComp _ [Comprehension.mk _ _ [_] _] _ _) _) _) _ _ _); k_dflt (refine LCt.Assign_ListComp_T (F₀ := by k_asm) (by rfl) (by with_unfolding_all rfl) (by with_unfolding_all rfl) (by decide) (by rfl) (by decide) (by rfl) (by rfl) (by rfl) ?_)) | (k_here; (with_reducible show wpAny _ _ (eval (Expr.ListComp _ [Comprehension.mk _ _ [_] _] _ _) _) _ _ _); k_dflt (refine LCt.ListComp_T (F₀ := by k_asm) (by with_unfolding_all rfl) (by decide) (by rfl) (by decide) (by rfl) ?_)) | (k_here; (with_reducible show wpAny _ _ (call (Value.builtin "isinstance") [Value.bool _, Value.type "bool"]) _ _ _); (refine PySem.IsiPair.bool_bool ?_)) | walk1)
        · refine LCg.CompEnd.intro F₁ N₁ _ (fun p hp => hp) off (.inr ⟨_, .tail _ (.head _), rfl, _, rfl⟩) ⟨rfl, ?_⟩
          rw [rows_filter_yes hr (decide_eq_true (by assumption))]
          exact hzs.snoc ⟨a5, t5, t6, t7, rfl, hm5⟩
        · refine LCg.CompEnd.intro F₁ N₁ _ (fun p hp => hp) off (.inr ⟨_, .tail _ (.head _), rfl, _, rfl⟩) ⟨rfl, ?_⟩
          rw [rows_filter_no hr (decide_eq_false (by assumption))]
          exact hzs
      · rintro zr nw ⟨rfl, hzr⟩
        rw [List.size_toArray, hyl, List.take_length] at hzr
        unfold LCg.FinA
        intro D4 h4 tk4 F4 N4 off4
        change RowsIn tb zu (unRows _ _ _) at hzu
        change RowsIn tb zr (geRows _ _ _) at hzr
        dsimp only
        have hP0 : PLed w ((D4, LCg.lst zr) :: (D3, LCg.lst zu) :: (tb ++ ((L' + 1 + 1, oT) :: (L' + 1, oO) :: news))) x x2 text text2 lead.cps.toList lead2.cps.toList o1 o2 (L' + 1 + 1) (L' + 1) (W.listOf vs1.toArray n1) (W.listOf vs2.toArray n2) oT oO D3 D4 (unRows lead.cps.toList lead2.cps.toList (topOf lead.cps.toList lead2.cps.toList).toNat) (geRows lead.cps.toList lead2.cps.toList (topOf lead.cps.toList lead2.cps.toList).toNat) := by
          have hs : ∀ p ∈ news, p ∈ (D4, LCg.lst zr) :: (D3, LCg.lst zu) :: (tb ++ ((L' + 1 + 1, oT) :: (L' + 1, oO) :: news)) := fun p hp => .tail _ (.tail _ (List.mem_append_right _ (.tail _ (.tail _ hp))))
          have ht : ∀ p ∈ tb, p ∈ (D4, LCg.lst zr) :: (D3, LCg.lst zu) :: (tb ++ ((L' + 1 + 1, oT) :: (L' + 1, oO) :: news)) := fun p hp => .tail _ (.tail _ (List.mem_append_left _ hp))
          refine ⟨hW.mono hs, hW2.mono hs, hs _ m1, hs _ m2, .tail _ (.tail _ (List.mem_append_right _ (.head _))), .tail _ (.tail _ (List.mem_append_right _ (.tail _ (.head _)))), ⟨zu, _, .tail _ (.head _), hzu.mono ht⟩, ⟨zr, _, .head _, hzr.mono ht⟩, ?_⟩
          intro p hp
          rcases List.mem_cons.mp hp with rfl | hp
          · exact (off1_ne off4 (82, op) (.tail _ (.tail _ (List.mem_append_right _ (.tail _ (.tail _ (.head _))))))).symm
          rcases List.mem_cons.mp hp with rfl | hp
          · exact (off1_ne off3 (82, op) (.tail _ (List.mem_append_right _ (.tail _ (.tail _ (.head _)))))).symm
          rcases List.mem_append.mp hp with hp | hp
          · exact h82b p hp
          rcases List.mem_cons.mp hp with rfl | hp
          · exact Nat.ne_of_gt (Nat.lt_succ_of_lt (Nat.lt_succ_of_lt h82L))
          rcases List.mem_cons.mp hp with rfl | hp
          · exact Nat.ne_of_gt (Nat.lt_succ_of_lt h82L)
          · exact h82 p hp
        obtain ⟨R0, hR0⟩ : ∃ R0, R0 = (D4, LCg.lst zr) :: (D3, LCg.lst zu) :: (tb ++ ((L' + 1 + 1, oT) :: (L' + 1, oO) :: news)) := ⟨_, rfl⟩
        rw [← hR0] at hP0
        have N5 : News g' L' h4 ((82, op) :: R0) := by
          refine kst_newsOf N4 ?_
          rw [hR0]
          intro p hp
          rcases List.mem_cons.mp hp with rfl | hp
          · exact .tail _ (.tail _ (.tail _ (List.mem_append_right _ (.tail _ (.tail _ (.head _))))))
          rcases List.mem_cons.mp hp with rfl | hp
          · exact .head _
          rcases List.mem_cons.mp hp with rfl | hp
          · exact .tail _ (.head _)
          rcases List.mem_append.mp hp with hp | hp
          · exact .tail _ (.tail _ (.tail _ (List.mem_append_left _ hp)))
          rcases List.mem_cons.mp hp with rfl | hp
          · exact .tail _ (.tail _ (.tail _ (List.mem_append_right _ (.head _))))
          rcases List.mem_cons.mp hp with rfl | hp
          · exact .tail _ (.tail _ (.tail _ (List.mem_append_right _ (.tail _ (.head _)))))
          · exact .tail _ (.tail _ (.tail _ (List.mem_append_right _ (.tail _ (.tail _ (.tail _ hp))))))
        have hnR0 : ∀ p ∈ news, p ∈ R0 := by
          rw [hR0]
          exact fun p hp => .tail _ (.tail _ (List.mem_append_right _ (.tail _ (.tail _ hp))))
        clear N4 N3 N2 N1 F1 F2 F3 off2 off3 off4 hR1 M1 M2 M3 M4 xM1 xM2 xM3 xM4 hR0 hrows hzu hzr h82b
        refine WsIn.elim hP0.w1 ?_
        intro d nm ct vs _ _ _ _ _ _ _ _ _ M1 M2 M3 M4 hI hl6
        refine WsIn.elim hP0.w2 ?_
        intro xd xnm xct xvs _ _ _ _ _ _ _ _ _ xM1 xM2 xM3 xM4 xhI xhl6
        repeat' (fail_if_success (with_reducible show wpAny _ _ (pyIter _) _ _ _)); (fail_if_success (with_reducible show LCg.CompSrc _ _ _ _ _ _ _ _ _ _ _ _ _ _)); (fail_if_success (with_reducible show LCt.CompSrcT _ _ _ _ _ _ _ _ _ _ _ _ _ _ _)); (fail_if_success (with_reducible show LCg.CompEnd _ _ _ _ _ _ _ _ _ _ _ _ _ _)); (fail_if_success (with_reducible show CellEnd _ _ _ _ _ _ _ _ _ _ _ _ _ _ _ _)); (fail_if_success (with_reducible show wpAny _ _ (call _ _) _ _ _)); (fail_if_success (with_reducible show wpAny _ _ (compareOp _ (Value.ref _) (Value.ref _)) _ _ _)); first | (k_unfold; (try dsimp only)) | (k_here; (with_reducible show wpAny _ _ (call (Value.builtin "len") [Value.ref _]) _ _ _); k_dflt (refine' lenL ?k1 ?k2 ?k3 ?_; (case k1 => k_asm); (case k2 => k_mem); (case k3 => omega); k_whole)) | (k_here; (with_reducible show wpAny _ _ (subscriptTail _ _ (Value.ref _) (Value.int _ _)) _ _ _); (with_unfolding_all refine' itemL ?k1 ?k2 ?k3 ?k4 ?k5 ?_ ?k6; (case k1 => k_asm); (case k2 => k_mem); (case k3 => omega); (case k4 => omega); (case k5 => assumption); (case k6 => with_unfolding_all rfl); k_whole)) | (k_here; (with_reducible show wpAny _ _ (exec (Stmt.Assign _ (Expr.ListComp _ [Comprehension.mk _ _ [] _] _ _) _) _) _ _ _); k_dflt (refine assignCell (by k_asm) (by rfl) (by with_unfolding_all rfl) (by with_unfolding_all rfl) (by intro h; rfl) (by intro c; rfl) (by rfl) (by decide) (by rfl) (by rfl) (by rfl) ?_)) | (k_here; (with_reducible show wpAny _ _ (exec (Stmt.Assign _ (Expr.ListComp _ [Comprehension.mk _ _ [] _] _ _) _) _) _ _ _); k_dflt (refine LCg.Assign_ListComp_U (F₀ := by k_asm) (by rfl) (by with_unfolding_all rfl) (by with_unfolding_all rfl) (by decide) (by rfl) (by decide) (by rfl) (by rfl) (by rfl) ?_)) | (k_here; (with_reducible show wpAny _ _ (eval (Expr.ListComp _ [Comprehension.mk _ _ [] _] _ _) _) _ _ _); k_dflt (refine LCg.ListComp_U (F₀ := by k_asm) (by with_unfolding_all rfl) (by decide) (by rfl) (by decide) (by rfl) ?_)) | (k_here; (with_reducible show wpAny _ _ (exec (Stmt.Assign _ (Expr.ListComp _ [Comprehension.mk _ _ [_] _] _ _) _) _) _ _ _); k_dflt (refine LCt.Assign_ListComp_T (F₀ := by k_asm) (by rfl) (by with_unfolding_all rfl) (by with_unfolding_all rfl) (by decide) (by rfl) (by decide) (by rfl) (by rfl) (by rfl) ?_)) | (k_here; (with_reducible show wpAny _ _ (eval (Expr.ListComp _ [Comprehension.mk _ _ [_] _] _ _) _) _ _ _); k_dflt (refine LCt.ListComp_T (F₀ := by k_asm) (by with_unfolding_all rfl) (by decide) (by rfl) (by decide) (by rfl) ?_)) | (k_here; (with_reducible show wpAny _ _ (call (Value.builtin "isinstance") [Value.bool _, Value.type "bool"]) _ _ _); (refine PySem.IsiPair.bool_bool ?_)) | walk1 | (dsimp only; first | (k_here; (with_reducible show wpAny _ _ (call (Value.builtin "len") [Value.ref _]) _ _ _); k_dflt (refine' lenL ?k1 ?k2 ?k3 ?_; (case k1 => k_asm); (case k2 => k_mem); (case k3 => omega); k_whole)) | (k_here; (with_reducible show wpAny _ _ (subscriptTail _ _ (Value.ref _) (Value.int _ _)) _ _ _); (with_unfolding_all refine' itemL ?k1 ?k2 ?k3 ?k4 ?k5 ?_ ?k6; (case k1 => k_asm); (case k2 => k_mem); (case k3 => omega); (case k4 => omega); (case k5 => assumption); (case k6 => with_unfolding_all rfl); k_whole)) | (k_here; (with_reducible show wpAny _ _ (exec (Stmt.Assign _ (Expr.ListComp _ [Comprehension.mk _ _ [] _] _ _) _) _) _ _ _); k_dflt (refine assignCell (by k_asm) (by rfl) (by with_unfolding_all rfl) (by with_unfolding_all rfl) (by intro h; rfl) (by intro c; rfl) (by rfl) (by decide) (by rfl) (by rfl) (by rfl) ?_)) | (k_here; (with_reducible show wpAny _ _ (exec (Stmt.Assign _ (Expr.ListComp _ [Comprehension.mk _ _ [] _] _ _) _) _) _ _ _); k_dflt (refine LCg.Assign_ListComp_U (F₀ := by k_asm) (by rfl) (by with_unfolding_all rfl) (by with_unfolding_all rfl) (by decide) (by rfl) (by decide) (by rfl) (by rfl) (by rfl) ?_)) | (k_here; (with_reducible show wpAny _ _ (eval (Expr.ListComp _ [Comprehension.mk _ _ [] _] _ _) _) _ _ _); k_dflt (refine LCg.ListComp_U (F₀ := by k_asm) (by with_unfolding_all rfl) (by decide) (by rfl) (by decide) (by rfl) ?_)) | (k_here; (with_reducible show wpAny _ _ (exec (Stmt.Assign _ (Expr.ListComp _ [Comprehension.mk _ _ [_] _] _ _) _) _) _ _ _); k_dflt (refine LCt.Assign_ListComp_T (F₀ := by k_asm) (by rfl) (by with_unfolding_all rfl) (by with_unfolding_all rfl) (by decide) (by rfl) (by decide) (by rfl) (by rfl) (by rfl) ?_)) | (k_here; (with_reducible show wpAny _ _ (eval (Expr.ListComp _ [Comprehension.mk _ _ [_] _] _ _) _) _ _ _); k_dflt (refine LCt.ListComp_T (F₀ := by k_asm) (by with_unfolding_all rfl) (by decide) (by rfl) (by decide) (by rfl) ?_)) | (k_here; (with_reducible show wpAny _ _ (call (Value.builtin "isinstance") [Value.bool _, Value.type "bool"]) _ _ _); (refine PySem.IsiPair.bool_bool ?_)) | walk1)
        try dsimp only [List.cons_append, List.nil_append, List.append_nil]
        k_dflt (refine' Ct.use (unequal_c _ ((82, op) :: R0) _ _ _ _ _ _ (hP0.w1.mono (fun p hp => .tail _ hp)) (hP0.w2.mono (fun p hp => .tail _ hp))) ?k1 ?k2 ?k3 ?k4 ?k5 ?kK ?kd ?ku ?_; (case k1 => k_asm); (case k2 => k_asm); (case k3 => k_asm); (case k4 => k_asm); (case k5 => k_asm); (case kK => first | exact rfl | assumption); (case kd => ktr_room); (case ku => ktr_units); k_whole)
        intro r1 tl1 h1w tk1w F1w N1w hl1w hp1w
        obtain ⟨lf, e1w, hLf⟩ := hp1w
        subst e1w
        have hP1 := hP0.more (tl := tl1) (fun p hp => Nat.ne_of_gt (hl1w (82, op) (.head _) p hp))
        have N1v : News g' L' h1w ((82, op) :: (tl1 ++ R0)) := by
          refine kst_newsOf N1w ?_
          intro p hp
          rcases List.mem_cons.mp hp with rfl | hp
          · exact List.mem_append_right _ (.head _)
          rcases List.mem_append.mp hp with hp | hp
          · exact List.mem_append_left _ hp
          · exact List.mem_append_right _ (.tail _ hp)
        replace hLf := hLf.mono (fun p hp => List.mem_append_left R0 hp)
        have hnR1 : ∀ p ∈ news, p ∈ tl1 ++ R0 := fun p hp => List.mem_append_right _ (hnR0 p hp)
        obtain ⟨R1, hR1⟩ : ∃ R, R = tl1 ++ R0 := ⟨_, rfl⟩
        rw [← hR1] at hP1 N1v hLf hnR1
        (try clear N1w); (try clear N5); (try clear M1); (try clear M2); (try clear M3); (try clear M4); (try clear xM1); (try clear xM2); (try clear xM3); (try clear xM4); (try clear hl1w)
        refine WsIn.elim hP1.w1 ?_
        intro d nm ct vs _ _ _ _ _ _ _ _ _ M1 M2 M3 M4 hI hl6
        refine WsIn.elim hP1.w2 ?_
        intro xd xnm xct xvs _ _ _ _ _ _ _ _ _ xM1 xM2 xM3 xM4 xhI xhl6
        dsimp only
        repeat' (fail_if_success (with_reducible show wpAny _ _ (pyIter _) _ _ _)); (fail_if_success (with_reducible show LCg.CompSrc _ _ _ _ _ _ _ _ _ _ _ _ _ _)); (fail_if_success (with_reducible show LCt.CompSrcT _ _ _ _ _ _ _ _ _ _ _ _ _ _ _)); (fail_if_success (with_reducible show LCg.CompEnd _ _ _ _ _ _ _ _ _ _ _ _ _ _)); (fail_if_success (with_reducible show CellEnd _ _ _ _ _ _ _ _ _ _ _ _ _ _ _ _)); (fail_if_success (with_reducible show wpAny _ _ (call (Value.ref _) _) _ _ _)); (fail_if_success (with_reducible show wpAny _ _ (compareOp _ (Value.ref _) (Value.ref _)) _ _ _)); first | (k_unfold; (try dsimp only)) | (k_here; (with_reducible show wpAny _ _ (call (Value.builtin "len") [Value.ref _]) _ _ _); k_dflt (refine' lenL ?k1 ?k2 ?k3 ?_; (case k1 => k_asm); (case k2 => k_mem); (case k3 => omega); k_whole)) | (k_here; (with_reducible show wpAny _ _ (subscriptTail _ _ (Value.ref _) (Value.int _ _)) _ _ _); (with_unfolding_all refine' itemL ?k1 ?k2 ?k3 ?k4 ?k5 ?_ ?k6; (case k1 => k_asm); (case k2 => k_mem); (case k3 => omega); (case k4 => omega); (case k5 => assumption); (case k6 => with_unfolding_all rfl); k_whole)) | (k_here; (with_reducible show wpAny _ _ (exec (Stmt.Assign _ (Expr.ListComp _ [Comprehension.mk _ _ [] _] _ _) _) _) _ _ _); k_dflt (refine assignCell (by k_asm) (by rfl) (by with_unfolding_all rfl) (by with_unfolding_all rfl) (by intro h; rfl) (by intro c; rfl) (by rfl) (by decide) (by rfl) (by rfl) (by rfl) ?_)) | (k_here; (with_reducible show wpAny _ _ (exec (Stmt.Assign _ (Expr.ListComp _ [Comprehension.mk _ _ [] _] _ _) _) _) _ _ _); k_dflt (refine LCg.Assign_ListComp_U (F₀ := by k_asm) (by rfl) (by with_unfolding_all rfl) (by with_unfolding_all rfl) (by decide) (by rfl) (by decide) (by rfl) (by rfl) (by rfl) ?_)) | (k_here; (with_reducible show wpAny _ _ (eval (Expr.ListComp _ [Comprehension.mk _ _ [] _] _ _) _) _ _ _); k_dflt (refine LCg.ListComp_U (F₀ := by k_asm) (by with_unfolding_all rfl) (by decide) (by rfl) (by decide) (by rfl) ?_)) | (k_here; (with_reducible show wpAny _ _ (exec (Stmt.Assign _ (Expr.ListComp _ [Comprehension.mk _ _ [_] _] _ _) _) _) _ _ _); k_dflt (refine LCt.Assign_ListComp_T (F₀ := by k_asm) (by rfl) (by with_unfolding_all rfl) (by with_unfolding_all rfl) (by decide) (by rfl) (by decide) (by rfl) (by rfl) (by rfl) ?_)) | (k_here; (with_reducible show wpAny _ _ (eval (Expr.ListComp _ [Comprehension.mk _ _ [_] _] _ _) _) _ _ _); k_dflt (refine LCt.ListComp_T (F₀ := by k_asm) (by with_unfolding_all rfl) (by decide) (by rfl) (by decide) (by rfl) ?_)) | (k_here; (with_reducible show wpAny _ _ (call (Value.builtin "isinstance") [Value.bool _, Value.type "bool"]) _ _ _); (refine PySem.IsiPair.bool_bool ?_)) | walk1 | (dsimp only; first | (k_here; (with_reducible show wpAny _ _ (call (Value.builtin "len") [Value.ref _]) _ _ _); k_dflt (refine' lenL ?k1 ?k2 ?k3 ?_; (case k1 => k_asm); (case k2 => k_mem); (case k3 => omega); k_whole)) | (k_here; (with_reducible show wpAny _ _ (subscriptTail _ _ (Value.ref _) (Value.int _ _)) _ _ _); (with_unfolding_all refine' itemL ?k1 ?k2 ?k3 ?k4 ?k5 ?_ ?k6; (case k1 => k_asm); (case k2 => k_mem); (case k3 => omega); (case k4 => omega); (case k5 => assumption); (case k6 => with_unfolding_all rfl); k_whole)) | (k_here; (with_reducible show wpAny _ _ (exec (Stmt.Assign _ (Expr.ListComp _ [Comprehension.mk _ _ [] _] _ _) _) _) _ _ _); k_dflt (refine assignCell (by k_asm) (by rfl) (by with_unfolding_all rfl) (by with_unfolding_all rfl) (by intro h; rfl) (by intro c; rfl) (by rfl) (by decide) (by rfl) (by rfl) (by rfl) ?_)) | (k_here; (with_reducible show wpAny _ _ (exec (Stmt.Assign _ (Expr.ListComp _ [Comprehension.mk _ _ [] _] _ _) _) _) _ _ _); k_dflt (refine LCg.Assign_ListComp_U (F₀ := by k_asm) (by rfl) (by with_unfolding_all rfl) (by with_unfolding_all rfl) (by decide) (by rfl) (by decide) (by rfl) (by rfl) (by rfl) ?_)) | (k_here; (with_reducible show wpAny _ _ (eval (Expr.ListComp _ [Comprehension.mk _ _ [] _] _ _) _) _ _ _); k_dflt (refine LCg.ListComp_U (F₀ := by k_asm) (by with_unfolding_all rfl) (by decide) (by rfl) (by decide) (by rfl) ?_)) | (k_here; (with_reducible show wpAny _ _ (exec (Stmt.Assign _ (Expr.ListComp _ [Comprehension.mk _ _ [_] _] _ _) _) _) _ _ _); k_dflt (refine LCt.Assign_ListComp_T (F₀ := by k_asm) (by rfl) (by with_unfolding_all rfl) (by with_unfolding_all rfl) (by decide) (by rfl) (by decide) (by rfl) (by rfl) (by rfl) ?_)) | (k_here; (with_reducible show wpAny _ _ (eval (Expr.ListComp _ [Comprehension.mk _ _ [_] _] _ _) _) _ _ _); k_dflt (refine LCt.ListComp_T (F₀ := by k_asm) (by with_unfolding_all rfl) (by decide) (by rfl) (by decide) (by rfl) ?_)) | (k_here; (with_reducible show wpAny _ _ (call (Value.builtin "isinstance") [Value.bool _, Value.type "bool"]) _ _ _); (refine PySem.IsiPair.bool_bool ?_)) | walk1)
        try dsimp only [List.cons_append, List.nil_append, List.append_nil]
        k_dflt (refine' Ct.use (unless_c _ ((82, op) :: R1) _ _ _ _ _ _ (hP1.w1.mono (fun p hp => .tail _ hp)) (hP1.w2.mono (fun p hp => .tail _ hp))) ?k1 ?k2 ?k3 ?k4 ?k5 ?kK ?kd ?ku ?_; (case k1 => k_asm); (case k2 => k_asm); (case k3 => k_asm); (case k4 => k_asm); (case k5 => k_asm); (case kK => first | exact rfl | assumption); (case kd => ktr_room); (case ku => ktr_units); k_whole)
        intro r2 tl2 h2w tk2w F2w N2w hl2w hp2w
        obtain ⟨lk, e2w, hLk⟩ := hp2w
        subst e2w
        have hP2 := hP1.more (tl := tl2) (fun p hp => Nat.ne_of_gt (hl2w (82, op) (.head _) p hp))
        have N2v : News g' L' h2w ((82, op) :: (tl2 ++ R1)) := by
          refine kst_newsOf N2w ?_
          intro p hp
          rcases List.mem_cons.mp hp with rfl | hp
          · exact List.mem_append_right _ (.head _)
          rcases List.mem_append.mp hp with hp | hp
          · exact List.mem_append_left _ hp
          · exact List.mem_append_right _ (.tail _ hp)
        replace hLk := hLk.mono (fun p hp => List.mem_append_left R1 hp)
        have hnR2 : ∀ p ∈ news, p ∈ tl2 ++ R1 := fun p hp => List.mem_append_right _ (hnR1 p hp)
        obtain ⟨R2, hR2⟩ : ∃ R, R = tl2 ++ R1 := ⟨_, rfl⟩
        rw [← hR2] at hP2 N2v hLk hnR2
        replace hLf := hLf.mono (fun p hp => (hR2 ▸ List.mem_append_right tl2 hp : p ∈ R2))
        (try clear N2w); (try clear N1v); (try clear M1); (try clear M2); (try clear M3); (try clear M4); (try clear xM1); (try clear xM2); (try clear xM3); (try clear xM4); (try clear hl2w); (try clear hP0); (try clear hP1)
        refine WsIn.elim hP2.w1 ?_
        intro d nm ct vs _ _ _ _ _ _ _ _ _ M1 M2 M3 M4 hI hl6
        refine WsIn.elim hP2.w2 ?_
        intro xd xnm xct xvs _ _ _ _ _ _ _ _ _ xM1 xM2 xM3 xM4 xhI xhl6
        have m1R := hP2.m1
        have m2R := hP2.m2
        have mTR := hP2.mT
        have mOR := hP2.mO
        have hks1 : ∀ k ∈ (unRows lead.cps.toList lead2.cps.toList (topOf lead.cps.toList lead2.cps.toList).toNat).map (·.1), 0 ≤ k ∧ k ≤ 9 := row_bound (fun r hr => List.mem_filter.mp hr |>.1) (by omega)
        have hks2 : ∀ k ∈ (geRows lead.cps.toList lead2.cps.toList (topOf lead.cps.toList lead2.cps.toList).toNat).map (·.1), 0 ≤ k ∧ k ≤ 9 := row_bound (fun r hr => List.mem_filter.mp hr |>.1) (by omega)
        have hkl1 : (unRows lead.cps.toList lead2.cps.toList (topOf lead.cps.toList lead2.cps.toList).toNat).length ≤ 10 := Nat.le_trans (List.length_filter_le _ _) (by omega)
        have hkl2 : (geRows lead.cps.toList lead2.cps.toList (topOf lead.cps.toList lead2.cps.toList).toNat).length ≤ 10 := Nat.le_trans (List.length_filter_le _ _) (by omega)
        dsimp only
        repeat' (fail_if_success (with_reducible show wpAny _ _ (pyIter _) _ _ _)); (fail_if_success (with_reducible show LCg.CompSrc _ _ _ _ _ _ _ _ _ _ _ _ _ _)); (fail_if_success (with_reducible show LCt.CompSrcT _ _ _ _ _ _ _ _ _ _ _ _ _ _ _)); (fail_if_success (with_reducible show LCg.CompEnd _ _ _ _ _ _ _ _ _ _ _ _ _ _)); (fail_if_success (with_reducible show CellEnd _ _ _ _ _ _ _ _ _ _ _ _ _ _ _ _)); (fail_if_success (with_reducible show wpAny _ _ (call (Value.ref _) _) _ _ _)); (fail_if_success (with_reducible show wpAny _ _ (compareOp _ (Value.ref _) (Value.ref _)) _ _ _)); first | (k_unfold; (try dsimp only)) | (k_here; (with_reducible show wpAny _ _ (call (Value.builtin "len") [Value.ref _]) _ _ _); k_dflt (refine' lenL ?k1 ?k2 ?k3 ?_; (case k1 => k_asm); (case k2 => k_mem); (case k3 => omega); k_whole)) | (k_here; (with_reducible show wpAny _ _ (subscriptTail _ _ (Value.ref _) (Value.int _ _)) _ _ _); (with_unfolding_all refine' itemL ?k1 ?k2 ?k3 ?k4 ?k5 ?_ ?k6; (case k1 => k_asm); (case k2 => k_mem); (case k3 => omega); (case k4 => omega); (case k5 => assumption); (case k6 => with_unfolding_all rfl); k_whole)) | (k_here; (with_reducible show wpAny _ _ (exec (Stmt.Assign _ (Expr.ListComp _ [Comprehension.mk _ _ [] _] _ _) _) _) _ _ _); k_dflt (refine assignCell (by k_asm) (by rfl) (by with_unfolding_all rfl) (by with_unfolding_all rfl) (by intro h; rfl) (by intro c; rfl) (by rfl) (by decide) (by rfl) (by rfl) (by rfl) ?_)) | (k_here; (with_reducible show wpAny _ _ (exec (Stmt.Assign _ (Expr.ListComp _ [Comprehension.mk _ _ [] _] _ _) _) _) _ _ _); k_dflt (refine LCg.Assign_ListComp_U (F₀ := by k_asm) (by rfl) (by with_unfolding_all rfl) (by with_unfolding_all rfl) (by decide) (by rfl) (by decide) (by rfl) (by rfl) (by rfl) ?_)) | (k_here; (with_reducible show wpAny _ _ (eval (Expr.ListComp _ [Comprehension.mk _ _ [] _] _ _) _) _ _ _); k_dflt (refine LCg.ListComp_U (F₀ := by k_asm) (by with_unfolding_all rfl) (by decide) (by rfl) (by decide) (by rfl) ?_)) | (k_here; (with_reducible show wpAny _ _ (exec (Stmt.Assign _ (Expr.ListComp _ [Comprehension.mk _ _ [_] _] _ _) _) _) _ _ _); k_dflt (refine LCt.Assign_ListComp_T (F₀ := by k_asm) (by rfl) (by with_unfolding_all rfl) (by with_unfolding_all rfl) (by decide) (by rfl) (by decide) (by rfl) (by rfl) (by rfl) ?_)) | (k_here; (with_reducible show wpAny _ _ (eval (Expr.ListComp _ [Comprehension.mk _ _ [_] _] _ _) _) _ _ _); k_dflt (refine LCt.ListComp_T (F₀ := by k_asm) (by with_unfolding_all rfl) (by decide) (by rfl) (by decide) (by rfl) ?_)) | (k_here; (with_reducible show wpAny _ _ (call (Value.builtin "isinstance") [Value.bool _, Value.type "bool"]) _ _ _); (refine PySem.IsiPair.bool_bool ?_)) | walk1 | (dsimp only; first | (k_here; (with_reducible show wpAny _ _ (call (Value.builtin "len") [Value.ref _]) _ _ _); k_dflt (refine' lenL ?k1 ?k2 ?k3 ?_; (case k1 => k_asm); (case k2 => k_mem); (case k3 => omega); k_whole)) | (k_here; (with_reducible show wpAny _ _ (subscriptTail _ _ (Value.ref _) (Value.int _ _)) _ _ _); (with_unfolding_all refine' itemL ?k1 ?k2 ?k3 ?k4 ?k5 ?_ ?k6; (case k1 => k_asm); (case k2 => k_mem); (case k3 => omega); (case k4 => omega); (case k5 => assumption); (case k6 => with_unfolding_all rfl); k_whole)) | (k_here; (with_reducible show wpAny _ _ (exec (Stmt.Assign _ (Expr.ListComp _ [Comprehension.mk _ _ [] _] _ _) _) _) _ _ _); k_dflt (refine assignCell (by k_asm) (by rfl) (by with_unfolding_all rfl) (by with_unfolding_all rfl) (by intro h; rfl) (by intro c; rfl) (by rfl) (by decide) (by rfl) (by rfl) (by rfl) ?_)) | (k_here; (with_reducible show wpAny _ _ (exec (Stmt.Assign _ (Expr.ListComp _ [Comprehension.mk _ _ [] _] _ _) _) _) _ _ _); k_dflt (refine LCg.Assign_ListComp_U (F₀ := by k_asm) (by rfl) (by with_unfolding_all rfl) (by with_unfolding_all rfl) (by decide) (by rfl) (by decide) (by rfl) (by rfl) (by rfl) ?_)) | (k_here; (with_reducible show wpAny _ _ (eval (Expr.ListComp _ [Comprehension.mk _ _ [] _] _ _) _) _ _ _); k_dflt (refine LCg.ListComp_U (F₀ := by k_asm) (by with_unfolding_all rfl) (by decide) (by rfl) (by decide) (by rfl) ?_)) | (k_here; (with_reducible show wpAny _ _ (exec (Stmt.Assign _ (Expr.ListComp _ [Comprehension.mk _ _ [_] _] _ _) _) _) _ _ _); k_dflt (refine LCt.Assign_ListComp_T (F₀ := by k_asm) (by rfl) (by with_unfolding_all rfl) (by with_unfolding_all rfl) (by decide) (by rfl) (by decide) (by rfl) (by rfl) (by rfl) ?_)) | (k_here; (with_reducible show wpAny _ _ (eval (Expr.ListComp _ [Comprehension.mk _ _ [_] _] _ _) _) _ _ _); k_dflt (refine LCt.ListComp_T (F₀ := by k_asm) (by with_unfolding_all rfl) (by decide) (by rfl) (by decide) (by rfl) ?_)) | (k_here; (with_reducible show wpAny _ _ (call (Value.builtin "isinstance") [Value.bool _, Value.type "bool"]) _ _ _); (refine PySem.IsiPair.bool_bool ?_)) | walk1)
        refine rowsNo (by k_asm) (hLf.mono (fun p hp => .tail _ hp)) (hP2.r3.mono (fun p hp => .tail _ hp)) (by ktr_units) ?_
        try dsimp only
        repeat' (fail_if_success (with_reducible show wpAny _ _ (pyIter _) _ _ _)); (fail_if_success (with_reducible show LCg.CompSrc _ _ _ _ _ _ _ _ _ _ _ _ _ _)); (fail_if_success (with_reducible show LCt.CompSrcT _ _ _ _ _ _ _ _ _ _ _ _ _ _ _)); (fail_if_success (with_reducible show LCg.CompEnd _ _ _ _ _ _ _ _ _ _ _ _ _ _)); (fail_if_success (with_reducible show CellEnd _ _ _ _ _ _ _ _ _ _ _ _ _ _ _ _)); (fail_if_success (with_reducible show wpAny _ _ (call (Value.ref _) _) _ _ _)); (fail_if_success (with_reducible show wpAny _ _ (compareOp _ (Value.ref _) (Value.ref _)) _ _ _)); first | (k_unfold; (try dsimp only)) | (k_here; (with_reducible show wpAny _ _ (call (Value.builtin "len") [Value.ref _]) _ _ _); k_dflt (refine' lenL ?k1 ?k2 ?k3 ?_; (case k1 => k_asm); (case k2 => k_mem); (case k3 => omega); k_whole)) | (k_here; (with_reducible show wpAny _ _ (subscriptTail _ _ (Value.ref _) (Value.int _ _)) _ _ _); (with_unfolding_all refine' itemL ?k1 ?k2 ?k3 ?k4 ?k5 ?_ ?k6; (case k1 => k_asm); (case k2 => k_mem); (case k3 => omega); (case k4 => omega); (case k5 => assumption); (case k6 => with_unfolding_all rfl); k_whole)) | (k_here; (with_reducible show wpAny _ _ (exec (Stmt.Assign _ (Expr.ListComp _ [Comprehension.mk _ _ [] _] _ _) _) _) _ _ _); k_dflt (refine assignCell (by k_asm) (by rfl) (by with_unfolding_all rfl) (by with_unfolding_all rfl) (by intro h; rfl) (by intro c; rfl) (by rfl) (by decide) (by rfl) (by rfl) (by rfl) ?_)) | (k_here; (with_reducible show wpAny _ _ (exec (Stmt.Assign _ (Expr.ListComp _ [Comprehension.mk _ _ [] _] _ _) _) _) _ _ _); k_dflt (refine LCg.Assign_ListComp_U (F₀ := by k_asm) (by rfl) (by with_unfolding_all rfl) (by with_unfolding_all rfl) (by decide) (by rfl) (by decide) (by rfl) (by rfl) (by rfl) ?_)) | (k_here; (with_reducible show wpAny _ _ (eval (Expr.ListComp _ [Comprehension.mk _ _ [] _] _ _) _) _ _ _); k_dflt (refine LCg.ListComp_U (F₀ := by k_asm) (by with_unfolding_all rfl) (by decide) (by rfl) (by decide) (by rfl) ?_)) | (k_here; (with_reducible show wpAny _ _ (exec (Stmt.Assign _ (Expr.ListComp _ [Comprehension.mk _ _ [_] _] _ _) _) _) _ _ _); k_dflt (refine LCt.Assign_ListComp_T (F₀ := by k_asm) (by rfl) (by with_unfolding_all rfl) (by with_unfolding_all rfl) (by decide) (by rfl) (by decide) (by rfl) (by rfl) (by rfl) ?_)) | (k_here; (with_reducible show wpAny _ _ (eval (Expr.ListComp _ [Comprehension.mk _ _ [_] _] _ _) _) _ _ _); k_dflt (refine LCt.ListComp_T (F₀ := by k_asm) (by with_unfolding_all rfl) (by decide) (by rfl) (by decide) (by rfl) ?_)) | (k_here; (with_reducible show wpAny _ _ (call (Value.builtin "isinstance") [Value.bool _, Value.type "bool"]) _ _ _); (refine PySem.IsiPair.bool_bool ?_)) | walk1 | (dsimp only; first | (k_here; (with_reducible show wpAny _ _ (call (Value.builtin "len") [Value.ref _]) _ _ _); k_dflt (refine' lenL ?k1 ?k2 ?k3 ?_; (case k1 => k_asm); (case k2 => k_mem); (case k3 => omega); k_whole)) | (k_here; (with_reducible show wpAny _ _ (subscriptTail _ _ (Value.ref _) (Value.int _ _)) _ _ _); (with_unfolding_all refine' itemL ?k1 ?k2 ?k3 ?k4 ?k5 ?_ ?k6; (case k1 => k_asm); (case k2 => k_mem); (case k3 => omega); (case k4 => omega); (case k5 => assumption); (case k6 => with_unfolding_all rfl); k_whole)) | (k_here; (with_reducible show wpAny _ _ (exec (Stmt.Assign _ (Expr.ListComp _ [Comprehension.mk _ _ [] _] _ _) _) _) _ _ _); k_dflt (refine assignCell (by k_asm) (by rfl) (by with_unfolding_all rfl) (by with_unfolding_all rfl) (by intro h; rfl) (by intro c; rfl) (by rfl) (by decide) (by rfl) (by rfl) (by rfl) ?_)) | (k_here; (with_reducible show wpAny _ _ (exec (Stmt.Assign _ (Expr.ListComp _ [Comprehension.mk _ _ [] _] _ _) _) _) _ _ _); k_dflt (refine LCg.Assign_ListComp_U (F₀ := by k_asm) (by rfl) (by with_unfolding_all rfl) (by with_unfolding_all rfl) (by decide) (by rfl) (by decide) (by rfl) (by rfl) (by rfl) ?_)) | (k_here; (with_reducible show wpAny _ _ (eval (Expr.ListComp _ [Comprehension.mk _ _ [] _] _ _) _) _ _ _); k_dflt (refine LCg.ListComp_U (F₀ := by k_asm) (by with_unfolding_all rfl) (by decide) (by rfl) (by decide) (by rfl) ?_)) | (k_here; (with_reducible show wpAny _ _ (exec (Stmt.Assign _ (Expr.ListComp _ [Comprehension.mk _ _ [_] _] _ _) _) _) _ _ _); k_dflt (refine LCt.Assign_ListComp_T (F₀ := by k_asm) (by rfl) (by with_unfolding_all rfl) (by with_unfolding_all rfl) (by decide) (by rfl) (by decide) (by rfl) (by rfl) (by rfl) ?_)) | (k_here; (with_reducible show wpAny _ _ (eval (Expr.ListComp _ [Comprehension.mk _ _ [_] _] _ _) _) _ _ _); k_dflt (refine LCt.ListComp_T (F₀ := by k_asm) (by with_unfolding_all rfl) (by decide) (by rfl) (by decide) (by rfl) ?_)) | (k_here; (with_reducible show wpAny _ _ (call (Value.builtin "isinstance") [Value.bool _, Value.type "bool"]) _ _ _); (refine PySem.IsiPair.bool_bool ?_)) | walk1)
        refine rowsNo (by k_asm) (hLk.mono (fun p hp => .tail _ hp)) (hP2.r4.mono (fun p hp => .tail _ hp)) (by ktr_units) ?_
        try dsimp only
        repeat' (fail_if_success (with_reducible show wpAny _ _ (pyIter _) _ _ _)); (fail_if_success (with_reducible show LCg.CompSrc _ _ _ _ _ _ _ _ _ _ _ _ _ _)); (fail_if_success (with_reducible show LCt.CompSrcT _ _ _ _ _ _ _ _ _ _ _ _ _ _ _)); (fail_if_success (with_reducible show LCg.CompEnd _ _ _ _ _ _ _ _ _ _ _ _ _ _)); (fail_if_success (with_reducible show CellEnd _ _ _ _ _ _ _ _ _ _ _ _ _ _ _ _)); (fail_if_success (with_reducible show wpAny _ _ (call (Value.ref _) _) _ _ _)); (fail_if_success (with_reducible show wpAny _ _ (compareOp _ (Value.ref _) (Value.ref _)) _ _ _)); first | (k_unfold; (try dsimp only)) | (k_here; (with_reducible show wpAny _ _ (call (Value.builtin "len") [Value.ref _]) _ _ _); k_dflt (refine' lenL ?k1 ?k2 ?k3 ?_; (case k1 => k_asm); (case k2 => k_mem); (case k3 => omega); k_whole)) | (k_here; (with_reducible show wpAny _ _ (subscriptTail _ _ (Value.ref _) (Value.int _ _)) _ _ _); (with_unfolding_all refine' itemL ?k1 ?k2 ?k3 ?k4 ?k5 ?_ ?k6; (case k1 => k_asm); (case k2 => k_mem); (case k3 => omega); (case k4 => omega); (case k5 => assumption); (case k6 => with_unfolding_all rfl); k_whole)) | (k_here; (with_reducible show wpAny _ _ (exec (Stmt.Assign _ (Expr.ListComp _ [Comprehension.mk _ _ [] _] _ _) _) _) _ _ _); k_dflt (refine assignCell (by k_asm) (by rfl) (by with_unfolding_all rfl) (by with_unfolding_all rfl) (by intro h; rfl) (by intro c; rfl) (by rfl) (by decide) (by rfl) (by rfl) (by rfl) ?_)) | (k_here; (with_reducible show wpAny _ _ (exec (Stmt.Assign _ (Expr.ListComp _ [Comprehension.mk _ _ [] _] _ _) _) _) _ _ _); k_dflt (refine LCg.Assign_ListComp_U (F₀ := by k_asm) (by rfl) (by with_unfolding_all rfl) (by with_unfolding_all rfl) (by decide) (by rfl) (by decide) (by rfl) (by rfl) (by rfl) ?_)) | (k_here; (with_reducible show wpAny _ _ (eval (Expr.ListComp _ [Comprehension.mk _ _ [] _] _ _) _) _ _ _); k_dflt (refine LCg.ListComp_U (F₀ := by k_asm) (by with_unfolding_all rfl) (by decide) (by rfl) (by decide) (by rfl) ?_)) | (k_here; (with_reducible show wpAny _ _ (exec (Stmt.Assign _ (Expr.ListComp _ [Comprehension.mk _ _ [_] _] _ _) _) _) _ _ _); k_dflt (refine LCt.Assign_ListComp_T (F₀ := by k_asm) (by rfl) (by with_unfolding_all rfl) (by with_unfolding_all rfl) (by decide) (by rfl) (by decide) (by rfl) (by rfl) (by rfl) ?_)) | (k_here; (with_reducible show wpAny _ _ (eval (Expr.ListComp _ [Comprehension.mk _ _ [_] _] _ _) _) _ _ _); k_dflt (refine LCt.ListComp_T (F₀ := by k_asm) (by with_unfolding_all rfl) (by decide) (by rfl) (by decide) (by rfl) ?_)) | (k_here; (with_reducible show wpAny _ _ (call (Value.builtin "isinstance") [Value.bool _, Value.type "bool"]) _ _ _); (refine PySem.IsiPair.bool_bool ?_)) | walk1 | (dsimp only; first | (k_here; (with_reducible show wpAny _ _ (call (Value.builtin "len") [Value.ref _]) _ _ _); k_dflt (refine' lenL ?k1 ?k2 ?k3 ?_; (case k1 => k_asm); (case k2 => k_mem); (case k3 => omega); k_whole)) | (k_here; (with_reducible show wpAny _ _ (subscriptTail _ _ (Value.ref _) (Value.int _ _)) _ _ _); (with_unfolding_all refine' itemL ?k1 ?k2 ?k3 ?k4 ?k5 ?_ ?k6; (case k1 => k_asm); (case k2 => k_mem); (case k3 => omega); (case k4 => omega); (case k5 => assumption); (case k6 => with_unfolding_all rfl); k_whole)) | (k_here; (with_reducible show wpAny _ _ (exec (Stmt.Assign _ (Expr.ListComp _ [Comprehension.mk _ _ [] _] _ _) _) _) _ _ _); k_dflt (refine assignCell (by k_asm) (by rfl) (by with_unfolding_all rfl) (by with_unfolding_all rfl) (by intro h; rfl) (by intro c; rfl) (by rfl) (by decide) (by rfl) (by rfl) (by rfl) ?_)) | (k_here; (with_reducible show wpAny _ _ (exec (Stmt.Assign _ (Expr.ListComp _ [Comprehension.mk _ _ [] _] _ _) _) _) _ _ _); k_dflt (refine LCg.Assign_ListComp_U (F₀ := by k_asm) (by rfl) (by with_unfolding_all rfl) (by with_unfolding_all rfl) (by decide) (by rfl) (by decide) (by rfl) (by rfl) (by rfl) ?_)) | (k_here; (with_reducible show wpAny _ _ (eval (Expr.ListComp _ [Comprehension.mk _ _ [] _] _ _) _) _ _ _); k_dflt (refine LCg.ListComp_U (F₀ := by k_asm) (by with_unfolding_all rfl) (by decide) (by rfl) (by decide) (by rfl) ?_)) | (k_here; (with_reducible show wpAny _ _ (exec (Stmt.Assign _ (Expr.ListComp _ [Comprehension.mk _ _ [_] _] _ _) _) _) _ _ _); k_dflt (refine LCt.Assign_ListComp_T (F₀ := by k_asm) (by rfl) (by with_unfolding_all rfl) (by with_unfolding_all rfl) (by decide) (by rfl) (by decide) (by rfl) (by rfl) (by rfl) ?_)) | (k_here; (with_reducible show wpAny _ _ (eval (Expr.ListComp _ [Comprehension.mk _ _ [_] _] _ _) _) _ _ _); k_dflt (refine LCt.ListComp_T (F₀ := by k_asm) (by with_unfolding_all rfl) (by decide) (by rfl) (by decide) (by rfl) ?_)) | (k_here; (with_reducible show wpAny _ _ (call (Value.builtin "isinstance") [Value.bool _, Value.type "bool"]) _ _ _); (refine PySem.IsiPair.bool_bool ?_)) | walk1)
        try dsimp only [List.cons_append, List.nil_append, List.append_nil]
        k_dflt (refine' CtP.useV (fmt_c _ R2 lf _ hLf hkl1 (fun r hr => hks1 r.1 (List.mem_map_of_mem hr))) ?k1 ?k2 ?k3 ?k4 ?kop ?k82 ?k5 ?kG ?kK ?kd ?ku ?_; (case k1 => k_asm); (case k2 => k_asm); (case k3 => k_asm); (case k4 => k_asm); (case k5 => k_asm); (case kop => assumption); (case k82 => exact hP2.hi); (case kG => assumption); (case kK => first | exact rfl | assumption); (case kd => ktr_room); (case ku => ktr_units); k_whole)
        intro t3 s3 op3 hop3 F3w N3w hG3 ho3
        rw [form_compl hks1]
        try dsimp only
        repeat' (fail_if_success (with_reducible show wpAny _ _ (pyIter _) _ _ _)); (fail_if_success (with_reducible show LCg.CompSrc _ _ _ _ _ _ _ _ _ _ _ _ _ _)); (fail_if_success (with_reducible show LCt.CompSrcT _ _ _ _ _ _ _ _ _ _ _ _ _ _ _)); (fail_if_success (with_reducible show LCg.CompEnd _ _ _ _ _ _ _ _ _ _ _ _ _ _)); (fail_if_success (with_reducible show CellEnd _ _ _ _ _ _ _ _ _ _ _ _ _ _ _ _)); (fail_if_success (with_reducible show wpAny _ _ (call (Value.ref _) _) _ _ _)); (fail_if_success (with_reducible show wpAny _ _ (compareOp _ (Value.ref _) (Value.ref _)) _ _ _)); first | (k_unfold; (try dsimp only)) | (k_here; (with_reducible show wpAny _ _ (call (Value.builtin "len") [Value.ref _]) _ _ _); k_dflt (refine' lenL ?k1 ?k2 ?k3 ?_; (case k1 => k_asm); (case k2 => k_mem); (case k3 => omega); k_whole)) | (k_here; (with_reducible show wpAny _ _ (subscriptTail _ _ (Value.ref _) (Value.int _ _)) _ _ _); (with_unfolding_all refine' itemL ?k1 ?k2 ?k3 ?k4 ?k5 ?_ ?k6; (case k1 => k_asm); (case k2 => k_mem); (case k3 => omega); (case k4 => omega); (case k5 => assumption); (case k6 => with_unfolding_all rfl); k_whole)) | (k_here; (with_reducible show wpAny _ _ (exec (Stmt.Assign _ (Expr.ListComp _ [Comprehension.mk _ _ [] _] _ _) _) _) _ _ _); k_dflt (refine assignCell (by k_asm) (by rfl) (by with_unfolding_all rfl) (by with_unfolding_all rfl) (by intro h; rfl) (by intro c; rfl) (by rfl) (by decide) (by rfl) (by rfl) (by rfl) ?_)) | (k_here; (with_reducible show wpAny _ _ (exec (Stmt.Assign _ (Expr.ListComp _ [Comprehension.mk _ _ [] _] _ _) _) _) _ _ _); k_dflt (refine LCg.Assign_ListComp_U (F₀ := by k_asm) (by rfl) (by with_unfolding_all rfl) (by with_unfolding_all rfl) (by decide) (by rfl) (by decide) (by rfl) (by rfl) (by rfl) ?_)) | (k_here; (with_reducible show wpAny _ _ (eval (Expr.ListComp _ [Comprehension.mk _ _ [] _] _ _) _) _ _ _); k_dflt (refine LCg.ListComp_U (F₀ := by k_asm) (by with_unfolding_all rfl) (by decide) (by rfl) (by decide) (by rfl) ?_)) | (k_here; (with_reducible show wpAny _ _ (exec (Stmt.Assign _ (Expr.ListComp _ [Comprehension.mk _ _ [_] _] _ _) _) _) _ _ _); k_dflt (refine LCt.Assign_ListComp_T (F₀ := by k_asm) (by rfl) (by with_unfolding_all rfl) (by with_unfolding_all rfl) (by decide) (by rfl) (by decide) (by rfl) (by rfl) (by rfl) ?_)) | (k_here; (with_reducible show wpAny _ _ (eval (Expr.ListComp _ [Comprehension.mk _ _ [_] _] _ _) _) _ _ _); k_dflt (refine LCt.ListComp_T (F₀ := by k_asm) (by with_unfolding_all rfl) (by decide) (by rfl) (by decide) (by rfl) ?_)) | (k_here; (with_reducible show wpAny _ _ (call (Value.builtin "isinstance") [Value.bool _, Value.type "bool"]) _ _ _); (refine PySem.IsiPair.bool_bool ?_)) | walk1 | (dsimp only; first | (k_here; (with_reducible show wpAny _ _ (call (Value.builtin "len") [Value.ref _]) _ _ _); k_dflt (refine' lenL ?k1 ?k2 ?k3 ?_; (case k1 => k_asm); (case k2 => k_mem); (case k3 => omega); k_whole)) | (k_here; (with_reducible show wpAny _ _ (subscriptTail _ _ (Value.ref _) (Value.int _ _)) _ _ _); (with_unfolding_all refine' itemL ?k1 ?k2 ?k3 ?k4 ?k5 ?_ ?k6; (case k1 => k_asm); (case k2 => k_mem); (case k3 => omega); (case k4 => omega); (case k5 => assumption); (case k6 => with_unfolding_all rfl); k_whole)) | (k_here; (with_reducible show wpAny _ _ (exec (Stmt.Assign _ (Expr.ListComp _ [Comprehension.mk _ _ [] _] _ _) _) _) _ _ _); k_dflt (refine assignCell (by k_asm) (by rfl) (by with_unfolding_all rfl) (by with_unfolding_all rfl) (by intro h; rfl) (by intro c; rfl) (by rfl) (by decide) (by rfl) (by rfl) (by rfl) ?_)) | (k_here; (with_reducible show wpAny _ _ (exec (Stmt.Assign _ (Expr.ListComp _ [Comprehension.mk _ _ [] _] _ _) _) _) _ _ _); k_dflt (refine LCg.Assign_ListComp_U (F₀ := by k_asm) (by rfl) (by with_unfolding_all rfl) (by with_unfolding_all rfl) (by decide) (by rfl) (by decide) (by rfl) (by rfl) (by rfl) ?_)) | (k_here; (with_reducible show wpAny _ _ (eval (Expr.ListComp _ [Comprehension.mk _ _ [] _] _ _) _) _ _ _); k_dflt (refine LCg.ListComp_U (F₀ := by k_asm) (by with_unfolding_all rfl) (by decide) (by rfl) (by decide) (by rfl) ?_)) | (k_here; (with_reducible show wpAny _ _ (exec (Stmt.Assign _ (Expr.ListComp _ [Comprehension.mk _ _ [_] _] _ _) _) _) _ _ _); k_dflt (refine LCt.Assign_ListComp_T (F₀ := by k_asm) (by rfl) (by with_unfolding_all rfl) (by with_unfolding_all rfl) (by decide) (by rfl) (by decide) (by rfl) (by rfl) (by rfl) ?_)) | (k_here; (with_reducible show wpAny _ _ (eval (Expr.ListComp _ [Comprehension.mk _ _ [_] _] _ _) _) _ _ _); k_dflt (refine LCt.ListComp_T (F₀ := by k_asm) (by with_unfolding_all rfl) (by decide) (by rfl) (by decide) (by rfl) ?_)) | (k_here; (with_reducible show wpAny _ _ (call (Value.builtin "isinstance") [Value.bool _, Value.type "bool"]) _ _ _); (refine PySem.IsiPair.bool_bool ?_)) | walk1)
        try dsimp only [List.cons_append, List.nil_append, List.append_nil]
        k_dflt (refine' Ct.useV (compl_c _ ((82, op3) :: R2) D3 _ (hP2.r3.mono (fun p hp => .tail _ hp)) hkl1 (fun r hr => hks1 r.1 (List.mem_map_of_mem hr))) ?k1 ?k2 ?k3 ?k4 ?k5 ?kK ?kd ?ku ?_; (case k1 => k_asm); (case k2 => k_asm); (case k3 => k_asm); (case k4 => k_asm); (case k5 => k_asm); (case kK => first | exact rfl | assumption); (case kd => ktr_room); (case ku => ktr_units); k_whole)
        intro t3b h3b tk3b F3b N3b
        have hXX3 : (complOf ((unRows lead.cps.toList lead2.cps.toList (topOf lead.cps.toList lead2.cps.toList).toNat).map (·.1)) != complOf ((unRows lead.cps.toList lead2.cps.toList (topOf lead.cps.toList lead2.cps.toList).toNat).map (·.1))) = false := by simp
        try dsimp only
        repeat' (fail_if_success (with_reducible show wpAny _ _ (pyIter _) _ _ _)); (fail_if_success (with_reducible show LCg.CompSrc _ _ _ _ _ _ _ _ _ _ _ _ _ _)); (fail_if_success (with_reducible show LCt.CompSrcT _ _ _ _ _ _ _ _ _ _ _ _ _ _ _)); (fail_if_success (with_reducible show LCg.CompEnd _ _ _ _ _ _ _ _ _ _ _ _ _ _)); (fail_if_success (with_reducible show CellEnd _ _ _ _ _ _ _ _ _ _ _ _ _ _ _ _)); (fail_if_success (with_reducible show wpAny _ _ (call (Value.ref _) _) _ _ _)); (fail_if_success (with_reducible show wpAny _ _ (compareOp _ (Value.ref _) (Value.ref _)) _ _ _)); first | (k_unfold; (try dsimp only)) | (k_here; (with_reducible show wpAny _ _ (call (Value.builtin "len") [Value.ref _]) _ _ _); k_dflt (refine' lenL ?k1 ?k2 ?k3 ?_; (case k1 => k_asm); (case k2 => k_mem); (case k3 => omega); k_whole)) | (k_here; (with_reducible show wpAny _ _ (subscriptTail _ _ (Value.ref _) (Value.int _ _)) _ _ _); (with_unfolding_all refine' itemL ?k1 ?k2 ?k3 ?k4 ?k5 ?_ ?k6; (case k1 => k_asm); (case k2 => k_mem); (case k3 => omega); (case k4 => omega); (case k5 => assumption); (case k6 => with_unfolding_all rfl); k_whole)) | (k_here; (with_reducible show wpAny _ _ (exec (Stmt.Assign _ (Expr.ListComp _ [Comprehension.mk _ _ [] _] _ _) _) _) _ _ _); k_dflt (refine assignCell (by k_asm) (by rfl) (by with_unfolding_all rfl) (by with_unfolding_all rfl) (by intro h; rfl) (by intro c; rfl) (by rfl) (by decide) (by rfl) (by rfl) (by rfl) ?_)) | (k_here; (with_reducible show wpAny _ _ (exec (Stmt.Assign _ (Expr.ListComp _ [Comprehension.mk _ _ [] _] _ _) _) _) _ _ _); k_dflt (refine LCg.Assign_ListComp_U (F₀ := by k_asm) (by rfl) (by with_unfolding_all rfl) (by with_unfolding_all rfl) (by decide) (by rfl) (by decide) (by rfl) (by rfl) (by rfl) ?_)) | (k_here; (with_reducible show wpAny _ _ (eval (Expr.ListComp _ [Comprehension.mk _ _ [] _] _ _) _) _ _ _); k_dflt (refine LCg.ListComp_U (F₀ := by k_asm) (by with_unfolding_all rfl) (by decide) (by rfl) (by decide) (by rfl) ?_)) | (k_here; (with_reducible show wpAny _ _ (exec (Stmt.Assign _ (Expr.ListComp _ [Comprehension.mk _ _ [_] _] _ _) _) _) _ _ _); k_dflt (refine LCt.Assign_ListComp_T (F₀ := by k_asm) (by rfl) (by with_unfolding_all rfl) (by with_unfolding_all rfl) (by decide) (by rfl) (by decide) (by rfl) (by rfl) (by rfl) ?_)) | (k_here; (with_reducible show wpAny _ _ (eval (Expr.ListComp _ [Comprehension.mk _ _ [_] _] _ _) _) _ _ _); k_dflt (refine LCt.ListComp_T (F₀ := by k_asm) (by with_unfolding_all rfl) (by decide) (by rfl) (by decide) (by rfl) ?_)) | (k_here; (with_reducible show wpAny _ _ (call (Value.builtin "isinstance") [Value.bool _, Value.type "bool"]) _ _ _); (refine PySem.IsiPair.bool_bool ?_)) | walk1 | (dsimp only; first | (k_here; (with_reducible show wpAny _ _ (call (Value.builtin "len") [Value.ref _]) _ _ _); k_dflt (refine' lenL ?k1 ?k2 ?k3 ?_; (case k1 => k_asm); (case k2 => k_mem); (case k3 => omega); k_whole)) | (k_here; (with_reducible show wpAny _ _ (subscriptTail _ _ (Value.ref _) (Value.int _ _)) _ _ _); (with_unfolding_all refine' itemL ?k1 ?k2 ?k3 ?k4 ?k5 ?_ ?k6; (case k1 => k_asm); (case k2 => k_mem); (case k3 => omega); (case k4 => omega); (case k5 => assumption); (case k6 => with_unfolding_all rfl); k_whole)) | (k_here; (with_reducible show wpAny _ _ (exec (Stmt.Assign _ (Expr.ListComp _ [Comprehension.mk _ _ [] _] _ _) _) _) _ _ _); k_dflt (refine assignCell (by k_asm) (by rfl) (by with_unfolding_all rfl) (by with_unfolding_all rfl) (by intro h; rfl) (by intro c; rfl) (by rfl) (by decide) (by rfl) (by rfl) (by rfl) ?_)) | (k_here; (with_reducible show wpAny _ _ (exec (Stmt.Assign _ (Expr.ListComp _ [Comprehension.mk _ _ [] _] _ _) _) _) _ _ _); k_dflt (refine LCg.Assign_ListComp_U (F₀ := by k_asm) (by rfl) (by with_unfolding_all rfl) (by with_unfolding_all rfl) (by decide) (by rfl) (by decide) (by rfl) (by rfl) (by rfl) ?_)) | (k_here; (with_reducible show wpAny _ _ (eval (Expr.ListComp _ [Comprehension.mk _ _ [] _] _ _) _) _ _ _); k_dflt (refine LCg.ListComp_U (F₀ := by k_asm) (by with_unfolding_all rfl) (by decide) (by rfl) (by decide) (by rfl) ?_)) | (k_here; (with_reducible show wpAny _ _ (exec (Stmt.Assign _ (Expr.ListComp _ [Comprehension.mk _ _ [_] _] _ _) _) _) _ _ _); k_dflt (refine LCt.Assign_ListComp_T (F₀ := by k_asm) (by rfl) (by with_unfolding_all rfl) (by with_unfolding_all rfl) (by decide) (by rfl) (by decide) (by rfl) (by rfl) (by rfl) ?_)) | (k_here; (with_reducible show wpAny _ _ (eval (Expr.ListComp _ [Comprehension.mk _ _ [_] _] _ _) _) _ _ _); k_dflt (refine LCt.ListComp_T (F₀ := by k_asm) (by with_unfolding_all rfl) (by decide) (by rfl) (by decide) (by rfl) ?_)) | (k_here; (with_reducible show wpAny _ _ (call (Value.builtin "isinstance") [Value.bool _, Value.type "bool"]) _ _ _); (refine PySem.IsiPair.bool_bool ?_)) | walk1)
        try dsimp only [List.cons_append, List.nil_append, List.append_nil]
        k_dflt (refine' CtP.useV (fmt_c _ R2 lk _ hLk hkl2 (fun r hr => hks2 r.1 (List.mem_map_of_mem hr))) ?k1 ?k2 ?k3 ?k4 ?kop ?k82 ?k5 ?kG ?kK ?kd ?ku ?_; (case k1 => k_asm); (case k2 => k_asm); (case k3 => k_asm); (case k4 => k_asm); (case k5 => k_asm); (case kop => assumption); (case k82 => exact hP2.hi); (case kG => assumption); (case kK => first | exact rfl | assumption); (case kd => ktr_room); (case ku => ktr_units); k_whole)
        intro t4 s4 op4 hop4 F4w N4w hG4 ho4
        rw [form_compl hks2]
        try dsimp only
        repeat' (fail_if_success (with_reducible show wpAny _ _ (pyIter _) _ _ _)); (fail_if_success (with_reducible show LCg.CompSrc _ _ _ _ _ _ _ _ _ _ _ _ _ _)); (fail_if_success (with_reducible show LCt.CompSrcT _ _ _ _ _ _ _ _ _ _ _ _ _ _ _)); (fail_if_success (with_reducible show LCg.CompEnd _ _ _ _ _ _ _ _ _ _ _ _ _ _)); (fail_if_success (with_reducible show CellEnd _ _ _ _ _ _ _ _ _ _ _ _ _ _ _ _)); (fail_if_success (with_reducible show wpAny _ _ (call (Value.ref _) _) _ _ _)); (fail_if_success (with_reducible show wpAny _ _ (compareOp _ (Value.ref _) (Value.ref _)) _ _ _)); first | (k_unfold; (try dsimp only)) | (k_here; (with_reducible show wpAny _ _ (call (Value.builtin "len") [Value.ref _]) _ _ _); k_dflt (refine' lenL ?k1 ?k2 ?k3 ?_; (case k1 => k_asm); (case k2 => k_mem); (case k3 => omega); k_whole)) | (k_here; (with_reducible show wpAny _ _ (subscriptTail _ _ (Value.ref _) (Value.int _ _)) _ _ _); (with_unfolding_all refine' itemL ?k1 ?k2 ?k3 ?k4 ?k5 ?_ ?k6; (case k1 => k_asm); (case k2 => k_mem); (case k3 => omega); (case k4 => omega); (case k5 => assumption); (case k6 => with_unfolding_all rfl); k_whole)) | (k_here; (with_reducible show wpAny _ _ (exec (Stmt.Assign _ (Expr.ListComp _ [Comprehension.mk _ _ [] _] _ _) _) _) _ _ _); k_dflt (refine assignCell (by k_asm) (by rfl) (by with_unfolding_all rfl) (by with_unfolding_all rfl) (by intro h; rfl) (by intro c; rfl) (by rfl) (by decide) (by rfl) (by rfl) (by rfl) ?_)) | (k_here; (with_reducible show wpAny _ _ (exec (Stmt.Assign _ (Expr.ListComp _ [Comprehension.mk _ _ [] _] _ _) _) _) _ _ _); k_dflt (refine LCg.Assign_ListComp_U (F₀ := by k_asm) (by rfl) (by with_unfolding_all rfl) (by with_unfolding_all rfl) (by decide) (by rfl) (by decide) (by rfl) (by rfl) (by rfl) ?_)) | (k_here; (with_reducible show wpAny _ _ (eval (Expr.ListComp _ [Comprehension.mk _ _ [] _] _ _) _) _ _ _); k_dflt (refine LCg.ListComp_U (F₀ := by k_asm) (by with_unfolding_all rfl) (by decide) (by rfl) (by decide) (by rfl) ?_)) | (k_here; (with_reducible show wpAny _ _ (exec (Stmt.Assign _ (Expr.ListComp _ [Comprehension.mk _ _ [_] _] _ _) _) _) _ _ _); k_dflt (refine LCt.Assign_ListComp_T (F₀ := by k_asm) (by rfl) (by with_unfolding_all rfl) (by with_unfolding_all rfl) (by decide) (by rfl) (by decide) (by rfl) (by rfl) (by rfl) ?_)) | (k_here; (with_reducible show wpAny _ _ (eval (Expr.ListComp _ [Comprehension.mk _ _ [_] _] _ _) _) _ _ _); k_dflt (refine LCt.ListComp_T (F₀ := by k_asm) (by with_unfolding_all rfl) (by decide) (by rfl) (by decide) (by rfl) ?_)) | (k_here; (with_reducible show wpAny _ _ (call (Value.builtin "isinstance") [Value.bool _, Value.type "bool"]) _ _ _); (refine PySem.IsiPair.bool_bool ?_)) | walk1 | (dsimp only; first | (k_here; (with_reducible show wpAny _ _ (call (Value.builtin "len") [Value.ref _]) _ _ _); k_dflt (refine' lenL ?k1 ?k2 ?k3 ?_; (case k1 => k_asm); (case k2 => k_mem); (case k3 => omega); k_whole)) | (k_here; (with_reducible show wpAny _ _ (subscriptTail _ _ (Value.ref _) (Value.int _ _)) _ _ _); (with_unfolding_all refine' itemL ?k1 ?k2 ?k3 ?k4 ?k5 ?_ ?k6; (case k1 => k_asm); (case k2 => k_mem); (case k3 => omega); (case k4 => omega); (case k5 => assumption); (case k6 => with_unfolding_all rfl); k_whole)) | (k_here; (with_reducible show wpAny _ _ (exec (Stmt.Assign _ (Expr.ListComp _ [Comprehension.mk _ _ [] _] _ _) _) _) _ _ _); k_dflt (refine assignCell (by k_asm) (by rfl) (by with_unfolding_all rfl) (by with_unfolding_all rfl) (by intro h; rfl) (by intro c; rfl) (by rfl) (by decide) (by rfl) (by rfl) (by rfl) ?_)) | (k_here; (with_reducible show wpAny _ _ (exec (Stmt.Assign _ (Expr.ListComp _ [Comprehension.mk _ _ [] _] _ _) _) _) _ _ _); k_dflt (refine LCg.Assign_ListComp_U (F₀ := by k_asm) (by rfl) (by with_unfolding_all rfl) (by with_unfolding_all rfl) (by decide) (by rfl) (by decide) (by rfl) (by rfl) (by rfl) ?_)) | (k_here; (with_reducible show wpAny _ _ (eval (Expr.ListComp _ [Comprehension.mk _ _ [] _] _ _) _) _ _ _); k_dflt (refine LCg.ListComp_U (F₀ := by k_asm) (by with_unfolding_all rfl) (by decide) (by rfl) (by decide) (by rfl) ?_)) | (k_here; (with_reducible show wpAny _ _ (exec (Stmt.Assign _ (Expr.ListComp _ [Comprehension.mk _ _ [_] _] _ _) _) _) _ _ _); k_dflt (refine LCt.Assign_ListComp_T (F₀ := by k_asm) (by rfl) (by with_unfolding_all rfl) (by with_unfolding_all rfl) (by decide) (by rfl) (by decide) (by rfl) (by rfl) (by rfl) ?_)) | (k_here; (with_reducible show wpAny _ _ (eval (Expr.ListComp _ [Comprehension.mk _ _ [_] _] _ _) _) _ _ _); k_dflt (refine LCt.ListComp_T (F₀ := by k_asm) (by with_unfolding_all rfl) (by decide) (by rfl) (by decide) (by rfl) ?_)) | (k_here; (with_reducible show wpAny _ _ (call (Value.builtin "isinstance") [Value.bool _, Value.type "bool"]) _ _ _); (refine PySem.IsiPair.bool_bool ?_)) | walk1)
        try dsimp only [List.cons_append, List.nil_append, List.append_nil]
        k_dflt (refine' Ct.useV (compl_c _ ((82, op4) :: R2) D4 _ (hP2.r4.mono (fun p hp => .tail _ hp)) hkl2 (fun r hr => hks2 r.1 (List.mem_map_of_mem hr))) ?k1 ?k2 ?k3 ?k4 ?k5 ?kK ?kd ?ku ?_; (case k1 => k_asm); (case k2 => k_asm); (case k3 => k_asm); (case k4 => k_asm); (case k5 => k_asm); (case kK => first | exact rfl | assumption); (case kd => ktr_room); (case ku => ktr_units); k_whole)
        intro t4b h4b tk4b F4b N4b
        have hXX4 : (complOf ((geRows lead.cps.toList lead2.cps.toList (topOf lead.cps.toList lead2.cps.toList).toNat).map (·.1)) != complOf ((geRows lead.cps.toList lead2.cps.toList (topOf lead.cps.toList lead2.cps.toList).toNat).map (·.1))) = false := by simp
        try dsimp only
        repeat' (fail_if_success (with_reducible show wpAny _ _ (pyIter _) _ _ _)); (fail_if_success (with_reducible show LCg.CompSrc _ _ _ _ _ _ _ _ _ _ _ _ _ _)); (fail_if_success (with_reducible show LCt.CompSrcT _ _ _ _ _ _ _ _ _ _ _ _ _ _ _)); (fail_if_success (with_reducible show LCg.CompEnd _ _ _ _ _ _ _ _ _ _ _ _ _ _)); (fail_if_success (with_reducible show CellEnd _ _ _ _ _ _ _ _ _ _ _ _ _ _ _ _)); (fail_if_success (with_reducible show wpAny _ _ (call (Value.ref _) _) _ _ _)); (fail_if_success (with_reducible show wpAny _ _ (compareOp _ (Value.ref _) (Value.ref _)) _ _ _)); first | (k_unfold; (try dsimp only)) | (k_here; (with_reducible show wpAny _ _ (call (Value.builtin "len") [Value.ref _]) _ _ _); k_dflt (refine' lenL ?k1 ?k2 ?k3 ?_; (case k1 => k_asm); (case k2 => k_mem); (case k3 => omega); k_whole)) | (k_here; (with_reducible show wpAny _ _ (subscriptTail _ _ (Value.ref _) (Value.int _ _)) _ _ _); (with_unfolding_all refine' itemL ?k1 ?k2 ?k3 ?k4 ?k5 ?_ ?k6; (case k1 => k_asm); (case k2 => k_mem); (case k3 => omega); (case k4 => omega); (case k5 => assumption); (case k6 => with_unfolding_all rfl); k_whole)) | (k_here; (with_reducible show wpAny _ _ (exec (Stmt.Assign _ (Expr.ListComp _ [Comprehension.mk _ _ [] _] _ _) _) _) _ _ _); k_dflt (refine assignCell (by k_asm) (by rfl) (by with_unfolding_all rfl) (by with_unfolding_all rfl) (by intro h; rfl) (by intro c; rfl) (by rfl) (by decide) (by rfl) (by rfl) (by rfl) ?_)) | (k_here; (with_reducible show wpAny _ _ (exec (Stmt.Assign _ (Expr.ListComp _ [Comprehension.mk _ _ [] _] _ _) _) _) _ _ _); k_dflt (refine LCg.Assign_ListComp_U (F₀ := by k_asm) (by rfl) (by with_unfolding_all rfl) (by with_unfolding_all rfl) (by decide) (by rfl) (by decide) (by rfl) (by rfl) (by rfl) ?_)) | (k_here; (with_reducible show wpAny _ _ (eval (Expr.ListComp _ [Comprehension.mk _ _ [] _] _ _) _) _ _ _); k_dflt (refine LCg.ListComp_U (F₀ := by k_asm) (by with_unfolding_all rfl) (by decide) (by rfl) (by decide) (by rfl) ?_)) | (k_here; (with_reducible show wpAny _ _ (exec (Stmt.Assign _ (Expr.ListComp _ [Comprehension.mk _ _ [_] _] _ _) _) _) _ _ _); k_dflt (refine LCt.Assign_ListComp_T (F₀ := by k_asm) (by rfl) (by with_unfolding_all rfl) (by with_unfolding_all rfl) (by decide) (by rfl) (by decide) (by rfl) (by rfl) (by rfl) ?_)) | (k_here; (with_reducible show wpAny _ _ (eval (Expr.ListComp _ [Comprehension.mk _ _ [_] _] _ _) _) _ _ _); k_dflt (refine LCt.ListComp_T (F₀ := by k_asm) (by with_unfolding_all rfl) (by decide) (by rfl) (by decide) (by rfl) ?_)) | (k_here; (with_reducible show wpAny _ _ (call (Value.builtin "isinstance") [Value.bool _, Value.type "bool"]) _ _ _); (refine PySem.IsiPair.bool_bool ?_)) | walk1 | (dsimp only; first | (k_here; (with_reducible show wpAny _ _ (call (Value.builtin "len") [Value.ref _]) _ _ _); k_dflt (refine' lenL ?k1 ?k2 ?k3 ?_; (case k1 => k_asm); (case k2 => k_mem); (case k3 => omega); k_whole)) | (k_here; (with_reducible show wpAny _ _ (subscriptTail _ _ (Value.ref _) (Value.int _ _)) _ _ _); (with_unfolding_all refine' itemL ?k1 ?k2 ?k3 ?k4 ?k5 ?_ ?k6; (case k1 => k_asm); (case k2 => k_mem); (case k3 => omega); (case k4 => omega); (case k5 => assumption); (case k6 => with_unfolding_all rfl); k_whole)) | (k_here; (with_reducible show wpAny _ _ (exec (Stmt.Assign _ (Expr.ListComp _ [Comprehension.mk _ _ [] _] _ _) _) _) _ _ _); k_dflt (refine assignCell (by k_asm) (by rfl) (by with_unfolding_all rfl) (by with_unfolding_all rfl) (by intro h; rfl) (by intro c; rfl) (by rfl) (by decide) (by rfl) (by rfl) (by rfl) ?_)) | (k_here; (with_reducible show wpAny _ _ (exec (Stmt.Assign _ (Expr.ListComp _ [Comprehension.mk _ _ [] _] _ _) _) _) _ _ _); k_dflt (refine LCg.Assign_ListComp_U (F₀ := by k_asm) (by rfl) (by with_unfolding_all rfl) (by with_unfolding_all rfl) (by decide) (by rfl) (by decide) (by rfl) (by rfl) (by rfl) ?_)) | (k_here; (with_reducible show wpAny _ _ (eval (Expr.ListComp _ [Comprehension.mk _ _ [] _] _ _) _) _ _ _); k_dflt (refine LCg.ListComp_U (F₀ := by k_asm) (by with_unfolding_all rfl) (by decide) (by rfl) (by decide) (by rfl) ?_)) | (k_here; (with_reducible show wpAny _ _ (exec (Stmt.Assign _ (Expr.ListComp _ [Comprehension.mk _ _ [_] _] _ _) _) _) _ _ _); k_dflt (refine LCt.Assign_ListComp_T (F₀ := by k_asm) (by rfl) (by with_unfolding_all rfl) (by with_unfolding_all rfl) (by decide) (by rfl) (by decide) (by rfl) (by rfl) (by rfl) ?_)) | (k_here; (with_reducible show wpAny _ _ (eval (Expr.ListComp _ [Comprehension.mk _ _ [_] _] _ _) _) _ _ _); k_dflt (refine LCt.ListComp_T (F₀ := by k_asm) (by with_unfolding_all rfl) (by decide) (by rfl) (by decide) (by rfl) ?_)) | (k_here; (with_reducible show wpAny _ _ (call (Value.builtin "isinstance") [Value.bool _, Value.type "bool"]) _ _ _); (refine PySem.IsiPair.bool_bool ?_)) | walk1)
        try dsimp only [List.cons_append, List.nil_append, List.append_nil]
        k_dflt (refine' Ct.useT (equal_c _ ((82, op4) :: R2) _ _ _ _ _ _ (hP2.w1.mono (fun p hp => .tail _ hp)) (hP2.w2.mono (fun p hp => .tail _ hp))) ?k1 ?k2 ?k3 ?k4 ?k5 ?kK ?kd ?ku ?_; (case k1 => k_asm); (case k2 => k_asm); (case k3 => k_asm); (case k4 => k_asm); (case k5 => k_asm); (case kK => first | exact rfl | assumption); (case kd => ktr_room); (case ku => ktr_units); k_whole)
        intro h5b tk5b F5b N5b
        obtain ⟨b5, hb5⟩ : ∃ b : Bool, b = decide (ours = theirs) := ⟨_, rfl⟩
        rw [hsame, ← hb5]
        try dsimp only
        repeat' (fail_if_success (with_reducible show wpAny _ _ (pyIter _) _ _ _)); (fail_if_success (with_reducible show LCg.CompSrc _ _ _ _ _ _ _ _ _ _ _ _ _ _)); (fail_if_success (with_reducible show LCt.CompSrcT _ _ _ _ _ _ _ _ _ _ _ _ _ _ _)); (fail_if_success (with_reducible show LCg.CompEnd _ _ _ _ _ _ _ _ _ _ _ _ _ _)); (fail_if_success (with_reducible show CellEnd _ _ _ _ _ _ _ _ _ _ _ _ _ _ _ _)); (fail_if_success (with_reducible show wpAny _ _ (call (Value.ref _) _) _ _ _)); (fail_if_success (with_reducible show wpAny _ _ (compareOp _ (Value.ref _) (Value.ref _)) _ _ _)); first | (k_unfold; (try dsimp only)) | (k_here; (with_reducible show wpAny _ _ (call (Value.builtin "len") [Value.ref _]) _ _ _); k_dflt (refine' lenL ?k1 ?k2 ?k3 ?_; (case k1 => k_asm); (case k2 => k_mem); (case k3 => omega); k_whole)) | (k_here; (with_reducible show wpAny _ _ (subscriptTail _ _ (Value.ref _) (Value.int _ _)) _ _ _); (with_unfolding_all refine' itemL ?k1 ?k2 ?k3 ?k4 ?k5 ?_ ?k6; (case k1 => k_asm); (case k2 => k_mem); (case k3 => omega); (case k4 => omega); (case k5 => assumption); (case k6 => with_unfolding_all rfl); k_whole)) | (k_here; (with_reducible show wpAny _ _ (exec (Stmt.Assign _ (Expr.ListComp _ [Comprehension.mk _ _ [] _] _ _) _) _) _ _ _); k_dflt (refine assignCell (by k_asm) (by rfl) (by with_unfolding_all rfl) (by with_unfolding_all rfl) (by intro h; rfl) (by intro c; rfl) (by rfl) (by decide) (by rfl) (by rfl) (by rfl) ?_)) | (k_here; (with_reducible show wpAny _ _ (exec (Stmt.Assign _ (Expr.ListComp _ [Comprehension.mk _ _ [] _] _ _) _) _) _ _ _); k_dflt (refine LCg.Assign_ListComp_U (F₀ := by k_asm) (by rfl) (by with_unfolding_all rfl) (by with_unfolding_all rfl) (by decide) (by rfl) (by decide) (by rfl) (by rfl) (by rfl) ?_)) | (k_here; (with_reducible show wpAny _ _ (eval (Expr.ListComp _ [Comprehension.mk _ _ [] _] _ _) _) _ _ _); k_dflt (refine LCg.ListComp_U (F₀ := by k_asm) (by with_unfolding_all rfl) (by decide) (by rfl) (by decide) (by rfl) ?_)) | (k_here; (with_reducible show wpAny _ _ (exec (Stmt.Assign _ (Expr.ListComp _ [Comprehension.mk _ _ [_] _] _ _) _) _) _ _ _); k_dflt (refine LCt.Assign_ListComp_T (F₀ := by k_asm) (by rfl) (by with_unfolding_all rfl) (by with_unfolding_all rfl) (by decide) (by rfl) (by decide) (by rfl) (by rfl) (by rfl) ?_)) | (k_here; (with_reducible show wpAny _ _ (eval (Expr.ListComp _ [Comprehension.mk _ _ [_] _] _ _) _) _ _ _); k_dflt (refine LCt.ListComp_T (F₀ := by k_asm) (by with_unfolding_all rfl) (by decide) (by rfl) (by decide) (by rfl) ?_)) | (k_here; (with_reducible show wpAny _ _ (call (Value.builtin "isinstance") [Value.bool _, Value.type "bool"]) _ _ _); (refine PySem.IsiPair.bool_bool ?_)) | walk1 | (dsimp only; first | (k_here; (with_reducible show wpAny _ _ (call (Value.builtin "len") [Value.ref _]) _ _ _); k_dflt (refine' lenL ?k1 ?k2 ?k3 ?_; (case k1 => k_asm); (case k2 => k_mem); (case k3 => omega); k_whole)) | (k_here; (with_reducible show wpAny _ _ (subscriptTail _ _ (Value.ref _) (Value.int _ _)) _ _ _); (with_unfolding_all refine' itemL ?k1 ?k2 ?k3 ?k4 ?k5 ?_ ?k6; (case k1 => k_asm); (case k2 => k_mem); (case k3 => omega); (case k4 => omega); (case k5 => assumption); (case k6 => with_unfolding_all rfl); k_whole)) | (k_here; (with_reducible show wpAny _ _ (exec (Stmt.Assign _ (Expr.ListComp _ [Comprehension.mk _ _ [] _] _ _) _) _) _ _ _); k_dflt (refine assignCell (by k_asm) (by rfl) (by with_unfolding_all rfl) (by with_unfolding_all rfl) (by intro h; rfl) (by intro c; rfl) (by rfl) (by decide) (by rfl) (by rfl) (by rfl) ?_)) | (k_here; (with_reducible show wpAny _ _ (exec (Stmt.Assign _ (Expr.ListComp _ [Comprehension.mk _ _ [] _] _ _) _) _) _ _ _); k_dflt (refine LCg.Assign_ListComp_U (F₀ := by k_asm) (by rfl) (by with_unfolding_all rfl) (by with_unfolding_all rfl) (by decide) (by rfl) (by decide) (by rfl) (by rfl) (by rfl) ?_)) | (k_here; (with_reducible show wpAny _ _ (eval (Expr.ListComp _ [Comprehension.mk _ _ [] _] _ _) _) _ _ _); k_dflt (refine LCg.ListComp_U (F₀ := by k_asm) (by with_unfolding_all rfl) (by decide) (by rfl) (by decide) (by rfl) ?_)) | (k_here; (with_reducible show wpAny _ _ (exec (Stmt.Assign _ (Expr.ListComp _ [Comprehension.mk _ _ [_] _] _ _) _) _) _ _ _); k_dflt (refine LCt.Assign_ListComp_T (F₀ := by k_asm) (by rfl) (by with_unfolding_all rfl) (by with_unfolding_all rfl) (by decide) (by rfl) (by decide) (by rfl) (by rfl) (by rfl) ?_)) | (k_here; (with_reducible show wpAny _ _ (eval (Expr.ListComp _ [Comprehension.mk _ _ [_] _] _ _) _) _ _ _); k_dflt (refine LCt.ListComp_T (F₀ := by k_asm) (by with_unfolding_all rfl) (by decide) (by rfl) (by decide) (by rfl) ?_)) | (k_here; (with_reducible show wpAny _ _ (call (Value.builtin "isinstance") [Value.bool _, Value.type "bool"]) _ _ _); (refine PySem.IsiPair.bool_bool ?_)) | walk1)
        try dsimp only [List.cons_append, List.nil_append, List.append_nil]
        k_dflt (refine' Ct.useT (less_c _ ((82, op4) :: R2) _ _ _ _ _ _ (hP2.w1.mono (fun p hp => .tail _ hp)) (hP2.w2.mono (fun p hp => .tail _ hp))) ?k1 ?k2 ?k3 ?k4 ?k5 ?kK ?kd ?ku ?_; (case k1 => k_asm); (case k2 => k_asm); (case k3 => k_asm); (case k4 => k_asm); (case k5 => k_asm); (case kK => first | exact rfl | assumption); (case kd => ktr_room); (case ku => ktr_units); k_whole)
        intro h6b tk6b F6b N6b
        obtain ⟨b6, hb6⟩ : ∃ b : Bool, b = lessOf lead.cps.toList lead2.cps.toList := ⟨_, rfl⟩
        rw [← hb6]
        try dsimp only
        repeat' (fail_if_success (with_reducible show wpAny _ _ (pyIter _) _ _ _)); (fail_if_success (with_reducible show LCg.CompSrc _ _ _ _ _ _ _ _ _ _ _ _ _ _)); (fail_if_success (with_reducible show LCt.CompSrcT _ _ _ _ _ _ _ _ _ _ _ _ _ _ _)); (fail_if_success (with_reducible show LCg.CompEnd _ _ _ _ _ _ _ _ _ _ _ _ _ _)); (fail_if_success (with_reducible show CellEnd _ _ _ _ _ _ _ _ _ _ _ _ _ _ _ _)); (fail_if_success (with_reducible show wpAny _ _ (call (Value.ref _) _) _ _ _)); (fail_if_success (with_reducible show wpAny _ _ (compareOp _ (Value.ref _) (Value.ref _)) _ _ _)); first | (k_unfold; (try dsimp only)) | (k_here; (with_reducible show wpAny _ _ (call (Value.builtin "len") [Value.ref _]) _ _ _); k_dflt (refine' lenL ?k1 ?k2 ?k3 ?_; (case k1 => k_asm); (case k2 => k_mem); (case k3 => omega); k_whole)) | (k_here; (with_reducible show wpAny _ _ (subscriptTail _ _ (Value.ref _) (Value.int _ _)) _ _ _); (with_unfolding_all refine' itemL ?k1 ?k2 ?k3 ?k4 ?k5 ?_ ?k6; (case k1 => k_asm); (case k2 => k_mem); (case k3 => omega); (case k4 => omega); (case k5 => assumption); (case k6 => with_unfolding_all rfl); k_whole)) | (k_here; (with_reducible show wpAny _ _ (exec (Stmt.Assign _ (Expr.ListComp _ [Comprehension.mk _ _ [] _] _ _) _) _) _ _ _); k_dflt (refine assignCell (by k_asm) (by rfl) (by with_unfolding_all rfl) (by with_unfolding_all rfl) (by intro h; rfl) (by intro c; rfl) (by rfl) (by decide) (by rfl) (by rfl) (by rfl) ?_)) | (k_here; (with_reducible show wpAny _ _ (exec (Stmt.Assign _ (Expr.ListComp _ [Comprehension.mk _ _ [] _] _ _) _) _) _ _ _); k_dflt (refine LCg.Assign_ListComp_U (F₀ := by k_asm) (by rfl) (by with_unfolding_all rfl) (by with_unfolding_all rfl) (by decide) (by rfl) (by decide) (by rfl) (by rfl) (by rfl) ?_)) | (k_here; (with_reducible show wpAny _ _ (eval (Expr.ListComp _ [Comprehension.mk _ _ [] _] _ _) _) _ _ _); k_dflt (refine LCg.ListComp_U (F₀ := by k_asm) (by with_unfolding_all rfl) (by decide) (by rfl) (by decide) (by rfl) ?_)) | (k_here; (with_reducible show wpAny _ _ (exec (Stmt.Assign _ (Expr.ListComp _ [Comprehension.mk _ _ [_] _] _ _) _) _) _ _ _); k_dflt (refine LCt.Assign_ListComp_T (F₀ := by k_asm) (by rfl) (by with_unfolding_all rfl) (by with_unfolding_all rfl) (by decide) (by rfl) (by decide) (by rfl) (by rfl) (by rfl) ?_)) | (k_here; (with_reducible show wpAny _ _ (eval (Expr.ListComp _ [Comprehension.mk _ _ [_] _] _ _) _) _ _ _); k_dflt (refine LCt.ListComp_T (F₀ := by k_asm) (by with_unfolding_all rfl) (by decide) (by rfl) (by decide) (by rfl) ?_)) | (k_here; (with_reducible show wpAny _ _ (call (Value.builtin "isinstance") [Value.bool _, Value.type "bool"]) _ _ _); (refine PySem.IsiPair.bool_bool ?_)) | walk1 | (dsimp only; first | (k_here; (with_reducible show wpAny _ _ (call (Value.builtin "len") [Value.ref _]) _ _ _); k_dflt (refine' lenL ?k1 ?k2 ?k3 ?_; (case k1 => k_asm); (case k2 => k_mem); (case k3 => omega); k_whole)) | (k_here; (with_reducible show wpAny _ _ (subscriptTail _ _ (Value.ref _) (Value.int _ _)) _ _ _); (with_unfolding_all refine' itemL ?k1 ?k2 ?k3 ?k4 ?k5 ?_ ?k6; (case k1 => k_asm); (case k2 => k_mem); (case k3 => omega); (case k4 => omega); (case k5 => assumption); (case k6 => with_unfolding_all rfl); k_whole)) | (k_here; (with_reducible show wpAny _ _ (exec (Stmt.Assign _ (Expr.ListComp _ [Comprehension.mk _ _ [] _] _ _) _) _) _ _ _); k_dflt (refine assignCell (by k_asm) (by rfl) (by with_unfolding_all rfl) (by with_unfolding_all rfl) (by intro h; rfl) (by intro c; rfl) (by rfl) (by decide) (by rfl) (by rfl) (by rfl) ?_)) | (k_here; (with_reducible show wpAny _ _ (exec (Stmt.Assign _ (Expr.ListComp _ [Comprehension.mk _ _ [] _] _ _) _) _) _ _ _); k_dflt (refine LCg.Assign_ListComp_U (F₀ := by k_asm) (by rfl) (by with_unfolding_all rfl) (by with_unfolding_all rfl) (by decide) (by rfl) (by decide) (by rfl) (by rfl) (by rfl) ?_)) | (k_here; (with_reducible show wpAny _ _ (eval (Expr.ListComp _ [Comprehension.mk _ _ [] _] _ _) _) _ _ _); k_dflt (refine LCg.ListComp_U (F₀ := by k_asm) (by with_unfolding_all rfl) (by decide) (by rfl) (by decide) (by rfl) ?_)) | (k_here; (with_reducible show wpAny _ _ (exec (Stmt.Assign _ (Expr.ListComp _ [Comprehension.mk _ _ [_] _] _ _) _) _) _ _ _); k_dflt (refine LCt.Assign_ListComp_T (F₀ := by k_asm) (by rfl) (by with_unfolding_all rfl) (by with_unfolding_all rfl) (by decide) (by rfl) (by decide) (by rfl) (by rfl) (by rfl) ?_)) | (k_here; (with_reducible show wpAny _ _ (eval (Expr.ListComp _ [Comprehension.mk _ _ [_] _] _ _) _) _ _ _); k_dflt (refine LCt.ListComp_T (F₀ := by k_asm) (by with_unfolding_all rfl) (by decide) (by rfl) (by decide) (by rfl) ?_)) | (k_here; (with_reducible show wpAny _ _ (call (Value.builtin "isinstance") [Value.bool _, Value.type "bool"]) _ _ _); (refine PySem.IsiPair.bool_bool ?_)) | walk1)
        have hDD : (b5 != b5) = false := by simp
        refine listEq (by k_asm) (.tail _ hP2.m1) (.tail _ hP2.m2) hi1 hi2 (by ktr_units) ?_
        rw [← hb5]
        try dsimp only
        repeat' (fail_if_success (with_reducible show wpAny _ _ (pyIter _) _ _ _)); (fail_if_success (with_reducible show LCg.CompSrc _ _ _ _ _ _ _ _ _ _ _ _ _ _)); (fail_if_success (with_reducible show LCt.CompSrcT _ _ _ _ _ _ _ _ _ _ _ _ _ _ _)); (fail_if_success (with_reducible show LCg.CompEnd _ _ _ _ _ _ _ _ _ _ _ _ _ _)); (fail_if_success (with_reducible show CellEnd _ _ _ _ _ _ _ _ _ _ _ _ _ _ _ _)); (fail_if_success (with_reducible show wpAny _ _ (call (Value.ref _) _) _ _ _)); (fail_if_success (with_reducible show wpAny _ _ (compareOp _ (Value.ref _) (Value.ref _)) _ _ _)); first | (k_unfold; (try dsimp only)) | (k_here; (with_reducible show wpAny _ _ (call (Value.builtin "len") [Value.ref _]) _ _ _); k_dflt (refine' lenL ?k1 ?k2 ?k3 ?_; (case k1 => k_asm); (case k2 => k_mem); (case k3 => omega); k_whole)) | (k_here; (with_reducible show wpAny _ _ (subscriptTail _ _ (Value.ref _) (Value.int _ _)) _ _ _); (with_unfolding_all refine' itemL ?k1 ?k2 ?k3 ?k4 ?k5 ?_ ?k6; (case k1 => k_asm); (case k2 => k_mem); (case k3 => omega); (case k4 => omega); (case k5 => assumption); (case k6 => with_unfolding_all rfl); k_whole)) | (k_here; (with_reducible show wpAny _ _ (exec (Stmt.Assign _ (Expr.ListComp _ [Comprehension.mk _ _ [] _] _ _) _) _) _ _ _); k_dflt (refine assignCell (by k_asm) (by rfl) (by with_unfolding_all rfl) (by with_unfolding_all rfl) (by intro h; rfl) (by intro c; rfl) (by rfl) (by decide) (by rfl) (by rfl) (by rfl) ?_)) | (k_here; (with_reducible show wpAny _ _ (exec (Stmt.Assign _ (Expr.ListComp _ [Comprehension.mk _ _ [] _] _ _) _) _) _ _ _); k_dflt (refine LCg.Assign_ListComp_U (F₀ := by k_asm) (by rfl) (by with_unfolding_all rfl) (by with_unfolding_all rfl) (by decide) (by rfl) (by decide) (by rfl) (by rfl) (by rfl) ?_)) | (k_here; (with_reducible show wpAny _ _ (eval (Expr.ListComp _ [Comprehension.mk _ _ [] _] _ _) _) _ _ _); k_dflt (refine LCg.ListComp_U (F₀ := by k_asm) (by with_unfolding_all rfl) (by decide) (by rfl) (by decide) (by rfl) ?_)) | (k_here; (with_reducible show wpAny _ _ (exec (Stmt.Assign _ (Expr.ListComp _ [Comprehension.mk _ _ [_] _] _ _) _) _) _ _ _); k_dflt (refine LCt.Assign_ListComp_T (F₀ := by k_asm) (by rfl) (by with_unfolding_all rfl) (by with_unfolding_all rfl) (by decide) (by rfl) (by decide) (by rfl) (by rfl) (by rfl) ?_)) | (k_here; (with_reducible show wpAny _ _ (eval (Expr.ListComp _ [Comprehension.mk _ _ [_] _] _ _) _) _ _ _); k_dflt (refine LCt.ListComp_T (F₀ := by k_asm) (by with_unfolding_all rfl) (by decide) (by rfl) (by decide) (by rfl) ?_)) | (k_here; (with_reducible show wpAny _ _ (call (Value.builtin "isinstance") [Value.bool _, Value.type "bool"]) _ _ _); (refine PySem.IsiPair.bool_bool ?_)) | walk1 | (dsimp only; first | (k_here; (with_reducible show wpAny _ _ (call (Value.builtin "len") [Value.ref _]) _ _ _); k_dflt (refine' lenL ?k1 ?k2 ?k3 ?_; (case k1 => k_asm); (case k2 => k_mem); (case k3 => omega); k_whole)) | (k_here; (with_reducible show wpAny _ _ (subscriptTail _ _ (Value.ref _) (Value.int _ _)) _ _ _); (with_unfolding_all refine' itemL ?k1 ?k2 ?k3 ?k4 ?k5 ?_ ?k6; (case k1 => k_asm); (case k2 => k_mem); (case k3 => omega); (case k4 => omega); (case k5 => assumption); (case k6 => with_unfolding_all rfl); k_whole)) | (k_here; (with_reducible show wpAny _ _ (exec (Stmt.Assign _ (Expr.ListComp _ [Comprehension.mk _ _ [] _] _ _) _) _) _ _ _); k_dflt (refine assignCell (by k_asm) (by rfl) (by with_unfolding_all rfl) (by with_unfolding_all rfl) (by intro h; rfl) (by intro c; rfl) (by rfl) (by decide) (by rfl) (by rfl) (by rfl) ?_)) | (k_here; (with_reducible show wpAny _ _ (exec (Stmt.Assign _ (Expr.ListComp _ [Comprehension.mk _ _ [] _] _ _) _) _) _ _ _); k_dflt (refine LCg.Assign_ListComp_U (F₀ := by k_asm) (by rfl) (by with_unfolding_all rfl) (by with_unfolding_all rfl) (by decide) (by rfl) (by decide) (by rfl) (by rfl) (by rfl) ?_)) | (k_here; (with_reducible show wpAny _ _ (eval (Expr.ListComp _ [Comprehension.mk _ _ [] _] _ _) _) _ _ _); k_dflt (refine LCg.ListComp_U (F₀ := by k_asm) (by with_unfolding_all rfl) (by decide) (by rfl) (by decide) (by rfl) ?_)) | (k_here; (with_reducible show wpAny _ _ (exec (Stmt.Assign _ (Expr.ListComp _ [Comprehension.mk _ _ [_] _] _ _) _) _) _ _ _); k_dflt (refine LCt.Assign_ListComp_T (F₀ := by k_asm) (by rfl) (by with_unfolding_all rfl) (by with_unfolding_all rfl) (by decide) (by rfl) (by decide) (by rfl) (by rfl) (by rfl) ?_)) | (k_here; (with_reducible show wpAny _ _ (eval (Expr.ListComp _ [Comprehension.mk _ _ [_] _] _ _) _) _ _ _); k_dflt (refine LCt.ListComp_T (F₀ := by k_asm) (by with_unfolding_all rfl) (by decide) (by rfl) (by decide) (by rfl) ?_)) | (k_here; (with_reducible show wpAny _ _ (call (Value.builtin "isinstance") [Value.bool _, Value.type "bool"]) _ _ _); (refine PySem.IsiPair.bool_bool ?_)) | walk1)
        rename Fr _ _ _ _ => F20
        rename News _ _ _ _ => N20
        rename IsRange _ _ _ _ _ _ _ _ => hR20
        have hv9 : (vs1.length : Int) = 9 := by rw [hv1, hl1]; rfl
        rw [hv9] at hR20
        refine LCt.CompSrcT.range (n := 9) (by with_unfolding_all rfl) F20 N20 hR20 (by decide) (by decide) (by rw [sizeLine_eq]; omega) ?_
        intro g20
        refine comp_invT (fun j zs nw => nw = _ ∧ zs.length = ((List.range j).filter fun k => decide (theirs.getD k 0 ≤ ours.getD k 0)).length) ⟨rfl, rfl⟩ ?_ ?_
        · rintro j v I oI C oC D m₂ zs nw h tk E' hj ⟨t, rfl⟩ ⟨rfl, hzs⟩ hNC hx F₁ N₁ off ne
          obtain ⟨oj, hoj⟩ : ∃ z, ours[j]? = some z := ⟨_, List.getElem?_eq_getElem (by omega)⟩
          obtain ⟨tj, htj⟩ : ∃ z, theirs[j]? = some z := ⟨_, List.getElem?_eq_getElem (by omega)⟩
          obtain ⟨ta, hva⟩ := ints_at hi1 hoj
          obtain ⟨tb2, hvb⟩ := ints_at hi2 htj
          have hva' : vs1[(0 + (j : Int)).toNat]? = some (.int oj ta) := by rw [show (0 + (j : Int)).toNat = j by omega]; exact hva
          have hvb' : vs2[(0 + (j : Int)).toNat]? = some (.int tj tb2) := by rw [show (0 + (j : Int)).toNat = j by omega]; exact hvb
          have eoj : ours.getD j 0 = oj := by rw [List.getD_eq_getElem?_getD, hoj]; rfl
          have etj : theirs.getD j 0 = tj := by rw [List.getD_eq_getElem?_getD, htj]; rfl
          repeat' (fail_if_success (with_reducible show wpAny _ _ (pyIter _) _ _ _)); (fail_if_success (with_reducible show LCg.CompSrc _ _ _ _ _ _ _ _ _ _ _ _ _ _)); (fail_if_success (with_reducible show LCt.CompSrcT _ _ _ _ _ _ _ _ _ _ _ _ _ _ _)); (fail_if_success (with_reducible show LCg.CompEnd _ _ _ _ _ _ _ _ _ _ _ _ _ _)); (fail_if_success (with_reducible show CellEnd _ _ _ _ _ _ _ _ _ _ _ _ _ _ _ _)); first | (k_unfold; (try dsimp only)) | (k_here; (with_reducible show wpAny _ _ (call (Value.builtin "len") [Value.ref _]) _ _ _); k_dflt (refine' lenL ?k1 ?k2 ?k3 ?_; (case k1 => k_asm); (case k2 => k_mem); (case k3 => omega); k_whole)) | (k_here; (with_reducible show wpAny _ _ (subscriptTail _ _ (Value.ref _) (Value.int _ _)) _ _ _); (with_unfolding_all refine' itemL ?k1 ?k2 ?k3 ?k4 ?k5 ?_ ?k6; (case k1 => k_asm); (case k2 => k_mem); (case k3 => omega); (case k4 => omega); (case k5 => assumption); (case k6 => with_unfolding_all rfl); k_whole)) | (k_here; (with_reducible show wpAny _ _ (exec (Stmt.Assign _ (Expr.ListComp _ [Comprehension.mk _ _ [] _] _ _) _) _) _ _ _); k_dflt (refine assignCell (by k_asm) (by rfl) (by with_unfolding_all rfl) (by with_unfolding_all rfl) (by intro h; rfl) (by intro c; rfl) (by rfl) (by decide) (by rfl) (by rfl) (by rfl) ?_)) | (k_here; (with_reducible show wpAny _ _ (exec (Stmt.Assign _ (Expr.ListComp _ [Comprehension.mk _ _ [] _] _ _) _) _) _ _ _); k_dflt (refine LCg.Assign_ListComp_U (F₀ := by k_asm) (by rfl) (by with_unfolding_all rfl) (by with_unfolding_all rfl) (by decide) (by rfl) (by decide) (by rfl) (by rfl) (by rfl) ?_)) | (k_here; (with_reducible show wpAny _ _ (eval (Expr.ListComp _ [Comprehension.mk _ _ [] _] _ _) _) _ _ _); k_dflt (refine LCg.ListComp_U (F₀ := by k_asm) (by with_unfolding_all rfl) (by decide) (by rfl) (by decide) (by rfl) ?_)) | (k_here; (with_reducible show wpAny _ _ (exec (Stmt.Assign _ (Expr.ListComp _ [Comprehension.mk _ _ [_] _] _ _) _) _) _ _ _); k_dflt (refine LCt.Assign_ListComp_T (F₀ := by k_asm) (by rfl) (by with_unfolding_all rfl) (by with_unfolding_all rfl) (by decide) (by rfl) (by decide) (by rfl) (by rfl) (by rfl) ?_)) | (k_here; (with_reducible show wpAny _ _ (eval (Expr.ListComp _ [Comprehension.mk _ _ [_] _] _ _) _) _ _ _); k_dflt (refine LCt.ListComp_T (F₀ := by k_asm) (by with_unfolding_all rfl) (by decide) (by rfl) (by decide) (by rfl) ?_)) | (k_here; (with_reducible show wpAny _ _ (call (Value.builtin "isinstance") [Value.bool _, Value.type "bool"]) _ _ _); (refine PySem.IsiPair.bool_bool ?_)) | walk1 | (dsimp only; first | (k_here; (with_reducible show wpAny _ _ (call (Value.builtin "len") [Value.ref _]) _ _ _); k_dflt (refine' lenL ?k1 ?k2 ?k3 ?_; (case k1 => k_asm); (case k2 => k_mem); (case k3 => omega); k_whole)) | (k_here; (with_reducible show wpAny _ _ (subscriptTail _ _ (Value.ref _) (Value.int _ _)) _ _ _); (with_unfolding_all refine' itemL ?k1 ?k2 ?k3 ?k4 ?k5 ?_ ?k6; (case k1 => k_asm); (case k2 => k_mem); (case k3 => omega); (case k4 => omega); (case k5 => assumption); (case k6 => with_unfolding_all rfl); k_whole)) | (k_here; (with_reducible show wpAny _ _ (exec (Stmt.Assign _ (Expr.ListComp _ [Comprehension.mk _ _ [] _] _ _) _) _) _ _ _); k_dflt (refine assignCell (by k_asm) (by rfl) (by with_unfolding_all rfl) (by with_unfolding_all rfl) (by intro h; rfl) (by intro c; rfl) (by rfl) (by decide) (by rfl) (by rfl) (by rfl) ?_)) | (k_here; (with_reducible show wpAny _ _ (exec (Stmt.Assign _ (Expr.ListComp _ [Comprehension.mk _ _ [] _] _ _) _) _) _ _ _); k_dflt (refine LCg.Assign_ListComp_U (F₀ := by k_asm) (by rfl) (by with_unfolding_all rfl) (by with_unfolding_all rfl) (by decide) (by rfl) (by decide) (by rfl) (by rfl) (by rfl) ?_)) | (k_here; (with_reducible show wpAny _ _ (eval (Expr.ListComp _ [Comprehension.mk _ _ [] _] _ _) _) _ _ _); k_dflt (refine LCg.ListComp_U (F₀ := by k_asm) (by with_unfolding_all rfl) (by decide) (by rfl) (by decide) (by rfl) ?_)) | (k_here; (with_reducible show wpAny _ _ (exec (Stmt.Assign _ (Expr.ListComp _ [Comprehension.mk _ _ [_] _] _ _) _) _) _ _ _); k_dflt (refine LCt.Assign_ListComp_T (F₀ := by k_asm) (by rfl) (by with_unfolding_all rfl) (by with_unfolding_all rfl) (by decide) (by rfl) (by decide) (by rfl) (by rfl) (by rfl) ?_)) | (k_here; (with_reducible show wpAny _ _ (eval (Expr.ListComp _ [Comprehension.mk _ _ [_] _] _ _) _) _ _ _); k_dflt (refine LCt.ListComp_T (F₀ := by k_asm) (by with_unfolding_all rfl) (by decide) (by rfl) (by decide) (by rfl) ?_)) | (k_here; (with_reducible show wpAny _ _ (call (Value.builtin "isinstance") [Value.bool _, Value.type "bool"]) _ _ _); (refine PySem.IsiPair.bool_bool ?_)) | walk1)
          · refine LCg.CompEnd.intro F₁ N₁ _ (fun p hp => hp) off trivial ⟨rfl, ?_⟩
            rw [List.range_succ, List.filter_append, List.length_append, List.length_append, hzs]
            simp only [List.filter_cons, eoj, etj]
            rw [decide_eq_true (by assumption)]
            rfl
          · refine LCg.CompEnd.intro F₁ N₁ _ (fun p hp => hp) off trivial ⟨rfl, ?_⟩
            rw [List.range_succ, List.filter_append, List.length_append, hzs]
            simp only [List.filter_cons, eoj, etj]
            rw [decide_eq_false (by assumption)]
            rfl
        · rintro zs nw ⟨rfl, hzs⟩
          have hzl : zs.length ≤ 9 := by
            rw [hzs]
            exact Nat.le_trans (List.length_filter_le _ _) (by simp)
          unfold LCg.FinE
          intro D9 h21 tk21 F21 N21 off21
          try dsimp only
          repeat' (fail_if_success (with_reducible show wpAny _ _ (pyIter _) _ _ _)); (fail_if_success (with_reducible show LCg.CompSrc _ _ _ _ _ _ _ _ _ _ _ _ _ _)); (fail_if_success (with_reducible show LCt.CompSrcT _ _ _ _ _ _ _ _ _ _ _ _ _ _ _)); (fail_if_success (with_reducible show LCg.CompEnd _ _ _ _ _ _ _ _ _ _ _ _ _ _)); (fail_if_success (with_reducible show CellEnd _ _ _ _ _ _ _ _ _ _ _ _ _ _ _ _)); first | (k_unfold; (try dsimp only)) | (k_here; (with_reducible show wpAny _ _ (call (Value.builtin "len") [Value.ref _]) _ _ _); k_dflt (refine' lenL ?k1 ?k2 ?k3 ?_; (case k1 => k_asm); (case k2 => k_mem); (case k3 => omega); k_whole)) | (k_here; (with_reducible show wpAny _ _ (subscriptTail _ _ (Value.ref _) (Value.int _ _)) _ _ _); (with_unfolding_all refine' itemL ?k1 ?k2 ?k3 ?k4 ?k5 ?_ ?k6; (case k1 => k_asm); (case k2 => k_mem); (case k3 => omega); (case k4 => omega); (case k5 => assumption); (case k6 => with_unfolding_all rfl); k_whole)) | (k_here; (with_reducible show wpAny _ _ (exec (Stmt.Assign _ (Expr.ListComp _ [Comprehension.mk _ _ [] _] _ _) _) _) _ _ _); k_dflt (refine assignCell (by k_asm) (by rfl) (by with_unfolding_all rfl) (by with_unfolding_all rfl) (by intro h; rfl) (by intro c; rfl) (by rfl) (by decide) (by rfl) (by rfl) (by rfl) ?_)) | (k_here; (with_reducible show wpAny _ _ (exec (Stmt.Assign _ (Expr.ListComp _ [Comprehension.mk _ _ [] _] _ _) _) _) _ _ _); k_dflt (refine LCg.Assign_ListComp_U (F₀ := by k_asm) (by rfl) (by with_unfolding_all rfl) (by with_unfolding_all rfl) (by decide) (by rfl) (by decide) (by rfl) (by rfl) (by rfl) ?_)) | (k_here; (with_reducible show wpAny _ _ (eval (Expr.ListComp _ [Comprehension.mk _ _ [] _] _ _) _) _ _ _); k_dflt (refine LCg.ListComp_U (F₀ := by k_asm) (by with_unfolding_all rfl) (by decide) (by rfl) (by decide) (by rfl) ?_)) | (k_here; (with_reducible show wpAny _ _ (exec (Stmt.Assign _ (Expr.ListComp _ [Comprehension.mk _ _ [_] _] _ _) _) _) _ _ _); k_dflt (refine LCt.Assign_ListComp_T (F₀ := by k_asm) (by rfl) (by with_unfolding_all rfl) (by with_unfolding_all rfl) (by decide) (by rfl) (by decide) (by rfl) (by rfl) (by rfl) ?_)) | (k_here; (with_reducible show wpAny _ _ (eval (Expr.ListComp _ [Comprehension.mk _ _ [_] _] _ _) _) _ _ _); k_dflt (refine LCt.ListComp_T (F₀ := by k_asm) (by with_unfolding_all rfl) (by decide) (by rfl) (by decide) (by rfl) ?_)) | (k_here; (with_reducible show wpAny _ _ (call (Value.builtin "isinstance") [Value.bool _, Value.type "bool"]) _ _ _); (refine PySem.IsiPair.bool_bool ?_)) | walk1 | (dsimp only; first | (k_here; (with_reducible show wpAny _ _ (call (Value.builtin "len") [Value.ref _]) _ _ _); k_dflt (refine' lenL ?k1 ?k2 ?k3 ?_; (case k1 => k_asm); (case k2 => k_mem); (case k3 => omega); k_whole)) | (k_here; (with_reducible show wpAny _ _ (subscriptTail _ _ (Value.ref _) (Value.int _ _)) _ _ _); (with_unfolding_all refine' itemL ?k1 ?k2 ?k3 ?k4 ?k5 ?_ ?k6; (case k1 => k_asm); (case k2 => k_mem); (case k3 => omega); (case k4 => omega); (case k5 => assumption); (case k6 => with_unfolding_all rfl); k_whole)) | (k_here; (with_reducible show wpAny _ _ (exec (Stmt.Assign _ (Expr.ListComp _ [Comprehension.mk _ _ [] _] _ _) _) _) _ _ _); k_dflt (refine assignCell (by k_asm) (by rfl) (by with_unfolding_all rfl) (by with_unfolding_all rfl) (by intro h; rfl) (by intro c; rfl) (by rfl) (by decide) (by rfl) (by rfl) (by rfl) ?_)) | (k_here; (with_reducible show wpAny _ _ (exec (Stmt.Assign _ (Expr.ListComp _ [Comprehension.mk _ _ [] _] _ _) _) _) _ _ _); k_dflt (refine LCg.Assign_ListComp_U (F₀ := by k_asm) (by rfl) (by with_unfolding_all rfl) (by with_unfolding_all rfl) (by decide) (by rfl) (by decide) (by rfl) (by rfl) (by rfl) ?_)) | (k_here; (with_reducible show wpAny _ _ (eval (Expr.ListComp _ [Comprehension.mk _ _ [] _] _ _) _) _ _ _); k_dflt (refine LCg.ListComp_U (F₀ := by k_asm) (by with_unfolding_all rfl) (by decide) (by rfl) (by decide) (by rfl) ?_)) | (k_here; (with_reducible show wpAny _ _ (exec (Stmt.Assign _ (Expr.ListComp _ [Comprehension.mk _ _ [_] _] _ _) _) _) _ _ _); k_dflt (refine LCt.Assign_ListComp_T (F₀ := by k_asm) (by rfl) (by with_unfolding_all rfl) (by with_unfolding_all rfl) (by decide) (by rfl) (by decide) (by rfl) (by rfl) (by rfl) ?_)) | (k_here; (with_reducible show wpAny _ _ (eval (Expr.ListComp _ [Comprehension.mk _ _ [_] _] _ _) _) _ _ _); k_dflt (refine LCt.ListComp_T (F₀ := by k_asm) (by with_unfolding_all rfl) (by decide) (by rfl) (by decide) (by rfl) ?_)) | (k_here; (with_reducible show wpAny _ _ (call (Value.builtin "isinstance") [Value.bool _, Value.type "bool"]) _ _ _); (refine PySem.IsiPair.bool_bool ?_)) | walk1)
          rename_i kF kN Tc kX
          have hfin : (b6 == ((zs.length : Int) == 0)) = true := by
            rw [hb6, hless, hzs]
            exact beq_self_eq_true _
          rw [hfin]
          refine hret _ [] _ op4 hop4 kF (kst_newsOf kN ?_) hG4 (ho4.trans ho3) (fun _ _ _ h => nomatch h) (fun _ h => nomatch h) ⟨rfl, rfl⟩
          intro p hp
          rcases List.mem_cons.mp hp with rfl | hp
          · exact .tail _ (.head _)
          · exact .tail _ (.tail _ (hnR2 p hp))
end
section
open PySem PySem.W PyProof.Rows PySem.Spec PySem.Calls
theorem CtB.use {Pre : Heap → Prop} {k : Nat} {w : World} {f : Addr} {news : List (Addr × Obj)} {vs : List Value} {Post : Value → List (Addr × Obj) → Prop} (C : CtB Pre k w f news vs Post)
  {p₀ : Program} {lo₀ : List Str} {mean : ExcName → Option Value} {mg mb : Str → Option Value} {dp un : Nat} {gd : Option (List Code)} {cn : Str} {cs : Scope} {a : Addr} {ccd : Value} {cl : List (Str × Addr)} {outer : List Env} {A₀ : Around} {base h₀ : Heap} {L : Addr} {m : Str → Option Value} {s : Shared} {Q E : Value → Shared → Prop}
  (B : Below A₀ base outer h₀) (F : Fr h₀ L s.heap m) (X : (hd.heap_39 w.params).In h₀) (N : News h₀ L s.heap news) (T : Top p₀ lo₀ mean mg mb h₀) (hk : cs.kind = .function)
  (hd : dp + 4 * k < recursionLimit) (hu : un + 96 * k < cLine) (hP : Pre h₀)
  (ret : ∀ r tl h' tk', Fr h₀ L h' m → News h₀ L h' (tl ++ news) → (∀ q ∈ news, ∀ p ∈ tl, q.1 < p.1) → Post r tl → Q r { s with heap := h', toks := tk' }) :
  wpAny (model PySem.Challenge.rw_mg0085_01.row.prog w) (ktrTop dp un gd cn cs L a ccd cl outer) (call (.ref f) vs) Q E s :=
  C _ _ _ _ _ _ _ _ _ _ _ _ _ _ _ _ _ _ _ _ _ _ B F X N T hk hd hu hP ret
section
variable {prog : Program} {w : World} {A : Around} {E : Value → Shared → Prop} {s : Shared} {h₀ : Heap} {L : Addr} {news : List (Addr × Obj)}
def TailsObj (o : Obj) : Prop := ∃ t0 t1 t2 t3 t4 t5 t6 t7 : Tok, o = W.listOf #[.str (Str.ofString "") t0, .str (Str.ofString "x") t1, .str (Str.ofString "x \t") t2, .str (Str.ofString "\n\t") t3, .str (Str.ofString "\x0c ") t4, .str (Str.ofString "\r") t5, .str (Str.ofString "\u00a0 ") t6, .str (Str.ofString "\x0b\t") t7] 0
theorem tailItem {value slice : PySem.Expr} {l : Addr} {o : Obj} {k : Int} {u : Tok} {Q : Value → Shared → Prop} (N : News h₀ L s.heap news)
    (hm : (l, o) ∈ news) (ho : TailsObj o) (h0 : 0 ≤ k) (h8 : k < 8)
    (h : ∀ y t, y = tailsL.getD k.toNat (Str.ofString "") → y.length ≤ 3 → Q (.str y t) s)
    (hs : subscripted slice false (.ref l) (.int k u) = operate [.ref l, .int k u] (getItem (.ref l) (.int k u)) := by with_unfolding_all rfl) :
    wpAny (model prog w) A (subscriptTail value slice (.ref l) (.int k u)) Q E s := by
  obtain ⟨t0, t1, t2, t3, t4, t5, t6, t7, rfl⟩ := ho
  obtain ⟨t, ht⟩ := tails_at (t0 := t0) (t1 := t1) (t2 := t2) (t3 := t3) (t4 := t4) (t5 := t5) (t6 := t6) (t7 := t7) h0 h8
  have hl : k.toNat < tailsL.length := by show _ < 8; omega
  refine itemL N hm h0 (by omega) ht (h _ t rfl ?_) hs
  exact (tail_facts (by rw [List.getD_eq_getElem?_getD, List.getElem?_eq_getElem hl]; exact List.getElem_mem hl)).1
theorem three {i : Nat} (h : i < 3) : i = 0 ∨ i = 1 ∨ i = 2 := by omega
theorem toNat0 (i : Nat) : (0 + (i : Int)).toNat = i := by omega
theorem after3 {i : Nat} (h : i < 3) : ∃ j : Nat, j < 3 ∧ (0 + (i : Int) + 1).fmod 3 = (j : Int) := by
  rcases three h with rfl | rfl | rfl
  · exact ⟨1, by decide, by decide⟩
  · exact ⟨2, by decide, by decide⟩
  · exact ⟨0, by decide, by decide⟩
theorem news_tails {h : Heap} {lT lL : Addr} {f g : Str} {t0 t1 t2 t3 t4 t5 t6 t7 u1 u2 u4 : Tok} {rest : List (Addr × Obj)}
    (N : News h₀ L h ((lT, W.listOf #[.str (Str.ofString "") t0, .str (Str.ofString "x") t1, .str (Str.ofString "x \t") t2, .str (Str.ofString "\n\t") t3, .str (Str.ofString "\x0c ") t4, .str (Str.ofString "\r") t5, .str (Str.ofString "\u00a0 ") t6, .str (Str.ofString "\x0b\t") t7] 0) :: (lL, W.listOf #[.str f u1, .str g u2, .str (turnOf f) u4] 0) :: rest)) :
    ∃ (lvs : List Value) (o : Obj), TailsObj o ∧ Lst (fun j v => ∃ t, v = .str (ldOf f g j) t) lvs 3 ∧ News h₀ L h ((lT, o) :: (lL, W.listOf lvs.toArray 0) :: rest) := by
  refine ⟨[.str f u1, .str g u2, .str (turnOf f) u4], _, ⟨t0, t1, t2, t3, t4, t5, t6, t7, rfl⟩, ⟨rfl, ?_⟩, N⟩
  intro j hj
  rcases three hj with rfl | rfl | rfl <;> exact ⟨_, rfl, _, rfl⟩
theorem perm_f {α : Type} {a b x c d z e u f : α} : ∀ p ∈ [a, b, c, d, e, f], p ∈ [a, b, x, c, d, z, e, u, f] := by
  intro p hp
  simp only [List.mem_cons, List.not_mem_nil, or_false] at hp ⊢
  rcases hp with h | h | h | h | h | h <;> simp only [h, true_or, or_true]
theorem news_sizes {h : Heap} {lS : Addr} {tally : Int} {a1 a2 a3 a4 a5 a6 a7 a8 a9 : Tok} {b x c d z e u f : Addr × Obj}
    (N : News h₀ L h [(lS, W.listOf #[.int 1 a1, .int 2 a2, .int 3 a3, .int 4 a4, .int 5 a5, .int 6 a6, .int 7 a7, .int 8 a8, .int (tally + 9) a9] 0), b, x, c, d, z, e, u, f]) :
    ∃ svs : List Value, IntsAre svs (sizesOf tally) ∧ News h₀ L h [(lS, W.listOf svs.toArray 0), b, c, d, e, f] :=
  ⟨[.int 1 a1, .int 2 a2, .int 3 a3, .int 4 a4, .int 5 a5, .int 6 a6, .int 7 a7, .int 8 a8, .int (tally + 9) a9], .cons _ _ (.cons _ _ (.cons _ _ (.cons _ _ (.cons _ _ (.cons _ _ (.cons _ _ (.cons _ _ (.cons _ _ .nil)))))))), kst_newsOf N perm_f⟩
theorem perm_a {α : Type} {d a b c e f g : α} {t : List α} : ∀ p ∈ d :: a :: b :: c :: e :: f :: g :: t, p ∈ d :: (t ++ [a, b, c, e, f, g]) := by
  intro p hp
  simp only [List.mem_cons, List.mem_append, List.not_mem_nil, or_false] at hp ⊢
  rcases hp with h | h | h | h | h | h | h | h <;> simp only [h, true_or, or_true]
theorem perm_b {α : Type} {x a b c d e f g i j k l : α} {t : List α} : ∀ p ∈ a :: b :: c :: d :: e :: f :: g :: i :: j :: k :: l :: x :: t, p ∈ x :: a :: b :: c :: d :: e :: f :: g :: i :: j :: k :: l :: t := by
  intro p hp
  simp only [List.mem_cons] at hp ⊢
  rcases hp with h | h | h | h | h | h | h | h | h | h | h | h | h <;> simp only [h, true_or, or_true]
theorem perm_c {α : Type} {x e f g i j k l : α} {t : List α} : ∀ p ∈ e :: f :: g :: i :: j :: k :: l :: x :: t, p = x ∨ p ∈ e :: f :: g :: i :: j :: k :: l :: t := by
  intro p hp
  simp only [List.mem_cons] at hp ⊢
  rcases hp with h | h | h | h | h | h | h | h | h <;> simp only [h, true_or, or_true]
theorem perm_d {α : Type} {x a b c d e f g i : α} {t : List α} : ∀ p ∈ x :: a :: b :: c :: d :: e :: f :: g :: i :: t, p ∈ a :: b :: c :: d :: e :: f :: g :: i :: x :: t := by
  intro p hp
  simp only [List.mem_cons] at hp ⊢
  rcases hp with h | h | h | h | h | h | h | h | h | h <;> simp only [h, true_or, or_true]
theorem perm_e {α : Type} {a b : α} {t : List α} : ∀ p ∈ a :: b :: t, p ∈ b :: a :: t := by
  intro p hp
  simp only [List.mem_cons] at hp ⊢
  rcases hp with h | h | h <;> simp only [h, true_or, or_true]
theorem sub3 {α : Type} {a b c : α} {x y : List α} : ∀ p ∈ a :: b :: c :: (x ++ y), p ∈ x ++ a :: b :: c :: y := by
  intro p hp
  rcases List.mem_cons.mp hp with rfl | hp
  · exact List.mem_append_right _ (.head _)
  rcases List.mem_cons.mp hp with rfl | hp
  · exact List.mem_append_right _ (.tail _ (.head _))
  rcases List.mem_cons.mp hp with rfl | hp
  · exact List.mem_append_right _ (.tail _ (.tail _ (.head _)))
  rcases List.mem_append.mp hp with hp | hp
  · exact List.mem_append_left _ hp
  · exact List.mem_append_right _ (.tail _ (.tail _ (.tail _ hp)))
theorem off3_more {I C D : Addr} {oI oC oD : Obj} {x y : List (Addr × Obj)} (h : ∀ q ∈ (I, oI) :: (C, oC) :: (D, oD) :: y, ∀ p ∈ x, q.1 < p.1) (off : LCg.Off3 I C D y) : LCg.Off3 I C D (x ++ y) := by
  refine LCg.Off3.of fun p hp => ?_
  rcases List.mem_append.mp hp with hp | hp
  · exact ⟨Nat.ne_of_gt (h (I, oI) (.head _) p hp), Nat.ne_of_gt (h (C, oC) (.tail _ (.head _)) p hp), Nat.ne_of_gt (h (D, oD) (.tail _ (.tail _ (.head _))) p hp)⟩
  · exact off.mem p hp
end
set_option maxRecDepth 100000 in
set_option maxHeartbeats 8000000 in
theorem law_holds : PySem.Challenge.rw_mg0085_01.Holds := by
  refine hd ?_
  w_on
  k_fill
  intro w s₀ s₁ mg mb G Y fa o pm cd doc dV kV ho hd' hcd hD hmg hg args vals as hpre hlay hrd hwl hlo
  have KX := kIn_of Y
  have X := (Ground.X G).1
  have V := (Ground.X G).2
  refine Ground.open G ?_
  intro T B D TE TW
  try (refine guard_noD D (by decide +kernel) ?_; clear D)
  have hT9 : TabsAt ([(86, 82)] : List (Addr × Addr)) _ := List.forall_mem_cons.mpr ⟨tab_of (x := PySem.Str.ofString "format_witnesses") (c := 86) (P := 82) T KX rfl (by kernel_rfl), fun _ h => nomatch h⟩
  wrow_args hpre hlay hrd hwl hlo
  all_goals (first | refine callC_kw (enter_call ?_) | refine enter_call ?_)
  w_top on
  refine law_post hT9 (fun _ _ => rfl) ?_
  refine law_gen (postW_of rfl (w_eq_bool (w_res rfl) w_lit) rfl) ?_
  intro LE hend
  w_call any ho hd' hcd hD T F
  clear hd'
  rename News _ _ _ _ => N
  have l0 := ghost_lt hT9 F
  have X' := ghost_K hT9 KX (by kernel_rfl)
  have T' := ghost_top hT9 T
  have K' := ghost_below hT9
  have N' := ghost_news hT9 F N
  have F' := ghost_fr hT9 F
  rename Heap.IsList _ _ _ => hSL
  have hSL' := ghost_list hT9 hSL
  have l82 : @LT.lt Nat _ 82 s₁.heap.objs.size := l0 _ (.head _)
  rename IntsAre _ _ => hI
  rename ¬ _ < _ => h63
  rename CellsAre _ _ _ => X0
  clear X0
  simp only [tabNews, List.map_cons, List.map_nil, List.nil_append, List.cons_append] at N'
  rename_i vsN z1 z2 z3 z4 z5 z6 z7 scA vsV z8 z9 z10 z11 z12 z13 h1 tk1 c4 c3 c2 c1 hc4 hc3 hc2 hc1
  clear N F KX X V T B TE TW hSL Y G l0 hmg ho hcd hD z9 z10 z11 z12 z13 z1 z2 z3 z4 z5
  generalize ghostOf s₁.heap [(86, 82)] = g₀ at *
  generalize s₁.heap.objs.size = L₀ at *
  clear hT9
  generalize s₁.gens = G9 at *
  generalize s₁.drawn = Dr9 at *
  generalize s₁.os = O9 at *
  subst hg
  refine wpAny_mono (E := fun _ _ => False) ?_ (fun _ _ h => h) (fun _ _ h => h.elim)
  replace hc1 : ∃ x, c1.data = Data.cell x := ⟨_, hc1⟩
  replace hc2 : ∃ x, c2.data = Data.cell x := ⟨_, hc2⟩
  replace hc3 : ∃ x, c3.data = Data.cell x := ⟨_, hc3⟩
  replace hc4 : ∃ x, c4.data = Data.cell x := ⟨_, hc4⟩
  obtain ⟨x1, hc1⟩ := hc1
  obtain ⟨x2, hc2⟩ := hc2
  obtain ⟨x3, hc3⟩ := hc3
  obtain ⟨x4, hc4⟩ := hc4
  have h63' : vsN.length ≤ 63 := by omega
  have kM : KstMark := kstMark
  repeat' (fail_if_success (with_reducible show wpAny _ _ (pyIter _) _ _ _)); (fail_if_success (with_reducible show LCg.CompSrc _ _ _ _ _ _ _ _ _ _ _ _ _ _)); (fail_if_success (with_reducible show LCt.CompSrcT _ _ _ _ _ _ _ _ _ _ _ _ _ _ _)); (fail_if_success (with_reducible show LCg.CompEnd _ _ _ _ _ _ _ _ _ _ _ _ _ _)); (fail_if_success (with_reducible show CellEnd _ _ _ _ _ _ _ _ _ _ _ _ _ _ _ _)); (fail_if_success (with_reducible show wpAny _ _ (call (Value.ref _) _) _ _ _)); (fail_if_success (with_reducible show wpAny _ _ (compareOp _ (Value.ref _) (Value.ref _)) _ _ _)); first | (k_unfold; (try dsimp only)) | (k_here; (with_reducible show wpAny _ _ (subscriptTail _ _ (Value.ref _) (Value.int (Int.fmod _ _) _)) _ _ _); (with_unfolding_all refine' tailItem ?k1 ?k2 ?kT ?k3 ?k4 ?_ ?k6; (case k1 => k_asm); (case k2 => k_mem); (case kT => assumption); (case k3 => exact fmod_lo _ (by decide)); (case k4 => exact fmod_hi _ (by decide)); (case k6 => with_unfolding_all rfl); k_whole); intro y' t' e' l') | (k_here; (with_reducible show wpAny _ _ (subscriptTail _ _ (Value.ref _) (Value.int _ _)) _ _ _); (with_unfolding_all refine' itemL ?k1 ?k2 ?k3 ?k4 ?k5 ?_ ?k6; (case k1 => k_asm); (case k2 => k_mem); (case k3 => omega); (case k4 => omega); (case k5 => assumption); (case k6 => with_unfolding_all rfl); k_whole)) | (k_here; (with_reducible show wpAny _ _ (call (Value.builtin "str.split") _) _ _ _); (refine KSpl.split1 (by k_asm) (by k_asm) (by decide) ?_ (by (rw [PySem.sizeLine_eq]; omega))); intro D1 l h1 kk hsp hSA F6 N7 lt1; (try k_lt lt1); (try dsimp only)) | (k_here; (with_reducible show wpAny _ _ (exec (Stmt.For (Expr.Name _ _) (Expr.Call _ _ _ _) _ _ _) _) _ _ _); (rename Fr _ _ _ _ => lF'); (with_unfolding_all refine' forG lF' ?k1 ?k2 ?_; (case k1 => exact rfl); (case k2 => exact rfl); k_whole)) | (k_here; (with_reducible show wpAny _ _ (exec (Stmt.Assign _ (Expr.ListComp _ [Comprehension.mk _ _ [] _] _ _) _) _) _ _ _); k_dflt (refine assignCell (by k_asm) (by rfl) (by with_unfolding_all rfl) (by with_unfolding_all rfl) (by intro h; rfl) (by intro c; rfl) (by rfl) (by decide) (by rfl) (by rfl) (by rfl) ?_)) | (k_here; (with_reducible show wpAny _ _ (exec (Stmt.Assign _ (Expr.ListComp _ [Comprehension.mk _ _ [] _] _ _) _) _) _ _ _); k_dflt (refine LCg.Assign_ListComp_U (F₀ := by k_asm) (by rfl) (by with_unfolding_all rfl) (by with_unfolding_all rfl) (by decide) (by rfl) (by decide) (by rfl) (by rfl) (by rfl) ?_)) | (k_here; (with_reducible show wpAny _ _ (eval (Expr.ListComp _ [Comprehension.mk _ _ [] _] _ _) _) _ _ _); k_dflt (refine LCg.ListComp_U (F₀ := by k_asm) (by with_unfolding_all rfl) (by decide) (by rfl) (by decide) (by rfl) ?_)) | walk1 | (dsimp only; first | (k_here; (with_reducible show wpAny _ _ (subscriptTail _ _ (Value.ref _) (Value.int (Int.fmod _ _) _)) _ _ _); (with_unfolding_all refine' tailItem ?k1 ?k2 ?kT ?k3 ?k4 ?_ ?k6; (case k1 => k_asm); (case k2 => k_mem); (case kT => assumption); (case k3 => exact fmod_lo _ (by decide)); (case k4 => exact fmod_hi _ (by decide)); (case k6 => with_unfolding_all rfl); k_whole); intro y' t' e' l') | (k_here; (with_reducible show wpAny _ _ (subscriptTail _ _ (Value.ref _) (Value.int _ _)) _ _ _); (with_unfolding_all refine' itemL ?k1 ?k2 ?k3 ?k4 ?k5 ?_ ?k6; (case k1 => k_asm); (case k2 => k_mem); (case k3 => omega); (case k4 => omega); (case k5 => assumption); (case k6 => with_unfolding_all rfl); k_whole)) | (k_here; (with_reducible show wpAny _ _ (call (Value.builtin "str.split") _) _ _ _); (refine KSpl.split1 (by k_asm) (by k_asm) (by decide) ?_ (by (rw [PySem.sizeLine_eq]; omega))); intro D1 l h1 kk hsp hSA F6 N7 lt1; (try k_lt lt1); (try dsimp only)) | (k_here; (with_reducible show wpAny _ _ (exec (Stmt.For (Expr.Name _ _) (Expr.Call _ _ _ _) _ _ _) _) _ _ _); (rename Fr _ _ _ _ => lF'); (with_unfolding_all refine' forG lF' ?k1 ?k2 ?_; (case k1 => exact rfl); (case k2 => exact rfl); k_whole)) | (k_here; (with_reducible show wpAny _ _ (exec (Stmt.Assign _ (Expr.ListComp _ [Comprehension.mk _ _ [] _] _ _) _) _) _ _ _); k_dflt (refine assignCell (by k_asm) (by rfl) (by with_unfolding_all rfl) (by with_unfolding_all rfl) (by intro h; rfl) (by intro c; rfl) (by rfl) (by decide) (by rfl) (by rfl) (by rfl) ?_)) | (k_here; (with_reducible show wpAny _ _ (exec (Stmt.Assign _ (Expr.ListComp _ [Comprehension.mk _ _ [] _] _ _) _) _) _ _ _); k_dflt (refine LCg.Assign_ListComp_U (F₀ := by k_asm) (by rfl) (by with_unfolding_all rfl) (by with_unfolding_all rfl) (by decide) (by rfl) (by decide) (by rfl) (by rfl) (by rfl) ?_)) | (k_here; (with_reducible show wpAny _ _ (eval (Expr.ListComp _ [Comprehension.mk _ _ [] _] _ _) _) _ _ _); k_dflt (refine LCg.ListComp_U (F₀ := by k_asm) (by with_unfolding_all rfl) (by decide) (by rfl) (by decide) (by rfl) ?_)) | walk1)
  k_dflt (refine' CtB.use (drawn_c _ _ scA vsV vsN hI h63') ?k1 ?k2 ?k3 ?k4 ?k5 ?kK ?kd ?ku ?kP ?_; (case k1 => k_asm); (case k2 => k_asm); (case k3 => k_asm); (case k4 => k_asm); (case k5 => k_asm); (case kK => first | exact rfl | assumption); (case kd => ktr_room); (case ku => ktr_units); (case kP => exact hSL'); k_whole)
  intro r9 tl9 h9 tk9 F9 N9 hl9 hp9
  obtain ⟨xD, f, g, tally, t1, t2, t3, e9, e8, hLf, hLg, ht0, ht1⟩ := hp9
  subst e9
  subst e8
  have q1 : @LT.lt Nat _ (L₀ + 1 + 1 + 1 + 1) xD := hl9 _ (.head _) _ (.head _)
  clear F' N' hl9
  obtain ⟨m9, F9m⟩ : ∃ m', Fr g₀ L₀ h9 m' := ⟨_, F9⟩
  clear F9
  simp only [List.cons_append, List.nil_append] at N9
  try dsimp only
  repeat' (fail_if_success (with_reducible show wpAny _ _ (pyIter _) _ _ _)); (fail_if_success (with_reducible show LCg.CompSrc _ _ _ _ _ _ _ _ _ _ _ _ _ _)); (fail_if_success (with_reducible show LCt.CompSrcT _ _ _ _ _ _ _ _ _ _ _ _ _ _ _)); (fail_if_success (with_reducible show LCg.CompEnd _ _ _ _ _ _ _ _ _ _ _ _ _ _)); (fail_if_success (with_reducible show CellEnd _ _ _ _ _ _ _ _ _ _ _ _ _ _ _ _)); (fail_if_success (with_reducible show wpAny _ _ (call (Value.ref _) _) _ _ _)); (fail_if_success (with_reducible show wpAny _ _ (compareOp _ (Value.ref _) (Value.ref _)) _ _ _)); first | (k_unfold; (try dsimp only)) | (k_here; (with_reducible show wpAny _ _ (subscriptTail _ _ (Value.ref _) (Value.int (Int.fmod _ _) _)) _ _ _); (with_unfolding_all refine' tailItem ?k1 ?k2 ?kT ?k3 ?k4 ?_ ?k6; (case k1 => k_asm); (case k2 => k_mem); (case kT => assumption); (case k3 => exact fmod_lo _ (by decide)); (case k4 => exact fmod_hi _ (by decide)); (case k6 => with_unfolding_all rfl); k_whole); intro y' t' e' l') | (k_here; (with_reducible show wpAny _ _ (subscriptTail _ _ (Value.ref _) (Value.int _ _)) _ _ _); (with_unfolding_all refine' itemL ?k1 ?k2 ?k3 ?k4 ?k5 ?_ ?k6; (case k1 => k_asm); (case k2 => k_mem); (case k3 => omega); (case k4 => omega); (case k5 => assumption); (case k6 => with_unfolding_all rfl); k_whole)) | (k_here; (with_reducible show wpAny _ _ (call (Value.builtin "str.split") _) _ _ _); (refine KSpl.split1 (by k_asm) (by k_asm) (by decide) ?_ (by (rw [PySem.sizeLine_eq]; omega))); intro D1 l h1 kk hsp hSA F6 N7 lt1; (try k_lt lt1); (try dsimp only)) | (k_here; (with_reducible show wpAny _ _ (exec (Stmt.For (Expr.Name _ _) (Expr.Call _ _ _ _) _ _ _) _) _ _ _); (rename Fr _ _ _ _ => lF'); (with_unfolding_all refine' forG lF' ?k1 ?k2 ?_; (case k1 => exact rfl); (case k2 => exact rfl); k_whole)) | (k_here; (with_reducible show wpAny _ _ (exec (Stmt.Assign _ (Expr.ListComp _ [Comprehension.mk _ _ [] _] _ _) _) _) _ _ _); k_dflt (refine assignCell (by k_asm) (by rfl) (by with_unfolding_all rfl) (by with_unfolding_all rfl) (by intro h; rfl) (by intro c; rfl) (by rfl) (by decide) (by rfl) (by rfl) (by rfl) ?_)) | (k_here; (with_reducible show wpAny _ _ (exec (Stmt.Assign _ (Expr.ListComp _ [Comprehension.mk _ _ [] _] _ _) _) _) _ _ _); k_dflt (refine LCg.Assign_ListComp_U (F₀ := by k_asm) (by rfl) (by with_unfolding_all rfl) (by with_unfolding_all rfl) (by decide) (by rfl) (by decide) (by rfl) (by rfl) (by rfl) ?_)) | (k_here; (with_reducible show wpAny _ _ (eval (Expr.ListComp _ [Comprehension.mk _ _ [] _] _ _) _) _ _ _); k_dflt (refine LCg.ListComp_U (F₀ := by k_asm) (by with_unfolding_all rfl) (by decide) (by rfl) (by decide) (by rfl) ?_)) | walk1 | (dsimp only; first | (k_here; (with_reducible show wpAny _ _ (subscriptTail _ _ (Value.ref _) (Value.int (Int.fmod _ _) _)) _ _ _); (with_unfolding_all refine' tailItem ?k1 ?k2 ?kT ?k3 ?k4 ?_ ?k6; (case k1 => k_asm); (case k2 => k_mem); (case kT => assumption); (case k3 => exact fmod_lo _ (by decide)); (case k4 => exact fmod_hi _ (by decide)); (case k6 => with_unfolding_all rfl); k_whole); intro y' t' e' l') | (k_here; (with_reducible show wpAny _ _ (subscriptTail _ _ (Value.ref _) (Value.int _ _)) _ _ _); (with_unfolding_all refine' itemL ?k1 ?k2 ?k3 ?k4 ?k5 ?_ ?k6; (case k1 => k_asm); (case k2 => k_mem); (case k3 => omega); (case k4 => omega); (case k5 => assumption); (case k6 => with_unfolding_all rfl); k_whole)) | (k_here; (with_reducible show wpAny _ _ (call (Value.builtin "str.split") _) _ _ _); (refine KSpl.split1 (by k_asm) (by k_asm) (by decide) ?_ (by (rw [PySem.sizeLine_eq]; omega))); intro D1 l h1 kk hsp hSA F6 N7 lt1; (try k_lt lt1); (try dsimp only)) | (k_here; (with_reducible show wpAny _ _ (exec (Stmt.For (Expr.Name _ _) (Expr.Call _ _ _ _) _ _ _) _) _ _ _); (rename Fr _ _ _ _ => lF'); (with_unfolding_all refine' forG lF' ?k1 ?k2 ?_; (case k1 => exact rfl); (case k2 => exact rfl); k_whole)) | (k_here; (with_reducible show wpAny _ _ (exec (Stmt.Assign _ (Expr.ListComp _ [Comprehension.mk _ _ [] _] _ _) _) _) _ _ _); k_dflt (refine assignCell (by k_asm) (by rfl) (by with_unfolding_all rfl) (by with_unfolding_all rfl) (by intro h; rfl) (by intro c; rfl) (by rfl) (by decide) (by rfl) (by rfl) (by rfl) ?_)) | (k_here; (with_reducible show wpAny _ _ (exec (Stmt.Assign _ (Expr.ListComp _ [Comprehension.mk _ _ [] _] _ _) _) _) _ _ _); k_dflt (refine LCg.Assign_ListComp_U (F₀ := by k_asm) (by rfl) (by with_unfolding_all rfl) (by with_unfolding_all rfl) (by decide) (by rfl) (by decide) (by rfl) (by rfl) (by rfl) ?_)) | (k_here; (with_reducible show wpAny _ _ (eval (Expr.ListComp _ [Comprehension.mk _ _ [] _] _ _) _) _ _ _); k_dflt (refine LCg.ListComp_U (F₀ := by k_asm) (by with_unfolding_all rfl) (by decide) (by rfl) (by decide) (by rfl) ?_)) | walk1)
  rename News _ _ _ _ => N2
  replace N2 := kst_newsOf N2 fun p hp => List.Mem.tail _ hp
  have hf6 := hLf.len
  have hg6 := hLg.len
  have hu6 := (lead_turn hLf).len
  k_dflt (refine' Ct.useV (turned_c _ _ f t1 hLf.len) ?k1 ?k2 ?k3 ?k4 ?k5 ?kK ?kd ?ku ?_; (case k1 => k_asm); (case k2 => k_asm); (case k3 => k_asm); (case k4 => k_asm); (case k5 => k_asm); (case kK => first | exact rfl | assumption); (case kd => ktr_room); (case ku => ktr_units); k_whole)
  intro t4 h9 tk9 F9 N9
  try dsimp only
  repeat' (fail_if_success (with_reducible show wpAny _ _ (pyIter _) _ _ _)); (fail_if_success (with_reducible show LCg.CompSrc _ _ _ _ _ _ _ _ _ _ _ _ _ _)); (fail_if_success (with_reducible show LCt.CompSrcT _ _ _ _ _ _ _ _ _ _ _ _ _ _ _)); (fail_if_success (with_reducible show LCg.CompEnd _ _ _ _ _ _ _ _ _ _ _ _ _ _)); (fail_if_success (with_reducible show CellEnd _ _ _ _ _ _ _ _ _ _ _ _ _ _ _ _)); (fail_if_success (with_reducible show wpAny _ _ (call (Value.ref _) _) _ _ _)); (fail_if_success (with_reducible show wpAny _ _ (compareOp _ (Value.ref _) (Value.ref _)) _ _ _)); (fail_if_success (with_reducible show wpAny _ _ (exec (Stmt.Assign _ (Expr.ListComp _ _ _ _) _) _) _ _ _)); first | (k_unfold; (try dsimp only)) | (k_here; (with_reducible show wpAny _ _ (subscriptTail _ _ (Value.ref _) (Value.int (Int.fmod _ _) _)) _ _ _); (with_unfolding_all refine' tailItem ?k1 ?k2 ?kT ?k3 ?k4 ?_ ?k6; (case k1 => k_asm); (case k2 => k_mem); (case kT => assumption); (case k3 => exact fmod_lo _ (by decide)); (case k4 => exact fmod_hi _ (by decide)); (case k6 => with_unfolding_all rfl); k_whole); intro y' t' e' l') | (k_here; (with_reducible show wpAny _ _ (subscriptTail _ _ (Value.ref _) (Value.int _ _)) _ _ _); (with_unfolding_all refine' itemL ?k1 ?k2 ?k3 ?k4 ?k5 ?_ ?k6; (case k1 => k_asm); (case k2 => k_mem); (case k3 => omega); (case k4 => omega); (case k5 => assumption); (case k6 => with_unfolding_all rfl); k_whole)) | (k_here; (with_reducible show wpAny _ _ (call (Value.builtin "str.split") _) _ _ _); (refine KSpl.split1 (by k_asm) (by k_asm) (by decide) ?_ (by (rw [PySem.sizeLine_eq]; omega))); intro D1 l h1 kk hsp hSA F6 N7 lt1; (try k_lt lt1); (try dsimp only)) | (k_here; (with_reducible show wpAny _ _ (exec (Stmt.For (Expr.Name _ _) (Expr.Call _ _ _ _) _ _ _) _) _ _ _); (rename Fr _ _ _ _ => lF'); (with_unfolding_all refine' forG lF' ?k1 ?k2 ?_; (case k1 => exact rfl); (case k2 => exact rfl); k_whole)) | (k_here; (with_reducible show wpAny _ _ (exec (Stmt.Assign _ (Expr.ListComp _ [Comprehension.mk _ _ [] _] _ _) _) _) _ _ _); k_dflt (refine assignCell (by k_asm) (by rfl) (by with_unfolding_all rfl) (by with_unfolding_all rfl) (by intro h; rfl) (by intro c; rfl) (by rfl) (by decide) (by rfl) (by rfl) (by rfl) ?_)) | (k_here; (with_reducible show wpAny _ _ (exec (Stmt.Assign _ (Expr.ListComp _ [Comprehension.mk _ _ [] _] _ _) _) _) _ _ _); k_dflt (refine LCg.Assign_ListComp_U (F₀ := by k_asm) (by rfl) (by with_unfolding_all rfl) (by with_unfolding_all rfl) (by decide) (by rfl) (by decide) (by rfl) (by rfl) (by rfl) ?_)) | (k_here; (with_reducible show wpAny _ _ (eval (Expr.ListComp _ [Comprehension.mk _ _ [] _] _ _) _) _ _ _); k_dflt (refine LCg.ListComp_U (F₀ := by k_asm) (by with_unfolding_all rfl) (by decide) (by rfl) (by decide) (by rfl) ?_)) | walk1 | (dsimp only; first | (k_here; (with_reducible show wpAny _ _ (subscriptTail _ _ (Value.ref _) (Value.int (Int.fmod _ _) _)) _ _ _); (with_unfolding_all refine' tailItem ?k1 ?k2 ?kT ?k3 ?k4 ?_ ?k6; (case k1 => k_asm); (case k2 => k_mem); (case kT => assumption); (case k3 => exact fmod_lo _ (by decide)); (case k4 => exact fmod_hi _ (by decide)); (case k6 => with_unfolding_all rfl); k_whole); intro y' t' e' l') | (k_here; (with_reducible show wpAny _ _ (subscriptTail _ _ (Value.ref _) (Value.int _ _)) _ _ _); (with_unfolding_all refine' itemL ?k1 ?k2 ?k3 ?k4 ?k5 ?_ ?k6; (case k1 => k_asm); (case k2 => k_mem); (case k3 => omega); (case k4 => omega); (case k5 => assumption); (case k6 => with_unfolding_all rfl); k_whole)) | (k_here; (with_reducible show wpAny _ _ (call (Value.builtin "str.split") _) _ _ _); (refine KSpl.split1 (by k_asm) (by k_asm) (by decide) ?_ (by (rw [PySem.sizeLine_eq]; omega))); intro D1 l h1 kk hsp hSA F6 N7 lt1; (try k_lt lt1); (try dsimp only)) | (k_here; (with_reducible show wpAny _ _ (exec (Stmt.For (Expr.Name _ _) (Expr.Call _ _ _ _) _ _ _) _) _ _ _); (rename Fr _ _ _ _ => lF'); (with_unfolding_all refine' forG lF' ?k1 ?k2 ?_; (case k1 => exact rfl); (case k2 => exact rfl); k_whole)) | (k_here; (with_reducible show wpAny _ _ (exec (Stmt.Assign _ (Expr.ListComp _ [Comprehension.mk _ _ [] _] _ _) _) _) _ _ _); k_dflt (refine assignCell (by k_asm) (by rfl) (by with_unfolding_all rfl) (by with_unfolding_all rfl) (by intro h; rfl) (by intro c; rfl) (by rfl) (by decide) (by rfl) (by rfl) (by rfl) ?_)) | (k_here; (with_reducible show wpAny _ _ (exec (Stmt.Assign _ (Expr.ListComp _ [Comprehension.mk _ _ [] _] _ _) _) _) _ _ _); k_dflt (refine LCg.Assign_ListComp_U (F₀ := by k_asm) (by rfl) (by with_unfolding_all rfl) (by with_unfolding_all rfl) (by decide) (by rfl) (by decide) (by rfl) (by rfl) (by rfl) ?_)) | (k_here; (with_reducible show wpAny _ _ (eval (Expr.ListComp _ [Comprehension.mk _ _ [] _] _ _) _) _ _ _); k_dflt (refine LCg.ListComp_U (F₀ := by k_asm) (by with_unfolding_all rfl) (by decide) (by rfl) (by decide) (by rfl) ?_)) | walk1)
  rename Fr _ _ _ _ => F0
  rename News _ _ _ _ => N0
  rename_i lL _ l1L _ oL dL lT _ l1T _ oT dT
  obtain ⟨lvs, oTl, hTl, hlv, N0'⟩ := news_tails N0
  obtain ⟨m8, F0'⟩ : ∃ m', Fr g₀ L₀ _ m' := ⟨_, F0⟩
  clear N0 F0
  rename IntsAre vsV _ => hI9
  clear hI9 hSL' h63' h63 q1
  repeat' (fail_if_success (with_reducible show wpAny _ _ (pyIter _) _ _ _)); (fail_if_success (with_reducible show LCg.CompSrc _ _ _ _ _ _ _ _ _ _ _ _ _ _)); (fail_if_success (with_reducible show LCt.CompSrcT _ _ _ _ _ _ _ _ _ _ _ _ _ _ _)); (fail_if_success (with_reducible show LCg.CompEnd _ _ _ _ _ _ _ _ _ _ _ _ _ _)); (fail_if_success (with_reducible show CellEnd _ _ _ _ _ _ _ _ _ _ _ _ _ _ _ _)); (fail_if_success (with_reducible show wpAny _ _ (call (Value.ref _) _) _ _ _)); (fail_if_success (with_reducible show wpAny _ _ (compareOp _ (Value.ref _) (Value.ref _)) _ _ _)); first | (k_unfold; (try dsimp only)) | (k_here; (with_reducible show wpAny _ _ (subscriptTail _ _ (Value.ref _) (Value.int (Int.fmod _ _) _)) _ _ _); (with_unfolding_all refine' tailItem ?k1 ?k2 ?kT ?k3 ?k4 ?_ ?k6; (case k1 => k_asm); (case k2 => k_mem); (case kT => assumption); (case k3 => exact fmod_lo _ (by decide)); (case k4 => exact fmod_hi _ (by decide)); (case k6 => with_unfolding_all rfl); k_whole); intro y' t' e' l') | (k_here; (with_reducible show wpAny _ _ (subscriptTail _ _ (Value.ref _) (Value.int _ _)) _ _ _); (with_unfolding_all refine' itemL ?k1 ?k2 ?k3 ?k4 ?k5 ?_ ?k6; (case k1 => k_asm); (case k2 => k_mem); (case k3 => omega); (case k4 => omega); (case k5 => assumption); (case k6 => with_unfolding_all rfl); k_whole)) | (k_here; (with_reducible show wpAny _ _ (call (Value.builtin "str.split") _) _ _ _); (refine KSpl.split1 (by k_asm) (by k_asm) (by decide) ?_ (by (rw [PySem.sizeLine_eq]; omega))); intro D1 l h1 kk hsp hSA F6 N7 lt1; (try k_lt lt1); (try dsimp only)) | (k_here; (with_reducible show wpAny _ _ (exec (Stmt.For (Expr.Name _ _) (Expr.Call _ _ _ _) _ _ _) _) _ _ _); (rename Fr _ _ _ _ => lF'); (with_unfolding_all refine' forG lF' ?k1 ?k2 ?_; (case k1 => exact rfl); (case k2 => exact rfl); k_whole)) | (k_here; (with_reducible show wpAny _ _ (exec (Stmt.Assign _ (Expr.ListComp _ [Comprehension.mk _ _ [] _] _ _) _) _) _ _ _); k_dflt (refine assignCell (by k_asm) (by rfl) (by with_unfolding_all rfl) (by with_unfolding_all rfl) (by intro h; rfl) (by intro c; rfl) (by rfl) (by decide) (by rfl) (by rfl) (by rfl) ?_)) | (k_here; (with_reducible show wpAny _ _ (exec (Stmt.Assign _ (Expr.ListComp _ [Comprehension.mk _ _ [] _] _ _) _) _) _ _ _); k_dflt (refine LCg.Assign_ListComp_U (F₀ := by k_asm) (by rfl) (by with_unfolding_all rfl) (by with_unfolding_all rfl) (by decide) (by rfl) (by decide) (by rfl) (by rfl) (by rfl) ?_)) | (k_here; (with_reducible show wpAny _ _ (eval (Expr.ListComp _ [Comprehension.mk _ _ [] _] _ _) _) _ _ _); k_dflt (refine LCg.ListComp_U (F₀ := by k_asm) (by with_unfolding_all rfl) (by decide) (by rfl) (by decide) (by rfl) ?_)) | walk1 | (dsimp only; first | (k_here; (with_reducible show wpAny _ _ (subscriptTail _ _ (Value.ref _) (Value.int (Int.fmod _ _) _)) _ _ _); (with_unfolding_all refine' tailItem ?k1 ?k2 ?kT ?k3 ?k4 ?_ ?k6; (case k1 => k_asm); (case k2 => k_mem); (case kT => assumption); (case k3 => exact fmod_lo _ (by decide)); (case k4 => exact fmod_hi _ (by decide)); (case k6 => with_unfolding_all rfl); k_whole); intro y' t' e' l') | (k_here; (with_reducible show wpAny _ _ (subscriptTail _ _ (Value.ref _) (Value.int _ _)) _ _ _); (with_unfolding_all refine' itemL ?k1 ?k2 ?k3 ?k4 ?k5 ?_ ?k6; (case k1 => k_asm); (case k2 => k_mem); (case k3 => omega); (case k4 => omega); (case k5 => assumption); (case k6 => with_unfolding_all rfl); k_whole)) | (k_here; (with_reducible show wpAny _ _ (call (Value.builtin "str.split") _) _ _ _); (refine KSpl.split1 (by k_asm) (by k_asm) (by decide) ?_ (by (rw [PySem.sizeLine_eq]; omega))); intro D1 l h1 kk hsp hSA F6 N7 lt1; (try k_lt lt1); (try dsimp only)) | (k_here; (with_reducible show wpAny _ _ (exec (Stmt.For (Expr.Name _ _) (Expr.Call _ _ _ _) _ _ _) _) _ _ _); (rename Fr _ _ _ _ => lF'); (with_unfolding_all refine' forG lF' ?k1 ?k2 ?_; (case k1 => exact rfl); (case k2 => exact rfl); k_whole)) | (k_here; (with_reducible show wpAny _ _ (exec (Stmt.Assign _ (Expr.ListComp _ [Comprehension.mk _ _ [] _] _ _) _) _) _ _ _); k_dflt (refine assignCell (by k_asm) (by rfl) (by with_unfolding_all rfl) (by with_unfolding_all rfl) (by intro h; rfl) (by intro c; rfl) (by rfl) (by decide) (by rfl) (by rfl) (by rfl) ?_)) | (k_here; (with_reducible show wpAny _ _ (exec (Stmt.Assign _ (Expr.ListComp _ [Comprehension.mk _ _ [] _] _ _) _) _) _ _ _); k_dflt (refine LCg.Assign_ListComp_U (F₀ := by k_asm) (by rfl) (by with_unfolding_all rfl) (by with_unfolding_all rfl) (by decide) (by rfl) (by decide) (by rfl) (by rfl) (by rfl) ?_)) | (k_here; (with_reducible show wpAny _ _ (eval (Expr.ListComp _ [Comprehension.mk _ _ [] _] _ _) _) _ _ _); k_dflt (refine LCg.ListComp_U (F₀ := by k_asm) (by with_unfolding_all rfl) (by decide) (by rfl) (by decide) (by rfl) ?_)) | walk1)
  rename Fr _ _ _ _ => F1
  rename News _ _ _ _ => N1
  rename IsRange _ _ _ _ _ _ _ _ => hR1
  refine LCg.CompSrc.range (n := 3) (by with_unfolding_all rfl) F1 N1 hR1 (by decide) (by decide) (by rw [sizeLine_eq]; omega) ?_
  intro g1
  refine comp_inv (fun i ys nw => nw = _ ∧ Lst (fun j v => ∃ t, v = .str (txOf f g tally j) t) ys i) ⟨rfl, .nil⟩ ?_ ?_
  · rintro i v I oI C oC D m₂ ys nw h tk E' hi ⟨t, rfl⟩ ⟨rfl, hys⟩ hC hx F₁ N₁ off ne
    refine Lst.of hlv hi ?_
    intro tl hvl
    have hl6 := (ldOf_lead hLf hLg i).len
    rcases three hi with rfl | rfl | rfl
    · have hx' : m₂ (Str.ofString "spot") = some (.int 0 t) := hx
      clear hx
      repeat' (fail_if_success (with_reducible show wpAny _ _ (pyIter _) _ _ _)); (fail_if_success (with_reducible show LCg.CompSrc _ _ _ _ _ _ _ _ _ _ _ _ _ _)); (fail_if_success (with_reducible show LCt.CompSrcT _ _ _ _ _ _ _ _ _ _ _ _ _ _ _)); (fail_if_success (with_reducible show LCg.CompEnd _ _ _ _ _ _ _ _ _ _ _ _ _ _)); (fail_if_success (with_reducible show CellEnd _ _ _ _ _ _ _ _ _ _ _ _ _ _ _ _)); (fail_if_success (with_reducible show wpAny _ _ (call (Value.ref _) _) _ _ _)); (fail_if_success (with_reducible show wpAny _ _ (compareOp _ (Value.ref _) (Value.ref _)) _ _ _)); first | (k_unfold; (try dsimp only)) | (k_here; (with_reducible show wpAny _ _ (subscriptTail _ _ (Value.ref _) (Value.int (Int.fmod _ _) _)) _ _ _); (with_unfolding_all refine' tailItem ?k1 ?k2 ?kT ?k3 ?k4 ?_ ?k6; (case k1 => k_asm); (case k2 => k_mem); (case kT => assumption); (case k3 => exact fmod_lo _ (by decide)); (case k4 => exact fmod_hi _ (by decide)); (case k6 => with_unfolding_all rfl); k_whole); intro y' t' e' l') | (k_here; (with_reducible show wpAny _ _ (subscriptTail _ _ (Value.ref _) (Value.int _ _)) _ _ _); (with_unfolding_all refine' itemL ?k1 ?k2 ?k3 ?k4 ?k5 ?_ ?k6; (case k1 => k_asm); (case k2 => k_mem); (case k3 => omega); (case k4 => omega); (case k5 => assumption); (case k6 => with_unfolding_all rfl); k_whole)) | (k_here; (with_reducible show wpAny _ _ (call (Value.builtin "str.split") _) _ _ _); (refine KSpl.split1 (by k_asm) (by k_asm) (by decide) ?_ (by (rw [PySem.sizeLine_eq]; omega))); intro D1 l h1 kk hsp hSA F6 N7 lt1; (try k_lt lt1); (try dsimp only)) | (k_here; (with_reducible show wpAny _ _ (exec (Stmt.For (Expr.Name _ _) (Expr.Call _ _ _ _) _ _ _) _) _ _ _); (rename Fr _ _ _ _ => lF'); (with_unfolding_all refine' forG lF' ?k1 ?k2 ?_; (case k1 => exact rfl); (case k2 => exact rfl); k_whole)) | (k_here; (with_reducible show wpAny _ _ (exec (Stmt.Assign _ (Expr.ListComp _ [Comprehension.mk _ _ [] _] _ _) _) _) _ _ _); k_dflt (refine assignCell (by k_asm) (by rfl) (by with_unfolding_all rfl) (by with_unfolding_all rfl) (by intro h; rfl) (by intro c; rfl) (by rfl) (by decide) (by rfl) (by rfl) (by rfl) ?_)) | (k_here; (with_reducible show wpAny _ _ (exec (Stmt.Assign _ (Expr.ListComp _ [Comprehension.mk _ _ [] _] _ _) _) _) _ _ _); k_dflt (refine LCg.Assign_ListComp_U (F₀ := by k_asm) (by rfl) (by with_unfolding_all rfl) (by with_unfolding_all rfl) (by decide) (by rfl) (by decide) (by rfl) (by rfl) (by rfl) ?_)) | (k_here; (with_reducible show wpAny _ _ (eval (Expr.ListComp _ [Comprehension.mk _ _ [] _] _ _) _) _ _ _); k_dflt (refine LCg.ListComp_U (F₀ := by k_asm) (by with_unfolding_all rfl) (by decide) (by rfl) (by decide) (by rfl) ?_)) | walk1 | (dsimp only; first | (k_here; (with_reducible show wpAny _ _ (subscriptTail _ _ (Value.ref _) (Value.int (Int.fmod _ _) _)) _ _ _); (with_unfolding_all refine' tailItem ?k1 ?k2 ?kT ?k3 ?k4 ?_ ?k6; (case k1 => k_asm); (case k2 => k_mem); (case kT => assumption); (case k3 => exact fmod_lo _ (by decide)); (case k4 => exact fmod_hi _ (by decide)); (case k6 => with_unfolding_all rfl); k_whole); intro y' t' e' l') | (k_here; (with_reducible show wpAny _ _ (subscriptTail _ _ (Value.ref _) (Value.int _ _)) _ _ _); (with_unfolding_all refine' itemL ?k1 ?k2 ?k3 ?k4 ?k5 ?_ ?k6; (case k1 => k_asm); (case k2 => k_mem); (case k3 => omega); (case k4 => omega); (case k5 => assumption); (case k6 => with_unfolding_all rfl); k_whole)) | (k_here; (with_reducible show wpAny _ _ (call (Value.builtin "str.split") _) _ _ _); (refine KSpl.split1 (by k_asm) (by k_asm) (by decide) ?_ (by (rw [PySem.sizeLine_eq]; omega))); intro D1 l h1 kk hsp hSA F6 N7 lt1; (try k_lt lt1); (try dsimp only)) | (k_here; (with_reducible show wpAny _ _ (exec (Stmt.For (Expr.Name _ _) (Expr.Call _ _ _ _) _ _ _) _) _ _ _); (rename Fr _ _ _ _ => lF'); (with_unfolding_all refine' forG lF' ?k1 ?k2 ?_; (case k1 => exact rfl); (case k2 => exact rfl); k_whole)) | (k_here; (with_reducible show wpAny _ _ (exec (Stmt.Assign _ (Expr.ListComp _ [Comprehension.mk _ _ [] _] _ _) _) _) _ _ _); k_dflt (refine assignCell (by k_asm) (by rfl) (by with_unfolding_all rfl) (by with_unfolding_all rfl) (by intro h; rfl) (by intro c; rfl) (by rfl) (by decide) (by rfl) (by rfl) (by rfl) ?_)) | (k_here; (with_reducible show wpAny _ _ (exec (Stmt.Assign _ (Expr.ListComp _ [Comprehension.mk _ _ [] _] _ _) _) _) _ _ _); k_dflt (refine LCg.Assign_ListComp_U (F₀ := by k_asm) (by rfl) (by with_unfolding_all rfl) (by with_unfolding_all rfl) (by decide) (by rfl) (by decide) (by rfl) (by rfl) (by rfl) ?_)) | (k_here; (with_reducible show wpAny _ _ (eval (Expr.ListComp _ [Comprehension.mk _ _ [] _] _ _) _) _ _ _); k_dflt (refine LCg.ListComp_U (F₀ := by k_asm) (by with_unfolding_all rfl) (by decide) (by rfl) (by decide) (by rfl) ?_)) | walk1)
      rename (_ = tailsL.getD _ _) => hyy
      exact LCg.CompEnd.intro F₁ N₁ _ (fun p hp => hp) off trivial ⟨rfl, hys.snoc ⟨_, by rw [hyy]; rfl⟩⟩
    · have hx' : m₂ (Str.ofString "spot") = some (.int 1 t) := hx
      clear hx
      repeat' (fail_if_success (with_reducible show wpAny _ _ (pyIter _) _ _ _)); (fail_if_success (with_reducible show LCg.CompSrc _ _ _ _ _ _ _ _ _ _ _ _ _ _)); (fail_if_success (with_reducible show LCt.CompSrcT _ _ _ _ _ _ _ _ _ _ _ _ _ _ _)); (fail_if_success (with_reducible show LCg.CompEnd _ _ _ _ _ _ _ _ _ _ _ _ _ _)); (fail_if_success (with_reducible show CellEnd _ _ _ _ _ _ _ _ _ _ _ _ _ _ _ _)); (fail_if_success (with_reducible show wpAny _ _ (call (Value.ref _) _) _ _ _)); (fail_if_success (with_reducible show wpAny _ _ (compareOp _ (Value.ref _) (Value.ref _)) _ _ _)); first | (k_unfold; (try dsimp only)) | (k_here; (with_reducible show wpAny _ _ (subscriptTail _ _ (Value.ref _) (Value.int (Int.fmod _ _) _)) _ _ _); (with_unfolding_all refine' tailItem ?k1 ?k2 ?kT ?k3 ?k4 ?_ ?k6; (case k1 => k_asm); (case k2 => k_mem); (case kT => assumption); (case k3 => exact fmod_lo _ (by decide)); (case k4 => exact fmod_hi _ (by decide)); (case k6 => with_unfolding_all rfl); k_whole); intro y' t' e' l') | (k_here; (with_reducible show wpAny _ _ (subscriptTail _ _ (Value.ref _) (Value.int _ _)) _ _ _); (with_unfolding_all refine' itemL ?k1 ?k2 ?k3 ?k4 ?k5 ?_ ?k6; (case k1 => k_asm); (case k2 => k_mem); (case k3 => omega); (case k4 => omega); (case k5 => assumption); (case k6 => with_unfolding_all rfl); k_whole)) | (k_here; (with_reducible show wpAny _ _ (call (Value.builtin "str.split") _) _ _ _); (refine KSpl.split1 (by k_asm) (by k_asm) (by decide) ?_ (by (rw [PySem.sizeLine_eq]; omega))); intro D1 l h1 kk hsp hSA F6 N7 lt1; (try k_lt lt1); (try dsimp only)) | (k_here; (with_reducible show wpAny _ _ (exec (Stmt.For (Expr.Name _ _) (Expr.Call _ _ _ _) _ _ _) _) _ _ _); (rename Fr _ _ _ _ => lF'); (with_unfolding_all refine' forG lF' ?k1 ?k2 ?_; (case k1 => exact rfl); (case k2 => exact rfl); k_whole)) | (k_here; (with_reducible show wpAny _ _ (exec (Stmt.Assign _ (Expr.ListComp _ [Comprehension.mk _ _ [] _] _ _) _) _) _ _ _); k_dflt (refine assignCell (by k_asm) (by rfl) (by with_unfolding_all rfl) (by with_unfolding_all rfl) (by intro h; rfl) (by intro c; rfl) (by rfl) (by decide) (by rfl) (by rfl) (by rfl) ?_)) | (k_here; (with_reducible show wpAny _ _ (exec (Stmt.Assign _ (Expr.ListComp _ [Comprehension.mk _ _ [] _] _ _) _) _) _ _ _); k_dflt (refine LCg.Assign_ListComp_U (F₀ := by k_asm) (by rfl) (by with_unfolding_all rfl) (by with_unfolding_all rfl) (by decide) (by rfl) (by decide) (by rfl) (by rfl) (by rfl) ?_)) | (k_here; (with_reducible show wpAny _ _ (eval (Expr.ListComp _ [Comprehension.mk _ _ [] _] _ _) _) _ _ _); k_dflt (refine LCg.ListComp_U (F₀ := by k_asm) (by with_unfolding_all rfl) (by decide) (by rfl) (by decide) (by rfl) ?_)) | walk1 | (dsimp only; first | (k_here; (with_reducible show wpAny _ _ (subscriptTail _ _ (Value.ref _) (Value.int (Int.fmod _ _) _)) _ _ _); (with_unfolding_all refine' tailItem ?k1 ?k2 ?kT ?k3 ?k4 ?_ ?k6; (case k1 => k_asm); (case k2 => k_mem); (case kT => assumption); (case k3 => exact fmod_lo _ (by decide)); (case k4 => exact fmod_hi _ (by decide)); (case k6 => with_unfolding_all rfl); k_whole); intro y' t' e' l') | (k_here; (with_reducible show wpAny _ _ (subscriptTail _ _ (Value.ref _) (Value.int _ _)) _ _ _); (with_unfolding_all refine' itemL ?k1 ?k2 ?k3 ?k4 ?k5 ?_ ?k6; (case k1 => k_asm); (case k2 => k_mem); (case k3 => omega); (case k4 => omega); (case k5 => assumption); (case k6 => with_unfolding_all rfl); k_whole)) | (k_here; (with_reducible show wpAny _ _ (call (Value.builtin "str.split") _) _ _ _); (refine KSpl.split1 (by k_asm) (by k_asm) (by decide) ?_ (by (rw [PySem.sizeLine_eq]; omega))); intro D1 l h1 kk hsp hSA F6 N7 lt1; (try k_lt lt1); (try dsimp only)) | (k_here; (with_reducible show wpAny _ _ (exec (Stmt.For (Expr.Name _ _) (Expr.Call _ _ _ _) _ _ _) _) _ _ _); (rename Fr _ _ _ _ => lF'); (with_unfolding_all refine' forG lF' ?k1 ?k2 ?_; (case k1 => exact rfl); (case k2 => exact rfl); k_whole)) | (k_here; (with_reducible show wpAny _ _ (exec (Stmt.Assign _ (Expr.ListComp _ [Comprehension.mk _ _ [] _] _ _) _) _) _ _ _); k_dflt (refine assignCell (by k_asm) (by rfl) (by with_unfolding_all rfl) (by with_unfolding_all rfl) (by intro h; rfl) (by intro c; rfl) (by rfl) (by decide) (by rfl) (by rfl) (by rfl) ?_)) | (k_here; (with_reducible show wpAny _ _ (exec (Stmt.Assign _ (Expr.ListComp _ [Comprehension.mk _ _ [] _] _ _) _) _) _ _ _); k_dflt (refine LCg.Assign_ListComp_U (F₀ := by k_asm) (by rfl) (by with_unfolding_all rfl) (by with_unfolding_all rfl) (by decide) (by rfl) (by decide) (by rfl) (by rfl) (by rfl) ?_)) | (k_here; (with_reducible show wpAny _ _ (eval (Expr.ListComp _ [Comprehension.mk _ _ [] _] _ _) _) _ _ _); k_dflt (refine LCg.ListComp_U (F₀ := by k_asm) (by with_unfolding_all rfl) (by decide) (by rfl) (by decide) (by rfl) ?_)) | walk1)
      rename (_ = tailsL.getD _ _) => hyy
      exact LCg.CompEnd.intro F₁ N₁ _ (fun p hp => hp) off trivial ⟨rfl, hys.snoc ⟨_, by rw [hyy]; rfl⟩⟩
    · have hx' : m₂ (Str.ofString "spot") = some (.int 2 t) := hx
      clear hx
      repeat' (fail_if_success (with_reducible show wpAny _ _ (pyIter _) _ _ _)); (fail_if_success (with_reducible show LCg.CompSrc _ _ _ _ _ _ _ _ _ _ _ _ _ _)); (fail_if_success (with_reducible show LCt.CompSrcT _ _ _ _ _ _ _ _ _ _ _ _ _ _ _)); (fail_if_success (with_reducible show LCg.CompEnd _ _ _ _ _ _ _ _ _ _ _ _ _ _)); (fail_if_success (with_reducible show CellEnd _ _ _ _ _ _ _ _ _ _ _ _ _ _ _ _)); (fail_if_success (with_reducible show wpAny _ _ (call (Value.ref _) _) _ _ _)); (fail_if_success (with_reducible show wpAny _ _ (compareOp _ (Value.ref _) (Value.ref _)) _ _ _)); first | (k_unfold; (try dsimp only)) | (k_here; (with_reducible show wpAny _ _ (subscriptTail _ _ (Value.ref _) (Value.int (Int.fmod _ _) _)) _ _ _); (with_unfolding_all refine' tailItem ?k1 ?k2 ?kT ?k3 ?k4 ?_ ?k6; (case k1 => k_asm); (case k2 => k_mem); (case kT => assumption); (case k3 => exact fmod_lo _ (by decide)); (case k4 => exact fmod_hi _ (by decide)); (case k6 => with_unfolding_all rfl); k_whole); intro y' t' e' l') | (k_here; (with_reducible show wpAny _ _ (subscriptTail _ _ (Value.ref _) (Value.int _ _)) _ _ _); (with_unfolding_all refine' itemL ?k1 ?k2 ?k3 ?k4 ?k5 ?_ ?k6; (case k1 => k_asm); (case k2 => k_mem); (case k3 => omega); (case k4 => omega); (case k5 => assumption); (case k6 => with_unfolding_all rfl); k_whole)) | (k_here; (with_reducible show wpAny _ _ (call (Value.builtin "str.split") _) _ _ _); (refine KSpl.split1 (by k_asm) (by k_asm) (by decide) ?_ (by (rw [PySem.sizeLine_eq]; omega))); intro D1 l h1 kk hsp hSA F6 N7 lt1; (try k_lt lt1); (try dsimp only)) | (k_here; (with_reducible show wpAny _ _ (exec (Stmt.For (Expr.Name _ _) (Expr.Call _ _ _ _) _ _ _) _) _ _ _); (rename Fr _ _ _ _ => lF'); (with_unfolding_all refine' forG lF' ?k1 ?k2 ?_; (case k1 => exact rfl); (case k2 => exact rfl); k_whole)) | (k_here; (with_reducible show wpAny _ _ (exec (Stmt.Assign _ (Expr.ListComp _ [Comprehension.mk _ _ [] _] _ _) _) _) _ _ _); k_dflt (refine assignCell (by k_asm) (by rfl) (by with_unfolding_all rfl) (by with_unfolding_all rfl) (by intro h; rfl) (by intro c; rfl) (by rfl) (by decide) (by rfl) (by rfl) (by rfl) ?_)) | (k_here; (with_reducible show wpAny _ _ (exec (Stmt.Assign _ (Expr.ListComp _ [Comprehension.mk _ _ [] _] _ _) _) _) _ _ _); k_dflt (refine LCg.Assign_ListComp_U (F₀ := by k_asm) (by rfl) (by with_unfolding_all rfl) (by with_unfolding_all rfl) (by decide) (by rfl) (by decide) (by rfl) (by rfl) (by rfl) ?_)) | (k_here; (with_reducible show wpAny _ _ (eval (Expr.ListComp _ [Comprehension.mk _ _ [] _] _ _) _) _ _ _); k_dflt (refine LCg.ListComp_U (F₀ := by k_asm) (by with_unfolding_all rfl) (by decide) (by rfl) (by decide) (by rfl) ?_)) | walk1 | (dsimp only; first | (k_here; (with_reducible show wpAny _ _ (subscriptTail _ _ (Value.ref _) (Value.int (Int.fmod _ _) _)) _ _ _); (with_unfolding_all refine' tailItem ?k1 ?k2 ?kT ?k3 ?k4 ?_ ?k6; (case k1 => k_asm); (case k2 => k_mem); (case kT => assumption); (case k3 => exact fmod_lo _ (by decide)); (case k4 => exact fmod_hi _ (by decide)); (case k6 => with_unfolding_all rfl); k_whole); intro y' t' e' l') | (k_here; (with_reducible show wpAny _ _ (subscriptTail _ _ (Value.ref _) (Value.int _ _)) _ _ _); (with_unfolding_all refine' itemL ?k1 ?k2 ?k3 ?k4 ?k5 ?_ ?k6; (case k1 => k_asm); (case k2 => k_mem); (case k3 => omega); (case k4 => omega); (case k5 => assumption); (case k6 => with_unfolding_all rfl); k_whole)) | (k_here; (with_reducible show wpAny _ _ (call (Value.builtin "str.split") _) _ _ _); (refine KSpl.split1 (by k_asm) (by k_asm) (by decide) ?_ (by (rw [PySem.sizeLine_eq]; omega))); intro D1 l h1 kk hsp hSA F6 N7 lt1; (try k_lt lt1); (try dsimp only)) | (k_here; (with_reducible show wpAny _ _ (exec (Stmt.For (Expr.Name _ _) (Expr.Call _ _ _ _) _ _ _) _) _ _ _); (rename Fr _ _ _ _ => lF'); (with_unfolding_all refine' forG lF' ?k1 ?k2 ?_; (case k1 => exact rfl); (case k2 => exact rfl); k_whole)) | (k_here; (with_reducible show wpAny _ _ (exec (Stmt.Assign _ (Expr.ListComp _ [Comprehension.mk _ _ [] _] _ _) _) _) _ _ _); k_dflt (refine assignCell (by k_asm) (by rfl) (by with_unfolding_all rfl) (by with_unfolding_all rfl) (by intro h; rfl) (by intro c; rfl) (by rfl) (by decide) (by rfl) (by rfl) (by rfl) ?_)) | (k_here; (with_reducible show wpAny _ _ (exec (Stmt.Assign _ (Expr.ListComp _ [Comprehension.mk _ _ [] _] _ _) _) _) _ _ _); k_dflt (refine LCg.Assign_ListComp_U (F₀ := by k_asm) (by rfl) (by with_unfolding_all rfl) (by with_unfolding_all rfl) (by decide) (by rfl) (by decide) (by rfl) (by rfl) (by rfl) ?_)) | (k_here; (with_reducible show wpAny _ _ (eval (Expr.ListComp _ [Comprehension.mk _ _ [] _] _ _) _) _ _ _); k_dflt (refine LCg.ListComp_U (F₀ := by k_asm) (by with_unfolding_all rfl) (by decide) (by rfl) (by decide) (by rfl) ?_)) | walk1)
      rename (_ = tailsL.getD _ _) => hyy
      exact LCg.CompEnd.intro F₁ N₁ _ (fun p hp => hp) off trivial ⟨rfl, hys.snoc ⟨_, by rw [hyy]; rfl⟩⟩
  · rintro xs nw ⟨rfl, hxs⟩
    unfold LCg.FinA
    intro D2 h2 tk2 F2 N2 o2
    simp only [LCg.Off1] at o2
    have o2a := o2.1
    have o2b := o2.2.1
    have o2d := o2.2.2.1
    have o2e := o2.2.2.2.1
    have o2f := o2.2.2.2.2.1
    have o2g := o2.2.2.2.2.2.1
    have o2h := o2.2.2.2.2.2.2.1
    have o2i := o2.2.2.2.2.2.2.2
    clear o2
    dsimp only
    clear F1 N1 hR1
    repeat' (fail_if_success (with_reducible show wpAny _ _ (pyIter _) _ _ _)); (fail_if_success (with_reducible show LCg.CompSrc _ _ _ _ _ _ _ _ _ _ _ _ _ _)); (fail_if_success (with_reducible show LCt.CompSrcT _ _ _ _ _ _ _ _ _ _ _ _ _ _ _)); (fail_if_success (with_reducible show LCg.CompEnd _ _ _ _ _ _ _ _ _ _ _ _ _ _)); (fail_if_success (with_reducible show CellEnd _ _ _ _ _ _ _ _ _ _ _ _ _ _ _ _)); (fail_if_success (with_reducible show wpAny _ _ (call (Value.ref _) _) _ _ _)); (fail_if_success (with_reducible show wpAny _ _ (compareOp _ (Value.ref _) (Value.ref _)) _ _ _)); first | (k_unfold; (try dsimp only)) | (k_here; (with_reducible show wpAny _ _ (subscriptTail _ _ (Value.ref _) (Value.int (Int.fmod _ _) _)) _ _ _); (with_unfolding_all refine' tailItem ?k1 ?k2 ?kT ?k3 ?k4 ?_ ?k6; (case k1 => k_asm); (case k2 => k_mem); (case kT => assumption); (case k3 => exact fmod_lo _ (by decide)); (case k4 => exact fmod_hi _ (by decide)); (case k6 => with_unfolding_all rfl); k_whole); intro y' t' e' l') | (k_here; (with_reducible show wpAny _ _ (subscriptTail _ _ (Value.ref _) (Value.int _ _)) _ _ _); (with_unfolding_all refine' itemL ?k1 ?k2 ?k3 ?k4 ?k5 ?_ ?k6; (case k1 => k_asm); (case k2 => k_mem); (case k3 => omega); (case k4 => omega); (case k5 => assumption); (case k6 => with_unfolding_all rfl); k_whole)) | (k_here; (with_reducible show wpAny _ _ (call (Value.builtin "str.split") _) _ _ _); (refine KSpl.split1 (by k_asm) (by k_asm) (by decide) ?_ (by (rw [PySem.sizeLine_eq]; omega))); intro D1 l h1 kk hsp hSA F6 N7 lt1; (try k_lt lt1); (try dsimp only)) | (k_here; (with_reducible show wpAny _ _ (exec (Stmt.For (Expr.Name _ _) (Expr.Call _ _ _ _) _ _ _) _) _ _ _); (rename Fr _ _ _ _ => lF'); (with_unfolding_all refine' forG lF' ?k1 ?k2 ?_; (case k1 => exact rfl); (case k2 => exact rfl); k_whole)) | (k_here; (with_reducible show wpAny _ _ (exec (Stmt.Assign _ (Expr.ListComp _ [Comprehension.mk _ _ [] _] _ _) _) _) _ _ _); k_dflt (refine assignCell (by k_asm) (by rfl) (by with_unfolding_all rfl) (by with_unfolding_all rfl) (by intro h; rfl) (by intro c; rfl) (by rfl) (by decide) (by rfl) (by rfl) (by rfl) ?_)) | (k_here; (with_reducible show wpAny _ _ (exec (Stmt.Assign _ (Expr.ListComp _ [Comprehension.mk _ _ [] _] _ _) _) _) _ _ _); k_dflt (refine LCg.Assign_ListComp_U (F₀ := by k_asm) (by rfl) (by with_unfolding_all rfl) (by with_unfolding_all rfl) (by decide) (by rfl) (by decide) (by rfl) (by rfl) (by rfl) ?_)) | (k_here; (with_reducible show wpAny _ _ (eval (Expr.ListComp _ [Comprehension.mk _ _ [] _] _ _) _) _ _ _); k_dflt (refine LCg.ListComp_U (F₀ := by k_asm) (by with_unfolding_all rfl) (by decide) (by rfl) (by decide) (by rfl) ?_)) | walk1 | (dsimp only; first | (k_here; (with_reducible show wpAny _ _ (subscriptTail _ _ (Value.ref _) (Value.int (Int.fmod _ _) _)) _ _ _); (with_unfolding_all refine' tailItem ?k1 ?k2 ?kT ?k3 ?k4 ?_ ?k6; (case k1 => k_asm); (case k2 => k_mem); (case kT => assumption); (case k3 => exact fmod_lo _ (by decide)); (case k4 => exact fmod_hi _ (by decide)); (case k6 => with_unfolding_all rfl); k_whole); intro y' t' e' l') | (k_here; (with_reducible show wpAny _ _ (subscriptTail _ _ (Value.ref _) (Value.int _ _)) _ _ _); (with_unfolding_all refine' itemL ?k1 ?k2 ?k3 ?k4 ?k5 ?_ ?k6; (case k1 => k_asm); (case k2 => k_mem); (case k3 => omega); (case k4 => omega); (case k5 => assumption); (case k6 => with_unfolding_all rfl); k_whole)) | (k_here; (with_reducible show wpAny _ _ (call (Value.builtin "str.split") _) _ _ _); (refine KSpl.split1 (by k_asm) (by k_asm) (by decide) ?_ (by (rw [PySem.sizeLine_eq]; omega))); intro D1 l h1 kk hsp hSA F6 N7 lt1; (try k_lt lt1); (try dsimp only)) | (k_here; (with_reducible show wpAny _ _ (exec (Stmt.For (Expr.Name _ _) (Expr.Call _ _ _ _) _ _ _) _) _ _ _); (rename Fr _ _ _ _ => lF'); (with_unfolding_all refine' forG lF' ?k1 ?k2 ?_; (case k1 => exact rfl); (case k2 => exact rfl); k_whole)) | (k_here; (with_reducible show wpAny _ _ (exec (Stmt.Assign _ (Expr.ListComp _ [Comprehension.mk _ _ [] _] _ _) _) _) _ _ _); k_dflt (refine assignCell (by k_asm) (by rfl) (by with_unfolding_all rfl) (by with_unfolding_all rfl) (by intro h; rfl) (by intro c; rfl) (by rfl) (by decide) (by rfl) (by rfl) (by rfl) ?_)) | (k_here; (with_reducible show wpAny _ _ (exec (Stmt.Assign _ (Expr.ListComp _ [Comprehension.mk _ _ [] _] _ _) _) _) _ _ _); k_dflt (refine LCg.Assign_ListComp_U (F₀ := by k_asm) (by rfl) (by with_unfolding_all rfl) (by with_unfolding_all rfl) (by decide) (by rfl) (by decide) (by rfl) (by rfl) (by rfl) ?_)) | (k_here; (with_reducible show wpAny _ _ (eval (Expr.ListComp _ [Comprehension.mk _ _ [] _] _ _) _) _ _ _); k_dflt (refine LCg.ListComp_U (F₀ := by k_asm) (by with_unfolding_all rfl) (by decide) (by rfl) (by decide) (by rfl) ?_)) | walk1)
    rename Fr _ _ _ _ => F3
    rename News _ _ _ _ => N3
    rename_i lS _ l1S _ oS dS
    obtain ⟨svs, hsz, N4⟩ := news_sizes N3
    have n2 : @Ne Nat D2 82 := fun e => o2h e.symm
    have nq4 : @Ne Nat (L₀ + 1 + 1 + 1 + 1) 82 := Nat.ne_of_gt (Nat.lt_add_right 4 l82)
    have nq2 : @Ne Nat (L₀ + 1 + 1) 82 := Nat.ne_of_gt (Nat.lt_add_right 2 l82)
    have nS : @Ne Nat lS 82 := by omega
    have nL : @Ne Nat lL 82 := by omega
    have hxl : xs.length = 3 := hxs.1
    have hll : lvs.length = 3 := hlv.1
    clear N3 dT hc4 hc3 hc2 hc1 l1T o2a o2b o2d o2e o2f o2g o2h o2i
    refine LCg.CompSrc.ledger (by with_unfolding_all rfl) F3 N4 (.tail _ (.head _)) (by rw [List.size_toArray, hxl, sizeLine_eq]; omega) ?_
    intro g2
    refine comp_inv (fun i zs nw => ∃ tb, nw = tb ++ [(lS, W.listOf svs.toArray 0), (D2, LCg.lst xs), (lL, W.listOf lvs.toArray 0), (L₀ + 1 + 1 + 1 + 1, oS), (L₀ + 1 + 1, oL), (82, tabObj #[])] ∧ Lst (fun j v => ∃ x, v = .ref x ∧ WsIn w tb x (txOf f g tally j) (ldOf f g j).cps.toList) zs i ∧ ∀ p ∈ tb, @Ne Nat p.1 82) ⟨[], rfl, .nil, fun _ h => nomatch h⟩ ?_ ?_
    · rintro i v I oI C oC D m₂ zs nw h tk E' hi hv ⟨tb, rfl, hzs, h82b⟩ hC hx F₁ N₁ off ne
      obtain ⟨t, rfl⟩ := hxs.get (by simpa using hv)
      repeat' (fail_if_success (with_reducible show wpAny _ _ (pyIter _) _ _ _)); (fail_if_success (with_reducible show LCg.CompSrc _ _ _ _ _ _ _ _ _ _ _ _ _ _)); (fail_if_success (with_reducible show LCt.CompSrcT _ _ _ _ _ _ _ _ _ _ _ _ _ _ _)); (fail_if_success (with_reducible show LCg.CompEnd _ _ _ _ _ _ _ _ _ _ _ _ _ _)); (fail_if_success (with_reducible show CellEnd _ _ _ _ _ _ _ _ _ _ _ _ _ _ _ _)); (fail_if_success (with_reducible show wpAny _ _ (call (Value.ref _) _) _ _ _)); (fail_if_success (with_reducible show wpAny _ _ (compareOp _ (Value.ref _) (Value.ref _)) _ _ _)); first | (k_unfold; (try dsimp only)) | (k_here; (with_reducible show wpAny _ _ (subscriptTail _ _ (Value.ref _) (Value.int (Int.fmod _ _) _)) _ _ _); (with_unfolding_all refine' tailItem ?k1 ?k2 ?kT ?k3 ?k4 ?_ ?k6; (case k1 => k_asm); (case k2 => k_mem); (case kT => assumption); (case k3 => exact fmod_lo _ (by decide)); (case k4 => exact fmod_hi _ (by decide)); (case k6 => with_unfolding_all rfl); k_whole); intro y' t' e' l') | (k_here; (with_reducible show wpAny _ _ (subscriptTail _ _ (Value.ref _) (Value.int _ _)) _ _ _); (with_unfolding_all refine' itemL ?k1 ?k2 ?k3 ?k4 ?k5 ?_ ?k6; (case k1 => k_asm); (case k2 => k_mem); (case k3 => omega); (case k4 => omega); (case k5 => assumption); (case k6 => with_unfolding_all rfl); k_whole)) | (k_here; (with_reducible show wpAny _ _ (call (Value.builtin "str.split") _) _ _ _); (refine KSpl.split1 (by k_asm) (by k_asm) (by decide) ?_ (by (rw [PySem.sizeLine_eq]; omega))); intro D1 l h1 kk hsp hSA F6 N7 lt1; (try k_lt lt1); (try dsimp only)) | (k_here; (with_reducible show wpAny _ _ (exec (Stmt.For (Expr.Name _ _) (Expr.Call _ _ _ _) _ _ _) _) _ _ _); (rename Fr _ _ _ _ => lF'); (with_unfolding_all refine' forG lF' ?k1 ?k2 ?_; (case k1 => exact rfl); (case k2 => exact rfl); k_whole)) | (k_here; (with_reducible show wpAny _ _ (exec (Stmt.Assign _ (Expr.ListComp _ [Comprehension.mk _ _ [] _] _ _) _) _) _ _ _); k_dflt (refine assignCell (by k_asm) (by rfl) (by with_unfolding_all rfl) (by with_unfolding_all rfl) (by intro h; rfl) (by intro c; rfl) (by rfl) (by decide) (by rfl) (by rfl) (by rfl) ?_)) | (k_here; (with_reducible show wpAny _ _ (exec (Stmt.Assign _ (Expr.ListComp _ [Comprehension.mk _ _ [] _] _ _) _) _) _ _ _); k_dflt (refine LCg.Assign_ListComp_U (F₀ := by k_asm) (by rfl) (by with_unfolding_all rfl) (by with_unfolding_all rfl) (by decide) (by rfl) (by decide) (by rfl) (by rfl) (by rfl) ?_)) | (k_here; (with_reducible show wpAny _ _ (eval (Expr.ListComp _ [Comprehension.mk _ _ [] _] _ _) _) _ _ _); k_dflt (refine LCg.ListComp_U (F₀ := by k_asm) (by with_unfolding_all rfl) (by decide) (by rfl) (by decide) (by rfl) ?_)) | walk1 | (dsimp only; first | (k_here; (with_reducible show wpAny _ _ (subscriptTail _ _ (Value.ref _) (Value.int (Int.fmod _ _) _)) _ _ _); (with_unfolding_all refine' tailItem ?k1 ?k2 ?kT ?k3 ?k4 ?_ ?k6; (case k1 => k_asm); (case k2 => k_mem); (case kT => assumption); (case k3 => exact fmod_lo _ (by decide)); (case k4 => exact fmod_hi _ (by decide)); (case k6 => with_unfolding_all rfl); k_whole); intro y' t' e' l') | (k_here; (with_reducible show wpAny _ _ (subscriptTail _ _ (Value.ref _) (Value.int _ _)) _ _ _); (with_unfolding_all refine' itemL ?k1 ?k2 ?k3 ?k4 ?k5 ?_ ?k6; (case k1 => k_asm); (case k2 => k_mem); (case k3 => omega); (case k4 => omega); (case k5 => assumption); (case k6 => with_unfolding_all rfl); k_whole)) | (k_here; (with_reducible show wpAny _ _ (call (Value.builtin "str.split") _) _ _ _); (refine KSpl.split1 (by k_asm) (by k_asm) (by decide) ?_ (by (rw [PySem.sizeLine_eq]; omega))); intro D1 l h1 kk hsp hSA F6 N7 lt1; (try k_lt lt1); (try dsimp only)) | (k_here; (with_reducible show wpAny _ _ (exec (Stmt.For (Expr.Name _ _) (Expr.Call _ _ _ _) _ _ _) _) _ _ _); (rename Fr _ _ _ _ => lF'); (with_unfolding_all refine' forG lF' ?k1 ?k2 ?_; (case k1 => exact rfl); (case k2 => exact rfl); k_whole)) | (k_here; (with_reducible show wpAny _ _ (exec (Stmt.Assign _ (Expr.ListComp _ [Comprehension.mk _ _ [] _] _ _) _) _) _ _ _); k_dflt (refine assignCell (by k_asm) (by rfl) (by with_unfolding_all rfl) (by with_unfolding_all rfl) (by intro h; rfl) (by intro c; rfl) (by rfl) (by decide) (by rfl) (by rfl) (by rfl) ?_)) | (k_here; (with_reducible show wpAny _ _ (exec (Stmt.Assign _ (Expr.ListComp _ [Comprehension.mk _ _ [] _] _ _) _) _) _ _ _); k_dflt (refine LCg.Assign_ListComp_U (F₀ := by k_asm) (by rfl) (by with_unfolding_all rfl) (by with_unfolding_all rfl) (by decide) (by rfl) (by decide) (by rfl) (by rfl) (by rfl) ?_)) | (k_here; (with_reducible show wpAny _ _ (eval (Expr.ListComp _ [Comprehension.mk _ _ [] _] _ _) _) _ _ _); k_dflt (refine LCg.ListComp_U (F₀ := by k_asm) (by with_unfolding_all rfl) (by decide) (by rfl) (by decide) (by rfl) ?_)) | walk1)
      k_dflt (refine' Ct.use (init_c w _ (txOf f g tally i) t (ldOf f g i).cps.toList (tlOf tally i).cps.toList (txOf_cps f g tally i) (lead_len (ldOf_lead hLf hLg i)) (ldOf_lead hLf hLg i).sp (tail_facts (tlOf_mem tally i)).2 (txOf_len hLf hLg tally i)) ?k1 ?k2 ?k3 ?k4 ?k5 ?kK ?kd ?ku ?_; (case k1 => k_asm); (case k2 => k_asm); (case k3 => k_asm); (case k4 => k_asm); (case k5 => k_asm); (case kK => first | exact rfl | assumption); (case kd => ktr_room); (case ku => ktr_units); k_whole)
      intro r9 tl9 h9 tk9 F9 N9 hl9 hp9
      obtain ⟨x9, e9, hW9⟩ := hp9
      subst e9
      show LCg.CompEnd _ _ _ _ _ _ _ _ _ _ _ _ _ _
      refine LCg.CompEnd.intro F9 N9 (tl9 ++ (tb ++ [(lS, W.listOf svs.toArray 0), (D2, LCg.lst xs), (lL, W.listOf lvs.toArray 0), (L₀ + 1 + 1 + 1 + 1, oS), (L₀ + 1 + 1, oL), (82, tabObj #[])])) sub3 (off3_more hl9 off) (.inr ⟨_, List.mem_append_right _ (List.mem_append_right _ (.tail _ (.head _))), rfl, _, rfl⟩) ⟨tl9 ++ tb, (List.append_assoc _ _ _).symm, ?_, ?_⟩
      · exact (hzs.mono fun j v ⟨x, e, q⟩ => ⟨x, e, q.mono fun p hp => List.mem_append_right _ hp⟩).snoc ⟨x9, rfl, hW9.mono fun p hp => List.mem_append_left _ hp⟩
      · intro p hp
        rcases List.mem_append.mp hp with hp | hp
        · exact Nat.ne_of_gt (hl9 (82, tabObj #[]) (.tail _ (.tail _ (.tail _ (List.mem_append_right _ (.tail _ (.tail _ (.tail _ (.tail _ (.tail _ (.head _)))))))))) p hp)
        · exact h82b p hp
    · rintro ys nw ⟨tb, rfl, hys, h82b⟩
      unfold LCg.FinA
      intro D3 h3 tk3 F4 N5 o3
      have ho3 := off1_ne o3
      have n3 : @Ne Nat D3 82 := (ho3 (82, tabObj #[]) (List.mem_append_right _ (.tail _ (.tail _ (.tail _ (.tail _ (.tail _ (.head _)))))))).symm
      clear o3 N4 ho3
      replace N5 := kst_newsOf (l' := (D3, LCg.lst ys) :: (lS, W.listOf svs.toArray 0) :: (D2, LCg.lst xs) :: (lL, W.listOf lvs.toArray 0) :: (L₀ + 1 + 1 + 1 + 1, oS) :: (L₀ + 1 + 1, oL) :: (82, tabObj #[]) :: tb) N5 perm_a
      dsimp only
      clear F3
      repeat' (fail_if_success (with_reducible show wpAny _ _ (pyIter _) _ _ _)); (fail_if_success (with_reducible show LCg.CompSrc _ _ _ _ _ _ _ _ _ _ _ _ _ _)); (fail_if_success (with_reducible show LCt.CompSrcT _ _ _ _ _ _ _ _ _ _ _ _ _ _ _)); (fail_if_success (with_reducible show LCg.CompEnd _ _ _ _ _ _ _ _ _ _ _ _ _ _)); (fail_if_success (with_reducible show CellEnd _ _ _ _ _ _ _ _ _ _ _ _ _ _ _ _)); (fail_if_success (with_reducible show wpAny _ _ (call (Value.ref _) _) _ _ _)); (fail_if_success (with_reducible show wpAny _ _ (compareOp _ (Value.ref _) (Value.ref _)) _ _ _)); first | (k_unfold; (try dsimp only)) | (k_here; (with_reducible show wpAny _ _ (subscriptTail _ _ (Value.ref _) (Value.int (Int.fmod _ _) _)) _ _ _); (with_unfolding_all refine' tailItem ?k1 ?k2 ?kT ?k3 ?k4 ?_ ?k6; (case k1 => k_asm); (case k2 => k_mem); (case kT => assumption); (case k3 => exact fmod_lo _ (by decide)); (case k4 => exact fmod_hi _ (by decide)); (case k6 => with_unfolding_all rfl); k_whole); intro y' t' e' l') | (k_here; (with_reducible show wpAny _ _ (subscriptTail _ _ (Value.ref _) (Value.int _ _)) _ _ _); (with_unfolding_all refine' itemL ?k1 ?k2 ?k3 ?k4 ?k5 ?_ ?k6; (case k1 => k_asm); (case k2 => k_mem); (case k3 => omega); (case k4 => omega); (case k5 => assumption); (case k6 => with_unfolding_all rfl); k_whole)) | (k_here; (with_reducible show wpAny _ _ (call (Value.builtin "str.split") _) _ _ _); (refine KSpl.split1 (by k_asm) (by k_asm) (by decide) ?_ (by (rw [PySem.sizeLine_eq]; omega))); intro D1 l h1 kk hsp hSA F6 N7 lt1; (try k_lt lt1); (try dsimp only)) | (k_here; (with_reducible show wpAny _ _ (exec (Stmt.For (Expr.Name _ _) (Expr.Call _ _ _ _) _ _ _) _) _ _ _); (rename Fr _ _ _ _ => lF'); (with_unfolding_all refine' forG lF' ?k1 ?k2 ?_; (case k1 => exact rfl); (case k2 => exact rfl); k_whole)) | (k_here; (with_reducible show wpAny _ _ (exec (Stmt.Assign _ (Expr.ListComp _ [Comprehension.mk _ _ [] _] _ _) _) _) _ _ _); k_dflt (refine assignCell (by k_asm) (by rfl) (by with_unfolding_all rfl) (by with_unfolding_all rfl) (by intro h; rfl) (by intro c; rfl) (by rfl) (by decide) (by rfl) (by rfl) (by rfl) ?_)) | (k_here; (with_reducible show wpAny _ _ (exec (Stmt.Assign _ (Expr.ListComp _ [Comprehension.mk _ _ [] _] _ _) _) _) _ _ _); k_dflt (refine LCg.Assign_ListComp_U (F₀ := by k_asm) (by rfl) (by with_unfolding_all rfl) (by with_unfolding_all rfl) (by decide) (by rfl) (by decide) (by rfl) (by rfl) (by rfl) ?_)) | (k_here; (with_reducible show wpAny _ _ (eval (Expr.ListComp _ [Comprehension.mk _ _ [] _] _ _) _) _ _ _); k_dflt (refine LCg.ListComp_U (F₀ := by k_asm) (by with_unfolding_all rfl) (by decide) (by rfl) (by decide) (by rfl) ?_)) | walk1 | (dsimp only; first | (k_here; (with_reducible show wpAny _ _ (subscriptTail _ _ (Value.ref _) (Value.int (Int.fmod _ _) _)) _ _ _); (with_unfolding_all refine' tailItem ?k1 ?k2 ?kT ?k3 ?k4 ?_ ?k6; (case k1 => k_asm); (case k2 => k_mem); (case kT => assumption); (case k3 => exact fmod_lo _ (by decide)); (case k4 => exact fmod_hi _ (by decide)); (case k6 => with_unfolding_all rfl); k_whole); intro y' t' e' l') | (k_here; (with_reducible show wpAny _ _ (subscriptTail _ _ (Value.ref _) (Value.int _ _)) _ _ _); (with_unfolding_all refine' itemL ?k1 ?k2 ?k3 ?k4 ?k5 ?_ ?k6; (case k1 => k_asm); (case k2 => k_mem); (case k3 => omega); (case k4 => omega); (case k5 => assumption); (case k6 => with_unfolding_all rfl); k_whole)) | (k_here; (with_reducible show wpAny _ _ (call (Value.builtin "str.split") _) _ _ _); (refine KSpl.split1 (by k_asm) (by k_asm) (by decide) ?_ (by (rw [PySem.sizeLine_eq]; omega))); intro D1 l h1 kk hsp hSA F6 N7 lt1; (try k_lt lt1); (try dsimp only)) | (k_here; (with_reducible show wpAny _ _ (exec (Stmt.For (Expr.Name _ _) (Expr.Call _ _ _ _) _ _ _) _) _ _ _); (rename Fr _ _ _ _ => lF'); (with_unfolding_all refine' forG lF' ?k1 ?k2 ?_; (case k1 => exact rfl); (case k2 => exact rfl); k_whole)) | (k_here; (with_reducible show wpAny _ _ (exec (Stmt.Assign _ (Expr.ListComp _ [Comprehension.mk _ _ [] _] _ _) _) _) _ _ _); k_dflt (refine assignCell (by k_asm) (by rfl) (by with_unfolding_all rfl) (by with_unfolding_all rfl) (by intro h; rfl) (by intro c; rfl) (by rfl) (by decide) (by rfl) (by rfl) (by rfl) ?_)) | (k_here; (with_reducible show wpAny _ _ (exec (Stmt.Assign _ (Expr.ListComp _ [Comprehension.mk _ _ [] _] _ _) _) _) _ _ _); k_dflt (refine LCg.Assign_ListComp_U (F₀ := by k_asm) (by rfl) (by with_unfolding_all rfl) (by with_unfolding_all rfl) (by decide) (by rfl) (by decide) (by rfl) (by rfl) (by rfl) ?_)) | (k_here; (with_reducible show wpAny _ _ (eval (Expr.ListComp _ [Comprehension.mk _ _ [] _] _ _) _) _ _ _); k_dflt (refine LCg.ListComp_U (F₀ := by k_asm) (by with_unfolding_all rfl) (by decide) (by rfl) (by decide) (by rfl) ?_)) | walk1)
      have hyl : ys.length = 3 := by have := hys.1; simpa [hxl] using this
      rw [List.size_toArray, hxl] at hys
      refine cellList (fun i zs nw => ∃ r, nw = (D3, LCg.lst ys) :: (lS, W.listOf svs.toArray 0) :: (D2, LCg.lst xs) :: (lL, W.listOf lvs.toArray 0) :: (L₀ + 1 + 1 + 1 + 1, oS) :: (L₀ + 1 + 1, oL) :: (82, tabObj #[]) :: r ∧ (∀ p ∈ tb, p ∈ r) ∧ Lst (fun j v => ∃ o cvs, v = .ref o ∧ (o, LCg.lst cvs) ∈ r ∧ IntsAre cvs ((sizesOf tally).map (colOf (ldOf f g j).cps.toList))) zs i ∧ ∀ p ∈ r, @Ne Nat p.1 82) (by with_unfolding_all rfl) F4 N5 (.tail _ (.tail _ (.tail _ (.head _)))) (by rw [List.size_toArray, hll, sizeLine_eq]; omega) ⟨tb, rfl, fun _ h => h, .nil, h82b⟩ ?_ ?_
      · intro g3 i v I oI C oC mC K oK D zs nw h tk E' hi hv hJ hNC hoK F₁ N₁ off ne
        obtain ⟨r, rfl, hr, hzs, h82r⟩ := hJ
        obtain ⟨t, rfl⟩ := hlv.get (by simpa using hv)
        have hLd := ldOf_lead hLf hLg i
        have hsl : svs.length = 9 := hsz.length
        obtain ⟨ld, hld⟩ : ∃ x, x = ldOf f g i := ⟨_, rfl⟩
        rw [← hld] at hv hoK hLd
        try dsimp only
        repeat' (fail_if_success (with_reducible show wpAny _ _ (pyIter _) _ _ _)); (fail_if_success (with_reducible show LCg.CompSrc _ _ _ _ _ _ _ _ _ _ _ _ _ _)); (fail_if_success (with_reducible show LCt.CompSrcT _ _ _ _ _ _ _ _ _ _ _ _ _ _ _)); (fail_if_success (with_reducible show LCg.CompEnd _ _ _ _ _ _ _ _ _ _ _ _ _ _)); (fail_if_success (with_reducible show CellEnd _ _ _ _ _ _ _ _ _ _ _ _ _ _ _ _)); (fail_if_success (with_reducible show wpAny _ _ (call (Value.ref _) _) _ _ _)); (fail_if_success (with_reducible show wpAny _ _ (compareOp _ (Value.ref _) (Value.ref _)) _ _ _)); first | (k_unfold; (try dsimp only)) | (k_here; (with_reducible show wpAny _ _ (subscriptTail _ _ (Value.ref _) (Value.int (Int.fmod _ _) _)) _ _ _); (with_unfolding_all refine' tailItem ?k1 ?k2 ?kT ?k3 ?k4 ?_ ?k6; (case k1 => k_asm); (case k2 => k_mem); (case kT => assumption); (case k3 => exact fmod_lo _ (by decide)); (case k4 => exact fmod_hi _ (by decide)); (case k6 => with_unfolding_all rfl); k_whole); intro y' t' e' l') | (k_here; (with_reducible show wpAny _ _ (subscriptTail _ _ (Value.ref _) (Value.int _ _)) _ _ _); (with_unfolding_all refine' itemL ?k1 ?k2 ?k3 ?k4 ?k5 ?_ ?k6; (case k1 => k_asm); (case k2 => k_mem); (case k3 => omega); (case k4 => omega); (case k5 => assumption); (case k6 => with_unfolding_all rfl); k_whole)) | (k_here; (with_reducible show wpAny _ _ (call (Value.builtin "str.split") _) _ _ _); (refine KSpl.split1 (by k_asm) (by k_asm) (by decide) ?_ (by (rw [PySem.sizeLine_eq]; omega))); intro D1 l h1 kk hsp hSA F6 N7 lt1; (try k_lt lt1); (try dsimp only)) | (k_here; (with_reducible show wpAny _ _ (exec (Stmt.For (Expr.Name _ _) (Expr.Call _ _ _ _) _ _ _) _) _ _ _); (rename Fr _ _ _ _ => lF'); (with_unfolding_all refine' forG lF' ?k1 ?k2 ?_; (case k1 => exact rfl); (case k2 => exact rfl); k_whole)) | (k_here; (with_reducible show wpAny _ _ (exec (Stmt.Assign _ (Expr.ListComp _ [Comprehension.mk _ _ [] _] _ _) _) _) _ _ _); k_dflt (refine assignCell (by k_asm) (by rfl) (by with_unfolding_all rfl) (by with_unfolding_all rfl) (by intro h; rfl) (by intro c; rfl) (by rfl) (by decide) (by rfl) (by rfl) (by rfl) ?_)) | (k_here; (with_reducible show wpAny _ _ (exec (Stmt.Assign _ (Expr.ListComp _ [Comprehension.mk _ _ [] _] _ _) _) _) _ _ _); k_dflt (refine LCg.Assign_ListComp_U (F₀ := by k_asm) (by rfl) (by with_unfolding_all rfl) (by with_unfolding_all rfl) (by decide) (by rfl) (by decide) (by rfl) (by rfl) (by rfl) ?_)) | (k_here; (with_reducible show wpAny _ _ (eval (Expr.ListComp _ [Comprehension.mk _ _ [] _] _ _) _) _ _ _); k_dflt (refine LCg.ListComp_U (F₀ := by k_asm) (by with_unfolding_all rfl) (by decide) (by rfl) (by decide) (by rfl) ?_)) | walk1 | (dsimp only; first | (k_here; (with_reducible show wpAny _ _ (subscriptTail _ _ (Value.ref _) (Value.int (Int.fmod _ _) _)) _ _ _); (with_unfolding_all refine' tailItem ?k1 ?k2 ?kT ?k3 ?k4 ?_ ?k6; (case k1 => k_asm); (case k2 => k_mem); (case kT => assumption); (case k3 => exact fmod_lo _ (by decide)); (case k4 => exact fmod_hi _ (by decide)); (case k6 => with_unfolding_all rfl); k_whole); intro y' t' e' l') | (k_here; (with_reducible show wpAny _ _ (subscriptTail _ _ (Value.ref _) (Value.int _ _)) _ _ _); (with_unfolding_all refine' itemL ?k1 ?k2 ?k3 ?k4 ?k5 ?_ ?k6; (case k1 => k_asm); (case k2 => k_mem); (case k3 => omega); (case k4 => omega); (case k5 => assumption); (case k6 => with_unfolding_all rfl); k_whole)) | (k_here; (with_reducible show wpAny _ _ (call (Value.builtin "str.split") _) _ _ _); (refine KSpl.split1 (by k_asm) (by k_asm) (by decide) ?_ (by (rw [PySem.sizeLine_eq]; omega))); intro D1 l h1 kk hsp hSA F6 N7 lt1; (try k_lt lt1); (try dsimp only)) | (k_here; (with_reducible show wpAny _ _ (exec (Stmt.For (Expr.Name _ _) (Expr.Call _ _ _ _) _ _ _) _) _ _ _); (rename Fr _ _ _ _ => lF'); (with_unfolding_all refine' forG lF' ?k1 ?k2 ?_; (case k1 => exact rfl); (case k2 => exact rfl); k_whole)) | (k_here; (with_reducible show wpAny _ _ (exec (Stmt.Assign _ (Expr.ListComp _ [Comprehension.mk _ _ [] _] _ _) _) _) _ _ _); k_dflt (refine assignCell (by k_asm) (by rfl) (by with_unfolding_all rfl) (by with_unfolding_all rfl) (by intro h; rfl) (by intro c; rfl) (by rfl) (by decide) (by rfl) (by rfl) (by rfl) ?_)) | (k_here; (with_reducible show wpAny _ _ (exec (Stmt.Assign _ (Expr.ListComp _ [Comprehension.mk _ _ [] _] _ _) _) _) _ _ _); k_dflt (refine LCg.Assign_ListComp_U (F₀ := by k_asm) (by rfl) (by with_unfolding_all rfl) (by with_unfolding_all rfl) (by decide) (by rfl) (by decide) (by rfl) (by rfl) (by rfl) ?_)) | (k_here; (with_reducible show wpAny _ _ (eval (Expr.ListComp _ [Comprehension.mk _ _ [] _] _ _) _) _ _ _); k_dflt (refine LCg.ListComp_U (F₀ := by k_asm) (by with_unfolding_all rfl) (by decide) (by rfl) (by decide) (by rfl) ?_)) | walk1)
        refine LCg.CompSrc.ledger (by with_unfolding_all rfl) F₁ N₁ (.tail _ (.tail _ (.tail _ (.tail _ (.tail _ (.head _)))))) (by rw [List.size_toArray, hsl, sizeLine_eq]; omega) ?_
        intro g4
        refine comp_inv (fun j cs nw => nw = _ ∧ IntsAre cs (((sizesOf tally).map (colOf ld.cps.toList)).take j)) ⟨rfl, .nil⟩ ?_ ?_
        · rintro j v I2 oI2 C2 oC2 D6 m2 cs nw h tk E2 hj hv2 ⟨rfl, hcs⟩ hNC2 hx2 F5 N6 off2 ne2
          obtain ⟨z, tz, rfl, hz⟩ := IntsAre.at hsz j v (by simpa using hv2)
          have hAnd := sizes_bounds ht0 ht1 z (List.mem_of_getElem? hz)
          have hb1 := hAnd.1
          have hb2 := hAnd.2
          clear hAnd
          repeat' (fail_if_success (with_reducible show wpAny _ _ (pyIter _) _ _ _)); (fail_if_success (with_reducible show LCg.CompSrc _ _ _ _ _ _ _ _ _ _ _ _ _ _)); (fail_if_success (with_reducible show LCt.CompSrcT _ _ _ _ _ _ _ _ _ _ _ _ _ _ _)); (fail_if_success (with_reducible show LCg.CompEnd _ _ _ _ _ _ _ _ _ _ _ _ _ _)); (fail_if_success (with_reducible show CellEnd _ _ _ _ _ _ _ _ _ _ _ _ _ _ _ _)); (fail_if_success (with_reducible show wpAny _ _ (call (Value.ref _) _) _ _ _)); (fail_if_success (with_reducible show wpAny _ _ (compareOp _ (Value.ref _) (Value.ref _)) _ _ _)); first | (k_unfold; (try dsimp only)) | (k_here; (with_reducible show wpAny _ _ (subscriptTail _ _ (Value.ref _) (Value.int (Int.fmod _ _) _)) _ _ _); (with_unfolding_all refine' tailItem ?k1 ?k2 ?kT ?k3 ?k4 ?_ ?k6; (case k1 => k_asm); (case k2 => k_mem); (case kT => assumption); (case k3 => exact fmod_lo _ (by decide)); (case k4 => exact fmod_hi _ (by decide)); (case k6 => with_unfolding_all rfl); k_whole); intro y' t' e' l') | (k_here; (with_reducible show wpAny _ _ (subscriptTail _ _ (Value.ref _) (Value.int _ _)) _ _ _); (with_unfolding_all refine' itemL ?k1 ?k2 ?k3 ?k4 ?k5 ?_ ?k6; (case k1 => k_asm); (case k2 => k_mem); (case k3 => omega); (case k4 => omega); (case k5 => assumption); (case k6 => with_unfolding_all rfl); k_whole)) | (k_here; (with_reducible show wpAny _ _ (call (Value.builtin "str.split") _) _ _ _); (refine KSpl.split1 (by k_asm) (by k_asm) (by decide) ?_ (by (rw [PySem.sizeLine_eq]; omega))); intro D1 l h1 kk hsp hSA F6 N7 lt1; (try k_lt lt1); (try dsimp only)) | (k_here; (with_reducible show wpAny _ _ (exec (Stmt.For (Expr.Name _ _) (Expr.Call _ _ _ _) _ _ _) _) _ _ _); (rename Fr _ _ _ _ => lF'); (with_unfolding_all refine' forG lF' ?k1 ?k2 ?_; (case k1 => exact rfl); (case k2 => exact rfl); k_whole)) | (k_here; (with_reducible show wpAny _ _ (exec (Stmt.Assign _ (Expr.ListComp _ [Comprehension.mk _ _ [] _] _ _) _) _) _ _ _); k_dflt (refine assignCell (by k_asm) (by rfl) (by with_unfolding_all rfl) (by with_unfolding_all rfl) (by intro h; rfl) (by intro c; rfl) (by rfl) (by decide) (by rfl) (by rfl) (by rfl) ?_)) | (k_here; (with_reducible show wpAny _ _ (exec (Stmt.Assign _ (Expr.ListComp _ [Comprehension.mk _ _ [] _] _ _) _) _) _ _ _); k_dflt (refine LCg.Assign_ListComp_U (F₀ := by k_asm) (by rfl) (by with_unfolding_all rfl) (by with_unfolding_all rfl) (by decide) (by rfl) (by decide) (by rfl) (by rfl) (by rfl) ?_)) | (k_here; (with_reducible show wpAny _ _ (eval (Expr.ListComp _ [Comprehension.mk _ _ [] _] _ _) _) _ _ _); k_dflt (refine LCg.ListComp_U (F₀ := by k_asm) (by with_unfolding_all rfl) (by decide) (by rfl) (by decide) (by rfl) ?_)) | walk1 | (dsimp only; first | (k_here; (with_reducible show wpAny _ _ (subscriptTail _ _ (Value.ref _) (Value.int (Int.fmod _ _) _)) _ _ _); (with_unfolding_all refine' tailItem ?k1 ?k2 ?kT ?k3 ?k4 ?_ ?k6; (case k1 => k_asm); (case k2 => k_mem); (case kT => assumption); (case k3 => exact fmod_lo _ (by decide)); (case k4 => exact fmod_hi _ (by decide)); (case k6 => with_unfolding_all rfl); k_whole); intro y' t' e' l') | (k_here; (with_reducible show wpAny _ _ (subscriptTail _ _ (Value.ref _) (Value.int _ _)) _ _ _); (with_unfolding_all refine' itemL ?k1 ?k2 ?k3 ?k4 ?k5 ?_ ?k6; (case k1 => k_asm); (case k2 => k_mem); (case k3 => omega); (case k4 => omega); (case k5 => assumption); (case k6 => with_unfolding_all rfl); k_whole)) | (k_here; (with_reducible show wpAny _ _ (call (Value.builtin "str.split") _) _ _ _); (refine KSpl.split1 (by k_asm) (by k_asm) (by decide) ?_ (by (rw [PySem.sizeLine_eq]; omega))); intro D1 l h1 kk hsp hSA F6 N7 lt1; (try k_lt lt1); (try dsimp only)) | (k_here; (with_reducible show wpAny _ _ (exec (Stmt.For (Expr.Name _ _) (Expr.Call _ _ _ _) _ _ _) _) _ _ _); (rename Fr _ _ _ _ => lF'); (with_unfolding_all refine' forG lF' ?k1 ?k2 ?_; (case k1 => exact rfl); (case k2 => exact rfl); k_whole)) | (k_here; (with_reducible show wpAny _ _ (exec (Stmt.Assign _ (Expr.ListComp _ [Comprehension.mk _ _ [] _] _ _) _) _) _ _ _); k_dflt (refine assignCell (by k_asm) (by rfl) (by with_unfolding_all rfl) (by with_unfolding_all rfl) (by intro h; rfl) (by intro c; rfl) (by rfl) (by decide) (by rfl) (by rfl) (by rfl) ?_)) | (k_here; (with_reducible show wpAny _ _ (exec (Stmt.Assign _ (Expr.ListComp _ [Comprehension.mk _ _ [] _] _ _) _) _) _ _ _); k_dflt (refine LCg.Assign_ListComp_U (F₀ := by k_asm) (by rfl) (by with_unfolding_all rfl) (by with_unfolding_all rfl) (by decide) (by rfl) (by decide) (by rfl) (by rfl) (by rfl) ?_)) | (k_here; (with_reducible show wpAny _ _ (eval (Expr.ListComp _ [Comprehension.mk _ _ [] _] _ _) _) _ _ _); k_dflt (refine LCg.ListComp_U (F₀ := by k_asm) (by with_unfolding_all rfl) (by decide) (by rfl) (by decide) (by rfl) ?_)) | walk1)
          try dsimp only [List.cons_append, List.nil_append, List.append_nil]
          k_dflt (refine' Ct.useV (column_c w _ ld t z tz hb1 hb2) ?k1 ?k2 ?k3 ?k4 ?k5 ?kK ?kd ?ku ?_; (case k1 => k_asm); (case k2 => k_asm); (case k3 => k_asm); (case k4 => k_asm); (case k5 => k_asm); (case kK => first | exact rfl | assumption); (case kd => ktr_room); (case ku => ktr_units); k_whole)
          intro t9 h9 tk9 F9 N9
          show LCg.CompEnd _ _ _ _ _ _ _ _ _ _ _ _ _ _
          exact LCg.CompEnd.intro F9 N9 _ (fun p hp => hp) off2 (.inr ⟨_, .tail _ (.tail _ (.tail _ (.tail _ (.tail _ (.head _))))), rfl, _, rfl⟩) ⟨rfl, ints_snoc hcs (by rw [List.getElem?_map, hz]; rfl)⟩
        · rintro cs nw ⟨rfl, hcs⟩
          rw [List.size_toArray, hsz.length, ← List.length_map (f := colOf ld.cps.toList), List.take_length] at hcs
          unfold LCg.FinE
          intro D6 h6 tk6 F6 N6 off6
          have hD6 := off1_ne off6
          clear off6
          try dsimp only
          refine ⟨_, _, (D3, LCg.lst ys) :: (lS, W.listOf svs.toArray 0) :: (D2, LCg.lst xs) :: (lL, W.listOf lvs.toArray 0) :: (L₀ + 1 + 1 + 1 + 1, oS) :: (L₀ + 1 + 1, oL) :: (82, tabObj #[]) :: (D6, LCg.lst cs) :: r, rfl, F6, kst_newsOf N6 perm_b, ?_, .inr ⟨_, .tail _ (.tail _ (.tail _ (.head _))), rfl, _, rfl⟩, (D6, LCg.lst cs) :: r, rfl, fun p hp => .tail _ (hr p hp), (hzs.mono fun j v ⟨o, cvs, q1, q2, q3⟩ => ⟨o, cvs, q1, .tail _ q2, q3⟩).snoc ⟨D6, cs, rfl, .head _, by rw [← hld]; exact hcs⟩, ?_⟩
          · intro p hp
            have hp2 := perm_c p hp
            rcases hp2 with rfl | hp2
            · exact ⟨(hD6 (I, oI) (.head _)).symm, (hD6 (C, oC) (.tail _ (.head _))).symm, (hD6 (K, oK) (.tail _ (.tail _ (.head _)))).symm, (hD6 (D, LCg.lst zs) (.tail _ (.tail _ (.tail _ (.head _))))).symm⟩
            · exact off p hp2
          · intro p hp
            rcases List.mem_cons.mp hp with rfl | hp
            · exact (hD6 (82, tabObj #[]) (.tail _ (.tail _ (.tail _ (.tail _ (.tail _ (.tail _ (.tail _ (.tail _ (.tail _ (.tail _ (.head _)))))))))))).symm
            · exact h82r p hp
      · rintro g5 cls nw ⟨r, rfl, hr, hcls, h82r⟩
        unfold LCg.FinA
        intro D4 h4 tk4 F5 N6 o4
        have ho4 := off1_ne o4
        have n4 : @Ne Nat D4 82 := (ho4 (82, tabObj #[]) (.tail _ (.tail _ (.tail _ (.tail _ (.tail _ (.tail _ (.head _)))))))).symm
        clear o4 ho4 N5 F4
        try dsimp only
        repeat' (fail_if_success (with_reducible show wpAny _ _ (pyIter _) _ _ _)); (fail_if_success (with_reducible show LCg.CompSrc _ _ _ _ _ _ _ _ _ _ _ _ _ _)); (fail_if_success (with_reducible show LCt.CompSrcT _ _ _ _ _ _ _ _ _ _ _ _ _ _ _)); (fail_if_success (with_reducible show LCg.CompEnd _ _ _ _ _ _ _ _ _ _ _ _ _ _)); (fail_if_success (with_reducible show CellEnd _ _ _ _ _ _ _ _ _ _ _ _ _ _ _ _)); (fail_if_success (with_reducible show wpAny _ _ (call (Value.ref _) _) _ _ _)); (fail_if_success (with_reducible show wpAny _ _ (compareOp _ (Value.ref _) (Value.ref _)) _ _ _)); first | (k_unfold; (try dsimp only)) | (k_here; (with_reducible show wpAny _ _ (subscriptTail _ _ (Value.ref _) (Value.int (Int.fmod _ _) _)) _ _ _); (with_unfolding_all refine' tailItem ?k1 ?k2 ?kT ?k3 ?k4 ?_ ?k6; (case k1 => k_asm); (case k2 => k_mem); (case kT => assumption); (case k3 => exact fmod_lo _ (by decide)); (case k4 => exact fmod_hi _ (by decide)); (case k6 => with_unfolding_all rfl); k_whole); intro y' t' e' l') | (k_here; (with_reducible show wpAny _ _ (subscriptTail _ _ (Value.ref _) (Value.int _ _)) _ _ _); (with_unfolding_all refine' itemL ?k1 ?k2 ?k3 ?k4 ?k5 ?_ ?k6; (case k1 => k_asm); (case k2 => k_mem); (case k3 => omega); (case k4 => omega); (case k5 => assumption); (case k6 => with_unfolding_all rfl); k_whole)) | (k_here; (with_reducible show wpAny _ _ (call (Value.builtin "str.split") _) _ _ _); (refine KSpl.split1 (by k_asm) (by k_asm) (by decide) ?_ (by (rw [PySem.sizeLine_eq]; omega))); intro D1 l h1 kk hsp hSA F6 N7 lt1; (try k_lt lt1); (try dsimp only)) | (k_here; (with_reducible show wpAny _ _ (exec (Stmt.For (Expr.Name _ _) (Expr.Call _ _ _ _) _ _ _) _) _ _ _); (rename Fr _ _ _ _ => lF'); (with_unfolding_all refine' forG lF' ?k1 ?k2 ?_; (case k1 => exact rfl); (case k2 => exact rfl); k_whole)) | (k_here; (with_reducible show wpAny _ _ (exec (Stmt.Assign _ (Expr.ListComp _ [Comprehension.mk _ _ [] _] _ _) _) _) _ _ _); k_dflt (refine assignCell (by k_asm) (by rfl) (by with_unfolding_all rfl) (by with_unfolding_all rfl) (by intro h; rfl) (by intro c; rfl) (by rfl) (by decide) (by rfl) (by rfl) (by rfl) ?_)) | (k_here; (with_reducible show wpAny _ _ (exec (Stmt.Assign _ (Expr.ListComp _ [Comprehension.mk _ _ [] _] _ _) _) _) _ _ _); k_dflt (refine LCg.Assign_ListComp_U (F₀ := by k_asm) (by rfl) (by with_unfolding_all rfl) (by with_unfolding_all rfl) (by decide) (by rfl) (by decide) (by rfl) (by rfl) (by rfl) ?_)) | (k_here; (with_reducible show wpAny _ _ (eval (Expr.ListComp _ [Comprehension.mk _ _ [] _] _ _) _) _ _ _); k_dflt (refine LCg.ListComp_U (F₀ := by k_asm) (by with_unfolding_all rfl) (by decide) (by rfl) (by decide) (by rfl) ?_)) | walk1 | (dsimp only; first | (k_here; (with_reducible show wpAny _ _ (subscriptTail _ _ (Value.ref _) (Value.int (Int.fmod _ _) _)) _ _ _); (with_unfolding_all refine' tailItem ?k1 ?k2 ?kT ?k3 ?k4 ?_ ?k6; (case k1 => k_asm); (case k2 => k_mem); (case kT => assumption); (case k3 => exact fmod_lo _ (by decide)); (case k4 => exact fmod_hi _ (by decide)); (case k6 => with_unfolding_all rfl); k_whole); intro y' t' e' l') | (k_here; (with_reducible show wpAny _ _ (subscriptTail _ _ (Value.ref _) (Value.int _ _)) _ _ _); (with_unfolding_all refine' itemL ?k1 ?k2 ?k3 ?k4 ?k5 ?_ ?k6; (case k1 => k_asm); (case k2 => k_mem); (case k3 => omega); (case k4 => omega); (case k5 => assumption); (case k6 => with_unfolding_all rfl); k_whole)) | (k_here; (with_reducible show wpAny _ _ (call (Value.builtin "str.split") _) _ _ _); (refine KSpl.split1 (by k_asm) (by k_asm) (by decide) ?_ (by (rw [PySem.sizeLine_eq]; omega))); intro D1 l h1 kk hsp hSA F6 N7 lt1; (try k_lt lt1); (try dsimp only)) | (k_here; (with_reducible show wpAny _ _ (exec (Stmt.For (Expr.Name _ _) (Expr.Call _ _ _ _) _ _ _) _) _ _ _); (rename Fr _ _ _ _ => lF'); (with_unfolding_all refine' forG lF' ?k1 ?k2 ?_; (case k1 => exact rfl); (case k2 => exact rfl); k_whole)) | (k_here; (with_reducible show wpAny _ _ (exec (Stmt.Assign _ (Expr.ListComp _ [Comprehension.mk _ _ [] _] _ _) _) _) _ _ _); k_dflt (refine assignCell (by k_asm) (by rfl) (by with_unfolding_all rfl) (by with_unfolding_all rfl) (by intro h; rfl) (by intro c; rfl) (by rfl) (by decide) (by rfl) (by rfl) (by rfl) ?_)) | (k_here; (with_reducible show wpAny _ _ (exec (Stmt.Assign _ (Expr.ListComp _ [Comprehension.mk _ _ [] _] _ _) _) _) _ _ _); k_dflt (refine LCg.Assign_ListComp_U (F₀ := by k_asm) (by rfl) (by with_unfolding_all rfl) (by with_unfolding_all rfl) (by decide) (by rfl) (by decide) (by rfl) (by rfl) (by rfl) ?_)) | (k_here; (with_reducible show wpAny _ _ (eval (Expr.ListComp _ [Comprehension.mk _ _ [] _] _ _) _) _ _ _); k_dflt (refine LCg.ListComp_U (F₀ := by k_asm) (by with_unfolding_all rfl) (by decide) (by rfl) (by decide) (by rfl) ?_)) | walk1)
        refine LCg.CompSrc.ledger (by with_unfolding_all rfl) F5 N6 (.tail _ (.tail _ (.tail _ (.tail _ (.head _))))) (by rw [List.size_toArray, hll, sizeLine_eq]; omega) ?_
        intro g6
        refine comp_inv (fun i zs nw => nw = _ ∧ Lst (fun j v => ∃ t, v = .int (listMax (partsOf (ldOf f g j))) t) zs i) ⟨rfl, .nil⟩ ?_ ?_
        · rintro i v I oI C oC D m₂ zs nw h tk E' hi hv ⟨rfl, hzs⟩ hC hx F₁ N₁ off ne
          obtain ⟨t, rfl⟩ := hlv.get (by simpa using hv)
          have hLd := ldOf_lead hLf hLg i
          obtain ⟨ld, hld⟩ : ∃ x, x = ldOf f g i := ⟨_, rfl⟩
          rw [← hld] at hv hx hLd
          have hd6 := hLd.len
          have hLF := lead_facts hLd
          try dsimp only
          repeat' (fail_if_success (with_reducible show wpAny _ _ (pyIter _) _ _ _)); (fail_if_success (with_reducible show LCg.CompSrc _ _ _ _ _ _ _ _ _ _ _ _ _ _)); (fail_if_success (with_reducible show LCt.CompSrcT _ _ _ _ _ _ _ _ _ _ _ _ _ _ _)); (fail_if_success (with_reducible show LCg.CompEnd _ _ _ _ _ _ _ _ _ _ _ _ _ _)); (fail_if_success (with_reducible show CellEnd _ _ _ _ _ _ _ _ _ _ _ _ _ _ _ _)); (fail_if_success (with_reducible show wpAny _ _ (call (Value.ref _) _) _ _ _)); (fail_if_success (with_reducible show wpAny _ _ (compareOp _ (Value.ref _) (Value.ref _)) _ _ _)); first | (k_unfold; (try dsimp only)) | (k_here; (with_reducible show wpAny _ _ (subscriptTail _ _ (Value.ref _) (Value.int (Int.fmod _ _) _)) _ _ _); (with_unfolding_all refine' tailItem ?k1 ?k2 ?kT ?k3 ?k4 ?_ ?k6; (case k1 => k_asm); (case k2 => k_mem); (case kT => assumption); (case k3 => exact fmod_lo _ (by decide)); (case k4 => exact fmod_hi _ (by decide)); (case k6 => with_unfolding_all rfl); k_whole); intro y' t' e' l') | (k_here; (with_reducible show wpAny _ _ (subscriptTail _ _ (Value.ref _) (Value.int _ _)) _ _ _); (with_unfolding_all refine' itemL ?k1 ?k2 ?k3 ?k4 ?k5 ?_ ?k6; (case k1 => k_asm); (case k2 => k_mem); (case k3 => omega); (case k4 => omega); (case k5 => assumption); (case k6 => with_unfolding_all rfl); k_whole)) | (k_here; (with_reducible show wpAny _ _ (call (Value.builtin "str.split") _) _ _ _); (refine KSpl.split1 (by k_asm) (by k_asm) (by decide) ?_ (by (rw [PySem.sizeLine_eq]; omega))); intro D1 l h1 kk hsp hSA F6 N7 lt1; (try k_lt lt1); (try dsimp only)) | (k_here; (with_reducible show wpAny _ _ (exec (Stmt.For (Expr.Name _ _) (Expr.Call _ _ _ _) _ _ _) _) _ _ _); (rename Fr _ _ _ _ => lF'); (with_unfolding_all refine' forG lF' ?k1 ?k2 ?_; (case k1 => exact rfl); (case k2 => exact rfl); k_whole)) | (k_here; (with_reducible show wpAny _ _ (exec (Stmt.Assign _ (Expr.ListComp _ [Comprehension.mk _ _ [] _] _ _) _) _) _ _ _); k_dflt (refine assignCell (by k_asm) (by rfl) (by with_unfolding_all rfl) (by with_unfolding_all rfl) (by intro h; rfl) (by intro c; rfl) (by rfl) (by decide) (by rfl) (by rfl) (by rfl) ?_)) | (k_here; (with_reducible show wpAny _ _ (exec (Stmt.Assign _ (Expr.ListComp _ [Comprehension.mk _ _ [] _] _ _) _) _) _ _ _); k_dflt (refine LCg.Assign_ListComp_U (F₀ := by k_asm) (by rfl) (by with_unfolding_all rfl) (by with_unfolding_all rfl) (by decide) (by rfl) (by decide) (by rfl) (by rfl) (by rfl) ?_)) | (k_here; (with_reducible show wpAny _ _ (eval (Expr.ListComp _ [Comprehension.mk _ _ [] _] _ _) _) _ _ _); k_dflt (refine LCg.ListComp_U (F₀ := by k_asm) (by with_unfolding_all rfl) (by decide) (by rfl) (by decide) (by rfl) ?_)) | walk1 | (dsimp only; first | (k_here; (with_reducible show wpAny _ _ (subscriptTail _ _ (Value.ref _) (Value.int (Int.fmod _ _) _)) _ _ _); (with_unfolding_all refine' tailItem ?k1 ?k2 ?kT ?k3 ?k4 ?_ ?k6; (case k1 => k_asm); (case k2 => k_mem); (case kT => assumption); (case k3 => exact fmod_lo _ (by decide)); (case k4 => exact fmod_hi _ (by decide)); (case k6 => with_unfolding_all rfl); k_whole); intro y' t' e' l') | (k_here; (with_reducible show wpAny _ _ (subscriptTail _ _ (Value.ref _) (Value.int _ _)) _ _ _); (with_unfolding_all refine' itemL ?k1 ?k2 ?k3 ?k4 ?k5 ?_ ?k6; (case k1 => k_asm); (case k2 => k_mem); (case k3 => omega); (case k4 => omega); (case k5 => assumption); (case k6 => with_unfolding_all rfl); k_whole)) | (k_here; (with_reducible show wpAny _ _ (call (Value.builtin "str.split") _) _ _ _); (refine KSpl.split1 (by k_asm) (by k_asm) (by decide) ?_ (by (rw [PySem.sizeLine_eq]; omega))); intro D1 l h1 kk hsp hSA F6 N7 lt1; (try k_lt lt1); (try dsimp only)) | (k_here; (with_reducible show wpAny _ _ (exec (Stmt.For (Expr.Name _ _) (Expr.Call _ _ _ _) _ _ _) _) _ _ _); (rename Fr _ _ _ _ => lF'); (with_unfolding_all refine' forG lF' ?k1 ?k2 ?_; (case k1 => exact rfl); (case k2 => exact rfl); k_whole)) | (k_here; (with_reducible show wpAny _ _ (exec (Stmt.Assign _ (Expr.ListComp _ [Comprehension.mk _ _ [] _] _ _) _) _) _ _ _); k_dflt (refine assignCell (by k_asm) (by rfl) (by with_unfolding_all rfl) (by with_unfolding_all rfl) (by intro h; rfl) (by intro c; rfl) (by rfl) (by decide) (by rfl) (by rfl) (by rfl) ?_)) | (k_here; (with_reducible show wpAny _ _ (exec (Stmt.Assign _ (Expr.ListComp _ [Comprehension.mk _ _ [] _] _ _) _) _) _ _ _); k_dflt (refine LCg.Assign_ListComp_U (F₀ := by k_asm) (by rfl) (by with_unfolding_all rfl) (by with_unfolding_all rfl) (by decide) (by rfl) (by decide) (by rfl) (by rfl) (by rfl) ?_)) | (k_here; (with_reducible show wpAny _ _ (eval (Expr.ListComp _ [Comprehension.mk _ _ [] _] _ _) _) _ _ _); k_dflt (refine LCg.ListComp_U (F₀ := by k_asm) (by with_unfolding_all rfl) (by decide) (by rfl) (by decide) (by rfl) ?_)) | walk1)
          have hsl1 : (strValues l).toArray.size = (partsOf ld).length := by
            rw [partsOf, ← hsp]
            simp [strValues]
          have hge1 : ∀ (i : Nat) (v : Value), (strValues l).toArray[i]? = some v → ∃ c t, v = .str c t ∧ (partsOf ld)[i]? = some (c.length : Int) := by
            intro i v hv
            rw [List.getElem?_toArray, strValues, List.getElem?_map] at hv
            cases hq : l[i]? with
            | none => rw [hq] at hv; cases hv
            | some p =>
              rw [hq] at hv
              refine ⟨p.1, p.2, (Option.some.inj hv).symm, ?_⟩
              rw [partsOf, ← hsp, List.getElem?_map, List.getElem?_map, hq]; rfl
          refine LCg.CompSrc.ledger (by with_unfolding_all rfl) F6 N7 (.head _) (by rw [hsl1, sizeLine_eq]; have := hLF.len; omega) ?_
          intro g7
          refine comp_inv (fun j cs nw => nw = _ ∧ IntsAre cs ((partsOf ld).take j)) ⟨rfl, .nil⟩ ?_ ?_
          · rintro j v I2 oI2 C2 oC2 D6 m2 cs nw h tk E2 hj hv2 ⟨rfl, hcs⟩ hNC2 hx2 F7 N8 off2 ne2
            obtain ⟨c, t, rfl, hc⟩ := hge1 j v hv2
            have hb := hLF.bnd _ (List.mem_of_getElem? hc)
            repeat' (fail_if_success (with_reducible show wpAny _ _ (pyIter _) _ _ _)); (fail_if_success (with_reducible show LCg.CompSrc _ _ _ _ _ _ _ _ _ _ _ _ _ _)); (fail_if_success (with_reducible show LCt.CompSrcT _ _ _ _ _ _ _ _ _ _ _ _ _ _ _)); (fail_if_success (with_reducible show LCg.CompEnd _ _ _ _ _ _ _ _ _ _ _ _ _ _)); (fail_if_success (with_reducible show CellEnd _ _ _ _ _ _ _ _ _ _ _ _ _ _ _ _)); (fail_if_success (with_reducible show wpAny _ _ (call (Value.ref _) _) _ _ _)); (fail_if_success (with_reducible show wpAny _ _ (compareOp _ (Value.ref _) (Value.ref _)) _ _ _)); first | (k_unfold; (try dsimp only)) | (k_here; (with_reducible show wpAny _ _ (subscriptTail _ _ (Value.ref _) (Value.int (Int.fmod _ _) _)) _ _ _); (with_unfolding_all refine' tailItem ?k1 ?k2 ?kT ?k3 ?k4 ?_ ?k6; (case k1 => k_asm); (case k2 => k_mem); (case kT => assumption); (case k3 => exact fmod_lo _ (by decide)); (case k4 => exact fmod_hi _ (by decide)); (case k6 => with_unfolding_all rfl); k_whole); intro y' t' e' l') | (k_here; (with_reducible show wpAny _ _ (subscriptTail _ _ (Value.ref _) (Value.int _ _)) _ _ _); (with_unfolding_all refine' itemL ?k1 ?k2 ?k3 ?k4 ?k5 ?_ ?k6; (case k1 => k_asm); (case k2 => k_mem); (case k3 => omega); (case k4 => omega); (case k5 => assumption); (case k6 => with_unfolding_all rfl); k_whole)) | (k_here; (with_reducible show wpAny _ _ (call (Value.builtin "str.split") _) _ _ _); (refine KSpl.split1 (by k_asm) (by k_asm) (by decide) ?_ (by (rw [PySem.sizeLine_eq]; omega))); intro D1 l h1 kk hsp hSA F6 N7 lt1; (try k_lt lt1); (try dsimp only)) | (k_here; (with_reducible show wpAny _ _ (exec (Stmt.For (Expr.Name _ _) (Expr.Call _ _ _ _) _ _ _) _) _ _ _); (rename Fr _ _ _ _ => lF'); (with_unfolding_all refine' forG lF' ?k1 ?k2 ?_; (case k1 => exact rfl); (case k2 => exact rfl); k_whole)) | (k_here; (with_reducible show wpAny _ _ (exec (Stmt.Assign _ (Expr.ListComp _ [Comprehension.mk _ _ [] _] _ _) _) _) _ _ _); k_dflt (refine assignCell (by k_asm) (by rfl) (by with_unfolding_all rfl) (by with_unfolding_all rfl) (by intro h; rfl) (by intro c; rfl) (by rfl) (by decide) (by rfl) (by rfl) (by rfl) ?_)) | (k_here; (with_reducible show wpAny _ _ (exec (Stmt.Assign _ (Expr.ListComp _ [Comprehension.mk _ _ [] _] _ _) _) _) _ _ _); k_dflt (refine LCg.Assign_ListComp_U (F₀ := by k_asm) (by rfl) (by with_unfolding_all rfl) (by with_unfolding_all rfl) (by decide) (by rfl) (by decide) (by rfl) (by rfl) (by rfl) ?_)) | (k_here; (with_reducible show wpAny _ _ (eval (Expr.ListComp _ [Comprehension.mk _ _ [] _] _ _) _) _ _ _); k_dflt (refine LCg.ListComp_U (F₀ := by k_asm) (by with_unfolding_all rfl) (by decide) (by rfl) (by decide) (by rfl) ?_)) | walk1 | (dsimp only; first | (k_here; (with_reducible show wpAny _ _ (subscriptTail _ _ (Value.ref _) (Value.int (Int.fmod _ _) _)) _ _ _); (with_unfolding_all refine' tailItem ?k1 ?k2 ?kT ?k3 ?k4 ?_ ?k6; (case k1 => k_asm); (case k2 => k_mem); (case kT => assumption); (case k3 => exact fmod_lo _ (by decide)); (case k4 => exact fmod_hi _ (by decide)); (case k6 => with_unfolding_all rfl); k_whole); intro y' t' e' l') | (k_here; (with_reducible show wpAny _ _ (subscriptTail _ _ (Value.ref _) (Value.int _ _)) _ _ _); (with_unfolding_all refine' itemL ?k1 ?k2 ?k3 ?k4 ?k5 ?_ ?k6; (case k1 => k_asm); (case k2 => k_mem); (case k3 => omega); (case k4 => omega); (case k5 => assumption); (case k6 => with_unfolding_all rfl); k_whole)) | (k_here; (with_reducible show wpAny _ _ (call (Value.builtin "str.split") _) _ _ _); (refine KSpl.split1 (by k_asm) (by k_asm) (by decide) ?_ (by (rw [PySem.sizeLine_eq]; omega))); intro D1 l h1 kk hsp hSA F6 N7 lt1; (try k_lt lt1); (try dsimp only)) | (k_here; (with_reducible show wpAny _ _ (exec (Stmt.For (Expr.Name _ _) (Expr.Call _ _ _ _) _ _ _) _) _ _ _); (rename Fr _ _ _ _ => lF'); (with_unfolding_all refine' forG lF' ?k1 ?k2 ?_; (case k1 => exact rfl); (case k2 => exact rfl); k_whole)) | (k_here; (with_reducible show wpAny _ _ (exec (Stmt.Assign _ (Expr.ListComp _ [Comprehension.mk _ _ [] _] _ _) _) _) _ _ _); k_dflt (refine assignCell (by k_asm) (by rfl) (by with_unfolding_all rfl) (by with_unfolding_all rfl) (by intro h; rfl) (by intro c; rfl) (by rfl) (by decide) (by rfl) (by rfl) (by rfl) ?_)) | (k_here; (with_reducible show wpAny _ _ (exec (Stmt.Assign _ (Expr.ListComp _ [Comprehension.mk _ _ [] _] _ _) _) _) _ _ _); k_dflt (refine LCg.Assign_ListComp_U (F₀ := by k_asm) (by rfl) (by with_unfolding_all rfl) (by with_unfolding_all rfl) (by decide) (by rfl) (by decide) (by rfl) (by rfl) (by rfl) ?_)) | (k_here; (with_reducible show wpAny _ _ (eval (Expr.ListComp _ [Comprehension.mk _ _ [] _] _ _) _) _ _ _); k_dflt (refine LCg.ListComp_U (F₀ := by k_asm) (by with_unfolding_all rfl) (by decide) (by rfl) (by decide) (by rfl) ?_)) | walk1)
            exact LCg.CompEnd.intro F7 N8 _ (fun p hp => hp) off2 (.inr ⟨_, .head _, rfl, _, rfl⟩) ⟨rfl, ints_snoc hcs hc⟩
          · rintro cs nw ⟨rfl, hcs⟩
            rw [hsl1, List.take_length] at hcs
            unfold LCg.FinE
            intro D6 h6 tk6 F7 N8 off7
            have hyl2 := hcs.length
            have hpl := hLF.len
            have hpp := hLF.pos
            clear off7 hge1 hsl1 lt1 hsp hSA
            try dsimp only
            repeat' (fail_if_success (with_reducible show wpAny _ _ (pyIter _) _ _ _)); (fail_if_success (with_reducible show LCg.CompSrc _ _ _ _ _ _ _ _ _ _ _ _ _ _)); (fail_if_success (with_reducible show LCt.CompSrcT _ _ _ _ _ _ _ _ _ _ _ _ _ _ _)); (fail_if_success (with_reducible show LCg.CompEnd _ _ _ _ _ _ _ _ _ _ _ _ _ _)); (fail_if_success (with_reducible show CellEnd _ _ _ _ _ _ _ _ _ _ _ _ _ _ _ _)); (fail_if_success (with_reducible show wpAny _ _ (call (Value.ref _) _) _ _ _)); (fail_if_success (with_reducible show wpAny _ _ (compareOp _ (Value.ref _) (Value.ref _)) _ _ _)); first | (k_unfold; (try dsimp only)) | (k_here; (with_reducible show wpAny _ _ (subscriptTail _ _ (Value.ref _) (Value.int (Int.fmod _ _) _)) _ _ _); (with_unfolding_all refine' tailItem ?k1 ?k2 ?kT ?k3 ?k4 ?_ ?k6; (case k1 => k_asm); (case k2 => k_mem); (case kT => assumption); (case k3 => exact fmod_lo _ (by decide)); (case k4 => exact fmod_hi _ (by decide)); (case k6 => with_unfolding_all rfl); k_whole); intro y' t' e' l') | (k_here; (with_reducible show wpAny _ _ (subscriptTail _ _ (Value.ref _) (Value.int _ _)) _ _ _); (with_unfolding_all refine' itemL ?k1 ?k2 ?k3 ?k4 ?k5 ?_ ?k6; (case k1 => k_asm); (case k2 => k_mem); (case k3 => omega); (case k4 => omega); (case k5 => assumption); (case k6 => with_unfolding_all rfl); k_whole)) | (k_here; (with_reducible show wpAny _ _ (call (Value.builtin "str.split") _) _ _ _); (refine KSpl.split1 (by k_asm) (by k_asm) (by decide) ?_ (by (rw [PySem.sizeLine_eq]; omega))); intro D1 l h1 kk hsp hSA F6 N7 lt1; (try k_lt lt1); (try dsimp only)) | (k_here; (with_reducible show wpAny _ _ (exec (Stmt.For (Expr.Name _ _) (Expr.Call _ _ _ _) _ _ _) _) _ _ _); (rename Fr _ _ _ _ => lF'); (with_unfolding_all refine' forG lF' ?k1 ?k2 ?_; (case k1 => exact rfl); (case k2 => exact rfl); k_whole)) | (k_here; (with_reducible show wpAny _ _ (exec (Stmt.Assign _ (Expr.ListComp _ [Comprehension.mk _ _ [] _] _ _) _) _) _ _ _); k_dflt (refine assignCell (by k_asm) (by rfl) (by with_unfolding_all rfl) (by with_unfolding_all rfl) (by intro h; rfl) (by intro c; rfl) (by rfl) (by decide) (by rfl) (by rfl) (by rfl) ?_)) | (k_here; (with_reducible show wpAny _ _ (exec (Stmt.Assign _ (Expr.ListComp _ [Comprehension.mk _ _ [] _] _ _) _) _) _ _ _); k_dflt (refine LCg.Assign_ListComp_U (F₀ := by k_asm) (by rfl) (by with_unfolding_all rfl) (by with_unfolding_all rfl) (by decide) (by rfl) (by decide) (by rfl) (by rfl) (by rfl) ?_)) | (k_here; (with_reducible show wpAny _ _ (eval (Expr.ListComp _ [Comprehension.mk _ _ [] _] _ _) _) _ _ _); k_dflt (refine LCg.ListComp_U (F₀ := by k_asm) (by with_unfolding_all rfl) (by decide) (by rfl) (by decide) (by rfl) ?_)) | walk1 | (dsimp only; first | (k_here; (with_reducible show wpAny _ _ (subscriptTail _ _ (Value.ref _) (Value.int (Int.fmod _ _) _)) _ _ _); (with_unfolding_all refine' tailItem ?k1 ?k2 ?kT ?k3 ?k4 ?_ ?k6; (case k1 => k_asm); (case k2 => k_mem); (case kT => assumption); (case k3 => exact fmod_lo _ (by decide)); (case k4 => exact fmod_hi _ (by decide)); (case k6 => with_unfolding_all rfl); k_whole); intro y' t' e' l') | (k_here; (with_reducible show wpAny _ _ (subscriptTail _ _ (Value.ref _) (Value.int _ _)) _ _ _); (with_unfolding_all refine' itemL ?k1 ?k2 ?k3 ?k4 ?k5 ?_ ?k6; (case k1 => k_asm); (case k2 => k_mem); (case k3 => omega); (case k4 => omega); (case k5 => assumption); (case k6 => with_unfolding_all rfl); k_whole)) | (k_here; (with_reducible show wpAny _ _ (call (Value.builtin "str.split") _) _ _ _); (refine KSpl.split1 (by k_asm) (by k_asm) (by decide) ?_ (by (rw [PySem.sizeLine_eq]; omega))); intro D1 l h1 kk hsp hSA F6 N7 lt1; (try k_lt lt1); (try dsimp only)) | (k_here; (with_reducible show wpAny _ _ (exec (Stmt.For (Expr.Name _ _) (Expr.Call _ _ _ _) _ _ _) _) _ _ _); (rename Fr _ _ _ _ => lF'); (with_unfolding_all refine' forG lF' ?k1 ?k2 ?_; (case k1 => exact rfl); (case k2 => exact rfl); k_whole)) | (k_here; (with_reducible show wpAny _ _ (exec (Stmt.Assign _ (Expr.ListComp _ [Comprehension.mk _ _ [] _] _ _) _) _) _ _ _); k_dflt (refine assignCell (by k_asm) (by rfl) (by with_unfolding_all rfl) (by with_unfolding_all rfl) (by intro h; rfl) (by intro c; rfl) (by rfl) (by decide) (by rfl) (by rfl) (by rfl) ?_)) | (k_here; (with_reducible show wpAny _ _ (exec (Stmt.Assign _ (Expr.ListComp _ [Comprehension.mk _ _ [] _] _ _) _) _) _ _ _); k_dflt (refine LCg.Assign_ListComp_U (F₀ := by k_asm) (by rfl) (by with_unfolding_all rfl) (by with_unfolding_all rfl) (by decide) (by rfl) (by decide) (by rfl) (by rfl) (by rfl) ?_)) | (k_here; (with_reducible show wpAny _ _ (eval (Expr.ListComp _ [Comprehension.mk _ _ [] _] _ _) _) _ _ _); k_dflt (refine LCg.ListComp_U (F₀ := by k_asm) (by with_unfolding_all rfl) (by decide) (by rfl) (by decide) (by rfl) ?_)) | walk1)
            rename Fr _ _ _ _ => F10
            rename News _ _ _ _ => N10
            rename _ ∈ partsOf ld => hMm
            rename ∀ a ∈ partsOf ld, _ => hMb
            show LCg.CompEnd _ _ _ _ _ _ _ _ _ _ _ _ _ _
            exact LCg.CompEnd.intro F10 N10 _ (fun p hp => .tail _ (.tail _ hp)) off (.inr ⟨_, .tail _ (.tail _ (.tail _ (.tail _ (.head _)))), rfl, _, rfl⟩) ⟨rfl, hzs.snoc ⟨_, by rw [← hld, listMax_eq hMm hMb]⟩⟩
        · rintro lgs nw ⟨rfl, hlg⟩
          unfold LCg.FinA
          intro D5 h5 tk5 F6 N7 o5
          have n5 : @Ne Nat D5 82 := (off1_ne o5 (82, tabObj #[]) (.tail _ (.tail _ (.tail _ (.tail _ (.tail _ (.tail _ (.tail _ (.head _))))))))).symm
          clear o5 N6 F5
          obtain ⟨R0, hR0⟩ : ∃ R0, R0 = (D5, LCg.lst lgs) :: (D4, LCg.lst cls) :: (D3, LCg.lst ys) :: (lS, W.listOf svs.toArray 0) :: (D2, LCg.lst xs) :: (lL, W.listOf lvs.toArray 0) :: (L₀ + 1 + 1 + 1 + 1, oS) :: (L₀ + 1 + 1, oL) :: r := ⟨_, rfl⟩
          have N8 : News g₀ L₀ h5 ((82, tabObj #[]) :: R0) := by
            rw [hR0]
            exact kst_newsOf N7 perm_d
          have hi82 : ∀ p ∈ R0, @Ne Nat p.1 82 := by
            rw [hR0]
            exact List.forall_mem_cons.mpr ⟨n5, List.forall_mem_cons.mpr ⟨n4, List.forall_mem_cons.mpr ⟨n3, List.forall_mem_cons.mpr ⟨nS, List.forall_mem_cons.mpr ⟨n2, List.forall_mem_cons.mpr ⟨nL, List.forall_mem_cons.mpr ⟨nq4, List.forall_mem_cons.mpr ⟨nq2, h82r⟩⟩⟩⟩⟩⟩⟩⟩
          have m5 : (D5, W.listOf lgs.toArray lgs.length) ∈ R0 := hR0 ▸ .head _
          have m4 : (D4, W.listOf cls.toArray cls.length) ∈ R0 := hR0 ▸ .tail _ (.head _)
          have m3 : (D3, W.listOf ys.toArray ys.length) ∈ R0 := hR0 ▸ .tail _ (.tail _ (.head _))
          have mS : (lS, W.listOf svs.toArray 0) ∈ R0 := hR0 ▸ .tail _ (.tail _ (.tail _ (.head _)))
          have m2 : (D2, W.listOf xs.toArray xs.length) ∈ R0 := hR0 ▸ .tail _ (.tail _ (.tail _ (.tail _ (.head _))))
          have mL : (lL, W.listOf lvs.toArray 0) ∈ R0 := hR0 ▸ .tail _ (.tail _ (.tail _ (.tail _ (.tail _ (.head _)))))
          have mcS : (L₀ + 1 + 1 + 1 + 1, oS) ∈ R0 := hR0 ▸ .tail _ (.tail _ (.tail _ (.tail _ (.tail _ (.tail _ (.head _))))))
          have mcL : (L₀ + 1 + 1, oL) ∈ R0 := hR0 ▸ .tail _ (.tail _ (.tail _ (.tail _ (.tail _ (.tail _ (.tail _ (.head _)))))))
          have hrR : ∀ p ∈ r, p ∈ R0 := fun p hp => hR0 ▸ .tail _ (.tail _ (.tail _ (.tail _ (.tail _ (.tail _ (.tail _ (.tail _ hp)))))))
          rw [List.size_toArray, hll] at hcls hlg
          replace hcls := hcls.mono fun j v ⟨o, cvs, q1, q2, q3⟩ => (⟨o, cvs, q1, hrR _ q2, q3⟩ : ∃ o cvs, v = Value.ref o ∧ (o, LCg.lst cvs) ∈ R0 ∧ IntsAre cvs ((sizesOf tally).map (colOf (ldOf f g j).cps.toList)))
          replace hys := hys.mono fun j v ⟨x, q1, q2⟩ => (⟨x, q1, q2.mono fun p hp => hrR p (hr p hp)⟩ : ∃ x, v = Value.ref x ∧ WsIn w R0 x (txOf f g tally j) (ldOf f g j).cps.toList)
          clear hR0 N7 hrR hr h82r h82b l1L l1S
          have hop0 : TabOk (tabObj #[]) := ⟨_, rfl, by trivial⟩
          have hG0 : AllBare #[] := fun _ h => by simp at h
          try dsimp only
          repeat' (fail_if_success (with_reducible show wpAny _ _ (pyIter _) _ _ _)); (fail_if_success (with_reducible show LCg.CompSrc _ _ _ _ _ _ _ _ _ _ _ _ _ _)); (fail_if_success (with_reducible show LCt.CompSrcT _ _ _ _ _ _ _ _ _ _ _ _ _ _ _)); (fail_if_success (with_reducible show LCg.CompEnd _ _ _ _ _ _ _ _ _ _ _ _ _ _)); (fail_if_success (with_reducible show CellEnd _ _ _ _ _ _ _ _ _ _ _ _ _ _ _ _)); (fail_if_success (with_reducible show wpAny _ _ (call (Value.ref _) _) _ _ _)); (fail_if_success (with_reducible show wpAny _ _ (compareOp _ (Value.ref _) (Value.ref _)) _ _ _)); first | (k_unfold; (try dsimp only)) | (k_here; (with_reducible show wpAny _ _ (subscriptTail _ _ (Value.ref _) (Value.int (Int.fmod _ _) _)) _ _ _); (with_unfolding_all refine' tailItem ?k1 ?k2 ?kT ?k3 ?k4 ?_ ?k6; (case k1 => k_asm); (case k2 => k_mem); (case kT => assumption); (case k3 => exact fmod_lo _ (by decide)); (case k4 => exact fmod_hi _ (by decide)); (case k6 => with_unfolding_all rfl); k_whole); intro y' t' e' l') | (k_here; (with_reducible show wpAny _ _ (subscriptTail _ _ (Value.ref _) (Value.int _ _)) _ _ _); (with_unfolding_all refine' itemL ?k1 ?k2 ?k3 ?k4 ?k5 ?_ ?k6; (case k1 => k_asm); (case k2 => k_mem); (case k3 => omega); (case k4 => omega); (case k5 => assumption); (case k6 => with_unfolding_all rfl); k_whole)) | (k_here; (with_reducible show wpAny _ _ (call (Value.builtin "str.split") _) _ _ _); (refine KSpl.split1 (by k_asm) (by k_asm) (by decide) ?_ (by (rw [PySem.sizeLine_eq]; omega))); intro D1 l h1 kk hsp hSA F6 N7 lt1; (try k_lt lt1); (try dsimp only)) | (k_here; (with_reducible show wpAny _ _ (exec (Stmt.For (Expr.Name _ _) (Expr.Call _ _ _ _) _ _ _) _) _ _ _); (rename Fr _ _ _ _ => lF'); (with_unfolding_all refine' forG lF' ?k1 ?k2 ?_; (case k1 => exact rfl); (case k2 => exact rfl); k_whole)) | (k_here; (with_reducible show wpAny _ _ (exec (Stmt.Assign _ (Expr.ListComp _ [Comprehension.mk _ _ [] _] _ _) _) _) _ _ _); k_dflt (refine assignCell (by k_asm) (by rfl) (by with_unfolding_all rfl) (by with_unfolding_all rfl) (by intro h; rfl) (by intro c; rfl) (by rfl) (by decide) (by rfl) (by rfl) (by rfl) ?_)) | (k_here; (with_reducible show wpAny _ _ (exec (Stmt.Assign _ (Expr.ListComp _ [Comprehension.mk _ _ [] _] _ _) _) _) _ _ _); k_dflt (refine LCg.Assign_ListComp_U (F₀ := by k_asm) (by rfl) (by with_unfolding_all rfl) (by with_unfolding_all rfl) (by decide) (by rfl) (by decide) (by rfl) (by rfl) (by rfl) ?_)) | (k_here; (with_reducible show wpAny _ _ (eval (Expr.ListComp _ [Comprehension.mk _ _ [] _] _ _) _) _ _ _); k_dflt (refine LCg.ListComp_U (F₀ := by k_asm) (by with_unfolding_all rfl) (by decide) (by rfl) (by decide) (by rfl) ?_)) | walk1 | (dsimp only; first | (k_here; (with_reducible show wpAny _ _ (subscriptTail _ _ (Value.ref _) (Value.int (Int.fmod _ _) _)) _ _ _); (with_unfolding_all refine' tailItem ?k1 ?k2 ?kT ?k3 ?k4 ?_ ?k6; (case k1 => k_asm); (case k2 => k_mem); (case kT => assumption); (case k3 => exact fmod_lo _ (by decide)); (case k4 => exact fmod_hi _ (by decide)); (case k6 => with_unfolding_all rfl); k_whole); intro y' t' e' l') | (k_here; (with_reducible show wpAny _ _ (subscriptTail _ _ (Value.ref _) (Value.int _ _)) _ _ _); (with_unfolding_all refine' itemL ?k1 ?k2 ?k3 ?k4 ?k5 ?_ ?k6; (case k1 => k_asm); (case k2 => k_mem); (case k3 => omega); (case k4 => omega); (case k5 => assumption); (case k6 => with_unfolding_all rfl); k_whole)) | (k_here; (with_reducible show wpAny _ _ (call (Value.builtin "str.split") _) _ _ _); (refine KSpl.split1 (by k_asm) (by k_asm) (by decide) ?_ (by (rw [PySem.sizeLine_eq]; omega))); intro D1 l h1 kk hsp hSA F6 N7 lt1; (try k_lt lt1); (try dsimp only)) | (k_here; (with_reducible show wpAny _ _ (exec (Stmt.For (Expr.Name _ _) (Expr.Call _ _ _ _) _ _ _) _) _ _ _); (rename Fr _ _ _ _ => lF'); (with_unfolding_all refine' forG lF' ?k1 ?k2 ?_; (case k1 => exact rfl); (case k2 => exact rfl); k_whole)) | (k_here; (with_reducible show wpAny _ _ (exec (Stmt.Assign _ (Expr.ListComp _ [Comprehension.mk _ _ [] _] _ _) _) _) _ _ _); k_dflt (refine assignCell (by k_asm) (by rfl) (by with_unfolding_all rfl) (by with_unfolding_all rfl) (by intro h; rfl) (by intro c; rfl) (by rfl) (by decide) (by rfl) (by rfl) (by rfl) ?_)) | (k_here; (with_reducible show wpAny _ _ (exec (Stmt.Assign _ (Expr.ListComp _ [Comprehension.mk _ _ [] _] _ _) _) _) _ _ _); k_dflt (refine LCg.Assign_ListComp_U (F₀ := by k_asm) (by rfl) (by with_unfolding_all rfl) (by with_unfolding_all rfl) (by decide) (by rfl) (by decide) (by rfl) (by rfl) (by rfl) ?_)) | (k_here; (with_reducible show wpAny _ _ (eval (Expr.ListComp _ [Comprehension.mk _ _ [] _] _ _) _) _ _ _); k_dflt (refine LCg.ListComp_U (F₀ := by k_asm) (by with_unfolding_all rfl) (by decide) (by rfl) (by decide) (by rfl) ?_)) | walk1)
          rename Fr _ _ _ _ => F7
          rename News _ _ _ _ => N9
          rename IsRange _ _ _ _ _ _ _ _ => hR2
          refine rangeP (n := 3) (Str.ofString "other") (by with_unfolding_all rfl) hR2 (by decide) (by decide) F7 N9 hop0 hG0 ?_ ?_
          · intro i t s₂ I o op₁ v1 E' hi hop hRI hI82 hG1 ho1 F8 N10
            refine Lst.ref hys hi ?_
            intro x hvx hW
            refine Lst.of hxs hi ?_
            intro tt hvt
            refine Lst.of hlv hi ?_
            intro tl hvl
            refine Lst.refs hcls hi ?_
            intro oc cvs hvc mc hic
            have ei := toNat0 i
            replace hvx : ys[(0 + (i : Int)).toNat]? = some (.ref x) := by rw [ei]; exact hvx
            replace hvt : xs[(0 + (i : Int)).toNat]? = some (.str (txOf f g tally i) tt) := by rw [ei]; exact hvt
            replace hvl : lvs[(0 + (i : Int)).toNat]? = some (.str (ldOf f g i) tl) := by rw [ei]; exact hvl
            replace hvc : cls[(0 + (i : Int)).toNat]? = some (.ref oc) := by rw [ei]; exact hvc
            have hLd := ldOf_lead hLf hLg i
            have hx10 := txOf_len hLf hLg tally i
            generalize ldOf f g i = ld at hvl hW hic hLd
            generalize txOf f g tally i = tx at hvt hW hx10
            try dsimp only
            repeat' (fail_if_success (with_reducible show wpAny _ _ (pyIter _) _ _ _)); (fail_if_success (with_reducible show LCg.CompSrc _ _ _ _ _ _ _ _ _ _ _ _ _ _)); (fail_if_success (with_reducible show LCt.CompSrcT _ _ _ _ _ _ _ _ _ _ _ _ _ _ _)); (fail_if_success (with_reducible show LCg.CompEnd _ _ _ _ _ _ _ _ _ _ _ _ _ _)); (fail_if_success (with_reducible show CellEnd _ _ _ _ _ _ _ _ _ _ _ _ _ _ _ _)); (fail_if_success (with_reducible show wpAny _ _ (call (Value.ref _) _) _ _ _)); (fail_if_success (with_reducible show wpAny _ _ (compareOp _ (Value.ref _) (Value.ref _)) _ _ _)); first | (k_unfold; (try dsimp only)) | (k_here; (with_reducible show wpAny _ _ (subscriptTail _ _ (Value.ref _) (Value.int (Int.fmod _ _) _)) _ _ _); (with_unfolding_all refine' tailItem ?k1 ?k2 ?kT ?k3 ?k4 ?_ ?k6; (case k1 => k_asm); (case k2 => k_mem); (case kT => assumption); (case k3 => exact fmod_lo _ (by decide)); (case k4 => exact fmod_hi _ (by decide)); (case k6 => with_unfolding_all rfl); k_whole); intro y' t' e' l') | (k_here; (with_reducible show wpAny _ _ (subscriptTail _ _ (Value.ref _) (Value.int _ _)) _ _ _); (with_unfolding_all refine' itemL ?k1 ?k2 ?k3 ?k4 ?k5 ?_ ?k6; (case k1 => k_asm); (case k2 => k_mem); (case k3 => omega); (case k4 => omega); (case k5 => assumption); (case k6 => with_unfolding_all rfl); k_whole)) | (k_here; (with_reducible show wpAny _ _ (call (Value.builtin "str.split") _) _ _ _); (refine KSpl.split1 (by k_asm) (by k_asm) (by decide) ?_ (by (rw [PySem.sizeLine_eq]; omega))); intro D1 l h1 kk hsp hSA F6 N7 lt1; (try k_lt lt1); (try dsimp only)) | (k_here; (with_reducible show wpAny _ _ (exec (Stmt.For (Expr.Name _ _) (Expr.Call _ _ _ _) _ _ _) _) _ _ _); (rename Fr _ _ _ _ => lF'); (with_unfolding_all refine' forG lF' ?k1 ?k2 ?_; (case k1 => exact rfl); (case k2 => exact rfl); k_whole)) | (k_here; (with_reducible show wpAny _ _ (exec (Stmt.Assign _ (Expr.ListComp _ [Comprehension.mk _ _ [] _] _ _) _) _) _ _ _); k_dflt (refine assignCell (by k_asm) (by rfl) (by with_unfolding_all rfl) (by with_unfolding_all rfl) (by intro h; rfl) (by intro c; rfl) (by rfl) (by decide) (by rfl) (by rfl) (by rfl) ?_)) | (k_here; (with_reducible show wpAny _ _ (exec (Stmt.Assign _ (Expr.ListComp _ [Comprehension.mk _ _ [] _] _ _) _) _) _ _ _); k_dflt (refine LCg.Assign_ListComp_U (F₀ := by k_asm) (by rfl) (by with_unfolding_all rfl) (by with_unfolding_all rfl) (by decide) (by rfl) (by decide) (by rfl) (by rfl) (by rfl) ?_)) | (k_here; (with_reducible show wpAny _ _ (eval (Expr.ListComp _ [Comprehension.mk _ _ [] _] _ _) _) _ _ _); k_dflt (refine LCg.ListComp_U (F₀ := by k_asm) (by with_unfolding_all rfl) (by decide) (by rfl) (by decide) (by rfl) ?_)) | walk1 | (dsimp only; first | (k_here; (with_reducible show wpAny _ _ (subscriptTail _ _ (Value.ref _) (Value.int (Int.fmod _ _) _)) _ _ _); (with_unfolding_all refine' tailItem ?k1 ?k2 ?kT ?k3 ?k4 ?_ ?k6; (case k1 => k_asm); (case k2 => k_mem); (case kT => assumption); (case k3 => exact fmod_lo _ (by decide)); (case k4 => exact fmod_hi _ (by decide)); (case k6 => with_unfolding_all rfl); k_whole); intro y' t' e' l') | (k_here; (with_reducible show wpAny _ _ (subscriptTail _ _ (Value.ref _) (Value.int _ _)) _ _ _); (with_unfolding_all refine' itemL ?k1 ?k2 ?k3 ?k4 ?k5 ?_ ?k6; (case k1 => k_asm); (case k2 => k_mem); (case k3 => omega); (case k4 => omega); (case k5 => assumption); (case k6 => with_unfolding_all rfl); k_whole)) | (k_here; (with_reducible show wpAny _ _ (call (Value.builtin "str.split") _) _ _ _); (refine KSpl.split1 (by k_asm) (by k_asm) (by decide) ?_ (by (rw [PySem.sizeLine_eq]; omega))); intro D1 l h1 kk hsp hSA F6 N7 lt1; (try k_lt lt1); (try dsimp only)) | (k_here; (with_reducible show wpAny _ _ (exec (Stmt.For (Expr.Name _ _) (Expr.Call _ _ _ _) _ _ _) _) _ _ _); (rename Fr _ _ _ _ => lF'); (with_unfolding_all refine' forG lF' ?k1 ?k2 ?_; (case k1 => exact rfl); (case k2 => exact rfl); k_whole)) | (k_here; (with_reducible show wpAny _ _ (exec (Stmt.Assign _ (Expr.ListComp _ [Comprehension.mk _ _ [] _] _ _) _) _) _ _ _); k_dflt (refine assignCell (by k_asm) (by rfl) (by with_unfolding_all rfl) (by with_unfolding_all rfl) (by intro h; rfl) (by intro c; rfl) (by rfl) (by decide) (by rfl) (by rfl) (by rfl) ?_)) | (k_here; (with_reducible show wpAny _ _ (exec (Stmt.Assign _ (Expr.ListComp _ [Comprehension.mk _ _ [] _] _ _) _) _) _ _ _); k_dflt (refine LCg.Assign_ListComp_U (F₀ := by k_asm) (by rfl) (by with_unfolding_all rfl) (by with_unfolding_all rfl) (by decide) (by rfl) (by decide) (by rfl) (by rfl) (by rfl) ?_)) | (k_here; (with_reducible show wpAny _ _ (eval (Expr.ListComp _ [Comprehension.mk _ _ [] _] _ _) _) _ _ _); k_dflt (refine LCg.ListComp_U (F₀ := by k_asm) (by with_unfolding_all rfl) (by decide) (by rfl) (by decide) (by rfl) ?_)) | walk1)
            rename IntsAre svs _ => hsz
            k_dflt (refine' Ct.useT (mem_c w ((I, o) :: (82, op₁) :: R0) x tx ld tt tl lS oc svs cvs 0 cvs.length (sizesOf tally) _ (hW.mono (fun p hp => .tail _ (.tail _ hp))) hLd hx10 (.tail _ (.tail _ mS)) (.tail _ (.tail _ mc)) hsz hic (Nat.le_refl 9) (sizes_bounds ht0 ht1) rfl (fun z hz => level_col hLd (sizes_bounds ht0 ht1 z hz).1)) ?k1 ?k2 ?k3 ?k4 ?k5 ?kK ?kd ?ku ?_; (case k1 => k_asm); (case k2 => k_asm); (case k3 => k_asm); (case k4 => k_asm); (case k5 => k_asm); (case kK => first | exact rfl | assumption); (case kd => ktr_room); (case ku => ktr_units); k_whole)
            intro h9 tk9 F9 N11
            try dsimp only
            repeat' (fail_if_success (with_reducible show wpAny _ _ (pyIter _) _ _ _)); (fail_if_success (with_reducible show LCg.CompSrc _ _ _ _ _ _ _ _ _ _ _ _ _ _)); (fail_if_success (with_reducible show LCt.CompSrcT _ _ _ _ _ _ _ _ _ _ _ _ _ _ _)); (fail_if_success (with_reducible show LCg.CompEnd _ _ _ _ _ _ _ _ _ _ _ _ _ _)); (fail_if_success (with_reducible show CellEnd _ _ _ _ _ _ _ _ _ _ _ _ _ _ _ _)); (fail_if_success (with_reducible show wpAny _ _ (call (Value.ref _) _) _ _ _)); (fail_if_success (with_reducible show wpAny _ _ (compareOp _ (Value.ref _) (Value.ref _)) _ _ _)); first | (k_unfold; (try dsimp only)) | (k_here; (with_reducible show wpAny _ _ (subscriptTail _ _ (Value.ref _) (Value.int (Int.fmod _ _) _)) _ _ _); (with_unfolding_all refine' tailItem ?k1 ?k2 ?kT ?k3 ?k4 ?_ ?k6; (case k1 => k_asm); (case k2 => k_mem); (case kT => assumption); (case k3 => exact fmod_lo _ (by decide)); (case k4 => exact fmod_hi _ (by decide)); (case k6 => with_unfolding_all rfl); k_whole); intro y' t' e' l') | (k_here; (with_reducible show wpAny _ _ (subscriptTail _ _ (Value.ref _) (Value.int _ _)) _ _ _); (with_unfolding_all refine' itemL ?k1 ?k2 ?k3 ?k4 ?k5 ?_ ?k6; (case k1 => k_asm); (case k2 => k_mem); (case k3 => omega); (case k4 => omega); (case k5 => assumption); (case k6 => with_unfolding_all rfl); k_whole)) | (k_here; (with_reducible show wpAny _ _ (call (Value.builtin "str.split") _) _ _ _); (refine KSpl.split1 (by k_asm) (by k_asm) (by decide) ?_ (by (rw [PySem.sizeLine_eq]; omega))); intro D1 l h1 kk hsp hSA F6 N7 lt1; (try k_lt lt1); (try dsimp only)) | (k_here; (with_reducible show wpAny _ _ (exec (Stmt.For (Expr.Name _ _) (Expr.Call _ _ _ _) _ _ _) _) _ _ _); (rename Fr _ _ _ _ => lF'); (with_unfolding_all refine' forG lF' ?k1 ?k2 ?_; (case k1 => exact rfl); (case k2 => exact rfl); k_whole)) | (k_here; (with_reducible show wpAny _ _ (exec (Stmt.Assign _ (Expr.ListComp _ [Comprehension.mk _ _ [] _] _ _) _) _) _ _ _); k_dflt (refine assignCell (by k_asm) (by rfl) (by with_unfolding_all rfl) (by with_unfolding_all rfl) (by intro h; rfl) (by intro c; rfl) (by rfl) (by decide) (by rfl) (by rfl) (by rfl) ?_)) | (k_here; (with_reducible show wpAny _ _ (exec (Stmt.Assign _ (Expr.ListComp _ [Comprehension.mk _ _ [] _] _ _) _) _) _ _ _); k_dflt (refine LCg.Assign_ListComp_U (F₀ := by k_asm) (by rfl) (by with_unfolding_all rfl) (by with_unfolding_all rfl) (by decide) (by rfl) (by decide) (by rfl) (by rfl) (by rfl) ?_)) | (k_here; (with_reducible show wpAny _ _ (eval (Expr.ListComp _ [Comprehension.mk _ _ [] _] _ _) _) _ _ _); k_dflt (refine LCg.ListComp_U (F₀ := by k_asm) (by with_unfolding_all rfl) (by decide) (by rfl) (by decide) (by rfl) ?_)) | walk1 | (dsimp only; first | (k_here; (with_reducible show wpAny _ _ (subscriptTail _ _ (Value.ref _) (Value.int (Int.fmod _ _) _)) _ _ _); (with_unfolding_all refine' tailItem ?k1 ?k2 ?kT ?k3 ?k4 ?_ ?k6; (case k1 => k_asm); (case k2 => k_mem); (case kT => assumption); (case k3 => exact fmod_lo _ (by decide)); (case k4 => exact fmod_hi _ (by decide)); (case k6 => with_unfolding_all rfl); k_whole); intro y' t' e' l') | (k_here; (with_reducible show wpAny _ _ (subscriptTail _ _ (Value.ref _) (Value.int _ _)) _ _ _); (with_unfolding_all refine' itemL ?k1 ?k2 ?k3 ?k4 ?k5 ?_ ?k6; (case k1 => k_asm); (case k2 => k_mem); (case k3 => omega); (case k4 => omega); (case k5 => assumption); (case k6 => with_unfolding_all rfl); k_whole)) | (k_here; (with_reducible show wpAny _ _ (call (Value.builtin "str.split") _) _ _ _); (refine KSpl.split1 (by k_asm) (by k_asm) (by decide) ?_ (by (rw [PySem.sizeLine_eq]; omega))); intro D1 l h1 kk hsp hSA F6 N7 lt1; (try k_lt lt1); (try dsimp only)) | (k_here; (with_reducible show wpAny _ _ (exec (Stmt.For (Expr.Name _ _) (Expr.Call _ _ _ _) _ _ _) _) _ _ _); (rename Fr _ _ _ _ => lF'); (with_unfolding_all refine' forG lF' ?k1 ?k2 ?_; (case k1 => exact rfl); (case k2 => exact rfl); k_whole)) | (k_here; (with_reducible show wpAny _ _ (exec (Stmt.Assign _ (Expr.ListComp _ [Comprehension.mk _ _ [] _] _ _) _) _) _ _ _); k_dflt (refine assignCell (by k_asm) (by rfl) (by with_unfolding_all rfl) (by with_unfolding_all rfl) (by intro h; rfl) (by intro c; rfl) (by rfl) (by decide) (by rfl) (by rfl) (by rfl) ?_)) | (k_here; (with_reducible show wpAny _ _ (exec (Stmt.Assign _ (Expr.ListComp _ [Comprehension.mk _ _ [] _] _ _) _) _) _ _ _); k_dflt (refine LCg.Assign_ListComp_U (F₀ := by k_asm) (by rfl) (by with_unfolding_all rfl) (by with_unfolding_all rfl) (by decide) (by rfl) (by decide) (by rfl) (by rfl) (by rfl) ?_)) | (k_here; (with_reducible show wpAny _ _ (eval (Expr.ListComp _ [Comprehension.mk _ _ [] _] _ _) _) _ _ _); k_dflt (refine LCg.ListComp_U (F₀ := by k_asm) (by with_unfolding_all rfl) (by decide) (by rfl) (by decide) (by rfl) ?_)) | walk1)
            exact PEnd.next hop F9 (by intro y h1 h2; simp only [if_neg h1, if_neg h2]) N11 (fun _ h => h) hG1 ho1
          · intro s₃ v2 u2 op₂ hop2 hG2 ho2 F8 N10
            clear F7 N9
            try dsimp only
            repeat' (fail_if_success (with_reducible show wpAny _ _ (pyIter _) _ _ _)); (fail_if_success (with_reducible show LCg.CompSrc _ _ _ _ _ _ _ _ _ _ _ _ _ _)); (fail_if_success (with_reducible show LCt.CompSrcT _ _ _ _ _ _ _ _ _ _ _ _ _ _ _)); (fail_if_success (with_reducible show LCg.CompEnd _ _ _ _ _ _ _ _ _ _ _ _ _ _)); (fail_if_success (with_reducible show CellEnd _ _ _ _ _ _ _ _ _ _ _ _ _ _ _ _)); (fail_if_success (with_reducible show wpAny _ _ (call (Value.ref _) _) _ _ _)); (fail_if_success (with_reducible show wpAny _ _ (compareOp _ (Value.ref _) (Value.ref _)) _ _ _)); first | (k_unfold; (try dsimp only)) | (k_here; (with_reducible show wpAny _ _ (subscriptTail _ _ (Value.ref _) (Value.int (Int.fmod _ _) _)) _ _ _); (with_unfolding_all refine' tailItem ?k1 ?k2 ?kT ?k3 ?k4 ?_ ?k6; (case k1 => k_asm); (case k2 => k_mem); (case kT => assumption); (case k3 => exact fmod_lo _ (by decide)); (case k4 => exact fmod_hi _ (by decide)); (case k6 => with_unfolding_all rfl); k_whole); intro y' t' e' l') | (k_here; (with_reducible show wpAny _ _ (subscriptTail _ _ (Value.ref _) (Value.int _ _)) _ _ _); (with_unfolding_all refine' itemL ?k1 ?k2 ?k3 ?k4 ?k5 ?_ ?k6; (case k1 => k_asm); (case k2 => k_mem); (case k3 => omega); (case k4 => omega); (case k5 => assumption); (case k6 => with_unfolding_all rfl); k_whole)) | (k_here; (with_reducible show wpAny _ _ (call (Value.builtin "str.split") _) _ _ _); (refine KSpl.split1 (by k_asm) (by k_asm) (by decide) ?_ (by (rw [PySem.sizeLine_eq]; omega))); intro D1 l h1 kk hsp hSA F6 N7 lt1; (try k_lt lt1); (try dsimp only)) | (k_here; (with_reducible show wpAny _ _ (exec (Stmt.For (Expr.Name _ _) (Expr.Call _ _ _ _) _ _ _) _) _ _ _); (rename Fr _ _ _ _ => lF'); (with_unfolding_all refine' forG lF' ?k1 ?k2 ?_; (case k1 => exact rfl); (case k2 => exact rfl); k_whole)) | (k_here; (with_reducible show wpAny _ _ (exec (Stmt.Assign _ (Expr.ListComp _ [Comprehension.mk _ _ [] _] _ _) _) _) _ _ _); k_dflt (refine assignCell (by k_asm) (by rfl) (by with_unfolding_all rfl) (by with_unfolding_all rfl) (by intro h; rfl) (by intro c; rfl) (by rfl) (by decide) (by rfl) (by rfl) (by rfl) ?_)) | (k_here; (with_reducible show wpAny _ _ (exec (Stmt.Assign _ (Expr.ListComp _ [Comprehension.mk _ _ [] _] _ _) _) _) _ _ _); k_dflt (refine LCg.Assign_ListComp_U (F₀ := by k_asm) (by rfl) (by with_unfolding_all rfl) (by with_unfolding_all rfl) (by decide) (by rfl) (by decide) (by rfl) (by rfl) (by rfl) ?_)) | (k_here; (with_reducible show wpAny _ _ (eval (Expr.ListComp _ [Comprehension.mk _ _ [] _] _ _) _) _ _ _); k_dflt (refine LCg.ListComp_U (F₀ := by k_asm) (by with_unfolding_all rfl) (by decide) (by rfl) (by decide) (by rfl) ?_)) | walk1 | (dsimp only; first | (k_here; (with_reducible show wpAny _ _ (subscriptTail _ _ (Value.ref _) (Value.int (Int.fmod _ _) _)) _ _ _); (with_unfolding_all refine' tailItem ?k1 ?k2 ?kT ?k3 ?k4 ?_ ?k6; (case k1 => k_asm); (case k2 => k_mem); (case kT => assumption); (case k3 => exact fmod_lo _ (by decide)); (case k4 => exact fmod_hi _ (by decide)); (case k6 => with_unfolding_all rfl); k_whole); intro y' t' e' l') | (k_here; (with_reducible show wpAny _ _ (subscriptTail _ _ (Value.ref _) (Value.int _ _)) _ _ _); (with_unfolding_all refine' itemL ?k1 ?k2 ?k3 ?k4 ?k5 ?_ ?k6; (case k1 => k_asm); (case k2 => k_mem); (case k3 => omega); (case k4 => omega); (case k5 => assumption); (case k6 => with_unfolding_all rfl); k_whole)) | (k_here; (with_reducible show wpAny _ _ (call (Value.builtin "str.split") _) _ _ _); (refine KSpl.split1 (by k_asm) (by k_asm) (by decide) ?_ (by (rw [PySem.sizeLine_eq]; omega))); intro D1 l h1 kk hsp hSA F6 N7 lt1; (try k_lt lt1); (try dsimp only)) | (k_here; (with_reducible show wpAny _ _ (exec (Stmt.For (Expr.Name _ _) (Expr.Call _ _ _ _) _ _ _) _) _ _ _); (rename Fr _ _ _ _ => lF'); (with_unfolding_all refine' forG lF' ?k1 ?k2 ?_; (case k1 => exact rfl); (case k2 => exact rfl); k_whole)) | (k_here; (with_reducible show wpAny _ _ (exec (Stmt.Assign _ (Expr.ListComp _ [Comprehension.mk _ _ [] _] _ _) _) _) _ _ _); k_dflt (refine assignCell (by k_asm) (by rfl) (by with_unfolding_all rfl) (by with_unfolding_all rfl) (by intro h; rfl) (by intro c; rfl) (by rfl) (by decide) (by rfl) (by rfl) (by rfl) ?_)) | (k_here; (with_reducible show wpAny _ _ (exec (Stmt.Assign _ (Expr.ListComp _ [Comprehension.mk _ _ [] _] _ _) _) _) _ _ _); k_dflt (refine LCg.Assign_ListComp_U (F₀ := by k_asm) (by rfl) (by with_unfolding_all rfl) (by with_unfolding_all rfl) (by decide) (by rfl) (by decide) (by rfl) (by rfl) (by rfl) ?_)) | (k_here; (with_reducible show wpAny _ _ (eval (Expr.ListComp _ [Comprehension.mk _ _ [] _] _ _) _) _ _ _); k_dflt (refine LCg.ListComp_U (F₀ := by k_asm) (by with_unfolding_all rfl) (by decide) (by rfl) (by decide) (by rfl) ?_)) | walk1)
            rename Fr _ _ _ _ => F9
            rename News _ _ _ _ => N11
            rename IsRange _ _ _ _ _ _ _ _ => hR3
            refine rangeP (n := 3) (Str.ofString "other") (by with_unfolding_all rfl) hR3 (by decide) (by decide) F9 N11 hop2 hG2 ?_ ?_
            · intro i t s₄ I o op₃ v3 E' hi hop3 hRI hI82 hG3 ho3 F10 N12
              obtain ⟨j, hj, hkj⟩ := after3 hi
              have ei := toNat0 i
              have ej : ((0 + (i : Int) + 1).fmod 3).toNat = j := by rw [hkj]; rfl
              refine Lst.ref hys hi ?_
              intro x hvx hW
              refine Lst.ref hys hj ?_
              intro x2 hvx2 hW2
              refine Lst.refs hcls hi ?_
              intro oc cvs hvc mc hic
              refine Lst.refs hcls hj ?_
              intro oc2 cvs2 hvc2 mc2 hic2
              refine Lst.of hlg hi ?_
              intro tg hvg
              refine Lst.of hlg hj ?_
              intro tg2 hvg2
              replace hvx : ys[(0 + (i : Int)).toNat]? = some (.ref x) := by rw [ei]; exact hvx
              replace hvc : cls[(0 + (i : Int)).toNat]? = some (.ref oc) := by rw [ei]; exact hvc
              replace hvg : lgs[(0 + (i : Int)).toNat]? = some (.int (listMax (partsOf (ldOf f g i))) tg) := by rw [ei]; exact hvg
              replace hvx2 : ys[((0 + (i : Int) + 1).fmod 3).toNat]? = some (.ref x2) := by rw [ej]; exact hvx2
              replace hvc2 : cls[((0 + (i : Int) + 1).fmod 3).toNat]? = some (.ref oc2) := by rw [ej]; exact hvc2
              replace hvg2 : lgs[((0 + (i : Int) + 1).fmod 3).toNat]? = some (.int (listMax (partsOf (ldOf f g j))) tg2) := by rw [ej]; exact hvg2
              have hLd := ldOf_lead hLf hLg i
              have hLd2 := ldOf_lead hLf hLg j
              generalize ldOf f g i = ld at hvg hW hic hLd
              generalize ldOf f g j = ld2 at hvg2 hW2 hic2 hLd2
              generalize txOf f g tally i = tx at hW
              generalize txOf f g tally j = tx2 at hW2
              obtain ⟨M1, hM1⟩ : ∃ M, M = listMax (partsOf ld) := ⟨_, rfl⟩
              obtain ⟨M2, hM2⟩ : ∃ M, M = listMax (partsOf ld2) := ⟨_, rfl⟩
              rw [← hM1] at hvg
              rw [← hM2] at hvg2
              try dsimp only
              repeat' (fail_if_success (with_reducible show wpAny _ _ (pyIter _) _ _ _)); (fail_if_success (with_reducible show LCg.CompSrc _ _ _ _ _ _ _ _ _ _ _ _ _ _)); (fail_if_success (with_reducible show LCt.CompSrcT _ _ _ _ _ _ _ _ _ _ _ _ _ _ _)); (fail_if_success (with_reducible show LCg.CompEnd _ _ _ _ _ _ _ _ _ _ _ _ _ _)); (fail_if_success (with_reducible show CellEnd _ _ _ _ _ _ _ _ _ _ _ _ _ _ _ _)); (fail_if_success (with_reducible show wpAny _ _ (call (Value.ref _) _) _ _ _)); (fail_if_success (with_reducible show wpAny _ _ (compareOp _ (Value.ref _) (Value.ref _)) _ _ _)); first | (k_unfold; (try dsimp only)) | (k_here; (with_reducible show wpAny _ _ (subscriptTail _ _ (Value.ref _) (Value.int (Int.fmod _ _) _)) _ _ _); (with_unfolding_all refine' tailItem ?k1 ?k2 ?kT ?k3 ?k4 ?_ ?k6; (case k1 => k_asm); (case k2 => k_mem); (case kT => assumption); (case k3 => exact fmod_lo _ (by decide)); (case k4 => exact fmod_hi _ (by decide)); (case k6 => with_unfolding_all rfl); k_whole); intro y' t' e' l') | (k_here; (with_reducible show wpAny _ _ (subscriptTail _ _ (Value.ref _) (Value.int _ _)) _ _ _); (with_unfolding_all refine' itemL ?k1 ?k2 ?k3 ?k4 ?k5 ?_ ?k6; (case k1 => k_asm); (case k2 => k_mem); (case k3 => omega); (case k4 => omega); (case k5 => assumption); (case k6 => with_unfolding_all rfl); k_whole)) | (k_here; (with_reducible show wpAny _ _ (call (Value.builtin "str.split") _) _ _ _); (refine KSpl.split1 (by k_asm) (by k_asm) (by decide) ?_ (by (rw [PySem.sizeLine_eq]; omega))); intro D1 l h1 kk hsp hSA F6 N7 lt1; (try k_lt lt1); (try dsimp only)) | (k_here; (with_reducible show wpAny _ _ (exec (Stmt.For (Expr.Name _ _) (Expr.Call _ _ _ _) _ _ _) _) _ _ _); (rename Fr _ _ _ _ => lF'); (with_unfolding_all refine' forG lF' ?k1 ?k2 ?_; (case k1 => exact rfl); (case k2 => exact rfl); k_whole)) | (k_here; (with_reducible show wpAny _ _ (exec (Stmt.Assign _ (Expr.ListComp _ [Comprehension.mk _ _ [] _] _ _) _) _) _ _ _); k_dflt (refine assignCell (by k_asm) (by rfl) (by with_unfolding_all rfl) (by with_unfolding_all rfl) (by intro h; rfl) (by intro c; rfl) (by rfl) (by decide) (by rfl) (by rfl) (by rfl) ?_)) | (k_here; (with_reducible show wpAny _ _ (exec (Stmt.Assign _ (Expr.ListComp _ [Comprehension.mk _ _ [] _] _ _) _) _) _ _ _); k_dflt (refine LCg.Assign_ListComp_U (F₀ := by k_asm) (by rfl) (by with_unfolding_all rfl) (by with_unfolding_all rfl) (by decide) (by rfl) (by decide) (by rfl) (by rfl) (by rfl) ?_)) | (k_here; (with_reducible show wpAny _ _ (eval (Expr.ListComp _ [Comprehension.mk _ _ [] _] _ _) _) _ _ _); k_dflt (refine LCg.ListComp_U (F₀ := by k_asm) (by with_unfolding_all rfl) (by decide) (by rfl) (by decide) (by rfl) ?_)) | walk1 | (dsimp only; first | (k_here; (with_reducible show wpAny _ _ (subscriptTail _ _ (Value.ref _) (Value.int (Int.fmod _ _) _)) _ _ _); (with_unfolding_all refine' tailItem ?k1 ?k2 ?kT ?k3 ?k4 ?_ ?k6; (case k1 => k_asm); (case k2 => k_mem); (case kT => assumption); (case k3 => exact fmod_lo _ (by decide)); (case k4 => exact fmod_hi _ (by decide)); (case k6 => with_unfolding_all rfl); k_whole); intro y' t' e' l') | (k_here; (with_reducible show wpAny _ _ (subscriptTail _ _ (Value.ref _) (Value.int _ _)) _ _ _); (with_unfolding_all refine' itemL ?k1 ?k2 ?k3 ?k4 ?k5 ?_ ?k6; (case k1 => k_asm); (case k2 => k_mem); (case k3 => omega); (case k4 => omega); (case k5 => assumption); (case k6 => with_unfolding_all rfl); k_whole)) | (k_here; (with_reducible show wpAny _ _ (call (Value.builtin "str.split") _) _ _ _); (refine KSpl.split1 (by k_asm) (by k_asm) (by decide) ?_ (by (rw [PySem.sizeLine_eq]; omega))); intro D1 l h1 kk hsp hSA F6 N7 lt1; (try k_lt lt1); (try dsimp only)) | (k_here; (with_reducible show wpAny _ _ (exec (Stmt.For (Expr.Name _ _) (Expr.Call _ _ _ _) _ _ _) _) _ _ _); (rename Fr _ _ _ _ => lF'); (with_unfolding_all refine' forG lF' ?k1 ?k2 ?_; (case k1 => exact rfl); (case k2 => exact rfl); k_whole)) | (k_here; (with_reducible show wpAny _ _ (exec (Stmt.Assign _ (Expr.ListComp _ [Comprehension.mk _ _ [] _] _ _) _) _) _ _ _); k_dflt (refine assignCell (by k_asm) (by rfl) (by with_unfolding_all rfl) (by with_unfolding_all rfl) (by intro h; rfl) (by intro c; rfl) (by rfl) (by decide) (by rfl) (by rfl) (by rfl) ?_)) | (k_here; (with_reducible show wpAny _ _ (exec (Stmt.Assign _ (Expr.ListComp _ [Comprehension.mk _ _ [] _] _ _) _) _) _ _ _); k_dflt (refine LCg.Assign_ListComp_U (F₀ := by k_asm) (by rfl) (by with_unfolding_all rfl) (by with_unfolding_all rfl) (by decide) (by rfl) (by decide) (by rfl) (by rfl) (by rfl) ?_)) | (k_here; (with_reducible show wpAny _ _ (eval (Expr.ListComp _ [Comprehension.mk _ _ [] _] _ _) _) _ _ _); k_dflt (refine LCg.ListComp_U (F₀ := by k_asm) (by with_unfolding_all rfl) (by decide) (by rfl) (by decide) (by rfl) ?_)) | walk1)
              rename Fr _ _ _ _ => F12
              rename News _ _ _ _ => N13
              replace N13 := kst_newsOf (l' := (82, op₃) :: (I, o) :: R0) N13 perm_e
              have hlong : (if M2 > M1 then M2 else M1) + 1 = topOf ld.cps.toList ld2.cps.toList := by
                rw [topOf, (lead_facts hLd).long, (lead_facts hLd2).long, ← hM1, ← hM2]
              have hI2 : ∀ p ∈ (I, o) :: R0, @Ne Nat p.1 82 := by
                intro p hp
                rcases List.mem_cons.mp hp with rfl | hp
                · exact Nat.ne_of_gt hI82
                · exact hi82 p hp
              k_dflt (refine' CtP.useT (pair_c w ((I, o) :: R0) x x2 tx tx2 ld ld2 oc oc2 cvs cvs2 cvs.length cvs2.length _ _ _ _ (hW.mono (fun p hp => .tail _ hp)) (hW2.mono (fun p hp => .tail _ hp)) (.tail _ mc) (.tail _ mc2) hic hic2 rfl rfl hlong (top_le (lead_len hLd) (lead_len hLd2)) (fun k hk => sizes_level hLd hk) (fun k hk => sizes_level hLd2 hk) (same_cols hLd hLd2 ht0) (less_cols hLd hLd2 ht0)) ?k1 ?k2 ?k3 ?k4 ?kop ?k82 ?k5 ?kG ?kK ?kd ?ku ?_; (case kop => assumption); (case k82 => exact hI2); (case kG => assumption); (case k1 => k_asm); (case k2 => k_asm); (case k3 => k_asm); (case k4 => k_asm); (case k5 => k_asm); (case kK => first | exact rfl | assumption); (case kd => ktr_room); (case ku => ktr_units); k_whole)
              intro s9 op9 hop9 F9w N9w hG9 ho9
              try dsimp only
              repeat' (fail_if_success (with_reducible show wpAny _ _ (pyIter _) _ _ _)); (fail_if_success (with_reducible show LCg.CompSrc _ _ _ _ _ _ _ _ _ _ _ _ _ _)); (fail_if_success (with_reducible show LCt.CompSrcT _ _ _ _ _ _ _ _ _ _ _ _ _ _ _)); (fail_if_success (with_reducible show LCg.CompEnd _ _ _ _ _ _ _ _ _ _ _ _ _ _)); (fail_if_success (with_reducible show CellEnd _ _ _ _ _ _ _ _ _ _ _ _ _ _ _ _)); (fail_if_success (with_reducible show wpAny _ _ (call (Value.ref _) _) _ _ _)); (fail_if_success (with_reducible show wpAny _ _ (compareOp _ (Value.ref _) (Value.ref _)) _ _ _)); first | (k_unfold; (try dsimp only)) | (k_here; (with_reducible show wpAny _ _ (subscriptTail _ _ (Value.ref _) (Value.int (Int.fmod _ _) _)) _ _ _); (with_unfolding_all refine' tailItem ?k1 ?k2 ?kT ?k3 ?k4 ?_ ?k6; (case k1 => k_asm); (case k2 => k_mem); (case kT => assumption); (case k3 => exact fmod_lo _ (by decide)); (case k4 => exact fmod_hi _ (by decide)); (case k6 => with_unfolding_all rfl); k_whole); intro y' t' e' l') | (k_here; (with_reducible show wpAny _ _ (subscriptTail _ _ (Value.ref _) (Value.int _ _)) _ _ _); (with_unfolding_all refine' itemL ?k1 ?k2 ?k3 ?k4 ?k5 ?_ ?k6; (case k1 => k_asm); (case k2 => k_mem); (case k3 => omega); (case k4 => omega); (case k5 => assumption); (case k6 => with_unfolding_all rfl); k_whole)) | (k_here; (with_reducible show wpAny _ _ (call (Value.builtin "str.split") _) _ _ _); (refine KSpl.split1 (by k_asm) (by k_asm) (by decide) ?_ (by (rw [PySem.sizeLine_eq]; omega))); intro D1 l h1 kk hsp hSA F6 N7 lt1; (try k_lt lt1); (try dsimp only)) | (k_here; (with_reducible show wpAny _ _ (exec (Stmt.For (Expr.Name _ _) (Expr.Call _ _ _ _) _ _ _) _) _ _ _); (rename Fr _ _ _ _ => lF'); (with_unfolding_all refine' forG lF' ?k1 ?k2 ?_; (case k1 => exact rfl); (case k2 => exact rfl); k_whole)) | (k_here; (with_reducible show wpAny _ _ (exec (Stmt.Assign _ (Expr.ListComp _ [Comprehension.mk _ _ [] _] _ _) _) _) _ _ _); k_dflt (refine assignCell (by k_asm) (by rfl) (by with_unfolding_all rfl) (by with_unfolding_all rfl) (by intro h; rfl) (by intro c; rfl) (by rfl) (by decide) (by rfl) (by rfl) (by rfl) ?_)) | (k_here; (with_reducible show wpAny _ _ (exec (Stmt.Assign _ (Expr.ListComp _ [Comprehension.mk _ _ [] _] _ _) _) _) _ _ _); k_dflt (refine LCg.Assign_ListComp_U (F₀ := by k_asm) (by rfl) (by with_unfolding_all rfl) (by with_unfolding_all rfl) (by decide) (by rfl) (by decide) (by rfl) (by rfl) (by rfl) ?_)) | (k_here; (with_reducible show wpAny _ _ (eval (Expr.ListComp _ [Comprehension.mk _ _ [] _] _ _) _) _ _ _); k_dflt (refine LCg.ListComp_U (F₀ := by k_asm) (by with_unfolding_all rfl) (by decide) (by rfl) (by decide) (by rfl) ?_)) | walk1 | (dsimp only; first | (k_here; (with_reducible show wpAny _ _ (subscriptTail _ _ (Value.ref _) (Value.int (Int.fmod _ _) _)) _ _ _); (with_unfolding_all refine' tailItem ?k1 ?k2 ?kT ?k3 ?k4 ?_ ?k6; (case k1 => k_asm); (case k2 => k_mem); (case kT => assumption); (case k3 => exact fmod_lo _ (by decide)); (case k4 => exact fmod_hi _ (by decide)); (case k6 => with_unfolding_all rfl); k_whole); intro y' t' e' l') | (k_here; (with_reducible show wpAny _ _ (subscriptTail _ _ (Value.ref _) (Value.int _ _)) _ _ _); (with_unfolding_all refine' itemL ?k1 ?k2 ?k3 ?k4 ?k5 ?_ ?k6; (case k1 => k_asm); (case k2 => k_mem); (case k3 => omega); (case k4 => omega); (case k5 => assumption); (case k6 => with_unfolding_all rfl); k_whole)) | (k_here; (with_reducible show wpAny _ _ (call (Value.builtin "str.split") _) _ _ _); (refine KSpl.split1 (by k_asm) (by k_asm) (by decide) ?_ (by (rw [PySem.sizeLine_eq]; omega))); intro D1 l h1 kk hsp hSA F6 N7 lt1; (try k_lt lt1); (try dsimp only)) | (k_here; (with_reducible show wpAny _ _ (exec (Stmt.For (Expr.Name _ _) (Expr.Call _ _ _ _) _ _ _) _) _ _ _); (rename Fr _ _ _ _ => lF'); (with_unfolding_all refine' forG lF' ?k1 ?k2 ?_; (case k1 => exact rfl); (case k2 => exact rfl); k_whole)) | (k_here; (with_reducible show wpAny _ _ (exec (Stmt.Assign _ (Expr.ListComp _ [Comprehension.mk _ _ [] _] _ _) _) _) _ _ _); k_dflt (refine assignCell (by k_asm) (by rfl) (by with_unfolding_all rfl) (by with_unfolding_all rfl) (by intro h; rfl) (by intro c; rfl) (by rfl) (by decide) (by rfl) (by rfl) (by rfl) ?_)) | (k_here; (with_reducible show wpAny _ _ (exec (Stmt.Assign _ (Expr.ListComp _ [Comprehension.mk _ _ [] _] _ _) _) _) _ _ _); k_dflt (refine LCg.Assign_ListComp_U (F₀ := by k_asm) (by rfl) (by with_unfolding_all rfl) (by with_unfolding_all rfl) (by decide) (by rfl) (by decide) (by rfl) (by rfl) (by rfl) ?_)) | (k_here; (with_reducible show wpAny _ _ (eval (Expr.ListComp _ [Comprehension.mk _ _ [] _] _ _) _) _ _ _); k_dflt (refine LCg.ListComp_U (F₀ := by k_asm) (by with_unfolding_all rfl) (by decide) (by rfl) (by decide) (by rfl) ?_)) | walk1)
              exact PEnd.next hop9 F9w (by intro y h1 h2; simp only [if_neg h1, if_neg h2]) N9w perm_e hG9 (ho9.trans ho3)
            · intro s₅ v4 u4 op₄ hop4 hG4 ho4 F11 N13
              try dsimp only
              repeat' (fail_if_success (with_reducible show wpAny _ _ (pyIter _) _ _ _)); (fail_if_success (with_reducible show LCg.CompSrc _ _ _ _ _ _ _ _ _ _ _ _ _ _)); (fail_if_success (with_reducible show LCt.CompSrcT _ _ _ _ _ _ _ _ _ _ _ _ _ _ _)); (fail_if_success (with_reducible show LCg.CompEnd _ _ _ _ _ _ _ _ _ _ _ _ _ _)); (fail_if_success (with_reducible show CellEnd _ _ _ _ _ _ _ _ _ _ _ _ _ _ _ _)); (fail_if_success (with_reducible show wpAny _ _ (call (Value.ref _) _) _ _ _)); (fail_if_success (with_reducible show wpAny _ _ (compareOp _ (Value.ref _) (Value.ref _)) _ _ _)); first | (k_unfold; (try dsimp only)) | (k_here; (with_reducible show wpAny _ _ (subscriptTail _ _ (Value.ref _) (Value.int (Int.fmod _ _) _)) _ _ _); (with_unfolding_all refine' tailItem ?k1 ?k2 ?kT ?k3 ?k4 ?_ ?k6; (case k1 => k_asm); (case k2 => k_mem); (case kT => assumption); (case k3 => exact fmod_lo _ (by decide)); (case k4 => exact fmod_hi _ (by decide)); (case k6 => with_unfolding_all rfl); k_whole); intro y' t' e' l') | (k_here; (with_reducible show wpAny _ _ (subscriptTail _ _ (Value.ref _) (Value.int _ _)) _ _ _); (with_unfolding_all refine' itemL ?k1 ?k2 ?k3 ?k4 ?k5 ?_ ?k6; (case k1 => k_asm); (case k2 => k_mem); (case k3 => omega); (case k4 => omega); (case k5 => assumption); (case k6 => with_unfolding_all rfl); k_whole)) | (k_here; (with_reducible show wpAny _ _ (call (Value.builtin "str.split") _) _ _ _); (refine KSpl.split1 (by k_asm) (by k_asm) (by decide) ?_ (by (rw [PySem.sizeLine_eq]; omega))); intro D1 l h1 kk hsp hSA F6 N7 lt1; (try k_lt lt1); (try dsimp only)) | (k_here; (with_reducible show wpAny _ _ (exec (Stmt.For (Expr.Name _ _) (Expr.Call _ _ _ _) _ _ _) _) _ _ _); (rename Fr _ _ _ _ => lF'); (with_unfolding_all refine' forG lF' ?k1 ?k2 ?_; (case k1 => exact rfl); (case k2 => exact rfl); k_whole)) | (k_here; (with_reducible show wpAny _ _ (exec (Stmt.Assign _ (Expr.ListComp _ [Comprehension.mk _ _ [] _] _ _) _) _) _ _ _); k_dflt (refine assignCell (by k_asm) (by rfl) (by with_unfolding_all rfl) (by with_unfolding_all rfl) (by intro h; rfl) (by intro c; rfl) (by rfl) (by decide) (by rfl) (by rfl) (by rfl) ?_)) | (k_here; (with_reducible show wpAny _ _ (exec (Stmt.Assign _ (Expr.ListComp _ [Comprehension.mk _ _ [] _] _ _) _) _) _ _ _); k_dflt (refine LCg.Assign_ListComp_U (F₀ := by k_asm) (by rfl) (by with_unfolding_all rfl) (by with_unfolding_all rfl) (by decide) (by rfl) (by decide) (by rfl) (by rfl) (by rfl) ?_)) | (k_here; (with_reducible show wpAny _ _ (eval (Expr.ListComp _ [Comprehension.mk _ _ [] _] _ _) _) _ _ _); k_dflt (refine LCg.ListComp_U (F₀ := by k_asm) (by with_unfolding_all rfl) (by decide) (by rfl) (by decide) (by rfl) ?_)) | walk1 | (dsimp only; first | (k_here; (with_reducible show wpAny _ _ (subscriptTail _ _ (Value.ref _) (Value.int (Int.fmod _ _) _)) _ _ _); (with_unfolding_all refine' tailItem ?k1 ?k2 ?kT ?k3 ?k4 ?_ ?k6; (case k1 => k_asm); (case k2 => k_mem); (case kT => assumption); (case k3 => exact fmod_lo _ (by decide)); (case k4 => exact fmod_hi _ (by decide)); (case k6 => with_unfolding_all rfl); k_whole); intro y' t' e' l') | (k_here; (with_reducible show wpAny _ _ (subscriptTail _ _ (Value.ref _) (Value.int _ _)) _ _ _); (with_unfolding_all refine' itemL ?k1 ?k2 ?k3 ?k4 ?k5 ?_ ?k6; (case k1 => k_asm); (case k2 => k_mem); (case k3 => omega); (case k4 => omega); (case k5 => assumption); (case k6 => with_unfolding_all rfl); k_whole)) | (k_here; (with_reducible show wpAny _ _ (call (Value.builtin "str.split") _) _ _ _); (refine KSpl.split1 (by k_asm) (by k_asm) (by decide) ?_ (by (rw [PySem.sizeLine_eq]; omega))); intro D1 l h1 kk hsp hSA F6 N7 lt1; (try k_lt lt1); (try dsimp only)) | (k_here; (with_reducible show wpAny _ _ (exec (Stmt.For (Expr.Name _ _) (Expr.Call _ _ _ _) _ _ _) _) _ _ _); (rename Fr _ _ _ _ => lF'); (with_unfolding_all refine' forG lF' ?k1 ?k2 ?_; (case k1 => exact rfl); (case k2 => exact rfl); k_whole)) | (k_here; (with_reducible show wpAny _ _ (exec (Stmt.Assign _ (Expr.ListComp _ [Comprehension.mk _ _ [] _] _ _) _) _) _ _ _); k_dflt (refine assignCell (by k_asm) (by rfl) (by with_unfolding_all rfl) (by with_unfolding_all rfl) (by intro h; rfl) (by intro c; rfl) (by rfl) (by decide) (by rfl) (by rfl) (by rfl) ?_)) | (k_here; (with_reducible show wpAny _ _ (exec (Stmt.Assign _ (Expr.ListComp _ [Comprehension.mk _ _ [] _] _ _) _) _) _ _ _); k_dflt (refine LCg.Assign_ListComp_U (F₀ := by k_asm) (by rfl) (by with_unfolding_all rfl) (by with_unfolding_all rfl) (by decide) (by rfl) (by decide) (by rfl) (by rfl) (by rfl) ?_)) | (k_here; (with_reducible show wpAny _ _ (eval (Expr.ListComp _ [Comprehension.mk _ _ [] _] _ _) _) _ _ _); k_dflt (refine LCg.ListComp_U (F₀ := by k_asm) (by with_unfolding_all rfl) (by decide) (by rfl) (by decide) (by rfl) ?_)) | walk1)
              exact hend _ _ _ _ op₄ hop4 F11 N13 (.head _) hG4 (ho4.trans ho2)
end
end
end
end Mine
theorem PySem.Challenge.cw_mg0085_01_holds : PySem.Challenge.rw_mg0085_01.Holds := by
  exact Mine.law_holds
