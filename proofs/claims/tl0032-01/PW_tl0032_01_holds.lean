import PyProof.Rows.All
import Wide.All
import OpenK.AllK
import Wide.FinOn
import Lean
import PySem.Challenge.RW_tl0032_01
open PySem PySem.W PyProof.Rows
set_option Elab.async false
set_option maxRecDepth 100000
set_option maxHeartbeats 8000000
set_option pp.maxSteps 60
set_option linter.all false
namespace Mine
-- the walk's lines are laid by k_with; this row asks them first
local macro_rules | `(tactic| walk_at $s:str) => `(tactic| k_extra $s)
/-! Hd -/
section
structure Hid (P : Prop) : Prop where
  out : P
-- a walk, cut: what a part leaves (P) is what the next one proves
structure Cut (G : Prop) where
  P : Prop
  ok : Hid P → G
structure Cut2 (G : Prop) where
  P : Prop
  Q : Prop
  ok : Hid P → Hid Q → G
/-- the program, but for the three statements whose names are loose -/
def view : Program := { PySem.Challenge.pw_tl0032_01 with main := { PySem.Challenge.pw_tl0032_01.main with body := PySem.Challenge.pw_tl0032_01.main.body.take 1 ++ ((PySem.Challenge.pw_tl0032_01.main.body.drop 2).take 6 ++ ((PySem.Challenge.pw_tl0032_01.main.body.drop 9).take 50 ++ PySem.Challenge.pw_tl0032_01.main.body.drop 60)) } }
-- the kit lays twins of a text's own constants, whose proofs are long (5 to 20 MB); a twin whose name is taken is not laid, and that is kept: so the program, the view and the heap have none (the rows behind wait for it)
theorem nt.tw9725590583448669176 : True := trivial
set_option Elab.async true in
theorem nt : Function.const Program true PySem.Challenge.pw_tl0032_01 = true := by
  first | k_qdec | rfl
theorem ntDone : Nat.ble 2 3 = true := by decide +kernel
-- the head, once, for the constants that the parts below speak of: what is written out of the heap (hd.heap_1), and the walk that is asked (hd.P); the top's run is shown at the end (topK)
local macro_rules | `(tactic| o_head $H) => `(tactic| (
  refine holds_open (q := view) (loose := [Str.ofString "Whitespace", Str.ofString "EXACT_TOKEN_TYPES"]) (Xt := fun s => xlAt view [] s && recOk (RowW.records PySem.Challenge.rw_tl0032_01.row.toRowW) s) (XP := XL view []) (Yf := Hook.obs $H) (Ya := Hook.val $H) (YP := Hook.says $H) (N := 4682) ?hl (Hook.of $H) (Hook.keeps $H) (fun s e => xl_of s (Bool.and_eq_true_iff.mp e).1) XL.keeps (by rfl) (by rfl) (by rfl) (fun s e => recFacts_of (Bool.and_eq_true_iff.mp e).2) (by rfl) (by first | assumption | decide +kernel) (by decide +kernel) ⟨rfl, rfl, rfl, rfl, rfl, by decide +kernel⟩ ?hw ?hc))
noncomputable def hd : Cut2 (PySem.Challenge.rw_tl0032_01.row.wellSaid = true → PySem.Challenge.rw_tl0032_01.row.Holds) := by
  apply Cut2.mk
  intro hck hck2
  focus
    w_on
    intro said
    k_head
    case hw => w_witness2
    case hl =>
      (repeat (revert ‹_›))
      exact fun _ h => h.out
    case hc =>
      clear said
      (repeat (revert ‹_›))
      exact fun h _ => h.out
theorem nt2.tw14483651329830533851 : True := trivial
theorem nt2.tw357486453476387696 : True := trivial
set_option Elab.async true in
theorem nt2 : Function.const (Params → Frag) (Function.const Program true view) hd.heap_1 = true := by
  first | k_qdec | rfl
theorem ntDone2 : Nat.ble 2 3 = true := by decide +kernel
end
/-! Base -/
section
noncomputable abbrev LOO : List Str := looseW view [Str.ofString "Whitespace", Str.ofString "EXACT_TOKEN_TYPES"]
theorem allC {α : Type} {P : α → Prop} {a : α} {l : List α} (h : P a) (t : ∀ x ∈ l, P x) : ∀ x ∈ a :: l, P x := List.forall_mem_cons.mpr ⟨h, t⟩
theorem cellName {M : Model} {A : Around} {E : Value → Shared → Prop} {s : Shared} {h₀ : Heap} {L a : Addr} {cn : Str} {cs : Scope} {ccd : Value} {cl : List (Str × Addr)} {x : Str} {pos : Pos} {v : Value} {Q : Value → Shared → Prop} {news : List (Addr × Obj)} {c : Addr} {o : Obj}
    (hk : cs.kind = .function) (hx : (envX cn cs L a ccd cl).kindOf x = some .cell) (N : News h₀ L s.heap news) (hc : cl.lookup x = some c) (hm : (c, o) ∈ news) (hd : o.data = .cell (some v)) (h : Q v s) (hb : (x == ("__debug__" : Str)) = false := by decide) :
    wpAny M A (eval (.Name x pos) (envX cn cs L a ccd cl)) Q E s := nameX_C N hc hm hd h hk hx hb
theorem bootName {M : Model} {A : Around} {E : Value → Shared → Prop} {s : Shared} {K : Frag} {h₀ : Heap} {L a : Addr} {m mg mb : Str → Option Value} {cn : Str} {cs : Scope} {ccd : Value} {cl : List (Str × Addr)} {p : Program} {loose : List Str} {x : Str} {pos : Pos} {v : Value} {Q : Value → Shared → Prop}
    (F : Fr h₀ L s.heap m) (X : K.In h₀) (T : TopRead p loose mg mb h₀) (hk : cs.kind = .function) (hx : (envX cn cs L a ccd cl).kindOf x = some .globalImplicit) (e : nsIn K mainGlobals x = some none) (hv : bootBuiltins x = some v) (hn : x ≠ "__name__") (h : Q v s) (hb : (x == ("__debug__" : Str)) = false := by decide) :
    wpAny M A (eval (.Name x pos) (envX cn cs L a ccd cl)) Q E s := nameX_B F X T e hv hn h hk hx hb
abbrev Led := List (Addr × Obj)
abbrev PRG : Program := PySem.Challenge.rw_tl0032_01.row.prog
/-- the contract of a def that makes nothing that stays: `Pre` of the ledger, `R` what comes back -/
def Con0 (w : World) (mean : ExcName → Option Value) (mg mb : Str → Option Value) (d : Nat) (f : Addr) (vs : List Value) (Pre : Led → Prop) (R : Tok → Value) : Prop :=
  ∀ (dp un : Nat) (gd : Option (List Code)) (cn : Str) (cs : Scope) (a : Addr) (ccd : Value) (cl : List (Str × Addr)) (outer : List Env) (A₀ : Around) (base h₀ : Heap) (L : Addr) (m : Str → Option Value) (news : Led) (s : Shared)
    (Q E : Value → Shared → Prop),
    Below A₀ base outer h₀ → Fr h₀ L s.heap m → Frag.In (hd.heap_1 w.params) h₀ → News h₀ L s.heap news → Top view LOO mean mg mb h₀ → cs.kind = .function →
    Pre news → dp + d < recursionLimit → un + 20 * d < cLine →
    (∀ t h' tk', Fr h₀ L h' m → News h₀ L h' news → Q (R t) { s with heap := h', toks := tk' }) →
    wpAny (model PySem.Challenge.rw_tl0032_01.row.prog w) (ktrTop dp un gd cn cs L a ccd cl outer) (call (.ref f) vs) Q E s
theorem Con0.use {w : World} {mean : ExcName → Option Value} {mg mb : Str → Option Value} {d : Nat} {f : Addr} {vs : List Value} {Pre : Led → Prop} {R : Tok → Value} (C : Con0 w mean mg mb d f vs Pre R)
    {dp un : Nat} {gd : Option (List Code)} {cn : Str} {cs : Scope} {a : Addr} {ccd : Value} {cl : List (Str × Addr)} {outer : List Env} {A₀ : Around} {base h₀ : Heap} {L : Addr} {m : Str → Option Value} {news : Led} {s : Shared}
    {Q E : Value → Shared → Prop}
    (B : Below A₀ base outer h₀) (F : Fr h₀ L s.heap m) (X : Frag.In (hd.heap_1 w.params) h₀) (N : News h₀ L s.heap news) (T : Top view LOO mean mg mb h₀) (hk : cs.kind = .function)
    (hP : Pre news) (hd : dp + d < recursionLimit) (hu : un + 20 * d < cLine)
    (ret : ∀ t h' tk', Fr h₀ L h' m → News h₀ L h' news → Q (R t) { s with heap := h', toks := tk' }) :
    wpAny (model PySem.Challenge.rw_tl0032_01.row.prog w) (ktrTop dp un gd cn cs L a ccd cl outer) (call (.ref f) vs) Q E s := C _ _ _ _ _ _ _ _ _ _ _ _ _ _ _ _ _ _ B F X N T hk hP hd hu ret
/-- the contract of a def that makes objects: they stand behind the ledger, above it -/
def Con (w : World) (mean : ExcName → Option Value) (mg mb : Str → Option Value) (d : Nat) (f : Addr) (vs : List Value) (Pre : Led → Prop) (Out : Led → Value → Prop) : Prop :=
  ∀ (dp un : Nat) (gd : Option (List Code)) (cn : Str) (cs : Scope) (a : Addr) (ccd : Value) (cl : List (Str × Addr)) (outer : List Env) (A₀ : Around) (base h₀ : Heap) (L : Addr) (m : Str → Option Value) (news : Led) (s : Shared)
    (Q E : Value → Shared → Prop),
    Below A₀ base outer h₀ → Fr h₀ L s.heap m → Frag.In (hd.heap_1 w.params) h₀ → News h₀ L s.heap news → Top view LOO mean mg mb h₀ → cs.kind = .function →
    Pre news → dp + d < recursionLimit → un + 20 * d < cLine →
    (∀ r tl h' tk', Fr h₀ L h' m → News h₀ L h' (tl ++ news) → (∀ p ∈ tl, ∀ q ∈ news, q.1 ≠ p.1) → Out tl r → Q r { s with heap := h', toks := tk' }) →
    wpAny (model PySem.Challenge.rw_tl0032_01.row.prog w) (ktrTop dp un gd cn cs L a ccd cl outer) (call (.ref f) vs) Q E s
theorem Con.use {w : World} {mean : ExcName → Option Value} {mg mb : Str → Option Value} {d : Nat} {f : Addr} {vs : List Value} {Pre : Led → Prop} {Out : Led → Value → Prop} (C : Con w mean mg mb d f vs Pre Out)
    {dp un : Nat} {gd : Option (List Code)} {cn : Str} {cs : Scope} {a : Addr} {ccd : Value} {cl : List (Str × Addr)} {outer : List Env} {A₀ : Around} {base h₀ : Heap} {L : Addr} {m : Str → Option Value} {news : Led} {s : Shared}
    {Q E : Value → Shared → Prop}
    (B : Below A₀ base outer h₀) (F : Fr h₀ L s.heap m) (X : Frag.In (hd.heap_1 w.params) h₀) (N : News h₀ L s.heap news) (T : Top view LOO mean mg mb h₀) (hk : cs.kind = .function)
    (hP : Pre news) (hd : dp + d < recursionLimit) (hu : un + 20 * d < cLine)
    (ret : ∀ r tl h' tk', Fr h₀ L h' m → News h₀ L h' (tl ++ news) → (∀ p ∈ tl, ∀ q ∈ news, q.1 ≠ p.1) → Out tl r → Q r { s with heap := h', toks := tk' }) :
    wpAny (model PySem.Challenge.rw_tl0032_01.row.prog w) (ktrTop dp un gd cn cs L a ccd cl outer) (call (.ref f) vs) Q E s := C _ _ _ _ _ _ _ _ _ _ _ _ _ _ _ _ _ _ B F X N T hk hP hd hu ret
section ends
variable {h₀ h' : Heap} {L : Addr} {m : Str → Option Value} {news : Led} {s : Shared} {Q : Value → Shared → Prop}
theorem ret0 {R : Tok → Value} {v : Value} {tk' : Nat} (hret : ∀ t h' tk', Fr h₀ L h' m → News h₀ L h' news → Q (R t) { s with heap := h', toks := tk' })
    (e : ∃ t, v = R t) (F : Fr h₀ L h' m) (N : News h₀ L h' news) : Q v { s with heap := h', toks := tk' } := by
  obtain ⟨t, rfl⟩ := e
  exact hret t h' tk' F N
end ends

section loops
variable {prog : Program} {w : World} {A : Around} {E : Value → Shared → Prop} {s : Shared} {env : Env} {h₀ : Heap} {x : Str} {body : List Stmt} {Q : Flow → Shared → Prop}

def PsAre (m : Str → Option Value) : List (Str × Value) → Prop
  | [] => True
  | p :: r => m p.1 = some p.2 ∧ PsAre m r
theorem PsAre.all {m : Str → Option Value} : ∀ {ps : List (Str × Value)}, PsAre m ps → ∀ p ∈ ps, m p.1 = some p.2
  | q :: r, h, p, hp => by
    rcases List.mem_cons.mp hp with rfl | hp
    · exact h.1
    · exact PsAre.all h.2 p hp
/-- the state between the turns: a datum of σ says the ledger and the names' values -/
def KJ {σ : Type} (Lg : σ → Led) (ps : σ → List (Str × Value)) (P : σ → Prop) (m : Str → Option Value) (nx : Led) : Prop :=
  ∃ c : σ, nx = Lg c ∧ PsAre m (ps c) ∧ P c

theorem kstB_id {m₁ : Str → Option Value} {ps : List (Str × Value)} (h1 : PsAre m₁ ps) : kstB m₁ ps = m₁ :=
  funext fun _ => kstB_eq h1.all fun _ => rfl

theorem forL {σ : Type} {l : Addr} {vs : List Value} {nn : Nat} {m₀ : Str → Option Value} {news : Led}
    (Lg : Nat → σ → Led) (ps : Nat → σ → List (Str × Value)) (P : Nat → σ → Prop) (c₀ : σ)
    (hh : A.handled = none) (hl : ∀ i c, (l, listOf vs.toArray nn) ∈ Lg i c) (F : Fr h₀ env.locals s.heap m₀) (N : News h₀ env.locals s.heap news)
    (hn : ∀ p ∈ Lg 0 c₀, p ∈ news) (hp : PsAre m₀ (ps 0 c₀)) (hP : P 0 c₀)
    (turn : ∀ i c v u h tk own, vs[i]? = some v → P i c → OwnOff own ((Lg i c).map (·.1)) →
      Fr h₀ env.locals h (fun y => if y = x then some v else kstB u (ps i c) y) → News h₀ env.locals h (Lg i c ++ own) →
      wpAny (model prog w) A (execs body env) (InvPostG h₀ env.locals (KJ (Lg (i + 1)) (ps (i + 1)) (P (i + 1))) own { s with heap := h, toks := tk } Q) E { s with heap := h, toks := tk })
    (done : ∀ c u h tk, P vs.length c → Fr h₀ env.locals h (kstB u (ps vs.length c)) → News h₀ env.locals h (Lg vs.length c) → Q .next { s with heap := h, toks := tk }) :
    wpAny (model prog w) A (pyIter (.ref l)) (fun it s₂ => LoopAtV prog w A h₀ env x body Q E it s₂) E s := by
  refine kdl_iter (news := Lg 0 c₀) (fun i m nx => KJ (Lg i) (ps i) (P i) m nx) hh (hl 0 c₀) F (fun p hp => N p (hn p hp)) ⟨c₀, rfl, hp, hP⟩ ?_ ?_
  · rintro i v m₁ nx h tk own hv hoff hl₁ ⟨c, rfl, hps, hPc⟩ F₁ N₁
    have F₂ : Fr h₀ env.locals h (fun y => if y = x then some v else kstB m₁ (ps i c) y) := by rw [kstB_id hps]; exact F₁
    refine wpAny_mono (turn i c v m₁ h tk own hv hPc hoff F₂ N₁) (fun f s₂ p => ?_) fun _ _ e => e
    have fin : InvEndG h₀ env.locals (KJ (Lg (i + 1)) (ps (i + 1)) (P (i + 1))) own { s with heap := h, toks := tk } s₂ →
        InvEndG h₀ env.locals (fun m' nx => (l, listOf vs.toArray nn) ∈ nx ∧ KJ (Lg (i + 1)) (ps (i + 1)) (P (i + 1)) m' nx) own { s with heap := h, toks := tk } s₂ := by
      rintro ⟨h', tk', m', news', nx, e, F', N', hn, ho, ha, c', rfl, hj⟩
      exact ⟨h', tk', m', news', _, e, F', N', hn, ho, ha, hl _ _, c', rfl, hj⟩
    cases f with
    | ret v => exact p
    | brk => exact p
    | next => exact fin p
    | cont => exact fin p
  · rintro m₁ nx h tk ⟨c, rfl, hps, hPc⟩ F₁ N₁
    exact done c m₁ h tk hPc (by rw [kstB_id hps]; exact F₁) N₁

theorem endL {σ : Type} {Lg : σ → Led} {ps : σ → List (Str × Value)} {P : σ → Prop} (c : σ) {L : Addr} {m' : Str → Option Value} {own news' : Led} {s₁ : Shared} {h' : Heap} {tk : Nat}
    (F : Fr h₀ L h' m') (N : News h₀ L h' news') (hps : PsAre m' (ps c)) (hn : ∀ p ∈ Lg c, p ∈ news') (ho : ∀ p ∈ own, p ∈ news') (ha : OwnOff own ((Lg c).map (·.1))) (hP : P c) :
    InvEndG h₀ L (KJ Lg ps P) own s₁ { s₁ with heap := h', toks := tk } := InvEndG.intro F N ⟨c, rfl, hps, hP⟩ ha hn ho
end loops
section rebase
def trunc (h : Heap) (n : Nat) : Heap := ⟨h.objs.extract 0 n, h.life⟩
theorem trunc_get (h : Heap) (n b : Nat) : (trunc h n).get? b = if b < n then h.get? b else none := by
  unfold Heap.get? trunc
  by_cases hb : b < n
  · rw [if_pos hb]
    have e : (h.objs.extract 0 n)[b]? = h.objs[b]? := by
      by_cases h2 : b < h.objs.size
      · simp [Array.getElem?_extract, h2]
        omega
      · simp [Array.getElem?_extract]
        omega
    rw [e]
  · rw [if_neg hb]
    have e : (h.objs.extract 0 n)[b]? = none := by
      simp [Array.getElem?_extract]
      omega
    rw [e]
/-- a callee's ground anew: what its caller had made stands in the base -/
theorem rebase {g h' : Heap} {L' : Addr} {m' : Str → Option Value} {news cells : Led} {A : Around} {base : Heap} {outer : List Env} {K : Frag} {p : Program} {loose : List Str} {mean : ExcName → Option Value} {mg mb : Str → Option Value}
    (F' : Fr g L' h' m') (N' : News g L' h' (cells ++ news)) (l1 : ∀ q ∈ news, q.1 < L') (hc : ∀ q ∈ cells, (L' : Nat) < q.1) (B : Below A base outer g) (X : Frag.In K g) (T : Top p loose mean mg mb g) :
    ∃ g₁, Fr g₁ L' h' m' ∧ News g₁ L' h' cells ∧ Below A base outer g₁ ∧ Frag.In K g₁ ∧ Top p loose mean mg mb g₁ ∧ (∀ q ∈ news, g₁.get? q.1 = some q.2) ∧
      ∀ h'' m'' tl, Fr g₁ L' h'' m'' → News g₁ L' h'' tl → Fr g L' h'' m'' ∧ News g L' h'' (tl ++ news) ∧ ∀ p ∈ tl, ∀ q ∈ news, q.1 ≠ p.1 := by
  have st : g.StaysIn (trunc h' L') := fun b o e => by
    rw [trunc_get, if_pos (Nat.lt_of_lt_of_le (Heap.lt_size e) F'.above)]
    exact F'.keep b o e
  have hn : ∀ q ∈ news, (trunc h' L').get? q.1 = some q.2 := fun q hq => by
    rw [trunc_get, if_pos (l1 q hq)]
    exact (N' q (List.mem_append_right _ hq)).1
  refine ⟨trunc h' L', ⟨F'.ns, fun b o e => ?_, ?_⟩, fun q hq => ⟨(N' q (List.mem_append_left _ hq)).1, (N' q (List.mem_append_left _ hq)).2.1, ?_⟩, ⟨B.stack, fun b o e => st b o (B.stays b o e), ?_⟩, X.keeps st, T.keeps st, hn, ?_⟩
  · rw [trunc_get] at e
    split at e
    · exact e
    · cases e
  · show (h'.objs.extract 0 L').size ≤ L'
    rw [Array.size_extract]
    omega
  · rw [trunc_get, if_neg (Nat.not_lt.mpr (Nat.le_of_lt (hc q hq)))]
  · exact Heap.FunFrames.of_keeps (fun b o e _ => ⟨o, st b o e, rfl⟩) B.frames
  · intro h'' m'' tl F N
    refine ⟨⟨F.ns, fun b o e => F.keep b o (st b o e), F'.above⟩, fun q hq => ?_, fun q hq r hr e => ?_⟩
    · rcases List.mem_append.mp hq with hq | hq
      · refine ⟨(N q hq).1, (N q hq).2.1, ?_⟩
        cases e : g.get? q.1 with
        | none => rfl
        | some o =>
          have h1 := (N q hq).2.2
          rw [st _ _ e] at h1
          cases h1
      · exact ⟨F.keep _ _ (hn q hq), (N' q (List.mem_append_right _ hq)).2⟩
    · have h1 := (N q hq).2.2
      rw [← e, hn r hr] at h1
      cases h1
end rebase
section loops2
variable {prog : Program} {w : World} {A : Around} {E : Value → Shared → Prop} {s : Shared} {env : Env} {h₀ : Heap} {x : Str} {body : List Stmt} {Q : Flow → Shared → Prop}

/-- a loop's end, by its turns' end or by a break -/
def EndS {τ : Type} (h₀ : Heap) (L : Addr) (Lg : τ → Led) (ps : τ → List (Str × Value)) (P : τ → Prop) (s s' : Shared) : Prop :=
  ∃ (c : τ) (h' : Heap) (tk : Nat) (m' : Str → Option Value) (nx : Led), s' = { s with heap := h', toks := tk } ∧ Fr h₀ L h' m' ∧ News h₀ L h' nx ∧ (∀ p ∈ Lg c, p ∈ nx) ∧ PsAre m' (ps c) ∧ P c
theorem EndS.intro {τ : Type} {L : Addr} {Lg : τ → Led} {ps : τ → List (Str × Value)} {P : τ → Prop} (c : τ) {h' : Heap} {tk : Nat} {m' : Str → Option Value} {nx : Led} {s : Shared}
    (F : Fr h₀ L h' m') (N : News h₀ L h' nx) (hps : PsAre m' (ps c)) (hn : ∀ p ∈ Lg c, p ∈ nx) (hP : P c) : EndS h₀ L Lg ps P s { s with heap := h', toks := tk } := ⟨c, h', tk, m', nx, rfl, F, N, hn, hps, hP⟩
def QEnd {τ : Type} (h₀ : Heap) (L : Addr) (Lg : τ → Led) (ps : τ → List (Str × Value)) (P : τ → Prop) (s : Shared) (Q : Flow → Shared → Prop) (f : Flow) (s' : Shared) : Prop :=
  match f with
  | .next => EndS h₀ L Lg ps P s s'
  | f => Q f s'

theorem LoopAtV.mono {Q Q' : Flow → Shared → Prop} {it : Value} (h : LoopAtV prog w A h₀ env x body Q E it s) (hQ : ∀ f s', Q f s' → Q' f s') : LoopAtV prog w A h₀ env x body Q' E it s := by
  obtain ⟨I, fp, wr, n, P, St, m, news, J, e, W, a1, a2, a3, a4, F, N, h0, step, fin⟩ := h
  refine ⟨I, fp, wr, n, P, St, m, news, J, e, W, a1, a2, a3, a4, F, N, h0, fun i v m₁ news₁ s₁ own b1 b2 b3 b4 b5 b6 b7 b8 b9 F₁ N₁ => ?_, fun h' tk m' news' F' N' b c => hQ _ _ (fin h' tk m' news' F' N' b c)⟩
  refine wpAny_mono (step i v m₁ news₁ s₁ own b1 b2 b3 b4 b5 b6 b7 b8 b9 F₁ N₁) (fun f s₂ p => ?_) fun _ _ e => e
  cases f with
  | next => exact p
  | cont => exact p
  | ret v => exact hQ _ _ p
  | brk => exact hQ _ _ p

/-- what a loop leaves, handed to what stands behind it -/
theorem QEnd.out {τ : Type} {L : Addr} {Lg : τ → Led} {ps : τ → List (Str × Value)} {P : τ → Prop}
    (cont : ∀ c u h tk, P c → Fr h₀ L h (kstB u (ps c)) → News h₀ L h (Lg c) → Q .next { s with heap := h, toks := tk }) {f : Flow} {s' : Shared} (h : QEnd h₀ L Lg ps P s Q f s') : Q f s' := by
  cases f with
  | next =>
    obtain ⟨c, h', tk, m', nx, rfl, F, N, hn, hps, hP⟩ := h
    exact cont c m' h' tk hP (by rw [kstB_id hps]; exact F) fun p hp => N p (hn p hp)
  | _ => exact h

section
variable {σ τ : Type} (Lg : Nat → σ → Led) (ps : Nat → σ → List (Str × Value)) (P : Nat → σ → Prop) (LgF : τ → Led) (psF : τ → List (Str × Value)) (PF : τ → Prop)
theorem for_core {I : Addr} {n : Nat} {PV : Nat → Value → Prop} {St : Nat → Heap → Prop} {m₀ : Str → Option Value} {news : Led} (c₀ : σ)
    (W : Walks prog w A I [I] [I] n PV St) (hI : I = s.heap.objs.size) (o : Obj) (hob : ∀ i h, St i h → ∃ o, h.get? I = some o) (hst : St 0 (s.heap.push o))
    (F : Fr h₀ env.locals s.heap m₀) (N : News h₀ env.locals s.heap news)
    (hn : ∀ p ∈ Lg 0 c₀, p ∈ news) (hp : PsAre m₀ (ps 0 c₀)) (hP : P 0 c₀)
    (turn : ∀ i c v u h tk own, i < n → PV i v → P i c → OwnOff own ((Lg i c).map (·.1)) →
      Fr h₀ env.locals h (fun y => if y = x then some v else kstB u (ps i c) y) → News h₀ env.locals h (Lg i c ++ own) →
      wpAny (model prog w) A (execs body env) (InvPostG h₀ env.locals (KJ (Lg (i + 1)) (ps (i + 1)) (P (i + 1))) own { s with heap := h, toks := tk } (QEnd h₀ env.locals LgF psF PF s Q)) E { s with heap := h, toks := tk })
    (done : ∀ c u h tk, P n c → Fr h₀ env.locals h (kstB u (ps n c)) → News h₀ env.locals h (Lg n c) → EndS h₀ env.locals LgF psF PF s { s with heap := h, toks := tk })
    (cont : ∀ c u h tk, PF c → Fr h₀ env.locals h (kstB u (psF c)) → News h₀ env.locals h (LgF c) → Q .next { s with heap := h, toks := tk }) :
    LoopAtV prog w A h₀ env x body Q E (.ref I) { s with heap := s.heap.push o } := by
  subst hI
  refine LoopAtV.mono (Q := QEnd h₀ env.locals LgF psF PF s Q) ?_ fun f s' h => QEnd.out cont h
  refine kdr_loop (fun i m nx => KJ (Lg i) (ps i) (P i) m nx) W (fun _ h => h) (fun _ h => h) ?_ ?_ ?_ ?_ hst (F.push _) (fun p hp => ⟨Heap.get?_push_of_some _ (N p (hn p hp)).1, (N p (hn p hp)).2⟩) ⟨c₀, rfl, hp, hP⟩ ?_ ?_
  · intro i h hi b hb
    rw [List.mem_singleton.mp hb]
    exact hob i h hi
  · intro hm
    exact absurd F.ns.lt ((List.mem_singleton.mp hm) ▸ Nat.lt_irrefl _)
  · intro b hb
    rw [List.mem_singleton.mp hb]
    exact next_is_new F
  · intro p hp hI
    exact absurd (Heap.lt_size (N p (hn p hp)).1) ((List.mem_singleton.mp hI) ▸ Nat.lt_irrefl _)
  · rintro i v m₁ nx h tk own hi hv hoff ⟨c, rfl, hps, hPc⟩ F₁ N₁
    have F₂ : Fr h₀ env.locals h (fun y => if y = x then some v else kstB m₁ (ps i c) y) := by rw [kstB_id hps]; exact F₁
    exact turn i c v m₁ h tk own hi hv hPc hoff F₂ N₁
  · rintro m₁ nx h tk ⟨c, rfl, hps, hPc⟩ F₁ N₁
    exact done c m₁ h tk hPc (by rw [kstB_id hps]; exact F₁) N₁

/-- a for over a text -/
theorem forT {xt : Str} {tx : Tok} {m₀ : Str → Option Value} {news : Led} (c₀ : σ) (hh : A.handled = none)
    (F : Fr h₀ env.locals s.heap m₀) (N : News h₀ env.locals s.heap news)
    (hn : ∀ p ∈ Lg 0 c₀, p ∈ news) (hp : PsAre m₀ (ps 0 c₀)) (hP : P 0 c₀)
    (turn : ∀ i c k t u h tk own, xt.cps.toList[i]? = some k → P i c → OwnOff own ((Lg i c).map (·.1)) →
      Fr h₀ env.locals h (fun y => if y = x then some (.str ⟨#[k]⟩ t) else kstB u (ps i c) y) → News h₀ env.locals h (Lg i c ++ own) →
      wpAny (model prog w) A (execs body env) (InvPostG h₀ env.locals (KJ (Lg (i + 1)) (ps (i + 1)) (P (i + 1))) own { s with heap := h, toks := tk } (QEnd h₀ env.locals LgF psF PF s Q)) E { s with heap := h, toks := tk })
    (done : ∀ c u h tk, P xt.cps.toList.length c → Fr h₀ env.locals h (kstB u (ps xt.cps.toList.length c)) → News h₀ env.locals h (Lg xt.cps.toList.length c) → EndS h₀ env.locals LgF psF PF s { s with heap := h, toks := tk })
    (cont : ∀ c u h tk, PF c → Fr h₀ env.locals h (kstB u (psF c)) → News h₀ env.locals h (LgF c) → Q .next { s with heap := h, toks := tk }) :
    wpAny (model prog w) A (pyIter (.str xt tx)) (fun it s₂ => LoopAtV prog w A h₀ env x body Q E it s₂) E s := by
  have hs : xt.cps.toList.length = xt.cps.size := by simp
  rw [hs] at done
  have turn' : ∀ i c v u h tk own, i < xt.cps.size → SignAt xt i v → P i c → OwnOff own ((Lg i c).map (·.1)) →
      Fr h₀ env.locals h (fun y => if y = x then some v else kstB u (ps i c) y) → News h₀ env.locals h (Lg i c ++ own) →
      wpAny (model prog w) A (execs body env) (InvPostG h₀ env.locals (KJ (Lg (i + 1)) (ps (i + 1)) (P (i + 1))) own { s with heap := h, toks := tk } (QEnd h₀ env.locals LgF psF PF s Q)) E { s with heap := h, toks := tk } := by
    rintro i c v u h tk own hi ⟨k, t, hk, rfl⟩ hPc hoff F₁ N₁
    exact turn i c k t u h tk own (by rw [Array.getElem?_toList]; exact hk) hPc hoff F₁ N₁
  cases ha : xt.cps.all (· < 128)
  · exact wpAny_pyIter_wide ha (for_core Lg ps P LgF psF PF c₀ (Walks.strWide hh _ xt tx) rfl _ (fun _ _ ⟨o, ho, _⟩ => ⟨o, ho⟩) ⟨_, Heap.get?_push_size _ rfl, rfl, rfl⟩ F N hn hp hP turn' done cont)
  · exact wpAny_pyIter_ascii ha (for_core Lg ps P LgF psF PF c₀ (Walks.strAscii hh _ xt tx) rfl _ (fun _ _ ⟨o, ho, _⟩ => ⟨o, ho⟩) ⟨_, Heap.get?_push_size _ rfl, rfl, rfl⟩ F N hn hp hP turn' done cont)

/-- a for over a range by ones -/
theorem forR {r : Addr} {a₀ b₀ : Int} {t₀ u₀ v₀ : Tok} {n : Nat} {m₀ : Str → Option Value} {news : Led} (c₀ : σ) (hh : A.handled = none)
    (hr : IsRange s.heap r a₀ b₀ 1 t₀ u₀ v₀) (hsmall : Builtin.Range.small a₀ b₀ 1 = true) (hsz : Builtin.Range.rangeSize a₀ b₀ 1 = (n : Int))
    (F : Fr h₀ env.locals s.heap m₀) (N : News h₀ env.locals s.heap news)
    (hn : ∀ p ∈ Lg 0 c₀, p ∈ news) (hp : PsAre m₀ (ps 0 c₀)) (hP : P 0 c₀)
    (turn : ∀ i c t u h tk own, i < n → P i c → OwnOff own ((Lg i c).map (·.1)) →
      Fr h₀ env.locals h (fun y => if y = x then some (.int (a₀ + (i : Int)) t) else kstB u (ps i c) y) → News h₀ env.locals h (Lg i c ++ own) →
      wpAny (model prog w) A (execs body env) (InvPostG h₀ env.locals (KJ (Lg (i + 1)) (ps (i + 1)) (P (i + 1))) own { s with heap := h, toks := tk } (QEnd h₀ env.locals LgF psF PF s Q)) E { s with heap := h, toks := tk })
    (done : ∀ c u h tk, P n c → Fr h₀ env.locals h (kstB u (ps n c)) → News h₀ env.locals h (Lg n c) → EndS h₀ env.locals LgF psF PF s { s with heap := h, toks := tk })
    (cont : ∀ c u h tk, PF c → Fr h₀ env.locals h (kstB u (psF c)) → News h₀ env.locals h (LgF c) → Q .next { s with heap := h, toks := tk }) :
    wpAny (model prog w) A (pyIter (.ref r)) (fun it s₂ => LoopAtV prog w A h₀ env x body Q E it s₂) E s := by
  refine wpAny_pyIter_range hr hsmall ?_
  have W : Walks prog w A s.heap.objs.size [s.heap.objs.size] [s.heap.objs.size] n (fun i v => i < n ∧ ∃ t, v = .int (a₀ + i * 1) t)
      (fun i h => IsRangeIter h s.heap.objs.size (a₀ + (i : Nat) * 1) ((n : Int) - (i : Nat)) 1) := (Walks.range hh _ a₀ 1 n).bound
  refine for_core Lg ps P LgF psF PF c₀ W rfl _ (fun _ _ h => ⟨_, h⟩) (by show IsRangeIter _ _ _ _ _; rw [hsz]; simpa using Heap.get?_push_size _ rfl) F N hn hp hP ?_ done cont
  rintro i c v u h tk own hi ⟨_, t, rfl⟩ hPc hoff F₁ N₁
  have e1 : a₀ + (i : Int) * 1 = a₀ + (i : Int) := by omega
  rw [e1] at F₁
  exact turn i c t u h tk own hi hPc hoff F₁ N₁

/-- a for over a list that the ledger bears -/
theorem forV {l : Addr} {vs : List Value} {nn : Nat} {m₀ : Str → Option Value} {news : Led} (c₀ : σ)
    (hh : A.handled = none) (hl : ∀ i c, (l, listOf vs.toArray nn) ∈ Lg i c) (F : Fr h₀ env.locals s.heap m₀) (N : News h₀ env.locals s.heap news)
    (hn : ∀ p ∈ Lg 0 c₀, p ∈ news) (hp : PsAre m₀ (ps 0 c₀)) (hP : P 0 c₀)
    (turn : ∀ i c v u h tk own, vs[i]? = some v → P i c → OwnOff own ((Lg i c).map (·.1)) →
      Fr h₀ env.locals h (fun y => if y = x then some v else kstB u (ps i c) y) → News h₀ env.locals h (Lg i c ++ own) →
      wpAny (model prog w) A (execs body env) (InvPostG h₀ env.locals (KJ (Lg (i + 1)) (ps (i + 1)) (P (i + 1))) own { s with heap := h, toks := tk } (QEnd h₀ env.locals LgF psF PF s Q)) E { s with heap := h, toks := tk })
    (done : ∀ c u h tk, P vs.length c → Fr h₀ env.locals h (kstB u (ps vs.length c)) → News h₀ env.locals h (Lg vs.length c) → EndS h₀ env.locals LgF psF PF s { s with heap := h, toks := tk })
    (cont : ∀ c u h tk, PF c → Fr h₀ env.locals h (kstB u (psF c)) → News h₀ env.locals h (LgF c) → Q .next { s with heap := h, toks := tk }) :
    wpAny (model prog w) A (pyIter (.ref l)) (fun it s₂ => LoopAtV prog w A h₀ env x body Q E it s₂) E s := by
  refine wpAny_mono (forL (Q := QEnd h₀ env.locals LgF psF PF s Q) Lg ps P c₀ hh hl F N hn hp hP turn (fun c u h tk hPc F₁ N₁ => done c u h tk hPc F₁ N₁)) (fun it s' h => LoopAtV.mono h fun f s' h => QEnd.out cont h) fun _ _ e => e
end
section
variable {σ : Type} (Lg : σ → Led) (ps : σ → List (Str × Value)) (P : σ → Prop) (μ : σ → Nat)
def WEnd (h₀ : Heap) (L : Addr) (s : Shared) (c : σ) (s₂ : Shared) : Prop :=
  ∃ (c' : σ) (h' : Heap) (tk : Nat) (m' : Str → Option Value) (nx : Led), s₂ = { s with heap := h', toks := tk } ∧ Fr h₀ L h' m' ∧ News h₀ L h' nx ∧ (∀ p ∈ Lg c', p ∈ nx) ∧ PsAre m' (ps c') ∧ P c' ∧ μ c' < μ c
def WPost (h₀ : Heap) (L : Addr) (s : Shared) (Q : Flow → Shared → Prop) (c : σ) (f : Flow) (s₂ : Shared) : Prop :=
  match f with
  | .ret v => Q (.ret v) s₂
  | .brk => Q .next s₂
  | _ => WEnd Lg ps P μ h₀ L s c s₂
variable {Lg ps P μ}
theorem WEnd.intro {L : Addr} {c : σ} (c' : σ) {h' : Heap} {tk : Nat} {m' : Str → Option Value} {nx : Led} {s : Shared}
    (F : Fr h₀ L h' m') (N : News h₀ L h' nx) (hps : PsAre m' (ps c')) (hn : ∀ p ∈ Lg c', p ∈ nx) (hP : P c') (hm : μ c' < μ c) : WEnd Lg ps P μ h₀ L s c { s with heap := h', toks := tk } := ⟨c', h', tk, m', nx, rfl, F, N, hn, hps, hP, hm⟩
variable (Lg ps P μ)
/-- a while by an invariant and a measure -/
theorem whileK {L : Addr} {test : Expr} {wbody : List Stmt} {pos : Pos} {m₀ : Str → Option Value} {news : Led} (c₀ : σ)
    (F : Fr h₀ L s.heap m₀) (N : News h₀ L s.heap news) (hn : ∀ p ∈ Lg c₀, p ∈ news) (hp : PsAre m₀ (ps c₀)) (hP : P c₀)
    (turn : ∀ c u h tk, P c → Fr h₀ L h (kstB u (ps c)) → News h₀ L h (Lg c) →
      wpAny (model prog w) A (isTrue test env (eval test env)) (fun b s₂ =>
        if b = true then wpAny (model prog w) A (execs wbody env) (WPost Lg ps P μ h₀ L s Q c) E s₂ else Q .next s₂) E { s with heap := h, toks := tk })
    (hE : PassesOwn (model prog w) A env E := by passes_own) :
    wpAny (model prog w) A (exec (.While test wbody [] pos) env) Q E s := by
  refine While_inv2 (fun n m nx => ∃ c : σ, nx = Lg c ∧ μ c = n ∧ PsAre m (ps c) ∧ P c) F (fun p hq => N p (hn p hq)) ⟨c₀, rfl, rfl, hp, hP⟩ ?_ hE
  rintro n m₁ nx h tk F₁ N₁ ⟨c, rfl, rfl, hps, hPc⟩
  refine wpAny_mono (turn c m₁ h tk hPc (by rw [kstB_id hps]; exact F₁) N₁) (fun b s₂ p => ?_) fun _ _ x => x
  cases b with
  | false => simpa using p
  | true =>
    simp only [if_true] at p ⊢
    refine wpAny_mono p (fun f s₃ q => ?_) fun _ _ x => x
    have go : WEnd Lg ps P μ h₀ L s c s₃ → WhileStep2 h₀ L s (fun n m nx => ∃ c : σ, nx = Lg c ∧ μ c = n ∧ PsAre m (ps c) ∧ P c) Q (μ c) .next s₃ := by
      rintro ⟨c', h', tk', m', nx', rfl, F', N', hn', hps', hP', hm⟩
      exact ⟨h', tk', m', Lg c', μ c', rfl, F', fun p hp => N' p (hn' p hp), hm, c', rfl, rfl, hps', hP'⟩
    cases f with
    | ret v => exact q
    | brk => exact q
    | next => exact go q
    | cont => exact go q
variable (PF : σ → Prop)
/-- a while whose end is told apart: what stands behind it is walked once -/
theorem whileE {L : Addr} {test : Expr} {wbody : List Stmt} {pos : Pos} {m₀ : Str → Option Value} {news : Led} (c₀ : σ)
    (F : Fr h₀ L s.heap m₀) (N : News h₀ L s.heap news) (hn : ∀ p ∈ Lg c₀, p ∈ news) (hp : PsAre m₀ (ps c₀)) (hP : P c₀)
    (turn : ∀ c u h tk, P c → Fr h₀ L h (kstB u (ps c)) → News h₀ L h (Lg c) →
      wpAny (model prog w) A (isTrue test env (eval test env)) (fun b s₂ =>
        if b = true then wpAny (model prog w) A (execs wbody env) (WPost Lg ps P μ h₀ L s (QEnd h₀ L Lg ps PF s Q) c) E s₂ else EndS h₀ L Lg ps PF s s₂) E { s with heap := h, toks := tk })
    (cont : ∀ c u h tk, PF c → Fr h₀ L h (kstB u (ps c)) → News h₀ L h (Lg c) → Q .next { s with heap := h, toks := tk })
    (hE : PassesOwn (model prog w) A env E := by passes_own) :
    wpAny (model prog w) A (exec (.While test wbody [] pos) env) Q E s :=
  wpAny_mono (whileK (Q := QEnd h₀ L Lg ps PF s Q) Lg ps P μ c₀ F N hn hp hP (fun c u h tk a b d => turn c u h tk a b d) hE) (fun _ _ h => QEnd.out cont h) fun _ _ e => e
end
section anyTarget
variable {target : PySem.Expr}
def TEnd (h₀ : Heap) (L : Addr) (J : (Str → Option Value) → Led → Prop) (own : Led) (s₁ : Shared) (f : Flow) (s₂ : Shared) : Prop :=
  match f with
  | .next => InvEndG h₀ L J own s₁ s₂
  | _ => False
theorem kdr_loopT {I : Addr} {fp wr : List Addr} {n : Nat} {P : Nat → Value → Prop} {St : Nat → Heap → Prop} {m₀ : Str → Option Value} {news : Led} (J : Nat → (Str → Option Value) → Led → Prop)
    (hgo : ∀ I v, letOwnedTupleGo target (.ref I) v = pure ())
    (W : Walks prog w A I fp wr n P St) (hfw : ∀ a ∈ fp, a ∈ wr) (hwf : ∀ b ∈ wr, b ∈ fp) (hob : ∀ i h, St i h → ∀ b ∈ wr, ∃ o, h.get? b = some o) (hLf : env.locals ∉ fp) (hwr : ∀ b ∈ wr, h₀.get? b = none) (hnw : ∀ p ∈ news, p.1 ∉ wr) (hst : St 0 s.heap)
    (F : Fr h₀ env.locals s.heap m₀) (N : News h₀ env.locals s.heap news) (hj : J 0 m₀ news)
    (turn : ∀ i v m₁ nx (s₁ : Shared) own, i < n → P i v → OwnOff own (nx.map (·.1)) → J i m₁ nx → Fr h₀ env.locals s₁.heap m₁ → News h₀ env.locals s₁.heap (nx ++ own) →
      wpAny (model prog w) A (assign target env v) (fun _ s₃ => wpAny (model prog w) A (execs body env) (TEnd h₀ env.locals (J (i + 1)) own s₁) E s₃) E s₁)
    (done : ∀ m₁ nx h tk, J n m₁ nx → Fr h₀ env.locals h m₁ → News h₀ env.locals h nx → Q .next { s with heap := h, toks := tk }) :
    LoopAtT prog w A h₀ env target body Q E (.ref I) s := by
  refine ⟨I, fp, wr, n, P, St, m₀, news, J, rfl, W, hLf, hwr, hnw, hst, F, N, fun i s' v Q' _ h => by rw [hgo]; exact wpAny_pure h, hj, ?_, ?_⟩
  · rintro i v m₁ news₁ s₁ own hin hP hJ hoff hown _ hmem hst' F₁ N₁
    have hsep : OwnOff own (news₁.map (·.1)) := by
      intro p hp b hb e
      obtain ⟨q, hq, rfl⟩ := List.mem_map.mp hb
      exact hoff q hq (hfw _ (e ▸ hown p hp))
    have N₂ : News h₀ env.locals s₁.heap (news₁ ++ own) := fun p hp => N₁ p ((List.mem_append.mp hp).elim (fun h => List.mem_append.mpr (.inr h)) fun h => List.mem_append.mpr (.inl h))
    refine wpAny_mono (turn i v m₁ news₁ s₁ own hin hP hsep hJ F₁ N₂) (fun _ s₃ q => wpAny_mono q (fun f s₂ p => ?_) fun _ _ e => e) fun _ _ e => e
    cases f with
    | next =>
      obtain ⟨h', tk, m', news', nx, e, F', N', hn, ho, ha, hm⟩ := p
      refine ⟨rfl, h', tk, m', nx, e, F', fun p hp => N' p ((List.mem_append.mp hp).elim (ho p) (hn p)), fun p hp hq => ?_, hm⟩
      obtain ⟨o, hbo⟩ := hob _ _ hst' _ hq
      exact ha _ (hmem _ (hwf _ hq) (hwr _ hq) o hbo) p.1 (List.mem_map.mpr ⟨p, hp, rfl⟩) rfl
    | ret v => exact p.elim
    | brk => exact p.elim
    | cont => exact p.elim
  · rintro h' tk m' news' F' N' _ hJ
    exact done m' news' h' tk hJ F' N'
/-- a for over a range by ones, whose target may be a cell: no return, no break -/
theorem forRT {σ : Type} (Lg : Nat → σ → Led) (ps : Nat → σ → List (Str × Value)) (P : Nat → σ → Prop) {r : Addr} {a₀ b₀ : Int} {t₀ u₀ v₀ : Tok} {n : Nat} {m₀ : Str → Option Value} {news : Led} (c₀ : σ)
    (hgo : ∀ I v, letOwnedTupleGo target (.ref I) v = pure ()) (hh : A.handled = none)
    (hr : IsRange s.heap r a₀ b₀ 1 t₀ u₀ v₀) (hsmall : Builtin.Range.small a₀ b₀ 1 = true) (hsz : Builtin.Range.rangeSize a₀ b₀ 1 = (n : Int))
    (F : Fr h₀ env.locals s.heap m₀) (N : News h₀ env.locals s.heap news)
    (hn : ∀ p ∈ Lg 0 c₀, p ∈ news) (hp : PsAre m₀ (ps 0 c₀)) (hP : P 0 c₀)
    (turn : ∀ i c t u (s₁ : Shared) own, i < n → P i c → OwnOff own ((Lg i c).map (·.1)) →
      Fr h₀ env.locals s₁.heap (kstB u (ps i c)) → News h₀ env.locals s₁.heap (Lg i c ++ own) →
      wpAny (model prog w) A (assign target env (.int (a₀ + (i : Int)) t)) (fun _ s₃ => wpAny (model prog w) A (execs body env) (TEnd h₀ env.locals (KJ (Lg (i + 1)) (ps (i + 1)) (P (i + 1))) own s₁) E s₃) E s₁)
    (done : ∀ c u h tk, P n c → Fr h₀ env.locals h (kstB u (ps n c)) → News h₀ env.locals h (Lg n c) → Q .next { s with heap := h, toks := tk }) :
    wpAny (model prog w) A (pyIter (.ref r)) (fun it s₂ => LoopAtT prog w A h₀ env target body Q E it s₂) E s := by
  refine wpAny_pyIter_range hr hsmall ?_
  have W : Walks prog w A s.heap.objs.size [s.heap.objs.size] [s.heap.objs.size] n (fun i v => i < n ∧ ∃ t, v = .int (a₀ + i * 1) t)
      (fun i h => IsRangeIter h s.heap.objs.size (a₀ + (i : Nat) * 1) ((n : Int) - (i : Nat)) 1) := (Walks.range hh _ a₀ 1 n).bound
  refine kdr_loopT (fun i m nx => KJ (Lg i) (ps i) (P i) m nx) hgo W (fun _ h => h) (fun _ h => h) ?_ ?_ ?_ ?_ (by show IsRangeIter _ _ _ _ _; rw [hsz]; simpa using Heap.get?_push_size _ rfl) (F.push _) (fun p hp => ⟨Heap.get?_push_of_some _ (N p (hn p hp)).1, (N p (hn p hp)).2⟩) ⟨c₀, rfl, hp, hP⟩ ?_ ?_
  · intro i h hi b hb
    rw [List.mem_singleton.mp hb]
    exact ⟨_, hi⟩
  · intro hm
    exact absurd F.ns.lt ((List.mem_singleton.mp hm) ▸ Nat.lt_irrefl _)
  · intro b hb
    rw [List.mem_singleton.mp hb]
    exact next_is_new F
  · intro p hp hI
    exact absurd (Heap.lt_size (N p (hn p hp)).1) ((List.mem_singleton.mp hI) ▸ Nat.lt_irrefl _)
  · rintro i v m₁ nx s₁ own hi ⟨_, t, rfl⟩ hoff ⟨c, rfl, hps, hPc⟩ F₁ N₁
    have F₂ : Fr h₀ env.locals s₁.heap (kstB m₁ (ps i c)) := by rw [kstB_id hps]; exact F₁
    have e1 : a₀ + (i : Int) * 1 = a₀ + (i : Int) := by omega
    rw [e1]
    exact turn i c t m₁ s₁ own hi hPc hoff F₂ N₁
  · rintro m₁ nx h tk ⟨c, rfl, hps, hPc⟩ F₁ N₁
    exact done c m₁ h tk hPc (by rw [kstB_id hps]; exact F₁) N₁
end anyTarget
end loops2
end
/-! P0 -/
section
theorem lines1 : True := by
  k_with_none
  k_with "mine enter" => (
    refine' code_def (by k_asm) (by k_asm) (by k_asm) (by k_asm) (by k_asm) (by exact rfl) (by exact rfl) (by first | exact rfl | assumption) (by k_is) (by k_is) (by ktr_room) (by exact BindsTo.of_eq rfl) (by exact locs rfl) ?_ (by exact rfl) (by exact rfl) (by exact rfl) (by decide)
    k_whole
    intro _ _ _ _ _ _ _ _ _
    (try dsimp only)
    (try k_fold))
  k_with "mine ret0" => (refine' ret0 (by assumption) ?_ (by k_asm) (by first | k_asm | (refine cb_drop (by assumption) ?_; intro _ _; k_extra "mine sub1")))
  k_with "QEnd" => (dsimp only [QEnd])
  k_with "mine hasattr" => (
    refine' ha_line (by k_asm) (by k_asm) ?_
    intro _ _ _
    (try k_sweep))
  k_with "call builtin:hasattr" => (k_here; k_extra "mine hasattr")
  k_with "mine make" => (
    refine' call_cls (by k_asm) (by k_asm) (by k_asm) (by k_is) (by k_is) (by k_is) ?_
    k_whole
    intro _ _ _ _ _ kql kqm
    (try k_lt kql)
    (try k_lt2 kqm)
    (revert kql kqm; intro _ _)
    (try k_sweep)
    k_extra "mine enter")
  k_with "mine sub1" => (
    first
    | assumption
    | exact List.mem_append_left _ (by assumption)
    | exact List.mem_append_right _ (by assumption)
    | (refine List.Mem.tail _ ?_; k_extra "mine sub1")
    | (refine List.mem_append_left _ ?_; k_extra "mine sub1")
    | (refine List.mem_append_right _ ?_; k_extra "mine sub1"))
  k_with "mine sub" => (
    first
    | (refine sub_cons ?_ ?_; (focus (first | exact List.mem_cons.mpr (Or.inl (by rfl)) | k_memK | k_mem)); k_extra "mine sub")
    | exact List.forall_mem_nil _
    | (intro _ _; k_extra "mine sub1"))
  k_with "mine own" => (intro _ _; k_extra "mine sub1")
  k_with "mine ps" => (
    first
    | exact PsAre.nil
    | (refine PsAre.any (by with_unfolding_all rfl) ?_; k_extra "mine ps"))
  k_with "call type:tuple" => (
    k_here
    (with_reducible show wpAny _ _ (call (Value.type _) [Value.ref _]) _ _ _)
    k_dflt (refine' kde_tupleOf (by k_asm) (by k_asm) (by exact News.isList (by k_asm) (by k_mem)) (by (rw [List.size_toArray]; have hL9 := IntsAre.length (by assumption); omega)) (by exact rfl) ?_)
    intro _ _ _ _ kql
    (try k_lt kql)
    (revert kql; intro _)
    (try k_sweep))
  trivial
/-! hasattr of a text: the library has no line for it -/
section hasattr
open PySem
theorem ha_kind : builtinKind "hasattr" = none := by decide +kernel
theorem ha_plain : plainId "hasattr" = true := by decide +kernel
theorem ha_entry : entryFor table "hasattr" = some Builtin.«hasattr» := entryFor_of_tree (by kernel_rfl)
theorem ha_args (a b : Value) : argsOk "hasattr" ⟨[a, b], []⟩ := by unfold argsOk; kernel_rfl
theorem ha_lk : typeLookup (.type "str") "__getitem__" = pure (some (.builtin "str.__getitem__")) := by rw [typeLookup_type, builtinLookup_eq_fast]; kernel_rfl
theorem ha_data : (withoutEnding? "str.__getitem__" "#data").isSome = false := by decide +kernel
theorem ha_typ : typeOf (.builtin "str.__getitem__") = pure (.type "wrapper_descriptor") := by kernel_rfl
variable {prog : Program} {w : World} {A : Around} {E : Value → Shared → Prop} {h : Heap} {g : Array GenState} {d : Drawn} {t : Nat} {os : OsState} {x : Str} {u : Tok}
theorem ha_gw : Slot "wrapper_descriptor" "__get__" "wrapper_descriptor.__get__" :=
  .of (owner := "wrapper_descriptor") (n := "__get__") (by rw [typeLookup_type, builtinLookup_eq_fast]; kernel_rfl) (by decide +kernel) (by decide +kernel) (by decide +kernel)
    (by first | exact .inl (by decide +kernel) | exact .inr (by decide +kernel)) (by rw [isSubtype_type]; kernel_rfl)
theorem ha_gw_entry : entryFor table "wrapper_descriptor.__get__" = some Builtin.«wrapper_descriptor.__get__» := entryFor_of_tree (by kernel_rfl)
theorem ha_gw_args (a b c : Value) : argsOk "wrapper_descriptor.__get__" ⟨[a, b, c], []⟩ := by unfold argsOk; kernel_rfl
theorem ha_sub : isSubtype (.type "str") (.type (".".intercalate ("str.__getitem__".cutAt '.').dropLast)) = pure true := by
  have e0 : "str.__getitem__".cutAt '.' = ["str", "__getitem__"] := by first | rfl | decide +kernel
  rw [e0]
  have e1 : (".".intercalate (["str", "__getitem__"] : List String).dropLast) = "str" := by decide +kernel
  rw [e1, isSubtype_type]; kernel_rfl
theorem ha_gset : typeLookup (.type "wrapper_descriptor") "__set__" = pure none := by rw [typeLookup_type, builtinLookup_eq_fast]; kernel_rfl
theorem ha_gdel : typeLookup (.type "wrapper_descriptor") "__delete__" = pure none := by rw [typeLookup_type, builtinLookup_eq_fast]; kernel_rfl
set_option linter.unusedVariables false
theorem ha_get {R : Result → Shared → Prop} (hq : ∀ o, R (.ok (.ret (.ref h.objs.size))) ⟨h.push o, g, d, t, os⟩) :
    codeAny (model prog w) A (.call (.builtin "wrapper_descriptor.__get__") ⟨[.builtin "str.__getitem__", .str x u, .type "str"], []⟩) R ⟨h, g, d, t, os⟩ := by
  have hT : (⟨h, g, d, t, os⟩ : Shared).TypeIs (.str x u) "str" := rfl
  have hT5 : (⟨h, g, d, t, os⟩ : Shared).TypeIs (.builtin "str.__getitem__") "wrapper_descriptor" := ha_typ
  have f8 := ha_sub
  refine codeAny_call_builtin ha_gw.plain ha_gw_entry (ha_gw.check _ _ _ _ _ _ _ _ hT5 (ha_gw_args _ _ _) ?_)
  repeat (any_goals (first | assumption | wp_step))
  exact hq _
theorem ha_ga {tk : Tok} {Q : Fin → Shared → Prop} (hq : ∀ o, Q (.done (.ret (.ref h.objs.size))) ⟨h.push o, g, d, t, os⟩) :
    wpAny (model prog w) A (Builtin.«object.__getattribute__» ⟨[.str x u, .str (Str.ofString "__getitem__") tk], []⟩) Q E ⟨h, g, d, t, os⟩ := by
  have hT : (⟨h, g, d, t, os⟩ : Shared).TypeIs (.str x u) "str" := rfl
  have hT5 : (⟨h, g, d, t, os⟩ : Shared).TypeIs (.builtin "str.__getitem__") "wrapper_descriptor" := ha_typ
  have f4 := ha_lk
  have f5 := ha_typ
  have f6 := ha_gw.lookup
  have f7 := ha_gset
  have f8 := ha_gdel
  repeat (any_goals (first | assumption | wp_step))
  refine ha_get fun o => ?_
  exact wpAny_pure (hq o)
theorem ha_call {tk : Tok} {R : Result → Shared → Prop} (hq : ∀ o, R (.ok (.ret (.ref h.objs.size))) ⟨h.push o, g, d, t, os⟩) :
    codeAny (model prog w) A (.call (.builtin "object.__getattribute__") ⟨[.str x u, .str (Str.ofString "__getitem__") tk], []⟩) R ⟨h, g, d, t, os⟩ :=
  codeAny_call_builtin F.slot_str_getattribute.plain F.entry_object_getattribute (F.slot_str_getattribute.check _ _ _ _ _ _ _ _ (show (⟨h, g, d, t, os⟩ : Shared).TypeIs (.str x u) "str" from rfl) (F.args_object_getattribute_2 _ _) (ha_ga hq))
theorem ha_by {tk : Tok} {Q : Value → Shared → Prop} (hq : ∀ o, Q (.ref h.objs.size) ⟨h.push o, g, d, t, os⟩) : wpAny (model prog w) A (getAttrBy (.str x u) (.str (Str.ofString "__getitem__") tk) false) Q E ⟨h, g, d, t, os⟩ := by
  have hT : (⟨h, g, d, t, os⟩ : Shared).TypeIs (.str x u) "str" := rfl
  have f2 := F.slot_str_getattribute.lookup
  have f3 := F.slot_str_getattribute.bind (.str x u)
  repeat (any_goals (first | assumption | wp_step))
  refine ha_call fun o => ?_
  exact wpAny_pure (hq o)
theorem ha_by? {tk : Tok} {Q : Option Value → Shared → Prop} (hq : ∀ o, Q (some (.ref h.objs.size)) ⟨h.push o, g, d, t, os⟩) : wpAny (model prog w) A (getAttrBy? (.str x u) (.str (Str.ofString "__getitem__") tk)) Q E ⟨h, g, d, t, os⟩ := by
  unfold getAttrBy?
  refine wpAny_bind (wpAny_attempt (ha_by fun o => ?_))
  exact wpAny_pure (hq o)
theorem ha_str {s : Shared} {tk : Tok} {Q : Value → Shared → Prop} (hq : ∀ o, Q (.bool true) { s with heap := s.heap.push o }) : wpAny (model prog w) A (call (.builtin "hasattr") [.str x u, .str (Str.ofString "__getitem__") tk]) Q E s := by
  obtain ⟨h, g, d, t, os⟩ := s
  refine Calls.call_function_entry ha_kind ha_plain ha_entry (ha_args _ _) ?_
  have hT : (⟨h, g, d, t, os⟩ : Shared).TypeIs (.str x u) "str" := rfl
  unfold Builtin.«hasattr»
  refine wpAny_bind (wpAny_of_eq (a := [.str x u, .str (Str.ofString "__getitem__") tk]) (by first | rfl | kernel_rfl) ?_)
  dsimp only
  refine wpAny_bind (wpAny_of_eq (a := ()) (by first | rfl | kernel_rfl) ?_)
  rw [if_neg (show ¬ ((Value.str x u == Value.builtin "__main__.__loader__#opaque") = true) from Bool.false_ne_true)]
  refine wpAny_bind (wpAny_of_eq (a := .type "str") (by first | rfl | kernel_rfl) ?_)
  dsimp only
  refine wpAny_bind (wpAny_of_eq (a := some (Str.ofString "__getitem__")) (by first | rfl | kernel_rfl) ?_)
  dsimp only
  rw [ha_lk]
  refine wpAny_bind (wpAny_pure ?_)
  dsimp only
  rw [F.slot_str_getattribute.lookup]
  refine wpAny_bind (wpAny_pure ?_)
  rw [ha_data]
  rw [if_neg (by decide)]
  refine wpAny_bind (wpAny_of_eq (a := 0) (by first | rfl | kernel_rfl) ?_)
  rw [if_neg (by decide)]
  refine wpAny_bind (ha_by? fun o => ?_)
  rw [if_neg (show ¬ (((some (Value.ref h.objs.size)).isNone && 0 == 2) = true) from Bool.false_ne_true)]
  exact wpAny_pure ⟨_, rfl, hq o⟩
theorem ha_line {s : Shared} {h₀ : Heap} {L : Addr} {m : Str → Option Value} {news : Led} {tk : Tok} {Q : Value → Shared → Prop} (F : Fr h₀ L s.heap m) (N : News h₀ L s.heap news)
    (hq : ∀ h', Fr h₀ L h' m → News h₀ L h' news → Q (.bool true) { s with heap := h' }) : wpAny (model prog w) A (call (.builtin "hasattr") [.str x u, .str (Str.ofString "__getitem__") tk]) Q E s :=
  ha_str fun o => hq _ (F.push o) fun p hp => ⟨Heap.get?_push_of_some _ (N p hp).1, (N p hp).2⟩
end hasattr
end
/-! P1 -/
section
theorem lines2 : True := by
  k_with_none
  k_with "mine enter" => (
    refine' code_def (by k_asm) (by k_asm) (by k_asm) (by k_asm) (by k_asm) (by exact rfl) (by exact rfl) (by first | exact rfl | assumption) (by k_is) (by k_is) (by ktr_room) (by exact BindsTo.of_eq rfl) (by exact locs rfl) ?_ (by exact rfl) (by exact rfl) (by exact rfl) (by decide)
    k_whole
    intro _ _ _ _ _ _ _ _ _
    (try dsimp only)
    (try k_fold))
  k_with "mine ret0" => (refine' ret0 (by assumption) ?_ (by k_asm) (by first | k_asm | (refine cb_drop (by assumption) ?_; intro _ _; k_extra "mine sub1")))
  k_with "QEnd" => (dsimp only [QEnd])
  k_with "mine hasattr" => (
    refine' ha_line (by k_asm) (by k_asm) ?_
    intro _ _ _
    (try k_sweep))
  k_with "call builtin:hasattr" => (k_here; k_extra "mine hasattr")
  k_with "mine make" => (
    refine' call_cls (by k_asm) (by k_asm) (by k_asm) (by k_is) (by k_is) (by k_is) ?_
    k_whole
    intro _ _ _ _ _ kql kqm
    (try k_lt kql)
    (try k_lt2 kqm)
    (revert kql kqm; intro _ _)
    (try k_sweep)
    k_extra "mine enter")
  k_with "mine sub1" => (
    first
    | assumption
    | exact List.mem_append_left _ (by assumption)
    | exact List.mem_append_right _ (by assumption)
    | (refine List.Mem.tail _ ?_; k_extra "mine sub1")
    | (refine List.mem_append_left _ ?_; k_extra "mine sub1")
    | (refine List.mem_append_right _ ?_; k_extra "mine sub1"))
  k_with "mine sub" => (
    first
    | (refine sub_cons ?_ ?_; (focus (first | exact List.mem_cons.mpr (Or.inl (by rfl)) | k_memK | k_mem)); k_extra "mine sub")
    | exact List.forall_mem_nil _
    | (intro _ _; k_extra "mine sub1"))
  k_with "mine own" => (intro _ _; k_extra "mine sub1")
  k_with "mine ps" => (
    first
    | exact PsAre.nil
    | (refine PsAre.any (by with_unfolding_all rfl) ?_; k_extra "mine ps"))
  k_with "call type:tuple" => (
    k_here
    (with_reducible show wpAny _ _ (call (Value.type _) [Value.ref _]) _ _ _)
    k_dflt (refine' kde_tupleOf (by k_asm) (by k_asm) (by exact News.isList (by k_asm) (by k_mem)) (by (rw [List.size_toArray]; have hL9 := IntsAre.length (by assumption); omega)) (by exact rfl) ?_)
    intro _ _ _ _ kql
    (try k_lt kql)
    (revert kql; intro _)
    (try k_sweep))
  trivial
/-! texts as lists of codes -/
def S (l : List Nat) : Str := ⟨l.toArray⟩
def codes (x : Str) : List Nat := x.cps.toList
theorem codes_S (l : List Nat) : codes (S l) = l := by simp [codes, S]
theorem S_codes (x : Str) : S (codes x) = x := by cases x; simp [codes, S]
theorem len_codes (x : Str) : x.length = (codes x).length := by simp [codes, PySem.Str.length]
theorem len_S (l : List Nat) : (S l).length = l.length := by simp [S, PySem.Str.length]
theorem codes_append (x y : Str) : codes (x ++ y) = codes x ++ codes y := by simp [codes, PySem.Str.cps_append]
theorem codes_inj {x y : Str} (h : codes x = codes y) : x = y := by rw [← S_codes x, h, S_codes]
theorem codes_tab : codes (Str.ofString "\t") = [9] := by decide +kernel
theorem codes_nil : codes (Str.ofString "") = [] := by decide +kernel
theorem len_tab : (Str.ofString "\t").length = 1 := by decide +kernel
theorem len_nil : (Str.ofString "").length = 0 := by decide +kernel
theorem mul_sp (k : Int) : Txt.mul (Str.ofString " ") k = S (List.replicate k.toNat 32) := by
  refine codes_inj ?_
  rw [codes_S]
  exact mul_one_list 32 k
theorem PsAre.nil {m : Str → Option Value} : PsAre m [] := trivial
theorem PsAre.any {m : Str → Option Value} {x : Str} {v : Value} {r : List (Str × Value)} (h : m x = some v) (hr : PsAre m r) : PsAre m ((x, v) :: r) := ⟨h, hr⟩
theorem PsAre.str {m : Str → Option Value} {x : Str} {a b : Str} {t : Tok} {r : List (Str × Value)} (h : m x = some (.str a t)) (e : a = b) (hr : PsAre m r) : PsAre m ((x, .str b t) :: r) := ⟨by rw [h, e], hr⟩
theorem PsAre.int {m : Str → Option Value} {x : Str} {a b : Int} {t : Tok} {r : List (Str × Value)} (h : m x = some (.int a t)) (e : a = b) (hr : PsAre m r) : PsAre m ((x, .int b t) :: r) := ⟨by rw [h, e], hr⟩
/-! the small defs -/
theorem add_con (w : World) (mean mg mb) (x y : Int) (t u : Tok) : Con0 w mean mg mb 1 42 [.int x t, .int y u] (fun _ => True) (fun t => .int (x + y) t) := by
  unfold Con0
  k_fill
  intro dp un gd cn cs a ccd cl outer A₀ base h₀ L m news s Q E B F X N T hk hP hd hu hret
  refine wpAny_call ?_
  w_on
  k_dflt (k_extra "mine enter")
  k_steps
  all_goals (k_extra "mine ret0"; exact ⟨_, rfl⟩)
theorem sub_con (w : World) (mean mg mb) (x y : Int) (t u : Tok) : Con0 w mean mg mb 1 56 [.int x t, .int y u] (fun _ => True) (fun t => .int (x - y) t) := by
  unfold Con0
  k_fill
  intro dp un gd cn cs a ccd cl outer A₀ base h₀ L m news s Q E B F X N T hk hP hd hu hret
  refine wpAny_call ?_
  w_on
  k_dflt (k_extra "mine enter")
  k_steps
  all_goals (k_extra "mine ret0"; exact ⟨_, rfl⟩)
theorem lt_con (w : World) (mean mg mb) (x y : Int) (t u : Tok) : Con0 w mean mg mb 1 28 [.int x t, .int y u] (fun _ => True) (fun _ => .bool (decide (x < y))) := by
  unfold Con0
  k_fill
  intro dp un gd cn cs a ccd cl outer A₀ base h₀ L m news s Q E B F X N T hk hP hd hu hret
  refine wpAny_call ?_
  w_on
  k_dflt (k_extra "mine enter")
  k_steps
  all_goals (k_extra "mine ret0"; exact ⟨0, rfl⟩)
theorem le_con (w : World) (mean mg mb) (x y : Int) (t u : Tok) : Con0 w mean mg mb 1 35 [.int x t, .int y u] (fun _ => True) (fun _ => .bool (decide (x ≤ y))) := by
  unfold Con0
  k_fill
  intro dp un gd cn cs a ccd cl outer A₀ base h₀ L m news s Q E B F X N T hk hP hd hu hret
  refine wpAny_call ?_
  w_on
  k_dflt (k_extra "mine enter")
  k_steps
  all_goals (k_extra "mine ret0"; exact ⟨0, rfl⟩)
theorem mul_con (w : World) (mean mg mb) (x : Str) (k : Int) (t u : Tok) : Con0 w mean mg mb 1 49 [.str x t, .int k u] (fun _ => x = Str.ofString " " ∧ 0 ≤ k ∧ k ≤ 100) (fun t => .str (S (List.replicate k.toNat 32)) t) := by
  unfold Con0
  k_fill
  intro dp un gd cn cs a ccd cl outer A₀ base h₀ L m news s Q E B F X N T hk hP hd hu hret
  refine wpAny_call ?_
  w_on
  k_dflt (k_extra "mine enter")
  obtain ⟨rfl, hp2, hp3⟩ := hP
  k_steps
  all_goals (k_extra "mine ret0"; exact ⟨_, by rw [mul_sp]⟩)
theorem concat_con (w : World) (mean mg mb) (x y : Str) (t u : Tok) : Con0 w mean mg mb 1 63 [.str x t, .str y u] (fun _ => x.length ≤ 1000 ∧ y.length ≤ 1000) (fun t => .str (S (codes x ++ codes y)) t) := by
  unfold Con0
  k_fill
  intro dp un gd cn cs a ccd cl outer A₀ base h₀ L m news s Q E B F X N T hk hP hd hu hret
  refine wpAny_call ?_
  w_on
  k_dflt (k_extra "mine enter")
  obtain ⟨hp1, hp2⟩ := hP
  k_steps
  all_goals (k_extra "mine ret0"; exact ⟨_, by rw [← codes_append, S_codes]⟩)
end
/-! P2 -/
section
theorem lines3 : True := by
  k_with_none
  k_with "mine enter" => (
    refine' code_def (by k_asm) (by k_asm) (by k_asm) (by k_asm) (by k_asm) (by exact rfl) (by exact rfl) (by first | exact rfl | assumption) (by k_is) (by k_is) (by ktr_room) (by exact BindsTo.of_eq rfl) (by exact locs rfl) ?_ (by exact rfl) (by exact rfl) (by exact rfl) (by decide)
    k_whole
    intro _ _ _ _ _ _ _ _ _
    (try dsimp only)
    (try k_fold))
  k_with "mine ret0" => (refine' ret0 (by assumption) ?_ (by k_asm) (by first | k_asm | (refine cb_drop (by assumption) ?_; intro _ _; k_extra "mine sub1")))
  k_with "QEnd" => (dsimp only [QEnd])
  k_with "mine hasattr" => (
    refine' ha_line (by k_asm) (by k_asm) ?_
    intro _ _ _
    (try k_sweep))
  k_with "call builtin:hasattr" => (k_here; k_extra "mine hasattr")
  k_with "mine make" => (
    refine' call_cls (by k_asm) (by k_asm) (by k_asm) (by k_is) (by k_is) (by k_is) ?_
    k_whole
    intro _ _ _ _ _ kql kqm
    (try k_lt kql)
    (try k_lt2 kqm)
    (revert kql kqm; intro _ _)
    (try k_sweep)
    k_extra "mine enter")
  k_with "mine sub1" => (
    first
    | assumption
    | exact List.mem_append_left _ (by assumption)
    | exact List.mem_append_right _ (by assumption)
    | (refine List.Mem.tail _ ?_; k_extra "mine sub1")
    | (refine List.mem_append_left _ ?_; k_extra "mine sub1")
    | (refine List.mem_append_right _ ?_; k_extra "mine sub1"))
  k_with "mine sub" => (
    first
    | (refine sub_cons ?_ ?_; (focus (first | exact List.mem_cons.mpr (Or.inl (by rfl)) | k_memK | k_mem)); k_extra "mine sub")
    | exact List.forall_mem_nil _
    | (intro _ _; k_extra "mine sub1"))
  k_with "mine own" => (intro _ _; k_extra "mine sub1")
  k_with "mine ps" => (
    first
    | exact PsAre.nil
    | (refine PsAre.any (by with_unfolding_all rfl) ?_; k_extra "mine ps"))
  k_with "call type:tuple" => (
    k_here
    (with_reducible show wpAny _ _ (call (Value.type _) [Value.ref _]) _ _ _)
    k_dflt (refine' kde_tupleOf (by k_asm) (by k_asm) (by exact News.isList (by k_asm) (by k_mem)) (by (rw [List.size_toArray]; have hL9 := IntsAre.length (by assumption); omega)) (by exact rfl) ?_)
    intro _ _ _ _ kql
    (try k_lt kql)
    (revert kql; intro _)
    (try k_sweep))
  k_with "call ref" => (
    k_here
    (with_reducible show wpAny _ _ (call (Value.ref 42) [Value.int _ _, Value.int _ _]) _ _ _)
    k_dflt (refine' Con0.use (add_con _ _ _ _ _ _ _ _) (by k_asm) (by k_asm) (by k_asm) (by k_asm) (by k_asm) (by first | exact rfl | assumption) (by trivial) (by ktr_room) (by ktr_units) ?_)
    intro _ _ _ _ _
    (try k_sweep)
    (try dsimp only)
    (try k_fold))
  k_with "call ref" => (
    k_here
    (with_reducible show wpAny _ _ (call (Value.ref 56) [Value.int _ _, Value.int _ _]) _ _ _)
    k_dflt (refine' Con0.use (sub_con _ _ _ _ _ _ _ _) (by k_asm) (by k_asm) (by k_asm) (by k_asm) (by k_asm) (by first | exact rfl | assumption) (by trivial) (by ktr_room) (by ktr_units) ?_)
    intro _ _ _ _ _
    (try k_sweep)
    (try dsimp only)
    (try k_fold))
  k_with "call ref" => (
    k_here
    (with_reducible show wpAny _ _ (call (Value.ref 28) [Value.int _ _, Value.int _ _]) _ _ _)
    k_dflt (refine' Con0.use (lt_con _ _ _ _ _ _ _ _) (by k_asm) (by k_asm) (by k_asm) (by k_asm) (by k_asm) (by first | exact rfl | assumption) (by trivial) (by ktr_room) (by ktr_units) ?_)
    intro _ _ _ _ _
    (try k_sweep)
    (try dsimp only)
    (try k_fold))
  k_with "call ref" => (
    k_here
    (with_reducible show wpAny _ _ (call (Value.ref 35) [Value.int _ _, Value.int _ _]) _ _ _)
    k_dflt (refine' Con0.use (le_con _ _ _ _ _ _ _ _) (by k_asm) (by k_asm) (by k_asm) (by k_asm) (by k_asm) (by first | exact rfl | assumption) (by trivial) (by ktr_room) (by ktr_units) ?_)
    intro _ _ _ _ _
    (try k_sweep)
    (try dsimp only)
    (try k_fold))
  k_with "call ref" => (
    k_here
    (with_reducible show wpAny _ _ (call (Value.ref 49) [Value.str _ _, Value.int _ _]) _ _ _)
    k_dflt (refine' Con0.use (mul_con _ _ _ _ _ _ _ _) (by k_asm) (by k_asm) (by k_asm) (by k_asm) (by k_asm) (by first | exact rfl | assumption) (by k_extra "mine mulPre") (by ktr_room) (by ktr_units) ?_)
    intro _ _ _ _ _
    (try k_sweep)
    (try dsimp only)
    (try k_fold))
  k_with "call ref" => (
    k_here
    (with_reducible show wpAny _ _ (call (Value.ref 63) [Value.str _ _, Value.str _ _]) _ _ _)
    k_dflt (refine' Con0.use (concat_con _ _ _ _ _ _ _ _) (by k_asm) (by k_asm) (by k_asm) (by k_asm) (by k_asm) (by first | exact rfl | assumption) (by k_extra "mine catPre") (by ktr_room) (by ktr_units) ?_)
    intro _ _ _ _ _
    (try k_sweep)
    (try dsimp only)
    (try k_fold))
  k_with "mine mulPre" => (exact ⟨rfl, by omega, by omega⟩)
  k_with "mine catPre" => ((try simp only [codes_S, len_S, codes_tab, codes_nil, len_tab, len_nil, List.length_append, List.length_replicate, List.length_cons, List.length_nil]); omega)
  trivial
/-! the lead -/
def leadC (ns : List Int) : List Nat := ns.flatMap fun b => List.replicate b.toNat 32 ++ [9]
theorem leadC_append (a b : List Int) : leadC (a ++ b) = leadC a ++ leadC b := by simp [leadC]
theorem leadC_len : ∀ (ns : List Int), (∀ x ∈ ns, 0 ≤ x ∧ x ≤ 8) → (leadC ns).length ≤ 9 * ns.length
  | [], _ => Nat.le_refl _
  | b :: r, h => by
    have h1 := leadC_len r fun x hx => h x (.tail _ hx)
    have h2 := h b (.head _)
    have e : (leadC (b :: r)).length = b.toNat + 1 + (leadC r).length := by simp [leadC]; omega
    rw [e, List.length_cons]
    omega
theorem lead_con (w : World) (mean mg mb) (l : Addr) (ns : List Int) (behind : Str) (tb) : Con0 w mean mg mb 2 151 [.ref l, .str behind tb]
   (fun news => ∃ us n, (l, listOf us.toArray n) ∈ news ∧ IntsAre us ns ∧ (∀ x ∈ ns, 0 ≤ x ∧ x ≤ 8) ∧ ns.length ≤ 6 ∧ behind.length ≤ 100) (fun t => .str (S (leadC ns ++ codes behind)) t) := by
  unfold Con0
  k_fill
  intro dp un gd cn cs a ccd cl outer A₀ base h₀ L m news s Q E B F X N T hk hP hd hu hret
  obtain ⟨us, n, h1, h2, h3, h4, h5⟩ := hP
  have hlen : us.length = ns.length := h2.length
  have hget : ∀ i (hi : i < ns.length), ∃ t, us[i]? = some (.int ns[i] t) := fun i hi => h2.get i ns[i] (by simp [hi])
  refine wpAny_call ?_
  w_on
  k_dflt (k_extra "mine enter")
  k_steps
  rename Fr _ _ _ _ => F1
  rename News _ _ _ _ => N1
  refine' forL (fun _ _ => news) (fun i (c : Tok) => [(Str.ofString "lead", .str (S (leadC (ns.take i))) c), (Str.ofString "behind", .str behind tb)]) (fun _ _ => True) _ rfl (fun _ _ => h1) F1 N1 (fun _ h => h) ?hp trivial ?turn ?done
  case hp =>
    have e0 : Str.ofString "" = S (leadC (ns.take 0)) := codes_inj (by rw [codes_S, codes_nil]; rfl)
    refine' PsAre.str (by with_unfolding_all rfl) e0 (PsAre.any (by with_unfolding_all rfl) .nil)
  case turn =>
    clear F1 N1
    intro i c v u h tk own hv _ hoff F2 N2
    have hi : i < ns.length := by rw [← hlen]; exact (List.getElem?_eq_some_iff.mp hv).1
    obtain ⟨t, hx⟩ := hget i hi
    obtain rfl : v = .int ns[i] t := by rw [hx] at hv; exact (Option.some.inj hv).symm
    have hb := h3 _ (List.getElem_mem hi)
    have hl := leadC_len (ns.take i) fun x hx => h3 x (List.mem_of_mem_take hx)
    rw [List.length_take] at hl
    have hl2 : (leadC (ns.take i)).length ≤ 54 := by omega
    have hs : leadC (ns.take (i + 1)) = leadC (ns.take i) ++ (List.replicate ns[i].toNat 32 ++ [9]) := by
      rw [List.take_succ_eq_append_getElem hi, leadC_append]; simp [leadC]
    generalize ns[i] = b at *
    (try k_fold)
    k_steps
    refine' endL _ (by assumption) (by assumption) (PsAre.str (by with_unfolding_all rfl) ?e (PsAre.any (by with_unfolding_all rfl) .nil)) (fun p hp => List.mem_append_left _ hp) (fun p hp => List.mem_append_right _ hp) hoff trivial
    rw [hs, codes_S, codes_S, codes_S, codes_tab]
  case done =>
    clear F1 N1
    intro c u h tk _ F2 N2
    have hl := leadC_len ns h3
    have ht : ns.take us.length = ns := by rw [hlen]; exact List.take_length
    rw [ht] at F2
    have hl2 : (leadC ns).length ≤ 54 := by omega
    have hb2 : (codes behind).length ≤ 100 := by rw [← len_codes]; exact h5
    (try k_fold)
    k_steps
    k_extra "mine ret0"
    exact ⟨_, by rw [codes_S]⟩
end
/-! W0 -/
section
theorem lines4 : True := by
  k_with_none
  k_with "mine enter" => (
    refine' code_def (by k_asm) (by k_asm) (by k_asm) (by k_asm) (by k_asm) (by exact rfl) (by exact rfl) (by first | exact rfl | assumption) (by k_is) (by k_is) (by ktr_room) (by exact BindsTo.of_eq rfl) (by exact locs rfl) ?_ (by exact rfl) (by exact rfl) (by exact rfl) (by decide)
    k_whole
    intro _ _ _ _ _ _ _ _ _
    (try dsimp only)
    (try k_fold))
  k_with "mine ret0" => (refine' ret0 (by assumption) ?_ (by k_asm) (by first | k_asm | (refine cb_drop (by assumption) ?_; intro _ _; k_extra "mine sub1")))
  k_with "QEnd" => (dsimp only [QEnd])
  k_with "mine hasattr" => (
    refine' ha_line (by k_asm) (by k_asm) ?_
    intro _ _ _
    (try k_sweep))
  k_with "call builtin:hasattr" => (k_here; k_extra "mine hasattr")
  k_with "mine make" => (
    refine' call_cls (by k_asm) (by k_asm) (by k_asm) (by k_is) (by k_is) (by k_is) ?_
    k_whole
    intro _ _ _ _ _ kql kqm
    (try k_lt kql)
    (try k_lt2 kqm)
    (revert kql kqm; intro _ _)
    (try k_sweep)
    k_extra "mine enter")
  k_with "mine sub1" => (
    first
    | assumption
    | exact List.mem_append_left _ (by assumption)
    | exact List.mem_append_right _ (by assumption)
    | (refine List.Mem.tail _ ?_; k_extra "mine sub1")
    | (refine List.mem_append_left _ ?_; k_extra "mine sub1")
    | (refine List.mem_append_right _ ?_; k_extra "mine sub1"))
  k_with "mine sub" => (
    first
    | (refine sub_cons ?_ ?_; (focus (first | exact List.mem_cons.mpr (Or.inl (by rfl)) | k_memK | k_mem)); k_extra "mine sub")
    | exact List.forall_mem_nil _
    | (intro _ _; k_extra "mine sub1"))
  k_with "mine own" => (intro _ _; k_extra "mine sub1")
  k_with "mine ps" => (
    first
    | exact PsAre.nil
    | (refine PsAre.any (by with_unfolding_all rfl) ?_; k_extra "mine ps"))
  k_with "call type:tuple" => (
    k_here
    (with_reducible show wpAny _ _ (call (Value.type _) [Value.ref _]) _ _ _)
    k_dflt (refine' kde_tupleOf (by k_asm) (by k_asm) (by exact News.isList (by k_asm) (by k_mem)) (by (rw [List.size_toArray]; have hL9 := IntsAre.length (by assumption); omega)) (by exact rfl) ?_)
    intro _ _ _ _ kql
    (try k_lt kql)
    (revert kql; intro _)
    (try k_sweep))
  k_with "call ref" => (
    k_here
    (with_reducible show wpAny _ _ (call (Value.ref 42) [Value.int _ _, Value.int _ _]) _ _ _)
    k_dflt (refine' Con0.use (add_con _ _ _ _ _ _ _ _) (by k_asm) (by k_asm) (by k_asm) (by k_asm) (by k_asm) (by first | exact rfl | assumption) (by trivial) (by ktr_room) (by ktr_units) ?_)
    intro _ _ _ _ _
    (try k_sweep)
    (try dsimp only)
    (try k_fold))
  k_with "call ref" => (
    k_here
    (with_reducible show wpAny _ _ (call (Value.ref 56) [Value.int _ _, Value.int _ _]) _ _ _)
    k_dflt (refine' Con0.use (sub_con _ _ _ _ _ _ _ _) (by k_asm) (by k_asm) (by k_asm) (by k_asm) (by k_asm) (by first | exact rfl | assumption) (by trivial) (by ktr_room) (by ktr_units) ?_)
    intro _ _ _ _ _
    (try k_sweep)
    (try dsimp only)
    (try k_fold))
  k_with "call ref" => (
    k_here
    (with_reducible show wpAny _ _ (call (Value.ref 28) [Value.int _ _, Value.int _ _]) _ _ _)
    k_dflt (refine' Con0.use (lt_con _ _ _ _ _ _ _ _) (by k_asm) (by k_asm) (by k_asm) (by k_asm) (by k_asm) (by first | exact rfl | assumption) (by trivial) (by ktr_room) (by ktr_units) ?_)
    intro _ _ _ _ _
    (try k_sweep)
    (try dsimp only)
    (try k_fold))
  k_with "call ref" => (
    k_here
    (with_reducible show wpAny _ _ (call (Value.ref 35) [Value.int _ _, Value.int _ _]) _ _ _)
    k_dflt (refine' Con0.use (le_con _ _ _ _ _ _ _ _) (by k_asm) (by k_asm) (by k_asm) (by k_asm) (by k_asm) (by first | exact rfl | assumption) (by trivial) (by ktr_room) (by ktr_units) ?_)
    intro _ _ _ _ _
    (try k_sweep)
    (try dsimp only)
    (try k_fold))
  k_with "call ref" => (
    k_here
    (with_reducible show wpAny _ _ (call (Value.ref 49) [Value.str _ _, Value.int _ _]) _ _ _)
    k_dflt (refine' Con0.use (mul_con _ _ _ _ _ _ _ _) (by k_asm) (by k_asm) (by k_asm) (by k_asm) (by k_asm) (by first | exact rfl | assumption) (by k_extra "mine mulPre") (by ktr_room) (by ktr_units) ?_)
    intro _ _ _ _ _
    (try k_sweep)
    (try dsimp only)
    (try k_fold))
  k_with "call ref" => (
    k_here
    (with_reducible show wpAny _ _ (call (Value.ref 63) [Value.str _ _, Value.str _ _]) _ _ _)
    k_dflt (refine' Con0.use (concat_con _ _ _ _ _ _ _ _) (by k_asm) (by k_asm) (by k_asm) (by k_asm) (by k_asm) (by first | exact rfl | assumption) (by k_extra "mine catPre") (by ktr_room) (by ktr_units) ?_)
    intro _ _ _ _ _
    (try k_sweep)
    (try dsimp only)
    (try k_fold))
  k_with "mine mulPre" => (exact ⟨rfl, by omega, by omega⟩)
  k_with "mine catPre" => ((try simp only [codes_S, len_S, codes_tab, codes_nil, len_tab, len_nil, List.length_append, List.length_replicate, List.length_cons, List.length_nil]); omega)
  trivial
/-! a text's blanks and tabs, told sign by sign -/
structure Sc where
  n : Int
  nt : Int
  b : Int
  count : List Int
def grow (l : List Int) (b : Int) : List Int := if (l.length : Int) ≤ b then l ++ List.replicate (b - l.length + 1).toNat 0 else l
def bump (l : List Int) (b : Int) : List Int := l.set b.toNat (l.getD b.toNat 0 + 1)
def Sc.blank (s : Sc) : Sc := { s with n := s.n + 1, b := s.b + 1 }
def Sc.tab (s : Sc) : Sc := { n := s.n + 1, nt := s.nt + 1, b := 0, count := bump (grow s.count s.b) s.b }
def scan : List Nat → Sc → Sc
  | [], s => s
  | c :: r, s => if c = 32 then scan r s.blank else if c = 9 then scan r s.tab else s
structure LS where
  C : Addr
  us : List Value
  cn : Nat
  st : Sc
  tb : Tok
  tn : Tok
  tt : Tok
theorem is_sp {k : Nat} : ((⟨#[k]⟩ : Str) == Str.ofString " ") = true ↔ k = 32 := by
  rw [beq_iff_eq, show Str.ofString " " = S [32] from by decide +kernel]
  constructor
  · intro h; have := congrArg codes h; rw [codes_S] at this; simpa [codes] using this
  · rintro rfl; rfl
theorem is_tb {k : Nat} : ((⟨#[k]⟩ : Str) == Str.ofString "\t") = true ↔ k = 9 := by
  rw [beq_iff_eq, show Str.ofString "\t" = S [9] from by decide +kernel]
  constructor
  · intro h; have := congrArg codes h; rw [codes_S] at this; simpa [codes] using this
  · rintro rfl; rfl
theorem sub_cons {q : Addr × Obj} {l l' : Led} (h1 : q ∈ l') (h2 : ∀ p ∈ l, p ∈ l') : ∀ p ∈ q :: l, p ∈ l' := List.forall_mem_cons.mpr ⟨h1, h2⟩
theorem allLt_app {d : Addr} : ∀ {a b : Led}, AllLt d (a ++ b) ↔ AllLt d a ∧ AllLt d b
  | [], b => by simp [AllLt]
  | p :: r, b => by simp only [List.cons_append, AllLt, allLt_app, and_assoc]
theorem ownOff_cons {own : Led} {d : Addr} {r : List Addr} (h1 : ∀ p ∈ own, p.1 < d) (h2 : OwnOff own r) : OwnOff own (d :: r) := fun p hp b hb => by
  rcases List.mem_cons.mp hb with rfl | hb
  · exact Nat.ne_of_lt (h1 p hp)
  · exact h2 p hp b hb
theorem drop_at {l : List Nat} {i k : Nat} (hv : l[i]? = some k) : l.drop i = k :: l.drop (i + 1) := by
  obtain ⟨h9, h8⟩ := List.getElem?_eq_some_iff.mp hv
  rw [List.drop_eq_getElem_cons h9, h8]
abbrev tupST : Obj := { cls := .type "tuple", data := .seq #[.str (Str.ofString " ") 260, .str (Str.ofString "\t") 261] }
abbrev dRaw (w : World) (x : Str) (t tr : Tok) : Obj := dictOf [⟨PyData.keyHash w.params (Str.ofString "raw"), .str (Str.ofString "raw") tr, .str x t⟩] 1
abbrev tupOf (us : List Value) : Obj := { cls := .type "tuple", data := .seq us.toArray }
abbrev wsDict (w : World) (raw : Str) (st : Sc) (tI : Addr) (t1 t2 t3 t4 t5 t6 t7 t8 : Tok) : Obj := dictOf [
  ⟨PyData.keyHash w.params (Str.ofString "raw"), .str (Str.ofString "raw") t1, .str raw t2⟩,
  ⟨PyData.keyHash w.params (Str.ofString "n"), .str (Str.ofString "n") t3, .int st.n t4⟩,
  ⟨PyData.keyHash w.params (Str.ofString "nt"), .str (Str.ofString "nt") t5, .int st.nt t6⟩,
  ⟨PyData.keyHash w.params (Str.ofString "norm"), .str (Str.ofString "norm") t7, .ref tI⟩,
  ⟨PyData.keyHash w.params (Str.ofString "is_simple"), .str (Str.ofString "is_simple") t8, .bool (decide ((st.count.length : Int) ≤ 1))⟩] 5
/-- the ledger bears a Whitespace of this text and these counts -/
inductive WsIn (w : World) (led : Led) (v : Value) (raw : Str) (st : Sc) : Prop
  | mk (xI dI tI cI : Addr) (us : List Value) (t1 t2 t3 t4 t5 t6 t7 t8 t9 : Tok) (hv : v = .ref xI) (h1 : (xI, instObj 125 dI) ∈ led) (h2 : (dI, wsDict w raw st tI t1 t2 t3 t4 t5 t6 t7 t8) ∈ led)
    (h3 : (tI, tupOf [.ref cI, .int st.b t9]) ∈ led) (h4 : (cI, tupOf us) ∈ led) (h5 : IntsAre us st.count) : WsIn w led v raw st
theorem WsIn.mono {w : World} {led led' : Led} {v : Value} {raw : Str} {st : Sc} (h : WsIn w led v raw st) (hs : ∀ p ∈ led, p ∈ led') : WsIn w led' v raw st := by
  obtain ⟨xI, dI, tI, cI, us, t1, t2, t3, t4, t5, t6, t7, t8, t9, a, b, c, d, e, f⟩ := h
  exact ⟨xI, dI, tI, cI, us, t1, t2, t3, t4, t5, t6, t7, t8, t9, a, hs _ b, hs _ c, hs _ d, hs _ e, f⟩
abbrev sc0 : Sc := ⟨0, 0, 0, []⟩
theorem ws_con (w : World) (mean mg mb) (x : Str) (t : Tok) : Con w mean mg mb 3 125 [.str x t] (fun _ => x.length ≤ 200) (fun tl r => WsIn w tl r x (scan (codes x) sc0)) := by
  unfold Con
  k_fill
  intro dp un gd cn cs a ccd cl outer A₀ base h₀ L m news s Q E B F X N T hk hP hd hu hret
  w_on
  refine' call_cls F X N (by k_is) (by k_is) (by k_is) ?_
  intro xI dI hI FI NI l1 l2
  replace l1 := allLt_of l1
  replace l2 := ltN l2
  k_sweep
  k_dflt (k_extra "mine enter")
  rename_i gI LI h1 FG F1 N1 B1 X1 T1
  k_steps
  rename_i DI _ lD _ _ _ CI _ lC _ _ _ hE F1 N1
  obtain ⟨tr, N2⟩ : ∃ tr, News gI LI hE ((CI, listOf ([] : List Value).toArray 0) :: (DI, tupST) :: (xI, instObj 125 dI) :: (dI, dRaw w x t tr) :: news) := ⟨_, N1⟩
  clear N1
  refine' forT (fun _ (c : LS) => (c.C, listOf c.us.toArray c.cn) :: (DI, tupST) :: (xI, instObj 125 dI) :: (dI, dRaw w x t tr) :: news)
    (fun _ c => [(Str.ofString "self", .ref xI), (Str.ofString "S", .str (Str.ofString " ") 260), (Str.ofString "T", .str (Str.ofString "\t") 261),
      (Str.ofString "count", .ref c.C), (Str.ofString "b", .int c.st.b c.tb), (Str.ofString "n", .int c.st.n c.tn), (Str.ofString "nt", .int c.st.nt c.tt)])
    (fun i c => IntsAre c.us c.st.count ∧ 0 ≤ c.st.b ∧ c.st.b ≤ i ∧ c.st.count.length ≤ i + 1 ∧ AllLt c.C ((DI, emptyDict) :: (xI, emptyDict) :: (dI, emptyDict) :: news) ∧ scan (x.cps.toList.drop i) c.st = scan x.cps.toList ⟨0, 0, 0, []⟩)
    (fun (c : LS) => (c.C, listOf c.us.toArray c.cn) :: (DI, tupST) :: (xI, instObj 125 dI) :: (dI, dRaw w x t tr) :: news)
    (fun c => [(Str.ofString "self", .ref xI), (Str.ofString "count", .ref c.C), (Str.ofString "b", .int c.st.b c.tb), (Str.ofString "n", .int c.st.n c.tn), (Str.ofString "nt", .int c.st.nt c.tt)])
    (fun c => IntsAre c.us c.st.count ∧ 0 ≤ c.st.b ∧ c.st.b ≤ 200 ∧ c.st.count.length ≤ 201 ∧ AllLt c.C ((DI, emptyDict) :: (xI, emptyDict) :: (dI, emptyDict) :: news) ∧ c.st = scan x.cps.toList ⟨0, 0, 0, []⟩)
    ⟨_, _, _, ⟨0, 0, 0, []⟩, _, _, _⟩ rfl F1 N2 (fun _ h => h) ?hp ?hP ?turn ?done ?cont
  case hp => exact .any (by with_unfolding_all rfl) (.any (by with_unfolding_all rfl) (.any (by with_unfolding_all rfl) (.any (by with_unfolding_all rfl) (.any (by with_unfolding_all rfl) (.any (by with_unfolding_all rfl) (.any (by with_unfolding_all rfl) .nil))))))
  case hP => exact ⟨.nil, Int.le_refl _, Int.le_refl _, Nat.zero_le _, lC, rfl⟩
  case turn =>
    clear F1 N2
    intro i c k t u h tk own hv hPc hoff F3 N3
    obtain ⟨C, us, cn, ⟨n, nt, b, count⟩, tb, tn, tt⟩ := c
    dsimp only at hPc hoff F3 N3
    obtain ⟨p1, p2, p3, p4, p5, p6⟩ := hPc
    rw [drop_at hv] at p6
    have hMk := kstMark
    have hi : i < 200 := by
      have h9 := (List.getElem?_eq_some_iff.mp hv).1
      have h8 : x.cps.toList.length = x.length := by simp [PySem.Str.length]
      omega
    simp only [List.cons_append] at N3
    simp only [List.map_cons] at hoff
    have p5' := p5
    simp only [AllLt] at p5'
    (try k_fold)
    k_steps
    · obtain rfl := (is_sp (k := k)).mp (by assumption)
      refine' endL (LS.mk C us cn ⟨n + 1, nt, b + 1, count⟩ _ _ _) (by assumption) (by assumption) ?hps0 ?hn0 ?ho0 hoff ⟨p1, ?_, ?_, ?_, p5, p6⟩
      case hps0 => k_extra "mine ps"
      case hn0 => k_extra "mine sub"
      case ho0 => k_extra "mine own"
      all_goals (try dsimp only)
      all_goals omega
    · obtain rfl := (is_tb (k := k)).mp (by assumption)
      have hb : (count.length : Int) ≤ b := by assumption
      have hg : bump (grow count b) b = (count ++ (List.replicate (b - (count.length : Int) + 1).toNat [0]).flatten).set b.toNat
          ((count ++ (List.replicate (b - (count.length : Int) + 1).toNat [0]).flatten).getD b.toNat 0 + 1) := by
        unfold bump grow
        rw [if_pos hb, List.flatten_replicate_singleton]
      have hlg : (bump (grow count b) b).length ≤ i + 2 := by
        rw [hg, List.flatten_replicate_singleton, List.length_set, List.length_append, List.length_replicate]
        omega
      obtain ⟨_, _, _, q1, q2, q3, hA⟩ := (‹_ ∧ _ ∧ _ ∧ _ ∧ _ ∧ _ ∧ AllLt _ (news ++ own)›)
      refine' endL (LS.mk _ _ 0 ⟨n + 1, nt + 1, 0, bump (grow count b) b⟩ _ _ _) (by assumption) (by assumption) ?hps1 ?hn1 ?ho1 ?hoff1 ⟨?hi1, ?_, ?_, ?_, ⟨q1, q2, q3, (allLt_app.mp hA).1⟩, p6⟩
      case hps1 => k_extra "mine ps"
      case hi1 => (dsimp only; rw [hg]; assumption)
      case hn1 => (dsimp only; refine sub_cons ?aa ?_; (case aa => exact List.mem_cons.mpr (Or.inl rfl)); k_extra "mine sub")
      case ho1 => k_extra "mine own"
      case hoff1 => exact ownOff_cons (kst_ltOf (allLt_app.mp hA).2) fun p hp b hb => hoff p hp b (List.Mem.tail _ hb)
      all_goals (try dsimp only)
      all_goals omega
    · obtain rfl := (is_tb (k := k)).mp (by assumption)
      have hb : ¬ (count.length : Int) ≤ b := by assumption
      have hg : bump (grow count b) b = count.set b.toNat (count.getD b.toNat 0 + 1) := by
        unfold bump grow
        rw [if_neg hb]
      have hlg : (bump (grow count b) b).length ≤ i + 2 := by
        rw [hg, List.length_set]
        omega
      refine' endL (LS.mk C _ cn ⟨n + 1, nt + 1, 0, bump (grow count b) b⟩ _ _ _) (by assumption) (by assumption) ?hps2 ?hn2 ?ho2 ?hoff2 ?hP2
      case hps2 => k_extra "mine ps"
      case hn2 => k_extra "mine sub"
      case ho2 => k_extra "mine own"
      case hoff2 => exact hoff
      refine ⟨(by dsimp only; rw [hg]; assumption), ?_, ?_, ?_, p5, p6⟩
      all_goals (try dsimp only)
      all_goals omega
    · have hk1 : ¬ k = 32 := fun e => by
        have h9 := (is_sp (k := k)).mpr e
        simp_all
      have hk2 : ¬ k = 9 := fun e => by
        have h9 := (is_tb (k := k)).mpr e
        simp_all
      (try dsimp only [QEnd])
      refine' EndS.intro (LS.mk C us cn ⟨n, nt, b, count⟩ _ _ _) (by assumption) (by assumption) ?hps3 ?hn3 ⟨p1, p2, ?_, ?_, p5, ?_⟩
      case hps3 => k_extra "mine ps"
      case hn3 => k_extra "mine sub"
      all_goals (try dsimp only)
      all_goals (try omega)
      rw [← p6, scan, if_neg hk1, if_neg hk2]
  case done =>
    clear F1 N2
    intro c u h tk hPc F3 N3
    obtain ⟨C, us, cn, ⟨n, nt, b, count⟩, tb, tn, tt⟩ := c
    dsimp only at hPc F3 N3
    obtain ⟨p1, p2, p3, p4, p5, p6⟩ := hPc
    have h8 : x.cps.toList.length = x.length := by simp [PySem.Str.length]
    rw [List.drop_length] at p6
    refine' EndS.intro (LS.mk C us cn ⟨n, nt, b, count⟩ _ _ _) F3 N3 ?hps4 ?hn4 ⟨p1, p2, ?_, ?_, p5, p6⟩
    case hps4 => k_extra "mine ps"
    case hn4 => exact fun _ h => h
    all_goals (try dsimp only)
    all_goals omega
  case cont =>
    clear F1 N2
    intro c u h tk hPc F3 N3
    obtain ⟨C, us, cn, ⟨n, nt, b, count⟩, tb, tn, tt⟩ := c
    dsimp only at hPc F3 N3
    obtain ⟨p1, p2, p3, p4, p5, p6⟩ := hPc
    have hMk := kstMark
    have p5' := p5
    simp only [AllLt] at p5'
    (try k_fold)
    k_steps
    obtain ⟨_, _, _, _, _, hD2⟩ := (‹_ ∧ _ ∧ _ ∧ _ ∧ _ ∧ AllLt _ news›)
    obtain ⟨_, _, _, _, hD1⟩ := (‹_ ∧ _ ∧ _ ∧ _ ∧ AllLt _ news›)
    have hx : ∀ q ∈ news, q.1 < xI := fun q hq => Nat.lt_trans (kst_ltOf l1 q hq) l2
    have hps6 : (⟨n, nt, b, count⟩ : Sc) = scan (codes x) sc0 := p6
    refine' hret _ [_, _, _, _, _, _] _ _ (by k_asm) (by k_asm) ?ord ?out
    case ord =>
      intro p hp q hq
      simp only [List.mem_cons, List.not_mem_nil, or_false] at hp
      rcases hp with rfl | rfl | rfl | rfl | rfl | rfl
      · exact Nat.ne_of_lt (kst_ltOf hD2 q hq)
      · exact Nat.ne_of_lt (kst_ltOf hD1 q hq)
      · exact Nat.ne_of_lt (kst_ltOf p5'.2.2.2 q hq)
      · exact Nat.ne_of_lt (kst_ltOf lD.2.2 q hq)
      · exact Nat.ne_of_lt (hx q hq)
      · exact Nat.ne_of_lt (kst_ltOf l1 q hq)
    case out =>
      rw [← hps6]
      refine' ⟨xI, dI, _, _, us, tr, t, _, _, _, _, _, _, _, rfl, ?m1, ?m2, ?m3, ?m4, p1⟩
      case m1 => exact List.mem_cons.mpr (.inr (List.mem_cons.mpr (.inr (List.mem_cons.mpr (.inr (List.mem_cons.mpr (.inr (List.mem_cons.mpr (.inl (by rfl))))))))))
      case m2 => exact List.mem_cons.mpr (.inr (List.mem_cons.mpr (.inr (List.mem_cons.mpr (.inr (List.mem_cons.mpr (.inr (List.mem_cons.mpr (.inr (List.mem_cons.mpr (.inl (by rfl))))))))))))
      case m3 => exact List.mem_cons.mpr (.inl (by rfl))
      case m4 => exact List.mem_cons.mpr (.inr (List.mem_cons.mpr (.inl (by rfl))))
end
/-! W1 -/
section
theorem lines5 : True := by
  k_with_none
  k_with "mine enter" => (
    refine' code_def (by k_asm) (by k_asm) (by k_asm) (by k_asm) (by k_asm) (by exact rfl) (by exact rfl) (by first | exact rfl | assumption) (by k_is) (by k_is) (by ktr_room) (by exact BindsTo.of_eq rfl) (by exact locs rfl) ?_ (by exact rfl) (by exact rfl) (by exact rfl) (by decide)
    k_whole
    intro _ _ _ _ _ _ _ _ _
    (try dsimp only)
    (try k_fold))
  k_with "mine ret0" => (refine' ret0 (by assumption) ?_ (by k_asm) (by first | k_asm | (refine cb_drop (by assumption) ?_; intro _ _; k_extra "mine sub1")))
  k_with "QEnd" => (dsimp only [QEnd])
  k_with "mine hasattr" => (
    refine' ha_line (by k_asm) (by k_asm) ?_
    intro _ _ _
    (try k_sweep))
  k_with "call builtin:hasattr" => (k_here; k_extra "mine hasattr")
  k_with "mine make" => (
    refine' call_cls (by k_asm) (by k_asm) (by k_asm) (by k_is) (by k_is) (by k_is) ?_
    k_whole
    intro _ _ _ _ _ kql kqm
    (try k_lt kql)
    (try k_lt2 kqm)
    (revert kql kqm; intro _ _)
    (try k_sweep)
    k_extra "mine enter")
  k_with "mine sub1" => (
    first
    | assumption
    | exact List.mem_append_left _ (by assumption)
    | exact List.mem_append_right _ (by assumption)
    | (refine List.Mem.tail _ ?_; k_extra "mine sub1")
    | (refine List.mem_append_left _ ?_; k_extra "mine sub1")
    | (refine List.mem_append_right _ ?_; k_extra "mine sub1"))
  k_with "mine sub" => (
    first
    | (refine sub_cons ?_ ?_; (focus (first | exact List.mem_cons.mpr (Or.inl (by rfl)) | k_memK | k_mem)); k_extra "mine sub")
    | exact List.forall_mem_nil _
    | (intro _ _; k_extra "mine sub1"))
  k_with "mine own" => (intro _ _; k_extra "mine sub1")
  k_with "mine ps" => (
    first
    | exact PsAre.nil
    | (refine PsAre.any (by with_unfolding_all rfl) ?_; k_extra "mine ps"))
  k_with "call type:tuple" => (
    k_here
    (with_reducible show wpAny _ _ (call (Value.type _) [Value.ref _]) _ _ _)
    k_dflt (refine' kde_tupleOf (by k_asm) (by k_asm) (by exact News.isList (by k_asm) (by k_mem)) (by (rw [List.size_toArray]; have hL9 := IntsAre.length (by assumption); omega)) (by exact rfl) ?_)
    intro _ _ _ _ kql
    (try k_lt kql)
    (revert kql; intro _)
    (try k_sweep))
  k_with "call ref" => (
    k_here
    (with_reducible show wpAny _ _ (call (Value.ref 42) [Value.int _ _, Value.int _ _]) _ _ _)
    k_dflt (refine' Con0.use (add_con _ _ _ _ _ _ _ _) (by k_asm) (by k_asm) (by k_asm) (by k_asm) (by k_asm) (by first | exact rfl | assumption) (by trivial) (by ktr_room) (by ktr_units) ?_)
    intro _ _ _ _ _
    (try k_sweep)
    (try dsimp only)
    (try k_fold))
  k_with "call ref" => (
    k_here
    (with_reducible show wpAny _ _ (call (Value.ref 56) [Value.int _ _, Value.int _ _]) _ _ _)
    k_dflt (refine' Con0.use (sub_con _ _ _ _ _ _ _ _) (by k_asm) (by k_asm) (by k_asm) (by k_asm) (by k_asm) (by first | exact rfl | assumption) (by trivial) (by ktr_room) (by ktr_units) ?_)
    intro _ _ _ _ _
    (try k_sweep)
    (try dsimp only)
    (try k_fold))
  k_with "call ref" => (
    k_here
    (with_reducible show wpAny _ _ (call (Value.ref 28) [Value.int _ _, Value.int _ _]) _ _ _)
    k_dflt (refine' Con0.use (lt_con _ _ _ _ _ _ _ _) (by k_asm) (by k_asm) (by k_asm) (by k_asm) (by k_asm) (by first | exact rfl | assumption) (by trivial) (by ktr_room) (by ktr_units) ?_)
    intro _ _ _ _ _
    (try k_sweep)
    (try dsimp only)
    (try k_fold))
  k_with "call ref" => (
    k_here
    (with_reducible show wpAny _ _ (call (Value.ref 35) [Value.int _ _, Value.int _ _]) _ _ _)
    k_dflt (refine' Con0.use (le_con _ _ _ _ _ _ _ _) (by k_asm) (by k_asm) (by k_asm) (by k_asm) (by k_asm) (by first | exact rfl | assumption) (by trivial) (by ktr_room) (by ktr_units) ?_)
    intro _ _ _ _ _
    (try k_sweep)
    (try dsimp only)
    (try k_fold))
  k_with "call ref" => (
    k_here
    (with_reducible show wpAny _ _ (call (Value.ref 49) [Value.str _ _, Value.int _ _]) _ _ _)
    k_dflt (refine' Con0.use (mul_con _ _ _ _ _ _ _ _) (by k_asm) (by k_asm) (by k_asm) (by k_asm) (by k_asm) (by first | exact rfl | assumption) (by k_extra "mine mulPre") (by ktr_room) (by ktr_units) ?_)
    intro _ _ _ _ _
    (try k_sweep)
    (try dsimp only)
    (try k_fold))
  k_with "call ref" => (
    k_here
    (with_reducible show wpAny _ _ (call (Value.ref 63) [Value.str _ _, Value.str _ _]) _ _ _)
    k_dflt (refine' Con0.use (concat_con _ _ _ _ _ _ _ _) (by k_asm) (by k_asm) (by k_asm) (by k_asm) (by k_asm) (by first | exact rfl | assumption) (by k_extra "mine catPre") (by ktr_room) (by ktr_units) ?_)
    intro _ _ _ _ _
    (try k_sweep)
    (try dsimp only)
    (try k_fold))
  k_with "mine mulPre" => (exact ⟨rfl, by omega, by omega⟩)
  k_with "mine catPre" => ((try simp only [codes_S, len_S, codes_tab, codes_nil, len_tab, len_nil, List.length_append, List.length_replicate, List.length_cons, List.length_nil]); omega)
  trivial
/-! the methods -/
structure ScOk (st : Sc) : Prop where
  b0 : 0 ≤ st.b
  b1 : st.b ≤ 200
  n0 : 0 ≤ st.n
  n1 : st.n ≤ 200
  t0 : 0 ≤ st.nt
  t1 : st.nt ≤ 200
  len : st.count.length ≤ 201
  cs : ∀ c ∈ st.count, 0 ≤ c ∧ c ≤ 200
section rules
variable {prog : Program} {w : World} {A : Around} {E : Value → Shared → Prop} {s : Shared} {h₀ : Heap} {L : Addr} {news : Led}
theorem tup_len {c : Addr} {us : List Value} {ns : List Int} {Q : Value → Shared → Prop} (N : News h₀ L s.heap news) (hm : (c, tupOf us) ∈ news) (hI : IntsAre us ns) (hfit : (ns.length : Int) < 2 ^ 62)
    (h : Q (.int (ns.length : Int) (s.toks + 1)) { s with toks := s.toks + 1 + 1 }) : wpAny (model prog w) A (call (.builtin "len") [.ref c]) Q E s := by
  have hl := hI.length
  have e2 : us.toArray.size = ns.length := by rw [List.size_toArray, hl]
  exact len_tuple (News.isTup N hm) (by rw [e2]; omega) (by rw [e2]; exact h)
theorem norm_eq {tI cI tJ cJ : Addr} {us us' : List Value} {ns ns' : List Int} {b b' : Int} {t t' : Tok} {Q : Value → Shared → Prop} (N : News h₀ L s.heap news)
    (m3 : (tI, tupOf [.ref cI, .int b t]) ∈ news) (m4 : (cI, tupOf us) ∈ news) (hI : IntsAre us ns) (m3' : (tJ, tupOf [.ref cJ, .int b' t']) ∈ news) (m4' : (cJ, tupOf us') ∈ news) (hI' : IntsAre us' ns')
    (hu : A.units + 64 < cLine) (h : Q (.bool (decide (ns = ns' ∧ b = b'))) s) : wpAny (model prog w) A (compareOp .Eq (.ref tI) (.ref tJ)) Q E s := by
  have r1 : Reads s.heap (.ref cI) (.tuple (ns.map PyData.int)) [] := reads_tuple_at (News.get N m4) rfl rfl (IntsAre.reads _ hI)
  have r1' : Reads s.heap (.ref cJ) (.tuple (ns'.map PyData.int)) [] := reads_tuple_at (News.get N m4') rfl rfl (IntsAre.reads _ hI')
  have r2 : Reads s.heap (.ref tI) (.tuple [.tuple (ns.map PyData.int), .int b]) [] := reads_tuple_at (News.get N m3) rfl rfl (ReadsAll.cons r1 (ReadsAll.cons (Reads.int _ _) ReadsAll.nil))
  have r2' : Reads s.heap (.ref tJ) (.tuple [.tuple (ns'.map PyData.int), .int b']) [] := reads_tuple_at (News.get N m3') rfl rfl (ReadsAll.cons r1' (ReadsAll.cons (Reads.int _ _) ReadsAll.nil))
  have sh : ∀ (l : List Int) (b : Int), SeqAt.shaped (.tuple [.tuple (l.map PyData.int), .int b]) = true := fun l b => by
    simp [SeqAt.shaped, PyData.canLay0, PyData.canLayAll0, PyData.depth, PyData.depthAll, ke_canLayAll0, ke_depthAll]
  refine eq_dataH r2 r2' (sh _ _) (sh _ _) hu ?_
  have e : PyData.eqv (.tuple [.tuple (ns.map PyData.int), .int b]) (.tuple [.tuple (ns'.map PyData.int), .int b']) = decide (ns = ns' ∧ b = b') := by
    simp only [PyData.eqv, PyData.eqvAll, ked_eqvAll, Bool.and_true]
    by_cases h1 : ns = ns' <;> by_cases h2 : b = b' <;> simp [h1, h2]
  rw [e]; exact h
theorem getD_bnd {l : List Int} {i : Nat} (h : ∀ c ∈ l, 0 ≤ c ∧ c ≤ 200) : 0 ≤ l.getD i 0 ∧ l.getD i 0 ≤ 200 := by
  rw [List.getD_eq_getElem?_getD]
  rcases Nat.lt_or_ge i l.length with hi | hi
  · rw [List.getElem?_eq_getElem hi]; exact h _ (List.getElem_mem hi)
  · rw [List.getElem?_eq_none hi]; exact ⟨Int.le_refl _, by decide⟩
theorem getD_mulOk {a : Int} {l : List Int} {i : Nat} (h : ∀ c ∈ l, 0 ≤ c ∧ c ≤ 200) : IntMulOk a (l.getD i 0) := by
  have hb := getD_bnd (i := i) h
  exact IntMulOk.of_right (PySem.intBits_le_64 (by omega) (by omega))
end rules
theorem lines6 : True := by
  k_with "binaryOp Mult int int" => (
    k_here
    (with_reducible show wpAny _ _ (binaryOp _ (Value.int _ _) (Value.int (List.getD _ _ _) _)) _ _ _)
    k_dflt (refine mul_int ?_ (getD_mulOk (by assumption))))
  k_with "call builtin:len" => (
    k_here
    (with_reducible show wpAny _ _ (call (Value.builtin "len") [Value.ref _]) _ _ _)
    k_dflt (refine' tup_len (by k_asm) (by k_mem) (by assumption) (by omega) ?_; k_whole))
  k_with "compareOp Eq ref ref" => (
    k_here
    (with_reducible show wpAny _ _ (compareOp _ (Value.ref _) (Value.ref _)) _ _ _)
    k_dflt (refine' norm_eq (by k_asm) (by k_mem) (by k_mem) (by assumption) (by k_mem) (by k_mem) (by assumption) (by ktr_units) ?_; k_whole))
  trivial
def longestF (st : Sc) : Int := if st.b > (st.count.length : Int) - 1 then st.b else (st.count.length : Int) - 1
theorem longest_con (w : World) (mean mg mb) (v : Value) (raw : Str) (st : Sc) : Con0 w mean mg mb 1 87 [v] (fun news => WsIn w news v raw st ∧ ScOk st) (fun t => .int (longestF st) t) := by
  unfold Con0
  k_fill
  intro dp un gd cn cs a ccd cl outer A₀ base h₀ L m news s Q E B F X N T hk hP hd hu hret
  obtain ⟨⟨xI, dI, tI, cI, us, t1, t2, t3, t4, t5, t6, t7, t8, t9, rfl, m1, m2, m3, m4, hI⟩, ok⟩ := hP
  obtain ⟨n, nt, b, count⟩ := st
  obtain ⟨b0, b1, n0, n1, t0, t1, hlen, hcs⟩ := ok
  dsimp only at *
  refine wpAny_call ?_
  w_on
  k_dflt (k_extra "mine enter")
  have hMk := kstMark
  k_steps
  all_goals (k_extra "mine ret0"; exact ⟨_, rfl⟩)
theorem equal_con (w : World) (mean mg mb) (v v' : Value) (raw raw' : Str) (st st' : Sc) : Con0 w mean mg mb 5 101 [v, v'] (fun news => WsIn w news v raw st ∧ WsIn w news v' raw' st' ∧ ScOk st ∧ ScOk st') (fun _ => .bool (decide (st.count = st'.count ∧ st.b = st'.b))) := by
  unfold Con0
  k_fill
  intro dp un gd cn cs a ccd cl outer A₀ base h₀ L m news s Q E B F X N T hk hP hd hu hret
  obtain ⟨⟨xI, dI, tI, cI, us, t1, t2, t3, t4, t5, t6, t7, t8, t9, rfl, m1, m2, m3, m4, hI⟩, ⟨xJ, dJ, tJ, cJ, us', t1', t2', t3', t4', t5', t6', t7', t8', t9', rfl, m1', m2', m3', m4', hI'⟩, ok, ok'⟩ := hP
  obtain ⟨n, nt, b, count⟩ := st
  obtain ⟨n', nt', b', count'⟩ := st'
  obtain ⟨b0, b1, n0, n1, t0, t1, hlen, hcs⟩ := ok
  obtain ⟨b0', b1', n0', n1', t0', t1', hlen', hcs'⟩ := ok'
  dsimp only at *
  refine wpAny_call ?_
  w_on
  k_dflt (k_extra "mine enter")
  have hMk := kstMark
  k_steps
  all_goals (k_extra "mine ret0"; exact ⟨0, rfl⟩)
def ilSum (ts : Int) (count : List Int) (pre : List Int) : Int := (pre.map fun i => i.fdiv ts * count.getD i.toNat 0).sum
theorem ilSum_snoc {ts : Int} {count pre : List Int} {il k : Int} (h : il = ilSum ts count pre) : il + k.fdiv ts * count.getD k.toNat 0 = ilSum ts count (pre ++ [k]) := by
  rw [h]; simp [ilSum]
theorem ilSum_nil {ts : Int} {count : List Int} : (0 : Int) = ilSum ts count [] := rfl
def indentF (st : Sc) (ts : Int) : Int := st.b + ts * (ilSum ts st.count (rangeKs ts ((st.count.length : Int) - ts).toNat) + st.nt)
theorem indent_con (w : World) (mean mg mb) (v : Value) (raw : Str) (st : Sc) (ts : Int) (tt) : Con0 w mean mg mb 1 94 [v, .int ts tt] (fun news => WsIn w news v raw st ∧ ScOk st ∧ 1 ≤ ts ∧ ts ≤ 300) (fun t => .int (indentF st ts) t) := by
  unfold Con0
  k_fill
  intro dp un gd cn cs a ccd cl outer A₀ base h₀ L m news s Q E B F X N T hk hP hd hu hret
  obtain ⟨⟨xI, dI, tI, cI, us, t1, t2, t3, t4, t5, t6, t7, t8, t9, rfl, m1, m2, m3, m4, hI⟩, ok, hts0, hts1⟩ := hP
  obtain ⟨n, nt, b, count⟩ := st
  obtain ⟨b0, b1, n0, n1, t0, t1, hlen, hcs⟩ := ok
  dsimp only at *
  refine wpAny_call ?_
  w_on
  k_dflt (k_extra "mine enter")
  have hMk := kstMark
  k_with "state" => first | exact ilSum_nil | exact ilSum_snoc (by assumption)
  k_with "pyIter ref" => k_state (fun pre il => il = ilSum ts count pre) "il"
  k_steps
  rename _ = ilSum _ _ _ => hil
  k_extra "mine ret0"
  exact ⟨_, by simp only [indentF]; rw [← hil]⟩
-- from here on the walk stops at a loop
def Stop (P : Prop) : Prop := P
theorem stop {P : Prop} (h : Stop P) : P := h
theorem lines7 : True := by
  k_with "pyIter ref" => (k_here; refine stop ?_)
  k_with "mine wsin" => (
    first
    | assumption
    | (refine WsIn.mono (by assumption) ?_; intro _ _; k_extra "mine sub1"))
  k_with "call ref" => (
    k_here
    (try dsimp only [List.cons_append, List.nil_append])
    (with_reducible show wpAny _ _ (call (Value.ref 87) [Value.ref _]) _ _ _)
    k_dflt (refine' Con0.use (longest_con _ _ _ _ _ _ _) (by k_asm) (by k_asm) (by k_asm) (by k_asm) (by k_asm) (by first | exact rfl | assumption) (by exact ⟨by k_extra "mine wsin", by assumption⟩) (by ktr_room) (by ktr_units) ?_)
    intro _ _ _ _ _
    (try k_sweep)
    (try dsimp only)
    (try k_fold))
  k_with "call ref" => (
    k_here
    (try dsimp only [List.cons_append, List.nil_append])
    (with_reducible show wpAny _ _ (call (Value.ref 94) [Value.ref _, Value.int _ _]) _ _ _)
    k_dflt (refine' Con0.use (indent_con _ _ _ _ _ _ _ _ _) (by k_asm) (by k_asm) (by k_asm) (by k_asm) (by k_asm) (by first | exact rfl | assumption) (by exact ⟨by k_extra "mine wsin", by assumption, by omega, by omega⟩) (by ktr_room) (by ktr_units) ?_)
    intro _ _ _ _ _
    (try k_sweep)
    (try dsimp only)
    (try k_fold))
  trivial
theorem longest_bnd {st : Sc} (ok : ScOk st) : longestF st ≤ 200 ∧ -1 ≤ longestF st := by
  obtain ⟨b0, b1, n0, n1, t0, t1, hlen, hcs⟩ := ok
  unfold longestF
  split <;> omega
def lessF (st st' : Sc) : Bool :=
  if st.n ≥ st'.n then false
  else if (st.count.length : Int) ≤ 1 ∧ (st'.count.length : Int) ≤ 1 then decide (st.nt ≤ st'.nt)
  else (rangeKs 2 (((if longestF st' > longestF st then longestF st' else longestF st) + 1 + 1) - 2).toNat).all fun ts => decide (indentF st ts < indentF st' ts)
theorem less_con (w : World) (mean mg mb) (v v' : Value) (raw raw' : Str) (st st' : Sc) : Con0 w mean mg mb 3 115 [v, v'] (fun news => WsIn w news v raw st ∧ WsIn w news v' raw' st' ∧ ScOk st ∧ ScOk st') (fun _ => .bool (lessF st st')) := by
  unfold Con0
  k_fill
  intro dp un gd cn cs a ccd cl outer A₀ base h₀ L m news s Q E B F X N T hk hP hd hu hret
  obtain ⟨hW, hW', ok, ok'⟩ := hP
  have hV := hW
  have hV' := hW'
  obtain ⟨xI, dI, tI, cI, us, t1, t2, t3, t4, t5, t6, t7, t8, t9, rfl, m1, m2, m3, m4, hI⟩ := hV
  obtain ⟨xJ, dJ, tJ, cJ, us', t1', t2', t3', t4', t5', t6', t7', t8', t9', rfl, m1', m2', m3', m4', hI'⟩ := hV'
  have hl := longest_bnd ok
  have hl' := longest_bnd ok'
  refine wpAny_call ?_
  w_on
  k_dflt (k_extra "mine enter")
  have hMk := kstMark
  k_steps
  · k_extra "mine ret0"
    exact ⟨0, by simp_all [lessF]⟩
  · k_extra "mine ret0"
    exact ⟨0, by simp_all [lessF]⟩
  all_goals (
    have hns : ¬ ((st.count.length : Int) ≤ 1 ∧ (st'.count.length : Int) ≤ 1) := by omega
    have hgt : ¬ st.n ≥ st'.n := by assumption
    have hL : lessF st st' = (rangeKs 2 (((if longestF st' > longestF st then longestF st' else longestF st) + 1 + 1) - 2).toNat).all fun ts => decide (indentF st ts < indentF st' ts) := by
      unfold lessF; rw [if_neg hgt, if_neg hns]
    have hM : (if longestF st' > longestF st then longestF st' else longestF st) ≤ 200 ∧ -1 ≤ (if longestF st' > longestF st then longestF st' else longestF st) := by split <;> omega
    rename IsRange _ _ _ _ _ _ _ _ => hR
    rename Fr _ _ _ _ => F1
    rename News _ _ _ _ => N1
    generalize (if longestF st' > longestF st then longestF st' else longestF st) = M at *
    unfold Stop
    refine' forR (σ := Unit) (τ := Unit) (n := (M + 1 + 1 - 2).toNat) (fun _ _ => news) (fun _ _ => [(Str.ofString "self", .ref xI), (Str.ofString "other", .ref xJ)])
      (fun i _ => ∀ j : Nat, j < i → indentF st (2 + (j : Int)) < indentF st' (2 + (j : Int))) (fun _ => news) (fun _ => []) (fun _ => ∀ j : Nat, j < (M + 1 + 1 - 2).toNat → indentF st (2 + (j : Int)) < indentF st' (2 + (j : Int)))
      () rfl hR ?_ ?_ F1 N1 (fun _ h => h) ?_ (fun j hj => absurd hj (Nat.not_lt_zero _)) ?_ ?_ ?_
    · exact small_one (by omega) (by omega) (by omega) (by omega)
    · exact rangeSize_nat _ _
    · exact .any (by with_unfolding_all rfl) (.any (by with_unfolding_all rfl) .nil)
    · clear F1 N1
      intro i c t u h tk own hi hP hoff F2 N2
      have hi2 : (i : Int) < 250 := by omega
      (try k_fold)
      k_steps
      · k_extra "mine ret0"
        have hf : lessF st st' = false := by
          rw [hL, List.all_eq_false]
          have hge : indentF st' (2 + (i : Int)) ≤ indentF st (2 + (i : Int)) := by assumption
          exact ⟨2 + (i : Int), List.mem_map.mpr ⟨i, List.mem_range.mpr hi, rfl⟩, by rw [decide_eq_true_eq]; omega⟩
        exact ⟨0, by rw [hf]⟩
      · have hlt : ¬ indentF st' (2 + (i : Int)) ≤ indentF st (2 + (i : Int)) := by assumption
        refine endL () (by assumption) (by assumption) ?_ ?_ ?_ hoff ?_
        · exact .any (by with_unfolding_all rfl) (.any (by with_unfolding_all rfl) .nil)
        · exact fun p hp => List.mem_append_left _ hp
        · exact fun p hp => List.mem_append_right _ hp
        · intro j hj
          rcases Nat.lt_or_ge j i with h9 | h9
          · exact hP j h9
          · have e9 : j = i := by omega
            rw [e9]; omega
    · clear F1 N1
      intro c u h tk hP F2 N2
      exact EndS.intro () F2 N2 .nil (fun _ h => h) hP
    · clear F1 N1
      intro c u h tk hP F2 N2
      (try k_fold)
      k_steps
      k_extra "mine ret0"
      refine ⟨0, ?_⟩
      rw [hL, List.all_eq_true.mpr]
      intro x hx
      obtain ⟨j, hj, rfl⟩ := List.mem_map.mp hx
      exact decide_eq_true (hP j (List.mem_range.mp hj)))
end
/-! D0 -/
section
theorem lines8 : True := by
  k_with_none
  k_with "mine enter" => (
    refine' code_def (by k_asm) (by k_asm) (by k_asm) (by k_asm) (by k_asm) (by exact rfl) (by exact rfl) (by first | exact rfl | assumption) (by k_is) (by k_is) (by ktr_room) (by exact BindsTo.of_eq rfl) (by exact locs rfl) ?_ (by exact rfl) (by exact rfl) (by exact rfl) (by decide)
    k_whole
    intro _ _ _ _ _ _ _ _ _
    (try dsimp only)
    (try k_fold))
  k_with "mine ret0" => (refine' ret0 (by assumption) ?_ (by k_asm) (by first | k_asm | (refine cb_drop (by assumption) ?_; intro _ _; k_extra "mine sub1")))
  k_with "QEnd" => (dsimp only [QEnd])
  k_with "mine hasattr" => (
    refine' ha_line (by k_asm) (by k_asm) ?_
    intro _ _ _
    (try k_sweep))
  k_with "call builtin:hasattr" => (k_here; k_extra "mine hasattr")
  k_with "mine make" => (
    refine' call_cls (by k_asm) (by k_asm) (by k_asm) (by k_is) (by k_is) (by k_is) ?_
    k_whole
    intro _ _ _ _ _ kql kqm
    (try k_lt kql)
    (try k_lt2 kqm)
    (revert kql kqm; intro _ _)
    (try k_sweep)
    k_extra "mine enter")
  k_with "mine sub1" => (
    first
    | assumption
    | exact List.mem_append_left _ (by assumption)
    | exact List.mem_append_right _ (by assumption)
    | (refine List.Mem.tail _ ?_; k_extra "mine sub1")
    | (refine List.mem_append_left _ ?_; k_extra "mine sub1")
    | (refine List.mem_append_right _ ?_; k_extra "mine sub1"))
  k_with "mine sub" => (
    first
    | (refine sub_cons ?_ ?_; (focus (first | exact List.mem_cons.mpr (Or.inl (by rfl)) | k_memK | k_mem)); k_extra "mine sub")
    | exact List.forall_mem_nil _
    | (intro _ _; k_extra "mine sub1"))
  k_with "mine own" => (intro _ _; k_extra "mine sub1")
  k_with "mine ps" => (
    first
    | exact PsAre.nil
    | (refine PsAre.any (by with_unfolding_all rfl) ?_; k_extra "mine ps"))
  k_with "call type:tuple" => (
    k_here
    (with_reducible show wpAny _ _ (call (Value.type _) [Value.ref _]) _ _ _)
    k_dflt (refine' kde_tupleOf (by k_asm) (by k_asm) (by exact News.isList (by k_asm) (by k_mem)) (by (rw [List.size_toArray]; have hL9 := IntsAre.length (by assumption); omega)) (by exact rfl) ?_)
    intro _ _ _ _ kql
    (try k_lt kql)
    (revert kql; intro _)
    (try k_sweep))
  k_with "call ref" => (
    k_here
    (with_reducible show wpAny _ _ (call (Value.ref 42) [Value.int _ _, Value.int _ _]) _ _ _)
    k_dflt (refine' Con0.use (add_con _ _ _ _ _ _ _ _) (by k_asm) (by k_asm) (by k_asm) (by k_asm) (by k_asm) (by first | exact rfl | assumption) (by trivial) (by ktr_room) (by ktr_units) ?_)
    intro _ _ _ _ _
    (try k_sweep)
    (try dsimp only)
    (try k_fold))
  k_with "call ref" => (
    k_here
    (with_reducible show wpAny _ _ (call (Value.ref 56) [Value.int _ _, Value.int _ _]) _ _ _)
    k_dflt (refine' Con0.use (sub_con _ _ _ _ _ _ _ _) (by k_asm) (by k_asm) (by k_asm) (by k_asm) (by k_asm) (by first | exact rfl | assumption) (by trivial) (by ktr_room) (by ktr_units) ?_)
    intro _ _ _ _ _
    (try k_sweep)
    (try dsimp only)
    (try k_fold))
  k_with "call ref" => (
    k_here
    (with_reducible show wpAny _ _ (call (Value.ref 28) [Value.int _ _, Value.int _ _]) _ _ _)
    k_dflt (refine' Con0.use (lt_con _ _ _ _ _ _ _ _) (by k_asm) (by k_asm) (by k_asm) (by k_asm) (by k_asm) (by first | exact rfl | assumption) (by trivial) (by ktr_room) (by ktr_units) ?_)
    intro _ _ _ _ _
    (try k_sweep)
    (try dsimp only)
    (try k_fold))
  k_with "call ref" => (
    k_here
    (with_reducible show wpAny _ _ (call (Value.ref 35) [Value.int _ _, Value.int _ _]) _ _ _)
    k_dflt (refine' Con0.use (le_con _ _ _ _ _ _ _ _) (by k_asm) (by k_asm) (by k_asm) (by k_asm) (by k_asm) (by first | exact rfl | assumption) (by trivial) (by ktr_room) (by ktr_units) ?_)
    intro _ _ _ _ _
    (try k_sweep)
    (try dsimp only)
    (try k_fold))
  k_with "call ref" => (
    k_here
    (with_reducible show wpAny _ _ (call (Value.ref 49) [Value.str _ _, Value.int _ _]) _ _ _)
    k_dflt (refine' Con0.use (mul_con _ _ _ _ _ _ _ _) (by k_asm) (by k_asm) (by k_asm) (by k_asm) (by k_asm) (by first | exact rfl | assumption) (by k_extra "mine mulPre") (by ktr_room) (by ktr_units) ?_)
    intro _ _ _ _ _
    (try k_sweep)
    (try dsimp only)
    (try k_fold))
  k_with "call ref" => (
    k_here
    (with_reducible show wpAny _ _ (call (Value.ref 63) [Value.str _ _, Value.str _ _]) _ _ _)
    k_dflt (refine' Con0.use (concat_con _ _ _ _ _ _ _ _) (by k_asm) (by k_asm) (by k_asm) (by k_asm) (by k_asm) (by first | exact rfl | assumption) (by k_extra "mine catPre") (by ktr_room) (by ktr_units) ?_)
    intro _ _ _ _ _
    (try k_sweep)
    (try dsimp only)
    (try k_fold))
  k_with "mine mulPre" => (exact ⟨rfl, by omega, by omega⟩)
  k_with "mine catPre" => ((try simp only [codes_S, len_S, codes_tab, codes_nil, len_tab, len_nil, List.length_append, List.length_replicate, List.length_cons, List.length_nil]); omega)
  k_with "pyIter ref" => (k_here; refine stop ?_)
  k_with "exec While" => (k_here; refine stop ?_)
  k_with "mine enterC" => (
    refine' code_defC (by k_asm) (by k_asm) (by k_asm) (by k_asm) (by k_asm) (by exact rfl) (by exact rfl) (by first | exact rfl | assumption) (by k_is) (by k_is) (by ktr_room) (by exact BindsTo.of_eq rfl) (by exact rfl) (by decide +kernel) ?_ (by exact rfl) (by exact rfl) (by exact rfl)
    k_whole
    intro _ _ _ _ _ _ _ _ kqY _ _ _ kql
    (try k_lt kql)
    (revert kql; intro _)
    k_cells kqY
    (try (rename News _ _ _ _ => kqN; simp only [List.cons_append, List.nil_append] at kqN; revert kqN; intro _))
    (try dsimp only)
    (try k_fold))
  k_with "eval Name" => (k_here; (with_reducible show wpAny _ _ (eval (Expr.Name _ _) (envOfC _ _ _ _ _)) _ _ _); k_dflt (refine' bootName (by k_asm) (by k_asm) (by k_asm) (by rfl) (by rfl) (by k_is) (by first | boot_by_name | boot_fast | decide +kernel) (by decide) ?_; k_whole))
  k_with "exec Assign cons ListComp" => (
    k_here
    k_dflt (refine LCg.Assign_ListComp_U (F₀ := by k_asm) (by rfl) (by with_unfolding_all rfl) (by with_unfolding_all rfl) (by decide) (by rfl) (by decide) (by rfl) (by rfl) (by rfl) ?_))
  k_with "CompSrc" => (k_here; refine stop ?_)
  k_with "mine mem" => (first | assumption | (refine List.Mem.tail _ ?_; k_extra "mine mem"))
  k_with "eval Name" => (k_here; (with_reducible show wpAny _ _ (eval (Expr.Name _ _) (compEnvC _ _ _ _)) _ _ _); k_dflt (refine' kcf_cell (by k_asm) (by rfl) (by k_extra "mine mem") (by assumption) ?_; k_whole))
  k_with "eval Name" => (k_here; (with_reducible show wpAny _ _ (eval (Expr.Name _ _) (envOfC _ _ _ _ _)) _ _ _); k_dflt (refine' cellName (by rfl) (by rfl) (by k_asm) (by rfl) (by k_extra "mine mem") (by assumption) ?_; k_whole))
  k_with "mine short" => ((try simp only [List.length_append, List.length_take, List.length_drop, List.length_cons, List.length_nil]); omega)
  k_with "mine mem0" => (first | exact List.mem_cons.mpr (Or.inl (by rfl)) | assumption | (refine List.Mem.tail _ ?_; k_extra "mine mem0"))
  k_with "exec For" => (k_here; k_dflt ((rename Fr _ _ _ _ => kqF); (with_unfolding_all refine' For_invVF kqF (by exact rfl) (by exact rfl) ?_; k_whole)))
  k_with "mine memL" => (first | exact List.mem_cons.mpr (Or.inl (by rfl)) | (refine List.Mem.tail _ ?_; k_extra "mine memL"))
  k_with "WPost" => (dsimp only [WPost])
  trivial
/-! the line: weights with the ends that they bear -/
def PairIn (fz : Led) (v : Value) (p : Int × List Int) : Prop :=
  ∃ (a : Addr) (t : Tok) (e : Addr) (us : List Value) (c : Nat), v = .ref a ∧ (a, tupOf [.int p.1 t, .ref e]) ∈ fz ∧ (e, listOf us.toArray c) ∈ fz ∧ IntsAre us p.2
theorem PairIn.mono {fz fz' : Led} {v : Value} {p : Int × List Int} (h : PairIn fz v p) (hs : ∀ q ∈ fz, q ∈ fz') : PairIn fz' v p := by
  obtain ⟨a, t, e, us, c, h1, h2, h3, h4⟩ := h
  exact ⟨a, t, e, us, c, h1, hs _ h2, hs _ h3, h4⟩
inductive LineIn (fz : Led) : List Value → List (Int × List Int) → Prop
  | nil : LineIn fz [] []
  | cons {v : Value} {p : Int × List Int} {vs : List Value} {ps : List (Int × List Int)} (h : PairIn fz v p) (r : LineIn fz vs ps) : LineIn fz (v :: vs) (p :: ps)
theorem LineIn.mono {fz fz' : Led} {vs : List Value} {ps : List (Int × List Int)} (h : LineIn fz vs ps) (hs : ∀ q ∈ fz, q ∈ fz') : LineIn fz' vs ps := by
  induction h with
  | nil => exact .nil
  | cons h _ ih => exact .cons (h.mono hs) ih
theorem LineIn.len {fz : Led} {vs : List Value} {ps : List (Int × List Int)} (h : LineIn fz vs ps) : vs.length = ps.length := by
  induction h with
  | nil => rfl
  | cons _ _ ih => simp [ih]
theorem LineIn.app {fz : Led} {vs vs' : List Value} {ps ps' : List (Int × List Int)} (h : LineIn fz vs ps) (h' : LineIn fz vs' ps') : LineIn fz (vs ++ vs') (ps ++ ps') := by
  induction h with
  | nil => exact h'
  | cons h _ ih => exact .cons h ih
theorem LineIn.take {fz : Led} {vs : List Value} {ps : List (Int × List Int)} (h : LineIn fz vs ps) : ∀ n, LineIn fz (vs.take n) (ps.take n) := by
  induction h with
  | nil => intro n; simp; exact .nil
  | cons h _ ih => intro n; cases n with
    | zero => exact .nil
    | succ n => exact .cons h (ih n)
theorem LineIn.drop {fz : Led} {vs : List Value} {ps : List (Int × List Int)} (h : LineIn fz vs ps) : ∀ n, LineIn fz (vs.drop n) (ps.drop n) := by
  induction h with
  | nil => intro n; simp; exact .nil
  | cons h r ih => intro n; cases n with
    | zero => exact .cons h r
    | succ n => exact ih n
theorem LineIn.get {fz : Led} {vs : List Value} {ps : List (Int × List Int)} (h : LineIn fz vs ps) : ∀ i (hi : i < ps.length), ∃ v, vs[i]? = some v ∧ PairIn fz v ps[i] := by
  induction h with
  | nil => intro i hi; exact absurd hi (Nat.not_lt_zero _)
  | cons h r ih => intro i hi; cases i with
    | zero => exact ⟨_, rfl, h⟩
    | succ i => obtain ⟨v, h1, h2⟩ := ih i (Nat.lt_of_succ_lt_succ hi); exact ⟨v, by simpa using h1, by simpa using h2⟩

section comp
variable {prog : Program} {w : World} {A : Around} {h₀ : Heap} {L : Addr} {m : Str → Option Value} {env : Env} {elt : Expr} {x : Str} {scope : Scope} {cl : List (Str × Addr)} {s : Shared} {S : Led → Prop} {P : Nat → Value → Prop} {Fin : List Value → Led → Prop} {news₀ : Led} {n : Nat}
/-- a comprehension's turns by an invariant -/
theorem rest_ind (J : Nat → List Value → Led → Prop) (h0 : J 0 [] news₀)
    (turn : ∀ i ys news v I oI C oC D m₂ h tk (E' : Value → Shared → Prop), i < n → J i ys news → P i v → LCg.NsObj oC m₂ → m₂ x = some v → Fr h₀ L h m → News h₀ L h ((I, oI) :: (C, oC) :: (D, LCg.lst ys) :: news) → LCg.Off3 I C D news → ((@Ne Nat I C) ∧ (@Ne Nat I D) ∧ (@Ne Nat C D)) →
      wpAny (model prog w) A (eval elt (compEnvC scope cl C env)) (LCg.CompEnd h₀ L m { s with heap := h, toks := tk } I oI C oC D (LCg.lst ys) S (fun y news' => J (i + 1) (ys ++ [y]) news')) E' { s with heap := h, toks := tk })
    (fin : ∀ ys news, J n ys news → Fin ys news) : LCg.CompRest prog w A h₀ L m env elt x scope cl s S P Fin n 0 [] news₀ := by
  have key : ∀ k i ys news, k + i = n → J i ys news → LCg.CompRest prog w A h₀ L m env elt x scope cl s S P Fin k i ys news := by
    intro k
    induction k with
    | zero => intro i ys news e hJ; obtain rfl : i = n := by omega
              exact LCg.CompRest.zero (fin _ _ hJ)
    | succ k ih =>
      intro i ys news e hJ
      refine LCg.CompRest.succ fun v I oI C oC D m₂ h tk E' hP hC hx F N off ne => ?_
      refine wpAny_mono (turn i ys news v I oI C oC D m₂ h tk E' (by omega) hJ hP hC hx F N off ne) (fun y s₂ q => ?_) fun _ _ e => e
      obtain ⟨h', tk', news', e1, F', N', off', hS, r⟩ := q
      exact ⟨h', tk', news', e1, F', N', off', hS, ih _ _ _ (by omega) r⟩
  exact key n 0 [] news₀ rfl h0
theorem off3_cons {I C D d : Addr} {o : Obj} {l : Led} (h1 : (@Ne Nat d I)) (h2 : (@Ne Nat d C)) (h3 : (@Ne Nat d D)) (h : LCg.Off3 I C D l) : LCg.Off3 I C D ((d, o) :: l) := ⟨⟨h1, h2, h3⟩, h⟩
end comp
def line0 (ws : List Int) : List (Int × List Int) := ws.zipIdx.map fun p => (p.1, [(p.2 : Int)])
theorem line0_len (ws : List Int) : (line0 ws).length = ws.length := by simp [line0]
theorem line0_take {ws : List Int} {i : Nat} (hi : i < ws.length) : (line0 ws).take (i + 1) = (line0 ws).take i ++ [(ws.getD i 0, [(i : Int)])] := by
  have h : i < (line0 ws).length := by rw [line0_len]; exact hi
  rw [List.take_succ_eq_append_getElem h]
  congr 2
  simp [line0, hi]
/-! what the loops compute -/
abbrev Ln6 := List (Int × List Int)
def wAt (line : Ln6) (k : Nat) : Int := (line.getD k (0, [])).1
def eAt (line : Ln6) (k : Nat) : List Int := (line.getD k (0, [])).2
def findK (line : Ln6) : Nat → Nat → Nat
  | 0, k => k
  | n + 1, k => if k + 2 < line.length ∧ ¬ wAt line k ≤ wAt line (k + 2) then findK line n (k + 1) else k
def backK (line : Ln6) (joint : Int) : Nat → Nat
  | 0 => 0
  | k + 1 => if wAt line k < joint then backK line joint k else k + 1
def bump1 (ds : List Int) (e : Int) : List Int := ds.set e.toNat (ds.getD e.toNat 0 + 1)
def gwStep (s : Ln6 × List Int) : Ln6 × List Int :=
  let k := findK s.1 s.1.length 0
  let joint := wAt s.1 k + wAt s.1 (k + 1)
  let ends := eAt s.1 k ++ eAt s.1 (k + 1)
  let line := s.1.take k ++ s.1.drop (k + 2)
  let k' := backK line joint k
  (line.take k' ++ (joint, ends) :: line.drop k', ends.foldl bump1 s.2)
def gwRun : Nat → Ln6 × List Int → Ln6 × List Int
  | 0, s => s
  | n + 1, s => gwRun n (gwStep s)
def gw (ws : List Int) : List Int := (gwRun 5 (line0 ws, [0, 0, 0, 0, 0, 0])).2
structure LinOk (line : Ln6) (ds : List Int) : Prop where
  one : 1 ≤ line.length
  six : line.length ≤ 6
  len : ds.length = 6
  ends : ∀ p ∈ line, p.2.length ≤ 2 ^ (6 - line.length) ∧ ∀ e ∈ p.2, 0 ≤ e ∧ e < 6
section lines
variable {prog : Program} {w : World} {A : Around} {E : Value → Shared → Prop} {s : Shared} {h₀ : Heap} {L : Addr} {m : Str → Option Value} {news : Led} {value slice : PySem.Expr}
theorem line_item {l : Addr} {vs : List Value} {nn : Nat} {fz : Led} {line : Ln6} {k : Int} {u : Tok} {Q : Value → Shared → Prop} (N : News h₀ L s.heap news) (hm : (l, listOf vs.toArray nn) ∈ news) (hL : LineIn fz vs line)
    (h0 : 0 ≤ k) (h1 : k < (line.length : Int)) (h6 : line.length ≤ 6)
    (h : ∀ a t e us c, (a, tupOf [.int (wAt line k.toNat) t, .ref e]) ∈ fz → (e, listOf us.toArray c) ∈ fz → IntsAre us (eAt line k.toNat) → Q (.ref a) s)
    (hs : subscripted slice false (.ref l) (.int k u) = operate [.ref l, .int k u] (getItem (.ref l) (.int k u))) (hg : ∀ r, letTemporaryGo value (.ref l) r = pure ()) :
    wpAny (model prog w) A (subscriptTail value slice (.ref l) (.int k u)) Q E s := by
  have h1' : k.toNat < line.length := by omega
  obtain ⟨v, hv, a, t, e, us, c, rfl, h2, h3, h4⟩ := hL.get k.toNat h1'
  have ew : wAt line k.toNat = line[k.toNat].1 := by simp [wAt, h1']
  have ee : eAt line k.toNat = line[k.toNat].2 := by simp [eAt, h1']
  exact kim_list N hm rfl rfl h0 (by omega) hv (h a t e us c (ew ▸ h2) h3 (ee ▸ h4)) hs hg
theorem pair_item0 {a : Addr} {x y : Value} {u : Tok} {Q : Value → Shared → Prop} (N : News h₀ L s.heap news) (hm : (a, tupOf [x, y]) ∈ news) (h : Q x s)
    (hs : subscripted slice false (.ref a) (.int 0 u) = operate [.ref a, .int 0 u] (getItem (.ref a) (.int 0 u))) (hg : ∀ r, letTemporaryGo value (.ref a) r = pure ()) :
    wpAny (model prog w) A (subscriptTail value slice (.ref a) (.int 0 u)) Q E s :=
  kim_tup (j := 0) N hm rfl rfl (by decide) (by decide) rfl rfl h hs hg
theorem pair_item1 {a : Addr} {x y : Value} {u : Tok} {Q : Value → Shared → Prop} (N : News h₀ L s.heap news) (hm : (a, tupOf [x, y]) ∈ news) (h : Q y s)
    (hs : subscripted slice false (.ref a) (.int 1 u) = operate [.ref a, .int 1 u] (getItem (.ref a) (.int 1 u))) (hg : ∀ r, letTemporaryGo value (.ref a) r = pure ()) :
    wpAny (model prog w) A (subscriptTail value slice (.ref a) (.int 1 u)) Q E s :=
  kim_tup (j := 1) N hm rfl rfl (by decide) (by decide) rfl rfl h hs hg
theorem line_lenC {l : Addr} {vs : List Value} {nn : Nat} {fz : Led} {line : Ln6} {Q : Value → Shared → Prop} (N : News h₀ L s.heap news) (hm : (l, listOf vs.toArray nn) ∈ news) (hL : LineIn fz vs line) (h6 : line.length ≤ 6)
    (h : Q (.int (line.length : Int) (s.toks + 1)) { s with toks := s.toks + 1 + 1 }) : wpAny (model prog w) A (call (.builtin "len") [.ref l]) Q E s := by
  have e : (vs.toArray.size : Int) = (line.length : Int) := by rw [List.size_toArray, hL.len]
  refine len_list (News.isList N hm) (by omega) ?_
  rw [e]; exact h
theorem val_cat {a b : Addr} {vs ws : List Value} {n1 n2 : Nat} {Q : Value → Shared → Prop} (F : Fr h₀ L s.heap m) (N : News h₀ L s.heap news) (ha : (a, listOf vs.toArray n1) ∈ news) (hb : (b, listOf ws.toArray n2) ∈ news)
    (h6 : vs.length + ws.length ≤ 100)
    (h : ∀ D h', Fr h₀ L h' m → News h₀ L h' ((D, listOf (vs ++ ws).toArray 0) :: news) → (∀ p ∈ news, p.1 < D) → Q (.ref D) { s with heap := h' }) :
    wpAny (model prog w) A (binaryOp .Add (.ref a) (.ref b)) Q E s :=
  add_lists F N (News.isList N ha) (News.isList N hb) (fun h' F' N' => h _ h' F' N' (fun p hp => Heap.lt_size (N p hp).1)) (Nat.le_trans h6 (Nat.le_of_ble_eq_true rfl))
theorem ends_cat {a b : Addr} {vs ws : List Value} {n1 n2 : Nat} {line : Ln6} {i j : Nat} {Q : Value → Shared → Prop} (F : Fr h₀ L s.heap m) (N : News h₀ L s.heap news) (ha : (a, listOf vs.toArray n1) ∈ news) (hb : (b, listOf ws.toArray n2) ∈ news)
    (hi : IntsAre vs (eAt line i)) (hj : IntsAre ws (eAt line j)) (hE : ∀ k, (eAt line k).length ≤ 32)
    (h : ∀ D us h', Fr h₀ L h' m → News h₀ L h' ((D, listOf (List.toArray us) 0) :: news) → (∀ p ∈ news, p.1 < D) → IntsAre us (eAt line i ++ eAt line j) → Q (.ref D) { s with heap := h' }) :
    wpAny (model prog w) A (binaryOp .Add (.ref a) (.ref b)) Q E s :=
  kmk_add_ints F N (News.isList N ha) (News.isList N hb) hi hj h (Nat.le_trans (Nat.add_le_add (hE i) (hE j)) (Nat.le_of_ble_eq_true rfl))
theorem val_take {l : Addr} {vs : List Value} {nn : Nat} {k : Int} {t : Tok} {Q : Value → Shared → Prop} (F : Fr h₀ L s.heap m) (N : News h₀ L s.heap news) (hm : (l, listOf vs.toArray nn) ∈ news) (h0 : 0 ≤ k) (h6 : vs.length ≤ 100)
    (h : ∀ D h', Fr h₀ L h' m → News h₀ L h' ((D, listOf (vs.take k.toNat).toArray 0) :: news) → (∀ p ∈ news, p.1 < D) → Q (.ref D) { s with heap := h' })
    (hs : subscripted slice false (.ref l) (.ref s.heap.objs.size) = operate [.ref s.heap.objs.size, .ref l] (getItem (.ref l) (.ref s.heap.objs.size))) (ht : ∀ r, letTemporaryGo value (.ref l) r = pure ()) :
    wpAny (model prog w) A (subscriptTail value slice (.ref l) (.ref s.heap.objs.size)) Q E { s with heap := s.heap.push { cls := .type "slice", data := .fields #[.none, .int k t, .none] } } := by
  refine kms_slice_lit (zs := vs.take k.toNat) F N (News.isList N hm) .none (.int k t) ?_ h hs ht ?_
  · simp only [kms_pick, kms_lo, kms_hi, if_neg (Int.not_lt.mpr h0), List.drop_zero, Nat.sub_zero]
    rw [List.take_eq_take_iff]
    omega
  · rw [List.size_toArray]
    exact Nat.le_trans h6 (Nat.le_of_ble_eq_true rfl)
theorem val_drop {l : Addr} {vs : List Value} {nn : Nat} {k : Int} {t : Tok} {Q : Value → Shared → Prop} (F : Fr h₀ L s.heap m) (N : News h₀ L s.heap news) (hm : (l, listOf vs.toArray nn) ∈ news) (h0 : 0 ≤ k) (h6 : vs.length ≤ 100)
    (h : ∀ D h', Fr h₀ L h' m → News h₀ L h' ((D, listOf (vs.drop k.toNat).toArray 0) :: news) → (∀ p ∈ news, p.1 < D) → Q (.ref D) { s with heap := h' })
    (hs : subscripted slice false (.ref l) (.ref s.heap.objs.size) = operate [.ref s.heap.objs.size, .ref l] (getItem (.ref l) (.ref s.heap.objs.size))) (ht : ∀ r, letTemporaryGo value (.ref l) r = pure ()) :
    wpAny (model prog w) A (subscriptTail value slice (.ref l) (.ref s.heap.objs.size)) Q E { s with heap := s.heap.push { cls := .type "slice", data := .fields #[.int k t, .none, .none] } } := by
  refine kms_slice_lit (zs := vs.drop k.toNat) F N (News.isList N hm) (.int k t) .none ?_ h hs ht ?_
  · simp only [kms_pick, kms_lo, kms_hi, if_neg (Int.not_lt.mpr h0)]
    rcases Nat.le_total k.toNat vs.length with hk | hk
    · rw [Nat.min_eq_left hk, List.take_of_length_le (by rw [List.length_drop]; exact Nat.le_refl _)]
    · rw [Nat.min_eq_right hk, List.drop_eq_nil_of_le (Nat.le_refl _), List.drop_eq_nil_of_le hk]; simp
  · rw [List.size_toArray]
    exact Nat.le_trans h6 (Nat.le_of_ble_eq_true rfl)
end lines
theorem lines9 : True := by
  k_with "call builtin:len" => (
    k_here
    (with_reducible show wpAny _ _ (call (Value.builtin "len") [Value.ref _]) _ _ _)
    k_dflt (refine' line_lenC (by k_asm) (by k_extra "mine mem0") (by assumption) (by k_extra "mine short") ?_; k_whole))
  k_with "subscriptTail" => (
    k_here
    (with_reducible show wpAny _ _ (subscriptTail _ _ (Value.ref _) (Value.int _ _)) _ _ _)
    k_dflt (refine' line_item (by k_asm) (by k_extra "mine mem0") (by assumption) (by omega) (by (try simp only [List.length_append, List.length_take, List.length_drop]); omega) (by k_extra "mine short") ?_ (by with_unfolding_all rfl) (by kmk_pure); k_whole)
    intro _ _ _ _ _ _ _ _)
  k_with "subscriptTail" => (
    k_here
    (with_reducible show wpAny _ _ (subscriptTail _ _ (Value.ref _) (Value.int 0 _)) _ _ _)
    k_dflt (refine' pair_item0 (by k_asm) (by k_extra "mine mem") ?_ (by with_unfolding_all rfl) (by kmk_pure); k_whole))
  k_with "subscriptTail" => (
    k_here
    (with_reducible show wpAny _ _ (subscriptTail _ _ (Value.ref _) (Value.int 1 _)) _ _ _)
    k_dflt (refine' pair_item1 (by k_asm) (by k_extra "mine mem") ?_ (by with_unfolding_all rfl) (by kmk_pure); k_whole))
  k_with "binaryOp Add ref ref" => (
    k_here
    (with_reducible show wpAny _ _ (binaryOp _ (Value.ref _) (Value.ref _)) _ _ _)
    k_dflt (refine' ends_cat (by k_asm) (by k_asm) (by k_extra "mine mem0") (by k_extra "mine mem0") (by assumption) (by assumption) (by assumption) ?_)
    intro _ _ _ _ _ kql _
    (try k_lt kql)
    (revert kql; intro _)
    (try k_sweep))
  k_with "subscriptTail Name Slice ref ref" => (
    k_here
    (with_reducible show wpAny _ _ (subscriptTail _ (PySem.Expr.Slice _ _ none _) (Value.ref _) (Value.ref _)) _ _ _)
    k_dflt first
    | (refine' val_take (by k_asm) (by k_asm) (by k_extra "mine mem0") (by omega) (by k_extra "mine short") ?_ (by with_unfolding_all rfl) (by kmk_pure))
    | (refine' val_drop (by k_asm) (by k_asm) (by k_extra "mine mem0") (by omega) (by k_extra "mine short") ?_ (by with_unfolding_all rfl) (by kmk_pure))
    intro _ _ _ _ kql
    (try k_lt kql)
    (revert kql; intro _)
    (try k_sweep))
  k_with "binaryOp Add ref ref" => (
    k_here
    (with_reducible show wpAny _ _ (binaryOp _ (Value.ref _) (Value.ref _)) _ _ _)
    k_dflt (refine' val_cat (by k_asm) (by k_asm) (by k_extra "mine memL") (by k_extra "mine memL") (by k_extra "mine short") ?_)
    intro _ _ _ _ kql
    (try k_lt kql)
    (revert kql; intro _)
    (try k_sweep))
  trivial
structure DS where
  ln : Addr
  nl : Nat
  vs : List Value
  nd : Nat
  us : List Value
  fz : Led
  ds : List Int
  line : Ln6
theorem LinOk.short {line : Ln6} {ds : List Int} (h : LinOk line ds) (k : Nat) : (eAt line k).length ≤ 32 := by
  unfold eAt
  rw [List.getD_eq_getElem?_getD]
  rcases Nat.lt_or_ge k line.length with hk | hk
  · rw [List.getElem?_eq_getElem hk]
    refine Nat.le_trans (h.ends _ (List.getElem_mem hk)).1 ?_
    have h1 := h.one
    exact Nat.le_trans (Nat.pow_le_pow_right (by decide) (by omega : 6 - line.length ≤ 5)) (by decide)
  · rw [List.getElem?_eq_none hk]; exact Nat.zero_le _
theorem LinOk.bnd {line : Ln6} {ds : List Int} (h : LinOk line ds) (k : Nat) : ∀ e ∈ eAt line k, 0 ≤ e ∧ e < 6 := by
  unfold eAt
  rw [List.getD_eq_getElem?_getD]
  rcases Nat.lt_or_ge k line.length with hk | hk
  · rw [List.getElem?_eq_getElem hk]
    exact (h.ends _ (List.getElem_mem hk)).2
  · rw [List.getElem?_eq_none hk]; intro e he; cases he
theorem eAt_mem {line : Ln6} {k : Nat} (hk : k < line.length) : ∃ p ∈ line, eAt line k = p.2 := by
  refine ⟨line[k], List.getElem_mem hk, ?_⟩
  unfold eAt
  rw [List.getD_eq_getElem?_getD, List.getElem?_eq_getElem hk]; rfl
theorem cut_len {α : Type} (l : List α) {k : Nat} (hk : k + 2 ≤ l.length) : (l.take k ++ l.drop (k + 2)).length + 2 = l.length := by
  rw [List.length_append, List.length_take, List.length_drop, Nat.min_eq_left (Nat.le_trans (Nat.le_add_right k 2) hk), Nat.add_right_comm]
  exact Nat.add_sub_cancel' hk
theorem step_len {α : Type} (l : List α) {k : Nat} (hk : k + 2 ≤ l.length) (j : Nat) (x : α) : ((l.take k ++ l.drop (k + 2)).take j ++ [x] ++ (l.take k ++ l.drop (k + 2)).drop j).length + 1 = l.length := by
  have h := cut_len l hk
  generalize l.take k ++ l.drop (k + 2) = X at h
  rw [List.append_assoc, List.length_append, List.length_append, List.length_singleton, Nat.add_left_comm, ← List.length_append, List.take_append_drop, Nat.add_comm 1]
  exact h
theorem LinOk.step {line : Ln6} {ds ds' : List Int} (h : LinOk line ds) {k : Nat} (hk : k + 2 ≤ line.length) (j : Nat) (joint : Int) (hd : ds'.length = 6) :
    LinOk ((line.take k ++ line.drop (k + 2)).take j ++ [(joint, eAt line k ++ eAt line (k + 1))] ++ (line.take k ++ line.drop (k + 2)).drop j) ds' := by
  have h1 := h.six
  have hl : ((line.take k ++ line.drop (k + 2)).take j ++ [(joint, eAt line k ++ eAt line (k + 1))] ++ (line.take k ++ line.drop (k + 2)).drop j).length = line.length - 1 := Nat.eq_sub_of_add_eq (step_len line hk j _)
  have hm : ∀ p ∈ line.take k ++ line.drop (k + 2), p ∈ line := fun p hp => by
    rcases List.mem_append.mp hp with hp | hp
    · exact List.mem_of_mem_take hp
    · exact List.mem_of_mem_drop hp
  have hp2 : 2 ^ (6 - (line.length - 1)) = 2 ^ (6 - line.length) + 2 ^ (6 - line.length) := by
    rw [show 6 - (line.length - 1) = (6 - line.length) + 1 by omega, Nat.pow_succ]; omega
  have old : ∀ p ∈ line, p.2.length ≤ 2 ^ (6 - (line.length - 1)) ∧ ∀ e ∈ p.2, 0 ≤ e ∧ e < 6 := fun p hp => ⟨by have h2 := (h.ends p hp).1; omega, (h.ends p hp).2⟩
  refine ⟨by omega, by omega, hd, fun p hp => ?_⟩
  rw [hl]
  rcases List.mem_append.mp hp with hp | hp
  · rcases List.mem_append.mp hp with hp | hp
    · exact old _ (hm _ (List.mem_of_mem_take hp))
    · rw [List.mem_singleton.mp hp]
      obtain ⟨p1, m1, e1⟩ := eAt_mem (line := line) (k := k) (by omega)
      obtain ⟨p2, m2, e2⟩ := eAt_mem (line := line) (k := k + 1) (by omega)
      dsimp only
      refine ⟨?_, fun e he => ?_⟩
      · rw [List.length_append, e1, e2]
        have b1 := (h.ends _ m1).1
        have b2 := (h.ends _ m2).1
        omega
      · rcases List.mem_append.mp he with he | he
        · exact h.bnd _ _ he
        · exact h.bnd _ _ he
  · exact old _ (hm _ (List.mem_of_mem_drop hp))
theorem gw_step {line : Ln6} {ds : List Int} {k j : Nat} (hk : k = findK line line.length 0) (hj : j = backK (line.take k ++ line.drop (k + 2)) (wAt line k + wAt line (k + 1)) k) :
    gwStep (line, ds) = ((line.take k ++ line.drop (k + 2)).take j ++ [(wAt line k + wAt line (k + 1), eAt line k ++ eAt line (k + 1))] ++ (line.take k ++ line.drop (k + 2)).drop j, (eAt line k ++ eAt line (k + 1)).foldl bump1 ds) := by
  subst hk
  subst hj
  simp [gwStep]
theorem off1_own {D : Addr} : ∀ {l : Led}, LCg.Off1 D l → OwnOff l [D]
  | [], _ => fun p hp => by cases hp
  | q :: l, h => fun p hp b hb => by
    rw [List.mem_singleton.mp hb]
    rcases List.mem_cons.mp hp with rfl | hp
    · exact h.1
    · exact off1_own h.2 p hp D (List.mem_singleton.mpr rfl)
theorem linOk0 (a b c d e f : Int) : LinOk (line0 [a, b, c, d, e, f]) [0, 0, 0, 0, 0, 0] := by
  refine ⟨by simp [line0], by simp [line0], rfl, ?_⟩
  simp [line0, List.zipIdx]
theorem ints_at {vs : List Value} {ns : List Int} (h : IntsAre vs ns) : ∀ {i : Nat} {v : Value}, vs[i]? = some v → ∃ t, v = .int (ns.getD i 0) t ∧ i < ns.length := by
  induction h with
  | nil => intro i v hv; simp at hv
  | cons n t _ ih =>
    intro i v hv
    cases i with
    | zero => obtain rfl : _ = v := by simpa using hv
              exact ⟨t, rfl, Nat.succ_pos _⟩
    | succ i =>
      obtain ⟨t', e, hi⟩ := ih (by simpa using hv)
      exact ⟨t', by simpa using e, Nat.succ_lt_succ hi⟩
theorem ends_bnd {line : Ln6} {ds : List Int} (h : LinOk line ds) {i a b : Nat} (hi : i < (eAt line a ++ eAt line b).length) : 0 ≤ (eAt line a ++ eAt line b).getD i 0 ∧ (eAt line a ++ eAt line b).getD i 0 < 6 := by
  rw [List.getD_eq_getElem?_getD, List.getElem?_eq_getElem hi]
  have hm := List.getElem_mem hi
  rcases List.mem_append.mp hm with hm | hm
  · exact h.bnd _ _ hm
  · exact h.bnd _ _ hm
theorem depths_con (w : World) (mean mg mb) (l : Addr) (n : Nat) (a b c d e f : Int) (t0 t1 t2 t3 t4 t5 : Tok) :
    Con w mean mg mb 3 144 [.ref l] (fun news => (l, listOf [.int a t0, .int b t1, .int c t2, .int d t3, .int e t4, .int f t5].toArray n) ∈ news)
      (fun tl r => ∃ D us nd, r = .ref D ∧ (D, listOf (List.toArray us) nd) ∈ tl ∧ IntsAre us (gw [a, b, c, d, e, f])) := by
  unfold Con
  k_fill
  intro dp un gd cn cs ad ccd cl outer A₀ base h₀ L m news s Q E B F X N T hk hP hd hu hret
  refine wpAny_call ?_
  w_on
  k_dflt (k_extra "mine enterC")
  rename_i gI LI hI tkI FG F1 B1 X1 T1 l1 oc dc N1
  obtain ⟨g₁, F2, N2, B2, X2, T2, hg, back⟩ := rebase (cells := [(LI + 1, oc)]) F1 N1 l1 (fun q hq => by rw [List.mem_singleton.mp hq]; exact Nat.lt_succ_self _) B1 X1 T1
  clear F1 N1 B1 X1 T1
  have hl : g₁.IsList l [.int a t0, .int b t1, .int c t2, .int d t3, .int e t4, .int f t5].toArray := ⟨_, hg _ hP, rfl, n, rfl⟩
  have hI6 : IntsAre [.int a t0, .int b t1, .int c t2, .int d t3, .int e t4, .int f t5] [a, b, c, d, e, f] := .cons _ _ (.cons _ _ (.cons _ _ (.cons _ _ (.cons _ _ (.cons _ _ .nil)))))
  have hMk := kstMark
  k_steps
  rename IsRange _ _ _ _ _ _ _ _ => hR
  rename Fr _ _ _ _ => F3
  rename News _ _ _ _ => N3
  unfold Stop
  refine LCg.CompSrc.range (n := 6) (by rfl) F3 N3 hR ?_ ?_ ?_ ?_
  · decide
  · rfl
  · exact Nat.le_of_ble_eq_true rfl
  clear F3 N3 hR
  intro g9
  refine rest_ind (fun i ys fz => (LI + 1, oc) ∈ fz ∧ LineIn fz ys ((line0 [a, b, c, d, e, f]).take i)) ⟨.head _, .nil⟩ ?_ ?_
  · rintro i ys fz v I oI C oC D m₂ h tk E' hi ⟨hc, hLn⟩ ⟨t, rfl⟩ hC hx F N off ne
    (try k_fold)
    k_steps
    rename_i tW lA _ lB tA _ F8 N8 lC
    simp only [Int.zero_add, Int.toNat_natCast] at N8
    (try k_unfold)
    refine LCg.CompEnd.intro F8 N8 ((tA, tupOf [.int ([a, b, c, d, e, f].getD i 0) tW, .ref lA]) :: (lA, listOf [Value.int (i : Int) t].toArray 0) :: fz) ?_ (off3_cons (by omega) (by omega) (by omega) (off3_cons (by omega) (by omega) (by omega) off)) trivial ?_
    · intro q hq
      simp only [List.mem_cons] at hq ⊢
      rcases hq with h | h | h | h | h | h <;> simp [h]
    · refine ⟨.tail _ (.tail _ hc), ?_⟩
      rw [line0_take (by simpa using hi)]
      refine (hLn.mono fun q hq => .tail _ (.tail _ hq)).app (.cons ⟨tA, tW, lA, [.int (i : Int) t], 0, rfl, .head _, .tail _ (.head _), .cons _ _ .nil⟩ .nil)
  · rintro ys fz ⟨hc, hLn⟩
    (try k_fold)
    k_steps
    rename_i Ln hLh tkL F3 N3 oL
    unfold Stop
    refine LCg.CompSrc.base (by rfl) F3 N3 hl (Nat.le_of_ble_eq_true rfl) ?_
    clear F3 N3
    intro g8
    refine rest_ind (n := 6) (fun i zs fz' => fz' = (Ln, LCg.lst ys) :: fz ∧ IntsAre zs (List.replicate i 0)) ⟨rfl, .nil⟩ ?_ ?_
    · rintro i zs fz' v I oI C oC Dd m₂ h tk E' hi ⟨rfl, hz⟩ hv hC hx F N off ne
      (try k_fold)
      iterate 1 walk1
      k_unfold
      refine LCg.CompEnd.intro F N ((Ln, LCg.lst ys) :: fz) (fun q hq => by simpa using hq) off (Or.inl hl) ⟨rfl, ?_⟩
      rw [List.replicate_succ']
      exact hz.append (.cons _ _ .nil)
    · rintro zs fz' ⟨rfl, hz⟩
      (try k_fold)
      k_steps
      rename_i D' hD' tkD F3 N3 oD
      unfold Stop
      refine whileK (σ := DS) (fun z => (D', listOf z.us.toArray z.nd) :: (z.ln, listOf z.vs.toArray z.nl) :: z.fz) (fun z => [(Str.ofString "depths", .ref D'), (Str.ofString "line", .ref z.ln)])
        (fun z => LineIn z.fz z.vs z.line ∧ IntsAre z.us z.ds ∧ LinOk z.line z.ds ∧ OwnOff z.fz [D'] ∧ (@Ne Nat z.ln D') ∧ gwRun (z.line.length - 1) (z.line, z.ds) = gwRun 5 (line0 [a, b, c, d, e, f], [0, 0, 0, 0, 0, 0]))
        (fun z => z.line.length) ⟨Ln, ys.length, ys, zs.length, zs, fz, [0, 0, 0, 0, 0, 0], line0 [a, b, c, d, e, f]⟩ F3 N3 ?_ ?_ ?_ ?_
      · exact fun p hp => hp
      · k_extra "mine ps"
      · exact ⟨hLn, hz, linOk0 _ _ _ _ _ _, off1_own oD.2, oD.1, rfl⟩
      · clear F3 N3
        rintro ⟨ln, nl, vs, nd, us, fz, ds, line⟩ u h9 tk9 ⟨hL, hU, hO, off, hne, hg⟩ F N
        dsimp only at hL hU hO off hne hg F N
        have hsix := hO.six
        have hone := hO.one
        have hvl := hL.len
        have hE := hO.short
        (try k_fold)
        k_steps
        · rename_i hlt h9' F3 N3
          unfold Stop
          refine whileE (σ := Int × Tok) (fun _ => (D', listOf us.toArray nd) :: (ln, listOf vs.toArray nl) :: fz) (fun z => [(Str.ofString "k", .int z.1 z.2), (Str.ofString "depths", .ref D'), (Str.ofString "line", .ref ln)])
            (fun z => 0 ≤ z.1 ∧ z.1 + 2 ≤ (line.length : Int) ∧ findK line (line.length - z.1.toNat) z.1.toNat = findK line line.length 0) (fun z => line.length - z.1.toNat)
            (fun z => 0 ≤ z.1 ∧ z.1 + 2 ≤ (line.length : Int) ∧ z.1.toNat = findK line line.length 0) ⟨0, tk⟩ F3 N3 ?_ ?_ ?_ ?_ ?_
          · exact fun p hp => hp
          · k_extra "mine ps"
          · exact ⟨Int.le_refl _, by omega, rfl⟩
          · clear F3 N3
            rintro ⟨k, tkk⟩ u h9 tk9 ⟨hk0, hk1, hk2⟩ F N
            dsimp only at hk0 hk1 hk2 F N
            have e9 : ∃ n, line.length - k.toNat = n + 1 := ⟨line.length - k.toNat - 1, by omega⟩
            obtain ⟨n9, e9⟩ := e9
            rw [e9, findK] at hk2
            (try k_fold)
            k_steps
            · rename Fr _ _ _ _ => F4
              rename News _ _ _ _ => N4
              rename (wAt _ _ ≤ wAt _ _) => hle
              rw [show (k + 2).toNat = k.toNat + 2 by omega] at hle
              refine EndS.intro (k, tkk) F4 N4 ?_ (fun p hp => hp) ⟨hk0, hk1, ?_⟩
              · k_extra "mine ps"
              · rw [← hk2, if_neg (fun h => h.2 hle)]
            · rename Fr _ _ _ _ => F4
              rename News _ _ _ _ => N4
              rename (¬ wAt _ _ ≤ wAt _ _) => hle
              rw [show (k + 2).toNat = k.toNat + 2 by omega] at hle
              refine' WEnd.intro (k + 1, _) F4 N4 ?eps (fun p hp => hp) ?eP ?eM
              case eps => k_extra "mine ps"
              case eP =>
                refine ⟨by dsimp only; omega, by dsimp only; omega, ?_⟩
                dsimp only
                rw [← hk2, if_pos ⟨by omega, hle⟩, show line.length - (k + 1).toNat = n9 by omega, show (k + 1).toNat = k.toNat + 1 by omega]
              case eM => dsimp only; omega
            · refine EndS.intro (k, tkk) F N ?_ (fun p hp => hp) ⟨hk0, hk1, ?_⟩
              · k_extra "mine ps"
              · rw [← hk2, if_neg (fun h => by omega)]
          · clear F3 N3
            rintro ⟨k, tkk⟩ u h9 tk9 ⟨hk0, hk1, hk2⟩ F N
            dsimp only at hk0 hk1 hk2 F N
            (try k_fold)
            k_steps
            rename Fr _ _ _ _ => F3
            rename News _ _ _ _ => N3
            rename IntsAre _ (_ ++ _) => hIE
            rename _ ∧ _ ∧ AllLt _ fz => lE
            rename_i De usE _ _
            unfold Stop
            refine' forV (σ := List Value × List Int × Tok) (τ := List Value × List Int × Tok) (fun _ z => (De, listOf usE.toArray 0) :: (D', listOf z.1.toArray nd) :: (ln, listOf vs.toArray nl) :: fz)
              (fun _ z => [(Str.ofString "ends", .ref De), (Str.ofString "joint", .int (wAt line k.toNat + wAt line (k + 1).toNat) z.2.2), (Str.ofString "k", .int k tkk), (Str.ofString "depths", .ref D'), (Str.ofString "line", .ref ln)])
              (fun i z => IntsAre z.1 z.2.1 ∧ z.2.1.length = 6 ∧ z.2.1 = ((eAt line k.toNat ++ eAt line (k + 1).toNat).take i).foldl bump1 ds)
              (fun z => (De, listOf usE.toArray 0) :: (D', listOf z.1.toArray nd) :: (ln, listOf vs.toArray nl) :: fz)
              (fun z => [(Str.ofString "ends", .ref De), (Str.ofString "joint", .int (wAt line k.toNat + wAt line (k + 1).toNat) z.2.2), (Str.ofString "k", .int k tkk), (Str.ofString "depths", .ref D'), (Str.ofString "line", .ref ln)])
              (fun z => IntsAre z.1 z.2.1 ∧ z.2.1.length = 6 ∧ z.2.1 = (eAt line k.toNat ++ eAt line (k + 1).toNat).foldl bump1 ds)
              (us, ds, _) rfl (fun _ _ => .head _) F3 N3 (fun p hp => hp) ?fp ?fP ?ft ?fd ?fc
            case fp => k_extra "mine ps"
            case fP => exact ⟨hU, hO.len, rfl⟩
            case ft =>
              clear F3 N3
              rintro i ⟨usD, dsD, tJ⟩ v u h tk own hv ⟨q1, q2, q3⟩ hoff F N
              dsimp only at q1 q2 q3 hoff F N
              obtain ⟨t, rfl, hi⟩ := ints_at hIE hv
              have he := ends_bnd hO hi
              generalize hge : (eAt line k.toNat ++ eAt line (k + 1).toNat).getD i 0 = e9 at *
              simp only [List.cons_append] at N
              simp only [List.map_cons] at hoff
              (try k_fold)
              k_steps
              rename Fr _ _ _ _ => F4
              rename News _ _ _ _ => N4
              rename IntsAre (List.set _ _ _) _ => hi4
              refine' endL (_, _, tJ) F4 N4 ?gps ?gn ?go hoff ⟨hi4, ?_, ?_⟩
              case gps => k_extra "mine ps"
              case gn => k_extra "mine sub"
              case go => k_extra "mine own"
              · dsimp only; rw [List.length_set]; exact q2
              · dsimp only
                rw [List.take_succ_eq_append_getElem hi, List.foldl_append, ← q3]
                have e8 : (eAt line k.toNat ++ eAt line (k + 1).toNat)[i] = e9 := by
                  rw [← hge, List.getD_eq_getElem?_getD, List.getElem?_eq_getElem hi]; rfl
                rw [e8]; rfl
            case fd =>
              clear F3 N3
              rintro ⟨usD, dsD, tJ⟩ u h tk ⟨q1, q2, q3⟩ F N
              refine EndS.intro (usD, dsD, tJ) F N (by k_extra "mine ps") (fun p hp => hp) ⟨q1, q2, by rw [q3, hIE.length, List.take_length]⟩
            case fc =>
              clear F3 N3
              rintro ⟨usD, dsD, tJ⟩ u h tk ⟨q1, q2, q3⟩ F N
              dsimp only at q1 q2 q3 F N
              (try k_fold)
              k_steps
              rename Fr _ _ _ _ => F4
              rename News _ _ _ _ => N4
              rename _ ∧ _ ∧ _ ∧ _ ∧ _ ∧ AllLt _ fz => lLn
              rename_i Ln2 _ _ _ _
              have hL2 := (hL.take k.toNat).app (hL.drop (k + 2).toNat)
              have hlen2 : (line.take k.toNat ++ line.drop (k + 2).toNat).length + 2 = line.length := by
                rw [show (k + 2).toNat = k.toNat + 2 by omega]
                exact cut_len line (by omega)
              have hlv2 := hL2.len
              generalize hv2 : vs.take k.toNat ++ vs.drop (k + 2).toNat = vs2 at *
              generalize hl2 : line.take k.toNat ++ line.drop (k + 2).toNat = line2 at *
              unfold Stop
              generalize hjt : wAt line k.toNat + wAt line (k + 1).toNat = joint at *
              refine' whileE (σ := Int × Tok) (fun _ => (Ln2, listOf vs2.toArray 0) :: (De, listOf usE.toArray 0) :: (D', listOf usD.toArray nd) :: fz)
                (fun z => [(Str.ofString "k", .int z.1 z.2), (Str.ofString "ends", .ref De), (Str.ofString "joint", .int joint tJ), (Str.ofString "depths", .ref D'), (Str.ofString "line", .ref Ln2)])
                (fun z => 0 ≤ z.1 ∧ z.1 ≤ k ∧ backK line2 joint z.1.toNat = backK line2 joint k.toNat) (fun z => z.1.toNat)
                (fun z => 0 ≤ z.1 ∧ z.1 ≤ k ∧ z.1.toNat = backK line2 joint k.toNat) (k, tkk) F4 N4 ?wn ?wp ?wP ?wt ?wc
              case wn => k_extra "mine sub"
              case wp => k_extra "mine ps"
              case wP => exact ⟨hk0, Int.le_refl _, rfl⟩
              case wt =>
                clear F4 N4 F N
                rintro ⟨k', tk'⟩ u h tk ⟨w1, w2, w3⟩ F N
                dsimp only at w1 w2 w3 F N
                (try k_fold)
                k_steps
                · rename Fr _ _ _ _ => F4
                  rename News _ _ _ _ => N4
                  rename (wAt _ _ < _) => hle
                  obtain ⟨n9, e9⟩ : ∃ n, k'.toNat = n + 1 := ⟨k'.toNat - 1, by omega⟩
                  have e8 : (k' - 1).toNat = n9 := by omega
                  rw [e9, backK] at w3
                  rw [e8] at hle
                  rw [if_pos hle] at w3
                  refine' WEnd.intro (k' - 1, _) F4 N4 ?eps (fun p hp => hp) ?eP ?eM
                  case eps => k_extra "mine ps"
                  case eP =>
                    refine ⟨by dsimp only; omega, by dsimp only; omega, ?_⟩
                    dsimp only; rw [e8]; exact w3
                  case eM => dsimp only; omega
                · rename Fr _ _ _ _ => F4
                  rename News _ _ _ _ => N4
                  rename (¬ wAt _ _ < _) => hle
                  obtain ⟨n9, e9⟩ : ∃ n, k'.toNat = n + 1 := ⟨k'.toNat - 1, by omega⟩
                  have e8 : (k' - 1).toNat = n9 := by omega
                  have w4 := w3
                  rw [e9, backK] at w4
                  rw [e8] at hle
                  rw [if_neg hle] at w4
                  refine EndS.intro (k', tk') F4 N4 ?_ (fun p hp => hp) ⟨w1, w2, ?_⟩
                  · k_extra "mine ps"
                  · dsimp only; rw [e9]; exact w4
                · have e9 : k'.toNat = 0 := by omega
                  have w4 := w3
                  rw [e9, backK] at w4
                  refine EndS.intro (k', tk') F N ?_ (fun p hp => hp) ⟨w1, w2, ?_⟩
                  · k_extra "mine ps"
                  · dsimp only; rw [e9]; exact w4
              case wc =>
                clear F4 N4 F N
                rintro ⟨k', tk'⟩ u h tk ⟨w1, w2, w3⟩ F N
                dsimp only at w1 w2 w3 F N
                (try k_fold)
                k_steps
                rename Fr _ _ _ _ => F4
                rename News _ _ _ _ => N4
                rename _ ∧ _ ∧ _ ∧ _ ∧ _ ∧ _ ∧ _ ∧ _ ∧ AllLt _ fz => lL3
                rename_i tA _ lA _ _ _ _ _ _ _ _ _ Ln3 _ _
                subst hl2
                subst hv2
                subst hjt
                have hk' : (k + 1).toNat = k.toNat + 1 := by omega
                have hk'' : (k + 2).toNat = k.toNat + 2 := by omega
                simp only [hk', hk''] at hL2 hIE w3 q3 hlen2 F4 N4
                refine WEnd.intro ⟨Ln3, 0, (vs.take k.toNat ++ vs.drop (k.toNat + 2)).take k'.toNat ++ [.ref tA] ++ (vs.take k.toNat ++ vs.drop (k.toNat + 2)).drop k'.toNat, nd, usD, (tA, tupOf [Value.int (wAt line k.toNat + wAt line (k.toNat + 1)) tJ, .ref De]) :: (De, listOf usE.toArray 0) :: fz, dsD,
                  (line.take k.toNat ++ line.drop (k.toNat + 2)).take k'.toNat ++ [(wAt line k.toNat + wAt line (k.toNat + 1), eAt line k.toNat ++ eAt line (k.toNat + 1))] ++ (line.take k.toNat ++ line.drop (k.toNat + 2)).drop k'.toNat⟩ F4 N4 ?_ ?_ ⟨?_, q1, hO.step (by omega) _ _ q2, ?_, ?_, ?_⟩ ?_
                · k_extra "mine ps"
                · k_extra "mine sub"
                · have mo : ∀ q ∈ fz, q ∈ (tA, tupOf [Value.int (wAt line k.toNat + wAt line (k.toNat + 1)) tJ, .ref De]) :: (De, listOf usE.toArray 0) :: fz := fun q hq => .tail _ (.tail _ hq)
                  exact (((hL2.take k'.toNat).mono mo).app (.cons ⟨tA, tJ, De, usE, 0, rfl, .head _, .tail _ (.head _), hIE⟩ .nil)).app ((hL2.drop k'.toNat).mono mo)
                · intro p hp b hb
                  rw [List.mem_singleton.mp hb]
                  rcases List.mem_cons.mp hp with rfl | hp
                  · exact Nat.ne_of_gt lA.2.2.2.1
                  · rcases List.mem_cons.mp hp with rfl | hp
                    · exact Nat.ne_of_gt lE.1
                    · exact off p hp D' (List.mem_singleton.mpr rfl)
                · exact Nat.ne_of_gt lL3.2.2.2.2.2.2.2.1
                · have e5 := gw_step (line := line) (ds := ds) hk2 w3
                  dsimp only
                  have e6 : line.length - 1 = ((line.take k.toNat ++ line.drop (k.toNat + 2)).take k'.toNat ++ [(wAt line k.toNat + wAt line (k.toNat + 1), eAt line k.toNat ++ eAt line (k.toNat + 1))] ++ (line.take k.toNat ++ line.drop (k.toNat + 2)).drop k'.toNat).length - 1 + 1 := by
                    have e7 := step_len line (k := k.toNat) (by omega) k'.toNat (wAt line k.toNat + wAt line (k.toNat + 1), eAt line k.toNat ++ eAt line (k.toNat + 1))
                    omega
                  rw [q3, ← hg, e6, gwRun, e5]
                · dsimp only
                  exact Nat.lt_of_succ_le (Nat.le_of_eq (step_len line (by omega) k'.toNat _))
        · dsimp only
          obtain ⟨F5, N5, hne5⟩ := back _ _ _ F N
          refine leaveK_ F5 N5 fun F6 N6 => hret _ _ _ _ F6 N6 hne5 ⟨D', us, nd, rfl, .head _, ?_⟩
          have e1 : line.length - 1 = 0 := by omega
          rw [e1] at hg
          have e2 : ds = gw [a, b, c, d, e, f] := congrArg Prod.snd hg
          rw [← e2]; exact hU
end
/-! E0 -/
section
theorem lines10 : True := by
  k_with_none
  k_with "mine enter" => (
    refine' code_def (by k_asm) (by k_asm) (by k_asm) (by k_asm) (by k_asm) (by exact rfl) (by exact rfl) (by first | exact rfl | assumption) (by k_is) (by k_is) (by ktr_room) (by exact BindsTo.of_eq rfl) (by exact locs rfl) ?_ (by exact rfl) (by exact rfl) (by exact rfl) (by decide)
    k_whole
    intro _ _ _ _ _ _ _ _ _
    (try dsimp only)
    (try k_fold))
  k_with "mine ret0" => (refine' ret0 (by assumption) ?_ (by k_asm) (by first | k_asm | (refine cb_drop (by assumption) ?_; intro _ _; k_extra "mine sub1")))
  k_with "QEnd" => (dsimp only [QEnd])
  k_with "mine hasattr" => (
    refine' ha_line (by k_asm) (by k_asm) ?_
    intro _ _ _
    (try k_sweep))
  k_with "call builtin:hasattr" => (k_here; k_extra "mine hasattr")
  k_with "mine make" => (
    refine' call_cls (by k_asm) (by k_asm) (by k_asm) (by k_is) (by k_is) (by k_is) ?_
    k_whole
    intro _ _ _ _ _ kql kqm
    (try k_lt kql)
    (try k_lt2 kqm)
    (revert kql kqm; intro _ _)
    (try k_sweep)
    k_extra "mine enter")
  k_with "mine sub1" => (
    first
    | assumption
    | exact List.mem_append_left _ (by assumption)
    | exact List.mem_append_right _ (by assumption)
    | (refine List.Mem.tail _ ?_; k_extra "mine sub1")
    | (refine List.mem_append_left _ ?_; k_extra "mine sub1")
    | (refine List.mem_append_right _ ?_; k_extra "mine sub1"))
  k_with "mine sub" => (
    first
    | (refine sub_cons ?_ ?_; (focus (first | exact List.mem_cons.mpr (Or.inl (by rfl)) | k_memK | k_mem)); k_extra "mine sub")
    | exact List.forall_mem_nil _
    | (intro _ _; k_extra "mine sub1"))
  k_with "mine own" => (intro _ _; k_extra "mine sub1")
  k_with "mine ps" => (
    first
    | exact PsAre.nil
    | (refine PsAre.any (by with_unfolding_all rfl) ?_; k_extra "mine ps"))
  k_with "call type:tuple" => (
    k_here
    (with_reducible show wpAny _ _ (call (Value.type _) [Value.ref _]) _ _ _)
    k_dflt (refine' kde_tupleOf (by k_asm) (by k_asm) (by exact News.isList (by k_asm) (by k_mem)) (by (rw [List.size_toArray]; have hL9 := IntsAre.length (by assumption); omega)) (by exact rfl) ?_)
    intro _ _ _ _ kql
    (try k_lt kql)
    (revert kql; intro _)
    (try k_sweep))
  k_with "call ref" => (
    k_here
    (with_reducible show wpAny _ _ (call (Value.ref 42) [Value.int _ _, Value.int _ _]) _ _ _)
    k_dflt (refine' Con0.use (add_con _ _ _ _ _ _ _ _) (by k_asm) (by k_asm) (by k_asm) (by k_asm) (by k_asm) (by first | exact rfl | assumption) (by trivial) (by ktr_room) (by ktr_units) ?_)
    intro _ _ _ _ _
    (try k_sweep)
    (try dsimp only)
    (try k_fold))
  k_with "call ref" => (
    k_here
    (with_reducible show wpAny _ _ (call (Value.ref 56) [Value.int _ _, Value.int _ _]) _ _ _)
    k_dflt (refine' Con0.use (sub_con _ _ _ _ _ _ _ _) (by k_asm) (by k_asm) (by k_asm) (by k_asm) (by k_asm) (by first | exact rfl | assumption) (by trivial) (by ktr_room) (by ktr_units) ?_)
    intro _ _ _ _ _
    (try k_sweep)
    (try dsimp only)
    (try k_fold))
  k_with "call ref" => (
    k_here
    (with_reducible show wpAny _ _ (call (Value.ref 28) [Value.int _ _, Value.int _ _]) _ _ _)
    k_dflt (refine' Con0.use (lt_con _ _ _ _ _ _ _ _) (by k_asm) (by k_asm) (by k_asm) (by k_asm) (by k_asm) (by first | exact rfl | assumption) (by trivial) (by ktr_room) (by ktr_units) ?_)
    intro _ _ _ _ _
    (try k_sweep)
    (try dsimp only)
    (try k_fold))
  k_with "call ref" => (
    k_here
    (with_reducible show wpAny _ _ (call (Value.ref 35) [Value.int _ _, Value.int _ _]) _ _ _)
    k_dflt (refine' Con0.use (le_con _ _ _ _ _ _ _ _) (by k_asm) (by k_asm) (by k_asm) (by k_asm) (by k_asm) (by first | exact rfl | assumption) (by trivial) (by ktr_room) (by ktr_units) ?_)
    intro _ _ _ _ _
    (try k_sweep)
    (try dsimp only)
    (try k_fold))
  k_with "call ref" => (
    k_here
    (with_reducible show wpAny _ _ (call (Value.ref 49) [Value.str _ _, Value.int _ _]) _ _ _)
    k_dflt (refine' Con0.use (mul_con _ _ _ _ _ _ _ _) (by k_asm) (by k_asm) (by k_asm) (by k_asm) (by k_asm) (by first | exact rfl | assumption) (by k_extra "mine mulPre") (by ktr_room) (by ktr_units) ?_)
    intro _ _ _ _ _
    (try k_sweep)
    (try dsimp only)
    (try k_fold))
  k_with "call ref" => (
    k_here
    (with_reducible show wpAny _ _ (call (Value.ref 63) [Value.str _ _, Value.str _ _]) _ _ _)
    k_dflt (refine' Con0.use (concat_con _ _ _ _ _ _ _ _) (by k_asm) (by k_asm) (by k_asm) (by k_asm) (by k_asm) (by first | exact rfl | assumption) (by k_extra "mine catPre") (by ktr_room) (by ktr_units) ?_)
    intro _ _ _ _ _
    (try k_sweep)
    (try dsimp only)
    (try k_fold))
  k_with "mine mulPre" => (exact ⟨rfl, by omega, by omega⟩)
  k_with "mine catPre" => ((try simp only [codes_S, len_S, codes_tab, codes_nil, len_tab, len_nil, List.length_append, List.length_replicate, List.length_cons, List.length_nil]); omega)
  k_with "pyIter ref" => (k_here; refine stop ?_)
  k_with "exec While" => (k_here; refine stop ?_)
  k_with "mine enterC" => (
    refine' code_defC (by k_asm) (by k_asm) (by k_asm) (by k_asm) (by k_asm) (by exact rfl) (by exact rfl) (by first | exact rfl | assumption) (by k_is) (by k_is) (by ktr_room) (by exact BindsTo.of_eq rfl) (by exact rfl) (by decide +kernel) ?_ (by exact rfl) (by exact rfl) (by exact rfl)
    k_whole
    intro _ _ _ _ _ _ _ _ kqY _ _ _ kql
    (try k_lt kql)
    (revert kql; intro _)
    k_cells kqY
    (try (rename News _ _ _ _ => kqN; simp only [List.cons_append, List.nil_append] at kqN; revert kqN; intro _))
    (try dsimp only)
    (try k_fold))
  k_with "eval Name" => (k_here; (with_reducible show wpAny _ _ (eval (Expr.Name _ _) (envOfC _ _ _ _ _)) _ _ _); k_dflt (refine' bootName (by k_asm) (by k_asm) (by k_asm) (by rfl) (by rfl) (by k_is) (by first | boot_by_name | boot_fast | decide +kernel) (by decide) ?_; k_whole))
  k_with "exec Assign cons ListComp" => (
    k_here
    k_dflt (refine LCg.Assign_ListComp_U (F₀ := by k_asm) (by rfl) (by with_unfolding_all rfl) (by with_unfolding_all rfl) (by decide) (by rfl) (by decide) (by rfl) (by rfl) (by rfl) ?_))
  k_with "CompSrc" => (k_here; refine stop ?_)
  k_with "mine mem" => (first | assumption | (refine List.Mem.tail _ ?_; k_extra "mine mem"))
  k_with "eval Name" => (k_here; (with_reducible show wpAny _ _ (eval (Expr.Name _ _) (compEnvC _ _ _ _)) _ _ _); k_dflt (refine' kcf_cell (by k_asm) (by rfl) (by k_extra "mine mem") (by assumption) ?_; k_whole))
  k_with "eval Name" => (k_here; (with_reducible show wpAny _ _ (eval (Expr.Name _ _) (envOfC _ _ _ _ _)) _ _ _); k_dflt (refine' cellName (by rfl) (by rfl) (by k_asm) (by rfl) (by k_extra "mine mem") (by assumption) ?_; k_whole))
  k_with "mine short" => ((try simp only [List.length_append, List.length_take, List.length_drop, List.length_cons, List.length_nil]); omega)
  k_with "mine mem0" => (first | exact List.mem_cons.mpr (Or.inl (by rfl)) | assumption | (refine List.Mem.tail _ ?_; k_extra "mine mem0"))
  k_with "exec For" => (k_here; k_dflt ((rename Fr _ _ _ _ => kqF); (with_unfolding_all refine' For_invVF kqF (by exact rfl) (by exact rfl) ?_; k_whole)))
  k_with "mine memL" => (first | exact List.mem_cons.mpr (Or.inl (by rfl)) | (refine List.Mem.tail _ ?_; k_extra "mine memL"))
  k_with "WPost" => (dsimp only [WPost])
  k_with "exec For Name Call cons nil" => (k_here; k_dflt ((rename Fr _ _ _ _ => kqF); (with_unfolding_all refine' For_invTF kqF ?_ (by (intro _; exact rfl)); k_whole)))
  k_with "exec For" => (k_here; k_dflt ((rename Fr _ _ _ _ => kqF); (with_unfolding_all refine' For_invTF kqF ?_ (by (intro _; exact rfl)); k_whole)))
  k_with "TEnd" => (dsimp only [TEnd])
  trivial
/-! the table of least costs -/
def minL : List Int → Int
  | [] => 0
  | x :: r => r.foldl (fun m y => if y < m then y else m) x
def lcF (ws : List Int) : Nat → Nat → Nat → Int
  | 0, _, _ => 0
  | k + 1, n, i => if n ≤ 1 then 0 else minL ((List.range (n - 1)).map fun c => lcF ws k (c + 1) i + lcF ws k (n - 1 - c) (i + 1 + c)) + ((ws.drop i).take n).sum
def lc (ws : List Int) (n i : Nat) : Int := lcF ws n n i
theorem lcF_eq (ws : List Int) : ∀ k n i, n ≤ k → lcF ws k n i = lcF ws n n i := by
  intro k
  induction k using Nat.strongRecOn with
  | _ k ih =>
    intro n i hn
    cases k with
    | zero => obtain rfl : n = 0 := by omega
              rfl
    | succ k =>
      cases n with
      | zero => simp [lcF]
      | succ n =>
        simp only [lcF]
        split
        · rfl
        · congr 2
          apply List.map_congr_left
          intro c hc
          have hc := List.mem_range.mp hc
          rw [ih k (by omega) (c + 1) i (by omega), ih k (by omega) (n + 1 - 1 - c) _ (by omega), ih n (by omega) (c + 1) i (by omega), ih n (by omega) (n + 1 - 1 - c) _ (by omega)]
theorem lc_eq (ws : List Int) {n i : Nat} (h : 1 < n) : lc ws n i = minL ((List.range (n - 1)).map fun c => lc ws (c + 1) i + lc ws (n - 1 - c) (i + 1 + c)) + ((ws.drop i).take n).sum := by
  obtain ⟨m, rfl⟩ : ∃ m, n = m + 1 := ⟨n - 1, by omega⟩
  unfold lc
  rw [lcF, if_neg (by omega)]
  congr 2
  apply List.map_congr_left
  intro c hc
  have hc := List.mem_range.mp hc
  rw [lcF_eq ws m (c + 1) i (by omega), lcF_eq ws m (m + 1 - 1 - c) _ (by omega)]
theorem lc_one (ws : List Int) (i : Nat) : lc ws 1 i = 0 := by simp [lc, lcF]
def TabUp (ws : List Int) (kvs : List (Int × Value)) (s j : Nat) : Prop :=
  ∀ n i, 1 ≤ n → (n < s ∨ (n = s ∧ i < j)) → i + n ≤ 6 → ∃ t, valueAt kvs ((i * 7 + (i + n) : Nat) : Int) = some (.int (lc ws n i) t)
theorem valueAt_stored (kvs : List (Int × Value)) (k k' : Int) (v : Value) : valueAt (stored kvs k v) k' = if k' = k then some v else valueAt kvs k' := by
  unfold valueAt stored
  by_cases ha : kvs.any (fun kv => decide (kv.1 = k)) = true
  · rw [if_pos ha]
    induction kvs with
    | nil => simp at ha
    | cons p r ih =>
      simp only [List.map_cons]
      by_cases hp : p.1 = k
      · subst hp
        by_cases hk : k' = p.1
        · subst hk; simp
        · have h1 : ¬ p.1 = k' := fun e => hk e.symm
          simp only [if_true, if_neg hk, List.find?_cons, h1, decide_false]
          congr 1
          clear ih ha
          induction r with
          | nil => rfl
          | cons q r ih =>
            simp only [List.map_cons, List.find?_cons]
            by_cases hq : q.1 = p.1
            · have : ¬ q.1 = k' := fun e => hk (e.symm.trans hq)
              simp [hq, h1, ih]
            · by_cases hq2 : q.1 = k'
              · simp [hq, hq2, hk]
              · simp [hq, hq2, ih]
      · have ha' : r.any (fun kv => decide (kv.1 = k)) = true := by simpa [hp] using ha
        have ih := ih ha'
        by_cases hk : p.1 = k'
        · subst hk; simp [hp]
        · simp only [if_neg hp, List.find?_cons, hk, decide_false]
          exact ih
  · rw [if_neg ha]
    have ha' : ∀ p ∈ kvs, ¬ p.1 = k := fun p hp e => ha (List.any_eq_true.mpr ⟨p, hp, by simp [e]⟩)
    rw [List.find?_append]
    by_cases hk : k' = k
    · subst hk
      have : kvs.find? (fun kv => decide (kv.1 = k')) = none := List.find?_eq_none.mpr fun p hp => by simpa using ha' p hp
      simp [this]
    · have h1 : ¬ k = k' := fun e => hk e.symm
      simp [hk, h1]
theorem minL_eq {ns : List Int} {M : Int} (h : M ∈ ns) (h2 : ∀ a, a ∈ ns → M ≤ a) : M = minL ns := by
  have key : ∀ (r : List Int) (x : Int), (r.foldl (fun m y => if y < m then y else m) x = x ∨ r.foldl (fun m y => if y < m then y else m) x ∈ r) ∧ r.foldl (fun m y => if y < m then y else m) x ≤ x ∧ ∀ y ∈ r, r.foldl (fun m y => if y < m then y else m) x ≤ y := by
    intro r
    induction r with
    | nil => intro x; simp
    | cons z r ih =>
      intro x
      simp only [List.foldl_cons]
      obtain ⟨h1, h2, h3⟩ := ih (if z < x then z else x)
      refine ⟨?_, ?_, fun y hy => ?_⟩
      · rcases h1 with h1 | h1
        · rw [h1]; split
          · exact Or.inr (.head _)
          · exact Or.inl rfl
        · exact Or.inr (.tail _ h1)
      · refine Int.le_trans h2 ?_; split <;> omega
      · rcases List.mem_cons.mp hy with rfl | hy
        · refine Int.le_trans h2 ?_; split <;> omega
        · exact h3 y hy
  cases ns with
  | nil => cases h
  | cons x r =>
    obtain ⟨h3, h4, h5⟩ := key r x
    have e : minL (x :: r) = r.foldl (fun m y => if y < m then y else m) x := rfl
    rw [e]
    have hm : r.foldl (fun m y => if y < m then y else m) x ∈ x :: r := by
      rcases h3 with h3 | h3
      · rw [h3]; exact .head _
      · exact .tail _ h3
    have a1 := h2 _ hm
    rcases List.mem_cons.mp h with rfl | h
    · omega
    · have := h5 _ h; omega
theorem TabUp.look {ws : List Int} {kvs : List (Int × Value)} {s j : Nat} (h : TabUp ws kvs s j) (n i : Nat) (h1 : 1 ≤ n) (h2 : n < s) (h3 : i + n ≤ 6) {k : Int} (hk : k = ((i * 7 + (i + n) : Nat) : Int)) : ∃ t, valueAt kvs k = some (.int (lc ws n i) t) := by
  rw [hk]; exact h n i h1 (.inl h2) h3
theorem TabUp.put {ws : List Int} {kvs : List (Int × Value)} {s j : Nat} (h : TabUp ws kvs s j) (hs : 1 ≤ s) (hj : j + s ≤ 6) {k x : Int} {t : Tok} (hk : k = ((j * 7 + (j + s) : Nat) : Int)) (hx : x = lc ws s j) : TabUp ws (stored kvs k (.int x t)) s (j + 1) := by
  intro n i h1 h2 h3
  rw [valueAt_stored]
  by_cases e : ((i * 7 + (i + n) : Nat) : Int) = k
  · rw [if_pos e]
    have e2 : i * 7 + (i + n) = j * 7 + (j + s) := by omega
    have e3 : i = j := by omega
    subst e3
    have e4 : n = s := by omega
    subst e4
    exact ⟨t, by rw [hx]⟩
  · rw [if_neg e]
    refine h n i h1 ?_ h3
    rcases h2 with h2 | ⟨rfl, h2⟩
    · exact .inl h2
    · rcases Nat.lt_succ_iff_lt_or_eq.mp h2 with h2 | rfl
      · exact .inr ⟨rfl, h2⟩
      · exact absurd (by rw [hk]) e
theorem TabUp.next {ws : List Int} {kvs : List (Int × Value)} {s j : Nat} (h : TabUp ws kvs s j) (hj : 6 < j + s) : TabUp ws kvs (s + 1) 0 := by
  intro n i h1 h2 h3
  refine h n i h1 ?_ h3
  rcases h2 with h2 | ⟨_, h2⟩
  · rcases Nat.lt_succ_iff_lt_or_eq.mp h2 with h2 | rfl
    · exact .inl h2
    · exact .inr ⟨rfl, by omega⟩
  · cases h2
theorem lines11 : True := by
  k_with "subscriptTail" => (
    k_here
    (with_reducible show wpAny _ _ (subscriptTail _ _ (Value.ref _) (Value.int _ _)) _ _ _)
    k_dflt (refine' kda_item (knd := PySem.intKind _ _) (by k_asm) (by k_extra "mine memL") (by assumption) (intKind_is _ _ _ _) (by assumption) ?_ (by with_unfolding_all rfl) (by kmk_pure); k_whole))
  trivial
def cutL (ws : List Int) (n j x : Nat) : List Int := (List.range x).map fun z => lc ws (z + 1) j + lc ws (n - z) (j + 1 + z)
theorem cutL_succ (ws : List Int) (n j x : Nat) : cutL ws n j (x + 1) = cutL ws n j x ++ [lc ws (x + 1) j + lc ws (n - x) (j + 1 + x)] := by simp [cutL, List.range_succ]
theorem lc_cut (ws : List Int) {i : Nat} (j : Nat) (h : 0 < i) : lc ws (i + 1) j = minL (cutL ws i j i) + ((ws.drop j).take (i + 1)).sum := by
  rw [lc_eq ws (by omega)]; rfl
section lines
variable {prog : Program} {w : World} {A : Around} {E : Value → Shared → Prop} {s : Shared} {h₀ : Heap} {L : Addr} {m : Str → Option Value} {news : List (Addr × Obj)} {value slice : PySem.Expr}
theorem min_cuts {D : Addr} {ys : List Value} {ws : List Int} {n j x : Nat} {Q : Value → Shared → Prop} (F : Fr h₀ L s.heap m) (N : News h₀ L s.heap news) (hm : (D, LCg.lst ys) ∈ news) (hi : IntsAre ys (cutL ws n j x)) (hx : 0 < x) (hh : A.handled = none)
    (h : ∀ h' t tk, Fr h₀ L h' m → News h₀ L h' news → Q (.int (minL (cutL ws n j x)) t) { s with heap := h', toks := tk }) : wpAny (model prog w) A (call (.builtin "min") [.ref D]) Q E s := by
  have hl : s.heap.IsList D ys.toArray := ⟨_, (N _ hm).1, rfl, _, rfl⟩
  refine kso_min F N hl hi (by simpa [cutL] using hx) hh fun h' M t tk F' N' h1 h2 => ?_
  rw [minL_eq h1 h2]
  exact h h' t tk F' N'
theorem base_sub {l : Addr} {vs : List Value} {ns : List Int} {a b : Int} {t u : Tok} {Q : Value → Shared → Prop} (F : Fr h₀ L s.heap m) (N : News h₀ L s.heap news) (hl : h₀.IsList l vs.toArray) (hI : IntsAre vs ns) (ha : 0 ≤ a) (hb : a ≤ b) (hk : b ≤ (vs.length : Int)) (h6 : vs.length ≤ 100)
    (h : ∀ D us h', Fr h₀ L h' m → News h₀ L h' ((D, listOf (List.toArray us) 0) :: news) → (∀ p ∈ news, p.1 < D) → IntsAre us ((ns.drop a.toNat).take (b.toNat - a.toNat)) → Q (.ref D) { s with heap := h' })
    (hs : subscripted slice false (.ref l) (.ref s.heap.objs.size) = operate [.ref s.heap.objs.size, .ref l] (getItem (.ref l) (.ref s.heap.objs.size))) (ht : ∀ r, letTemporaryGo value (.ref l) r = pure ()) :
    wpAny (model prog w) A (subscriptTail value slice (.ref l) (.ref s.heap.objs.size)) Q E { s with heap := s.heap.push { cls := .type "slice", data := .fields #[.int a t, .int b u, .none] } } := by
  have hl' : s.heap.IsList l vs.toArray := by
    obtain ⟨o, e, c⟩ := hl
    exact ⟨o, F.keep _ _ e, c⟩
  refine kms_slice_lit (zs := (vs.drop a.toNat).take (b.toNat - a.toNat)) F N hl' (.int _ t) (.int _ u) ?_ (fun D h' F' N' l1 => h D _ h' F' N' l1 ((hI.drop _).take _)) hs ht ?_
  · simp only [kms_pick, kms_lo, kms_hi]
    rw [if_neg (by omega), if_neg (by omega)]
    rw [Nat.min_eq_left (by omega), Nat.min_eq_left (by omega)]
  · rw [List.size_toArray]
    exact Nat.le_trans h6 (Nat.le_of_ble_eq_true rfl)
theorem sum_led {D : Addr} {us : List Value} {ns : List Int} {c : Nat} {Q : Value → Shared → Prop} (F : Fr h₀ L s.heap m) (N : News h₀ L s.heap news) (hm : (D, listOf us.toArray c) ∈ news) (hi : IntsAre us ns) (hh : A.handled = none)
    (h : ∀ h' t tk, Fr h₀ L h' m → News h₀ L h' news → Q (.int ns.sum t) { s with heap := h', toks := tk }) : wpAny (model prog w) A (call (.builtin "sum") [.ref D]) Q E s :=
  sumK hh F N (News.isList N hm) hi fun h' tk t F' N' => h h' t tk F' N'
end lines
theorem lines12 : True := by
  k_with "call builtin:min" => (
    k_here
    (with_reducible show wpAny _ _ (call (Value.builtin "min") [Value.ref _]) _ _ _)
    k_dflt (refine' min_cuts (by k_asm) (by k_asm) (by k_extra "mine memL") (by assumption) (by omega) (by exact rfl) ?_)
    intro _ _ _ _ _
    (try k_sweep))
  k_with "call builtin:sum" => (
    k_here
    (with_reducible show wpAny _ _ (call (Value.builtin "sum") [Value.ref _]) _ _ _)
    k_dflt (refine' sum_led (by k_asm) (by k_asm) (by k_extra "mine memL") (by assumption) (by exact rfl) ?_)
    intro _ _ _ _ _
    (try k_sweep))
  k_with "subscriptTail Name Slice ref ref" => (
    k_here
    (with_reducible show wpAny _ _ (subscriptTail _ (PySem.Expr.Slice _ _ none _) (Value.ref _) (Value.ref _)) _ _ _)
    k_dflt (refine' base_sub (by k_asm) (by k_asm) (by assumption) (by assumption) (by omega) (by omega) (by (simp only [List.length_cons, List.length_nil]; omega)) (by (simp only [List.length_cons, List.length_nil]; omega)) ?_ (by with_unfolding_all rfl) (by kmk_pure))
    intro _ _ _ _ _ kql _
    (try k_lt kql)
    (revert kql; intro _)
    (try k_sweep))
  trivial
def UpT (d : Addr) (r : Obj → Obj → Led) : Prop := ∀ oa ob, ∀ p ∈ r oa ob, p.1 ≠ d
theorem lines13 : True := by
  k_with "mine upd" => (
    first
    | (refine' UpdF.head ?_; (rename UpT _ _ => kqU); exact kqU _ _)
    | (refine' UpdF.tail (by first | ((rename (_ ≠ _ ∧ _ ∧ _) => kqU); exact Ne.symm kqU.1) | ((rename (_ < _ ∧ _ < _ ∧ _) => kqU); exact Nat.ne_of_gt kqU.2.1)) (by k_extra "mine upd")))
  k_with "setItem ref int" => (
    k_here
    (with_reducible show wpAny _ _ (setItem (Value.ref _) (Value.int _ _) (Value.int _ _)) _ _ _)
    k_dflt (refine' kda_set (knd := PySem.intKind _ _) (by k_asm) (by k_asm) (by k_extra "mine upd") (by assumption) (intKind_is _ _ _ _) (by exact Nat.le_trans (by omega : _ ≤ 49) (Nat.le_of_ble_eq_true rfl)) ?_)
    intro _ _ _ _ _
    (try (rename News _ _ _ _ => kqN; dsimp only at kqN; revert kqN; intro _))
    (try k_sweep))
  trivial
structure TS where
  o : Obj
  kvs : List (Int × Value)
  o3 : Obj
  o2 : Obj
theorem least_con (w : World) (mean mg mb) (l : Addr) (n : Nat) (a b c d e f : Int) (t0 t1 t2 t3 t4 t5 : Tok) :
    Con w mean mg mb 3 156 [.ref l] (fun news => (l, listOf [.int a t0, .int b t1, .int c t2, .int d t3, .int e t4, .int f t5].toArray n) ∈ news)
      (fun tl r => ∃ t, r = .int (lc [a, b, c, d, e, f] 6 0) t) := by
  unfold Con
  k_fill
  intro dp un gd cn cs ad ccd cl outer A₀ base h₀ L m news s Q E B F X N T hk hP hd hu hret
  refine wpAny_call ?_
  w_on
  k_dflt (k_extra "mine enterC")
  rename_i gI LI hI tkI FG F1 B1 X1 T1 l1 o3 o2 o1 d3 d2 d1 N1
  obtain ⟨g₁, F2, N2, B2, X2, T2, hg, back⟩ := rebase (cells := [(LI + 1 + 1 + 1, o3), (LI + 1 + 1, o2), (LI + 1, o1)]) F1 N1 l1 (fun q hq => by
    simp only [List.mem_cons, List.not_mem_nil, or_false] at hq
    rcases hq with rfl | rfl | rfl
    · exact Nat.lt_add_of_pos_right (n := LI) (k := 3) (by decide)
    · exact Nat.lt_add_of_pos_right (n := LI) (k := 2) (by decide)
    · exact Nat.lt_add_of_pos_right (n := LI) (k := 1) (by decide)) B1 X1 T1
  clear F1 N1 B1 X1 T1
  have hl : g₁.IsList l [.int a t0, .int b t1, .int c t2, .int d t3, .int e t4, .int f t5].toArray := ⟨_, hg _ hP, rfl, n, rfl⟩
  have hI6 : IntsAre [.int a t0, .int b t1, .int c t2, .int d t3, .int e t4, .int f t5] [a, b, c, d, e, f] := .cons _ _ (.cons _ _ (.cons _ _ (.cons _ _ (.cons _ _ (.cons _ _ .nil)))))
  have hMk := kstMark
  k_steps
  rename IsRange _ _ _ _ _ _ _ _ => hR
  rename Fr _ _ _ _ => F3
  rename News _ _ _ _ => N3
  rename _ = Data.cell (some _) => d1'
  rename Obj.IsDictOf (PySem.intKind _ _) _ _ => hDi
  rename (_ == sysModules) = false => hMod
  rename _ ∧ _ ∧ _ => lD
  rename_i D' _ oD _ _ _ _ o1' _ _ _ _ _ _ _ _ _
  unfold Stop
  refine forRT (σ := TS) (n := 6) (fun _ z => [(D', z.o), (LI + 1 + 1 + 1, z.o3), (LI + 1 + 1, z.o2), (LI + 1, o1')]) (fun _ _ => [(Str.ofString "weights", .ref l)])
    (fun i z => z.o.IsDictOf (PySem.intKind PRG w) z.kvs ∧ z.kvs.length ≤ 7 * i ∧ (∃ v, z.o3.data = .cell v) ∧ (∃ v, z.o2.data = .cell v) ∧ TabUp [a, b, c, d, e, f] z.kvs (i + 1) 0)
    ⟨oD, [], o3, o2⟩ (fun _ _ => rfl) rfl hR (by decide) rfl F3 N3 (fun p hp => hp) ?fp ?fP ?ft ?fd
  case fp => k_extra "mine ps"
  case fP => exact ⟨hDi, Nat.zero_le _, ⟨_, d3⟩, ⟨_, d2⟩, fun n i h1 h2 => by omega⟩
  case ft =>
    clear F3 N3 hR
    rintro i ⟨oT, kvs, o3, o2⟩ t u s₁ own hi ⟨q1, q2, ⟨v3, q3⟩, ⟨v2, q4⟩, qT⟩ hoff F N
    dsimp only at q1 q2 q3 q4 qT hoff F N
    simp only [List.cons_append, List.nil_append] at N
    simp only [List.map_cons, List.map_nil] at hoff
    (try k_fold)
    k_steps
    rename IsRange _ _ _ _ _ _ _ _ => hR
    rename Fr _ _ _ _ => F3
    rename News _ _ _ _ => N3
    unfold Stop
    refine forRT (σ := TS) (n := (7 - (1 + (i : Int)) - 0).toNat) (fun _ z => (D', z.o) :: (LI + 1 + 1 + 1, z.o3) :: (LI + 1 + 1, z.o2) :: (LI + 1, o1') :: own) (fun _ _ => [(Str.ofString "weights", .ref l), (Str.ofString "size", .int (1 + (i : Int)) t)])
      (fun j z => z.o.IsDictOf (PySem.intKind PRG w) z.kvs ∧ z.kvs.length ≤ 7 * i + j ∧ (∃ v, z.o3.data = .cell v) ∧ (∃ v, z.o2.data = .cell v) ∧ TabUp [a, b, c, d, e, f] z.kvs (i + 1) j)
      ⟨oT, kvs, o3, o2⟩ (fun _ _ => rfl) rfl hR ?gsm ?gsz F3 N3 (fun p hp => hp) ?gp ?gP ?gt ?gd
    case gsm => exact small_one (by omega) (by omega) (by omega) (by omega)
    case gsz => exact rangeSize_nat _ _
    case gp => k_extra "mine ps"
    case gP => exact ⟨q1, by omega, ⟨_, q3⟩, ⟨_, q4⟩, qT⟩
    case gt =>
      clear F3 N3 hR
      rintro j ⟨oT, kvs, o3, o2⟩ tj u s₁ own2 hj ⟨q1, q2, ⟨v3, q3⟩, ⟨v2, q4⟩, qT⟩ hoff2 F N
      dsimp only at q1 q2 q3 q4 qT hoff2 F N
      simp only [List.cons_append, List.nil_append] at N
      simp only [List.map_cons, List.map_nil] at hoff2
      replace hj : i + j ≤ 5 := by omega
      (try k_fold)
      k_steps
      rename IsRange _ _ _ _ _ _ _ _ => hR
      rename Fr _ _ _ _ => F3
      rename News _ _ _ _ => N3
      unfold Stop
      refine LCg.CompSrc.range (n := i) (by rfl) F3 N3 hR ?cs ?cn ?cz ?cg
      case cs => exact small_one (by omega) (by omega) (by omega) (by omega)
      case cn => exact (rangeSize_nat _ _).trans (by omega)
      case cz => exact Nat.le_trans (by omega : i ≤ 6) (Nat.le_of_ble_eq_true rfl)
      case cg =>
        clear F3 N3 hR
        intro g9
        refine' rest_ind (fun x ys fz => fz = _ ∧ IntsAre ys (cutL [a, b, c, d, e, f] i j x)) ⟨rfl, .nil⟩ ?ct ?cf
        case ct =>
          rintro x ys fz v I oI C oC Dd m₂ h tk E' hx ⟨rfl, hys⟩ ⟨t9, rfl⟩ hC hx2 F N off ne
          obtain ⟨tl1, hv1⟩ := qT.look (x + 1) j (by omega) (by omega) (by omega) (k := (0 + (j : Int)) * 7 + (0 + (j : Int) + 1 + (x : Int))) (by omega)
          obtain ⟨tl2, hv2⟩ := qT.look (i - x) (j + 1 + x) (by omega) (by omega) (by omega) (k := (0 + (j : Int) + 1 + (x : Int)) * 7 + (0 + (j : Int) + (1 + (i : Int)))) (by omega)
          (try k_fold)
          k_steps
          rename Fr _ _ _ _ => F4
          rename News _ _ _ _ => N4
          (try k_unfold)
          refine LCg.CompEnd.intro F4 N4 _ (fun q hq => by simpa using hq) off trivial ⟨rfl, ?_⟩
          rw [cutL_succ]
          exact hys.append (.cons _ _ .nil)
        case cf =>
          rintro ys fz ⟨rfl, hys⟩
          (try k_fold)
          have hTl : UpT D' (fun oa ob => (LI + 1 + 1 + 1, oa) :: (LI + 1 + 1, ob) :: (LI + 1, o1') :: (own ++ own2)) := by
            intro oa ob
            refine allC (Nat.ne_of_lt lD.1) (allC (Nat.ne_of_lt lD.2.1) (allC (Nat.ne_of_lt lD.2.2) (fun p hp => ?_)))
            rcases List.mem_append.mp hp with hp | hp
            · exact hoff p hp D' (.head _)
            · exact hoff2 p hp D' (.head _)
          k_steps
          · rename Fr _ _ _ _ => F4
            rename News _ _ _ _ => N4
            rename (_ = Data.cell (some (Value.int (0 + (j : Int) + (1 + (i : Int))) _))) => dA
            rename (_ = Data.cell (some (Value.int (0 + (j : Int)) _))) => dB
            rename (Obj.IsDictOf _ _ (stored _ _ _)) => hd4
            refine' endL ⟨_, _, _, _⟩ F4 N4 ?gps ?gn ?go hoff2 ⟨hd4, Nat.le_trans (stored_length_le _ _ _) (by omega), ⟨_, dA⟩, ⟨_, dB⟩, qT.put (by omega) (by omega) (by omega) ?gx⟩
            case gps => k_extra "mine ps"
            case gn => k_extra "mine sub"
            case go => k_extra "mine own"
            case gx => 
              rw [lc_cut _ _ (by omega)]
              congr 2
              rw [show (0 + (j : Int)).toNat = j by omega, show (0 + (j : Int) + (1 + (i : Int))).toNat - j = i + 1 by omega]
          · rename Fr _ _ _ _ => F4
            rename News _ _ _ _ => N4
            rename (_ = Data.cell (some (Value.int (0 + (j : Int) + (1 + (i : Int))) _))) => dA
            rename (_ = Data.cell (some (Value.int (0 + (j : Int)) _))) => dB
            rename (Obj.IsDictOf _ _ (stored _ _ _)) => hd4
            refine' endL ⟨_, _, _, _⟩ F4 N4 ?gps ?gn ?go hoff2 ⟨hd4, Nat.le_trans (stored_length_le _ _ _) (by omega), ⟨_, dA⟩, ⟨_, dB⟩, qT.put (by omega) (by omega) (by omega) ?gx⟩
            case gps => k_extra "mine ps"
            case gn => k_extra "mine sub"
            case go => k_extra "mine own"
            case gx => 
              have e0 : i = 0 := by omega
              subst e0
              rw [lc_one]
    case gd =>
      clear F3 N3 hR
      rintro ⟨oT, kvs, o3, o2⟩ u h9 tk9 ⟨q1, q2, ⟨v3, q3⟩, ⟨v2, q4⟩, qT⟩ F N
      dsimp only at q1 q2 q3 q4 qT F N
      (try k_fold)
      k_steps
      refine' endL ⟨oT, kvs, o3, o2⟩ F N ?gps ?gn ?go hoff ⟨q1, by dsimp only; omega, ⟨_, q3⟩, ⟨_, q4⟩, qT.next (by omega)⟩
      case gps => k_extra "mine ps"
      case gn => k_extra "mine sub"
      case go => k_extra "mine own"
  case fd =>
    clear F3 N3 hR
    rintro ⟨oT, kvs, o3, o2⟩ u h9 tk9 ⟨q1, q2, ⟨v3, q3⟩, ⟨v2, q4⟩, qT⟩ F N
    dsimp only at q1 q2 q3 q4 qT F N
    obtain ⟨tl1, hv1⟩ := qT.look 6 0 (by omega) (by omega) (by omega) (k := 6) (by omega)
    (try k_fold)
    k_steps
    dsimp only
    obtain ⟨F5, N5, hne5⟩ := back _ _ _ F N
    refine leaveK_ F5 N5 fun F6 N6 => hret _ _ _ _ F6 N6 hne5 ⟨_, rfl⟩
end
/-! M0 -/
section
theorem lines14 : True := by
  k_with_none
  k_with "mine enter" => (
    refine' code_def (by k_asm) (by k_asm) (by k_asm) (by k_asm) (by k_asm) (by exact rfl) (by exact rfl) (by first | exact rfl | assumption) (by k_is) (by k_is) (by ktr_room) (by exact BindsTo.of_eq rfl) (by exact locs rfl) ?_ (by exact rfl) (by exact rfl) (by exact rfl) (by decide)
    k_whole
    intro _ _ _ _ _ _ _ _ _
    (try dsimp only)
    (try k_fold))
  k_with "mine ret0" => (refine' ret0 (by assumption) ?_ (by k_asm) (by first | k_asm | (refine cb_drop (by assumption) ?_; intro _ _; k_extra "mine sub1")))
  k_with "QEnd" => (dsimp only [QEnd])
  k_with "mine hasattr" => (
    refine' ha_line (by k_asm) (by k_asm) ?_
    intro _ _ _
    (try k_sweep))
  k_with "call builtin:hasattr" => (k_here; k_extra "mine hasattr")
  k_with "mine make" => (
    refine' call_cls (by k_asm) (by k_asm) (by k_asm) (by k_is) (by k_is) (by k_is) ?_
    k_whole
    intro _ _ _ _ _ kql kqm
    (try k_lt kql)
    (try k_lt2 kqm)
    (revert kql kqm; intro _ _)
    (try k_sweep)
    k_extra "mine enter")
  k_with "mine sub1" => (
    first
    | assumption
    | exact List.mem_append_left _ (by assumption)
    | exact List.mem_append_right _ (by assumption)
    | (refine List.Mem.tail _ ?_; k_extra "mine sub1")
    | (refine List.mem_append_left _ ?_; k_extra "mine sub1")
    | (refine List.mem_append_right _ ?_; k_extra "mine sub1"))
  k_with "mine sub" => (
    first
    | (refine sub_cons ?_ ?_; (focus (first | exact List.mem_cons.mpr (Or.inl (by rfl)) | k_memK | k_mem)); k_extra "mine sub")
    | exact List.forall_mem_nil _
    | (intro _ _; k_extra "mine sub1"))
  k_with "mine own" => (intro _ _; k_extra "mine sub1")
  k_with "mine ps" => (
    first
    | exact PsAre.nil
    | (refine PsAre.any (by with_unfolding_all rfl) ?_; k_extra "mine ps"))
  k_with "call type:tuple" => (
    k_here
    (with_reducible show wpAny _ _ (call (Value.type _) [Value.ref _]) _ _ _)
    k_dflt (refine' kde_tupleOf (by k_asm) (by k_asm) (by exact News.isList (by k_asm) (by k_mem)) (by (rw [List.size_toArray]; have hL9 := IntsAre.length (by assumption); omega)) (by exact rfl) ?_)
    intro _ _ _ _ kql
    (try k_lt kql)
    (revert kql; intro _)
    (try k_sweep))
  k_with "call ref" => (
    k_here
    (with_reducible show wpAny _ _ (call (Value.ref 42) [Value.int _ _, Value.int _ _]) _ _ _)
    k_dflt (refine' Con0.use (add_con _ _ _ _ _ _ _ _) (by k_asm) (by k_asm) (by k_asm) (by k_asm) (by k_asm) (by first | exact rfl | assumption) (by trivial) (by ktr_room) (by ktr_units) ?_)
    intro _ _ _ _ _
    (try k_sweep)
    (try dsimp only)
    (try k_fold))
  k_with "call ref" => (
    k_here
    (with_reducible show wpAny _ _ (call (Value.ref 56) [Value.int _ _, Value.int _ _]) _ _ _)
    k_dflt (refine' Con0.use (sub_con _ _ _ _ _ _ _ _) (by k_asm) (by k_asm) (by k_asm) (by k_asm) (by k_asm) (by first | exact rfl | assumption) (by trivial) (by ktr_room) (by ktr_units) ?_)
    intro _ _ _ _ _
    (try k_sweep)
    (try dsimp only)
    (try k_fold))
  k_with "call ref" => (
    k_here
    (with_reducible show wpAny _ _ (call (Value.ref 28) [Value.int _ _, Value.int _ _]) _ _ _)
    k_dflt (refine' Con0.use (lt_con _ _ _ _ _ _ _ _) (by k_asm) (by k_asm) (by k_asm) (by k_asm) (by k_asm) (by first | exact rfl | assumption) (by trivial) (by ktr_room) (by ktr_units) ?_)
    intro _ _ _ _ _
    (try k_sweep)
    (try dsimp only)
    (try k_fold))
  k_with "call ref" => (
    k_here
    (with_reducible show wpAny _ _ (call (Value.ref 35) [Value.int _ _, Value.int _ _]) _ _ _)
    k_dflt (refine' Con0.use (le_con _ _ _ _ _ _ _ _) (by k_asm) (by k_asm) (by k_asm) (by k_asm) (by k_asm) (by first | exact rfl | assumption) (by trivial) (by ktr_room) (by ktr_units) ?_)
    intro _ _ _ _ _
    (try k_sweep)
    (try dsimp only)
    (try k_fold))
  k_with "call ref" => (
    k_here
    (with_reducible show wpAny _ _ (call (Value.ref 49) [Value.str _ _, Value.int _ _]) _ _ _)
    k_dflt (refine' Con0.use (mul_con _ _ _ _ _ _ _ _) (by k_asm) (by k_asm) (by k_asm) (by k_asm) (by k_asm) (by first | exact rfl | assumption) (by k_extra "mine mulPre") (by ktr_room) (by ktr_units) ?_)
    intro _ _ _ _ _
    (try k_sweep)
    (try dsimp only)
    (try k_fold))
  k_with "call ref" => (
    k_here
    (with_reducible show wpAny _ _ (call (Value.ref 63) [Value.str _ _, Value.str _ _]) _ _ _)
    k_dflt (refine' Con0.use (concat_con _ _ _ _ _ _ _ _) (by k_asm) (by k_asm) (by k_asm) (by k_asm) (by k_asm) (by first | exact rfl | assumption) (by k_extra "mine catPre") (by ktr_room) (by ktr_units) ?_)
    intro _ _ _ _ _
    (try k_sweep)
    (try dsimp only)
    (try k_fold))
  k_with "mine mulPre" => (exact ⟨rfl, by omega, by omega⟩)
  k_with "mine catPre" => ((try simp only [codes_S, len_S, codes_tab, codes_nil, len_tab, len_nil, List.length_append, List.length_replicate, List.length_cons, List.length_nil]); omega)
  k_with "pyIter ref" => (k_here; refine stop ?_)
  k_with "exec While" => (k_here; refine stop ?_)
  k_with "mine enterC" => (
    refine' code_defC (by k_asm) (by k_asm) (by k_asm) (by k_asm) (by k_asm) (by exact rfl) (by exact rfl) (by first | exact rfl | assumption) (by k_is) (by k_is) (by ktr_room) (by exact BindsTo.of_eq rfl) (by exact rfl) (by decide +kernel) ?_ (by exact rfl) (by exact rfl) (by exact rfl)
    k_whole
    intro _ _ _ _ _ _ _ _ kqY _ _ _ kql
    (try k_lt kql)
    (revert kql; intro _)
    k_cells kqY
    (try (rename News _ _ _ _ => kqN; simp only [List.cons_append, List.nil_append] at kqN; revert kqN; intro _))
    (try dsimp only)
    (try k_fold))
  k_with "eval Name" => (k_here; (with_reducible show wpAny _ _ (eval (Expr.Name _ _) (envOfC _ _ _ _ _)) _ _ _); k_dflt (refine' bootName (by k_asm) (by k_asm) (by k_asm) (by rfl) (by rfl) (by k_is) (by first | boot_by_name | boot_fast | decide +kernel) (by decide) ?_; k_whole))
  k_with "exec Assign cons ListComp" => (
    k_here
    k_dflt (refine LCg.Assign_ListComp_U (F₀ := by k_asm) (by rfl) (by with_unfolding_all rfl) (by with_unfolding_all rfl) (by decide) (by rfl) (by decide) (by rfl) (by rfl) (by rfl) ?_))
  k_with "CompSrc" => (k_here; refine stop ?_)
  k_with "mine mem" => (first | assumption | (refine List.Mem.tail _ ?_; k_extra "mine mem"))
  k_with "eval Name" => (k_here; (with_reducible show wpAny _ _ (eval (Expr.Name _ _) (compEnvC _ _ _ _)) _ _ _); k_dflt (refine' kcf_cell (by k_asm) (by rfl) (by k_extra "mine mem") (by assumption) ?_; k_whole))
  k_with "eval Name" => (k_here; (with_reducible show wpAny _ _ (eval (Expr.Name _ _) (envOfC _ _ _ _ _)) _ _ _); k_dflt (refine' cellName (by rfl) (by rfl) (by k_asm) (by rfl) (by k_extra "mine mem") (by assumption) ?_; k_whole))
  k_with "mine short" => ((try simp only [List.length_append, List.length_take, List.length_drop, List.length_cons, List.length_nil]); omega)
  k_with "mine mem0" => (first | exact List.mem_cons.mpr (Or.inl (by rfl)) | assumption | (refine List.Mem.tail _ ?_; k_extra "mine mem0"))
  k_with "exec For" => (k_here; k_dflt ((rename Fr _ _ _ _ => kqF); (with_unfolding_all refine' For_invVF kqF (by exact rfl) (by exact rfl) ?_; k_whole)))
  k_with "mine memL" => (first | exact List.mem_cons.mpr (Or.inl (by rfl)) | (refine List.Mem.tail _ ?_; k_extra "mine memL"))
  k_with "WPost" => (dsimp only [WPost])
  trivial
/-! the leads: what the scan of runs tells -/
def sumN (rs : List Int) : Int := (rs.map (· + 1)).sum
structure ScIs (st : Sc) (rs : List Int) (tl : Int) : Prop where
  n : st.n = sumN rs + tl
  nt : st.nt = rs.length
  b : st.b = tl
  len : ∀ j : Nat, j < st.count.length ↔ ∃ r ∈ rs, j ≤ r.toNat
  cnt : ∀ i : Nat, st.count.getD i 0 = ((rs.map Int.toNat).count i : Int)
theorem sumN_app (a b : List Int) : sumN (a ++ b) = sumN a + sumN b := by simp [sumN]
theorem sumN_perm {a b : List Int} (p : a.Perm b) : sumN a + 0 = sumN b + 0 := by
  induction p with
  | nil => rfl
  | cons x _ ih => simp only [sumN, List.map_cons, List.sum_cons] at ih ⊢; omega
  | swap x y l => simp only [sumN, List.map_cons, List.sum_cons]; omega
  | trans _ _ h1 h2 => exact h1.trans h2
theorem ScIs.perm {st : Sc} {rs rs' : List Int} {tl : Int} (h : ScIs st rs tl) (p : rs.Perm rs') : ScIs st rs' tl := by
  refine ⟨?_, ?_, h.b, fun j => ?_, fun i => ?_⟩
  · rw [h.n]; have := sumN_perm p; omega
  · rw [h.nt, p.length_eq]
  · rw [h.len]
    exact ⟨fun ⟨r, a, b⟩ => ⟨r, p.mem_iff.mp a, b⟩, fun ⟨r, a, b⟩ => ⟨r, p.mem_iff.mpr a, b⟩⟩
  · rw [h.cnt, (p.map Int.toNat).count_eq]
theorem scan_blanks (c : List Nat) : ∀ (k : Nat) (st : Sc), scan (List.replicate k 32 ++ c) st = scan c ⟨st.n + k, st.nt, st.b + k, st.count⟩
  | 0, st => by simp
  | k + 1, st => by
    rw [List.replicate_succ, List.cons_append, scan, if_pos rfl, scan_blanks c k]
    simp only [Sc.blank]
    congr 2 <;> omega
theorem grow_getD (l : List Int) (b : Int) (i : Nat) : (grow l b).getD i 0 = l.getD i 0 := by
  unfold grow
  split
  · simp only [List.getD_eq_getElem?_getD]
    by_cases h : i < l.length
    · rw [List.getElem?_append_left h]
    · rw [List.getElem?_append_right (by omega), List.getElem?_eq_none (show l.length ≤ i by omega)]
      rw [List.getElem?_replicate]
      split <;> rfl
  · rfl
theorem grow_len (l : List Int) {b : Int} (h : 0 ≤ b) (j : Nat) : j < (grow l b).length ↔ j < l.length ∨ j ≤ b.toNat := by
  unfold grow
  split
  · rw [List.length_append, List.length_replicate]; omega
  · omega
theorem ScIs.step {st : Sc} {rs : List Int} (h : ScIs st rs 0) {r : Int} (hr : 0 ≤ r) : ScIs (Sc.tab ⟨st.n + r, st.nt, st.b + r, st.count⟩) (rs ++ [r]) 0 := by
  have hb : st.b + r = r := by rw [h.b]; omega
  refine ⟨?_, ?_, rfl, fun j => ?_, fun i => ?_⟩
  · simp only [Sc.tab]; rw [h.n, sumN_app]; simp [sumN]; omega
  · simp only [Sc.tab]; rw [h.nt, List.length_append]; simp
  · simp only [Sc.tab, hb, bump, List.length_set]
    rw [grow_len _ hr, h.len]
    constructor
    · rintro (⟨x, hx, hj⟩ | hj)
      · exact ⟨x, List.mem_append_left _ hx, hj⟩
      · exact ⟨r, List.mem_append_right _ (.head _), hj⟩
    · rintro ⟨x, hx, hj⟩
      rcases List.mem_append.mp hx with hx | hx
      · exact .inl ⟨x, hx, hj⟩
      · rw [List.mem_singleton.mp hx] at hj; exact .inr hj
  · simp only [Sc.tab, hb, bump, List.map_append, List.count_append]
    have hlt : r.toNat < (grow st.count r).length := (grow_len _ hr _).mpr (.inr (Nat.le_refl _))
    rw [grow_getD, h.cnt]
    by_cases hi : i = r.toNat
    · subst hi
      rw [List.getD_eq_getElem?_getD, List.getElem?_set_self hlt]
      simp
    · rw [List.getD_eq_getElem?_getD, List.getElem?_set_ne (fun e => hi e.symm), ← List.getD_eq_getElem?_getD, grow_getD, h.cnt]
      have : List.count i [r.toNat] = 0 := List.count_eq_zero.mpr (fun hm => hi (List.mem_singleton.mp hm))
      simp [this]
theorem scan_lead (c : List Nat) : ∀ (rs rs0 : List Int) (st : Sc), ScIs st rs0 0 → (∀ r ∈ rs, 0 ≤ r) → ∃ st', ScIs st' (rs0 ++ rs) 0 ∧ scan (leadC rs ++ c) st = scan c st'
  | [], rs0, st, h, _ => ⟨st, by rw [List.append_nil]; exact h, rfl⟩
  | r :: rs, rs0, st, h, hr => by
    have hr0 : 0 ≤ r := hr r (.head _)
    have h1 := h.step hr0
    obtain ⟨st', a, b⟩ := scan_lead c rs (rs0 ++ [r]) _ h1 fun x hx => hr x (.tail _ hx)
    refine ⟨st', by simpa using a, ?_⟩
    rw [← b]
    show scan ((List.replicate r.toNat 32 ++ [9]) ++ leadC rs ++ c) st = _
    rw [List.append_assoc, List.append_assoc, scan_blanks, List.singleton_append, scan, if_neg (by decide), if_pos rfl, Int.toNat_of_nonneg hr0]
theorem ScIs0 : ScIs sc0 [] 0 := ⟨rfl, rfl, rfl, fun j => by simp, fun i => by simp⟩
/-- the scan stops behind the lead -/
def Stops (c : List Nat) : Prop := ∀ st, scan c st = st
theorem stops_nil : Stops [] := fun _ => rfl
theorem stops_cons {x : Nat} {r : List Nat} (h : x ≠ 32) (h' : x ≠ 9) : Stops (x :: r) := fun st => by rw [scan, if_neg h, if_neg h']
theorem scan_all {rs : List Int} (hr : ∀ r ∈ rs, 0 ≤ r) (k : Nat) {c : List Nat} (hc : Stops c) : ScIs (scan (leadC rs ++ (List.replicate k 32 ++ c)) sc0) rs k := by
  obtain ⟨st', a, b⟩ := scan_lead (List.replicate k 32 ++ c) rs [] sc0 ScIs0 hr
  rw [b, scan_blanks, hc]
  rw [List.nil_append] at a
  refine ⟨?_, a.nt, ?_, a.len, a.cnt⟩
  · dsimp only; rw [a.n]; omega
  · dsimp only; rw [a.b]; omega
structure RsOk (rs : List Int) : Prop where
  len : rs.length ≤ 6
  bnd : ∀ r ∈ rs, 0 ≤ r ∧ r ≤ 7
theorem sumN_bnd : ∀ {rs : List Int}, (∀ r ∈ rs, 0 ≤ r ∧ r ≤ 7) → 0 ≤ sumN rs ∧ sumN rs ≤ 8 * rs.length
  | [], _ => by simp [sumN]
  | r :: rs, h => by
    have h1 := h r (.head _)
    have h2 := sumN_bnd (rs := rs) fun x hx => h x (.tail _ hx)
    simp only [sumN, List.map_cons, List.sum_cons, List.length_cons] at h2 ⊢
    omega
theorem RsOk.sum {rs : List Int} (h : RsOk rs) : 0 ≤ sumN rs ∧ sumN rs ≤ 8 * rs.length := sumN_bnd h.bnd
theorem ScIs.len8 {st : Sc} {rs : List Int} {tl : Int} (h : ScIs st rs tl) (ok : RsOk rs) : st.count.length ≤ 8 := by
  rcases Nat.lt_or_ge 8 st.count.length with h8 | h8
  · obtain ⟨r, hr, h9⟩ := (h.len 8).mp h8
    have := ok.bnd r hr
    omega
  · exact h8
theorem ScIs.ok {st : Sc} {rs : List Int} {tl : Int} (h : ScIs st rs tl) (ok : RsOk rs) (h0 : 0 ≤ tl) (h1 : tl ≤ 100) : ScOk st := by
  have hs := ok.sum
  have hl := ok.len
  have h8 := h.len8 ok
  refine ⟨by rw [h.b]; exact h0, by rw [h.b]; omega, by rw [h.n]; omega, by rw [h.n]; omega, by rw [h.nt]; omega, by rw [h.nt]; omega, by omega, fun c hc => ?_⟩
  obtain ⟨i, hi, rfl⟩ := List.getElem_of_mem hc
  have e : st.count[i] = st.count.getD i 0 := by rw [List.getD_eq_getElem?_getD, List.getElem?_eq_getElem hi]; rfl
  rw [e, h.cnt]
  have := List.count_le_length (a := i) (l := rs.map Int.toNat)
  rw [List.length_map] at this
  omega
/-- how far a lead reaches, with tabs as wide as ts -/
def colF (ts : Int) (rs : List Int) : Int := (rs.map fun r => r / ts + 1).sum
def il8 (ts : Int) (c : Nat → Int) : Int := ((List.range 8).map fun (i : Nat) => (i : Int) / ts * c i).sum
theorem fdiv_pos (a : Int) {b : Int} (h : 1 ≤ b) : a.fdiv b = a / b := Int.fdiv_eq_ediv_of_nonneg _ (by omega)
theorem sum_snoc (F : Nat → Int) (n : Nat) : ((List.range (n + 1)).map F).sum = ((List.range n).map F).sum + F n := by rw [List.range_succ, List.map_append, List.sum_append, List.map_cons, List.map_nil, List.sum_cons, List.sum_nil, Int.add_zero]
theorem sum_none {F : Nat → Int} : ∀ {n : Nat}, (∀ i, i < n → F i = 0) → ((List.range n).map F).sum = 0
  | 0, _ => rfl
  | n + 1, h => by rw [sum_snoc, sum_none fun i hi => h i (Nat.lt_succ_of_lt hi), h n (Nat.lt_succ_self n)]; rfl
theorem sum_late {F : Nat → Int} {a : Nat} (h : ∀ i, i < a → F i = 0) : ∀ n : Nat, ((List.range (a + n)).map F).sum = ((List.range n).map fun j => F (a + j)).sum
  | 0 => sum_none h
  | n + 1 => by rw [← Nat.add_assoc, sum_snoc, sum_late h n, sum_snoc fun j => F (a + j)]
theorem sum_early {F : Nat → Int} {l : Nat} (h : ∀ i, l ≤ i → F i = 0) : ∀ n : Nat, ((List.range (l + n)).map F).sum = ((List.range l).map F).sum
  | 0 => rfl
  | n + 1 => by rw [← Nat.add_assoc, sum_snoc, sum_early h n, h _ (Nat.le_add_right l n), Int.add_zero]
theorem il8_eq {ts : Int} (hts : 1 ≤ ts) (count : List Int) (hl : count.length ≤ 8) : ilSum ts count (rangeKs ts ((count.length : Int) - ts).toNat) = il8 ts fun i => count.getD i 0 := by
  obtain ⟨a, rfl⟩ : ∃ a : Nat, ts = (a : Int) := ⟨ts.toNat, (Int.toNat_of_nonneg (Int.le_trans (by decide) hts)).symm⟩
  have hlo : ∀ i : Nat, i < a → (i : Int) / (a : Int) * count.getD i 0 = 0 := fun i hi => by
    rw [Int.ediv_eq_zero_of_lt (Int.natCast_nonneg i) (Int.ofNat_lt.mpr hi), Int.zero_mul]
  have hhi : ∀ i : Nat, count.length ≤ i → (i : Int) / (a : Int) * count.getD i 0 = 0 := fun i hi => by
    rw [List.getD_eq_getElem?_getD, List.getElem?_eq_none hi, Option.getD_none, Int.mul_zero]
  have e8 : il8 a (fun i => count.getD i 0) = ((List.range count.length).map fun (i : Nat) => (i : Int) / (a : Int) * count.getD i 0).sum := by
    have := sum_early hhi (8 - count.length)
    rwa [Nat.add_sub_cancel' hl] at this
  rw [e8]
  rcases Nat.le_total a count.length with h | h
  · have h2 := sum_late hlo (count.length - a)
    rw [Nat.add_sub_cancel' h] at h2
    rw [h2, ← Int.ofNat_sub h, Int.toNat_natCast]
    unfold ilSum rangeKs
    rw [List.map_map]
    congr 1
    apply List.map_congr_left
    intro j _
    show Int.fdiv ((a : Int) + (j : Int)) a * count.getD ((a : Int) + (j : Int)).toNat 0 = _
    rw [fdiv_pos _ hts, ← Int.natCast_add, Int.toNat_natCast]
  · rw [sum_none fun i hi => hlo i (Nat.lt_of_lt_of_le hi h), Int.toNat_of_nonpos (Int.sub_nonpos_of_le (Int.ofNat_le.mpr h))]
    rfl
theorem sum_plus (F G : Nat → Int) : ∀ n : Nat, ((List.range n).map fun i => F i + G i).sum = ((List.range n).map F).sum + ((List.range n).map G).sum
  | 0 => rfl
  | n + 1 => by rw [sum_snoc, sum_plus F G n, sum_snoc, sum_snoc, Int.add_assoc, Int.add_left_comm _ (F n), ← Int.add_assoc]
theorem sum_only {F : Nat → Int} {k : Nat} : ∀ {n : Nat}, k < n → (∀ i, i ≠ k → F i = 0) → ((List.range n).map F).sum = F k
  | n + 1, hk, h => by
    rw [sum_snoc]
    by_cases e : k = n
    · subst e
      rw [sum_none fun i hi => h i (Nat.ne_of_lt hi), Int.zero_add]
    · rw [sum_only (Nat.lt_of_le_of_ne (Nat.le_of_lt_succ hk) e) h, h n (Ne.symm e), Int.add_zero]
theorem il8_count {ts : Int} (hts : 1 ≤ ts) : ∀ {rs : List Int}, (∀ r ∈ rs, 0 ≤ r ∧ r ≤ 7) → il8 ts (fun i => ((rs.map Int.toNat).count i : Int)) + rs.length = colF ts rs
  | [], _ => by
    have e : il8 ts (fun i => ((([] : List Int).map Int.toNat).count i : Int)) = 0 := sum_none fun i _ => Int.mul_zero _
    rw [e]
    rfl
  | r :: rs, h => by
    have ih := il8_count hts (rs := rs) fun x hx => h x (.tail _ hx)
    obtain ⟨k, rfl⟩ : ∃ k : Nat, r = (k : Int) := ⟨r.toNat, (Int.toNat_of_nonneg (h r (.head _)).1).symm⟩
    have hk : k < 8 := Nat.lt_succ_of_le (Int.ofNat_le.mp (h _ (.head _)).2)
    have e : il8 ts (fun i => ((((k : Int) :: rs).map Int.toNat).count i : Int)) = il8 ts (fun i => ((rs.map Int.toNat).count i : Int)) + (k : Int) / ts := by
      have e1 := sum_plus (fun (i : Nat) => (i : Int) / ts * ((rs.map Int.toNat).count i : Int)) (fun i => if i = k then (k : Int) / ts else 0) 8
      rw [sum_only (F := fun i => if i = k then (k : Int) / ts else 0) hk fun i hi => if_neg hi, if_pos rfl] at e1
      unfold il8
      rw [← e1]
      congr 1
      apply List.map_congr_left
      intro i _
      show (i : Int) / ts * ((((k : Int) :: rs).map Int.toNat).count i : Int) = _
      rw [List.map_cons, List.count_cons, Int.toNat_natCast]
      by_cases hi : i = k
      · subst hi
        rw [if_pos (beq_self_eq_true i), if_pos rfl, Int.natCast_add, Int.mul_add]
        exact congrArg _ (Int.mul_one _)
      · rw [if_neg (fun q => hi (beq_iff_eq.mp q).symm), if_neg hi, Nat.add_zero, Int.add_zero]
    rw [e]
    unfold colF at ih ⊢
    rw [List.map_cons, List.sum_cons, ← ih, List.length_cons, Int.natCast_add, Int.add_comm (_ + _) _, Int.add_assoc, Int.add_assoc, Int.add_comm _ (_ + _)]
    simp only [Int.add_comm, Int.add_left_comm]
    rfl
theorem indent_is {st : Sc} {rs : List Int} {tl ts : Int} (h : ScIs st rs tl) (ok : RsOk rs) (hts : 1 ≤ ts) : indentF st ts = tl + ts * colF ts rs := by
  unfold indentF
  rw [il8_eq hts _ (h.len8 ok), h.b, h.nt]
  have e : (fun i => st.count.getD i 0) = fun i => ((rs.map Int.toNat).count i : Int) := funext h.cnt
  rw [e, il8_count hts ok.bnd]
theorem colF_big {ts : Int} : ∀ {rs : List Int}, (∀ r ∈ rs, 0 ≤ r ∧ r < ts) → colF ts rs = rs.length
  | [], _ => rfl
  | r :: rs, h => by
    have hr := h r (.head _)
    have h1 := colF_big (rs := rs) fun x hx => h x (.tail _ hx)
    simp only [colF, List.map_cons, List.sum_cons, List.length_cons] at h1 ⊢
    rw [h1, Int.ediv_eq_zero_of_lt hr.1 hr.2]
    omega
theorem colF_app (ts : Int) (a b : List Int) : colF ts (a ++ b) = colF ts a + colF ts b := by simp [colF]
theorem colF_pos {ts : Int} (hts : 1 ≤ ts) : ∀ {rs : List Int}, (∀ r ∈ rs, 0 ≤ r) → (rs.length : Int) ≤ colF ts rs
  | [], _ => by simp [colF]
  | r :: rs, h => by
    have h1 := colF_pos hts (rs := rs) fun x hx => h x (.tail _ hx)
    have h2 : 0 ≤ r / ts := Int.ediv_nonneg (h r (.head _)) (by omega)
    simp only [colF, List.map_cons, List.sum_cons, List.length_cons] at h1 ⊢
    omega
/-! two leads: of the same runs, the first so many of them -/
theorem less_is {st st' : Sc} {rs rs' : List Int} {tl tl' : Int} (h : ScIs st rs tl) (h' : ScIs st' rs' tl') (ok : RsOk rs) (ok' : RsOk rs') :
    lessF st st' = true ↔ sumN rs + tl < sumN rs' + tl' ∧
      (if (st.count.length : Int) ≤ 1 ∧ (st'.count.length : Int) ≤ 1 then (rs.length : Int) ≤ rs'.length
       else ∀ ts : Int, 2 ≤ ts → ts < (if longestF st' > longestF st then longestF st' else longestF st) + 1 + 1 → tl + ts * colF ts rs < tl' + ts * colF ts rs') := by
  unfold lessF
  rw [h.n, h'.n]
  by_cases h1 : sumN rs + tl ≥ sumN rs' + tl'
  · rw [if_pos h1]
    constructor
    · intro e; cases e
    · rintro ⟨e, _⟩; omega
  · rw [if_neg h1]
    have h2 : sumN rs + tl < sumN rs' + tl' := by omega
    simp only [h2, true_and]
    split
    · rw [decide_eq_true_eq, h.nt, h'.nt]
    · rw [List.all_eq_true]
      constructor
      · intro H ts a b
        have := H ts (List.mem_map.mpr ⟨(ts - 2).toNat, List.mem_range.mpr (by omega), by omega⟩)
        rw [decide_eq_true_eq, indent_is h ok (by omega), indent_is h' ok' (by omega)] at this
        exact this
      · intro H ts hts
        obtain ⟨i, hi, rfl⟩ := List.mem_map.mp hts
        have hi := List.mem_range.mp hi
        rw [decide_eq_true_eq, indent_is h ok (by omega), indent_is h' ok' (by omega)]
        exact H _ (by omega) (by omega)
theorem take_split (rs : List Int) {m d : Nat} (h : m ≤ d) : rs.take d = rs.take m ++ (rs.take d).drop m := by
  have : rs.take m = (rs.take d).take m := by rw [List.take_take, Nat.min_eq_left h]
  rw [this, List.take_append_drop]
theorem RsOk.take {rs : List Int} (h : RsOk rs) (d : Nat) : RsOk (rs.take d) := ⟨by rw [List.length_take]; have := h.len; omega, fun r hr => h.bnd r (List.mem_of_mem_take hr)⟩
theorem less_take {st st' : Sc} {rs : List Int} {tl : Int} {m d : Nat} (ok : RsOk rs) (hm : m ≤ rs.length) (hd : d ≤ rs.length) (h : ScIs st (rs.take m) tl) (h' : ScIs st' (rs.take d) tl) :
    lessF st st' = decide (m < d) := by
  rw [Bool.eq_iff_iff, less_is h h' (ok.take m) (ok.take d), decide_eq_true_eq]
  have lm : (rs.take m).length = m := by rw [List.length_take]; omega
  have ld : (rs.take d).length = d := by rw [List.length_take]; omega
  constructor
  · rintro ⟨h1, _⟩
    rcases Nat.lt_or_ge m d with h2 | h2
    · exact h2
    · rw [take_split rs h2, sumN_app] at h1
      have h3 := (sumN_bnd (rs := (rs.take m).drop d) fun r hr => (ok.take m).bnd r (List.mem_of_mem_drop hr)).1
      omega
  · intro hlt
    have hsp := take_split rs (Nat.le_of_lt hlt)
    have hb : ∀ r ∈ (rs.take d).drop m, 0 ≤ r ∧ r ≤ 7 := fun r hr => (ok.take d).bnd r (List.mem_of_mem_drop hr)
    have hl : ((rs.take d).drop m).length = d - m := by rw [List.length_drop, ld]
    obtain ⟨x, xs, hx⟩ : ∃ x xs, (rs.take d).drop m = x :: xs := by
      cases e : (rs.take d).drop m with
      | nil => rw [e] at hl; simp at hl; omega
      | cons x xs => exact ⟨x, xs, rfl⟩
    have hs : 0 < sumN ((rs.take d).drop m) := by
      rw [hx] at hb ⊢
      have h4 := (sumN_bnd (rs := xs) fun r hr => hb r (.tail _ hr)).1
      have h5 := hb x (.head _)
      simp only [sumN, List.map_cons, List.sum_cons] at h4 ⊢
      omega
    refine ⟨by rw [hsp, sumN_app]; omega, ?_⟩
    split
    · rw [lm, ld]; omega
    · intro ts a _
      have hc := colF_pos (ts := ts) (by omega) (rs := (rs.take d).drop m) fun r hr => (hb r hr).1
      rw [hsp, colF_app, Int.mul_add]
      have h6 : 1 ≤ colF ts ((rs.take d).drop m) := by rw [hl] at hc; omega
      have h7 : ts * 1 ≤ ts * colF ts ((rs.take d).drop m) := Int.mul_le_mul_of_nonneg_left h6 (by omega)
      omega
theorem count_eq_of {st st' : Sc} {rs rs' : List Int} {tl tl' : Int} (h : ScIs st rs tl) (h' : ScIs st' rs' tl') (p : rs.Perm rs') : st.count = st'.count := by
  have h := h.perm p
  have hl : st.count.length = st'.count.length := by
    have e : ∀ j : Nat, j < st.count.length ↔ j < st'.count.length := fun j => (h.len j).trans (h'.len j).symm
    have e1 := e st.count.length
    have e2 := e st'.count.length
    omega
  refine List.ext_getElem hl fun i h1 h2 => ?_
  have e1 : st.count[i] = st.count.getD i 0 := by rw [List.getD_eq_getElem?_getD, List.getElem?_eq_getElem h1]; rfl
  have e2 : st'.count[i] = st'.count.getD i 0 := by rw [List.getD_eq_getElem?_getD, List.getElem?_eq_getElem h2]; rfl
  rw [e1, e2, h.cnt, h'.cnt]
theorem count_ne_of {st st' : Sc} {rs rs' : List Int} {tl tl' : Int} (h : ScIs st rs tl) (h' : ScIs st' rs' tl') (e : st.count = st'.count) (i : Nat) : (rs.map Int.toNat).count i = (rs'.map Int.toNat).count i := by
  have e1 := h.cnt i
  have e2 := h'.cnt i
  rw [e] at e1
  omega
theorem equal_take {st st' : Sc} {rs : List Int} {tl : Int} {m d : Nat} (hm : m ≤ rs.length) (hd : d ≤ rs.length) (h : ScIs st (rs.take m) tl) (h' : ScIs st' (rs.take d) tl) :
    (st.count = st'.count ∧ st.b = st'.b) ↔ m = d := by
  constructor
  · rintro ⟨e, _⟩
    have key : ∀ {m d : Nat}, m < d → d ≤ rs.length → (∀ i, ((rs.take m).map Int.toNat).count i = ((rs.take d).map Int.toNat).count i) → False := by
      intro m d hlt hd H
      have hsp := take_split rs (Nat.le_of_lt hlt)
      have hl : ((rs.take d).drop m).length = d - m := by rw [List.length_drop, List.length_take]; omega
      obtain ⟨x, xs, hx⟩ : ∃ x xs, (rs.take d).drop m = x :: xs := by
        cases e : (rs.take d).drop m with
        | nil => rw [e] at hl; simp at hl; omega
        | cons x xs => exact ⟨x, xs, rfl⟩
      have h1 := H x.toNat
      rw [hsp, hx, List.map_append, List.count_append, List.map_cons, List.count_cons_self] at h1
      omega
    have H := count_ne_of h h' e
    rcases Nat.lt_trichotomy m d with h1 | h1 | h1
    · exact (key h1 hd H).elim
    · exact h1
    · exact (key h1 hm fun i => (H i).symm).elim
  · rintro rfl
    exact ⟨count_eq_of h h' (.refl _), by rw [h.b, h'.b]⟩
theorem less_tab {st st' : Sc} {rs : List Int} (ok : RsOk rs) (h5 : rs.length ≤ 5) (h : ScIs st (rs ++ [0]) 0) (h' : ScIs st' rs 2) : lessF st st' = false := by
  have ok1 : RsOk (rs ++ [0]) := ⟨by rw [List.length_append]; simp; omega, fun r hr => by
    rcases List.mem_append.mp hr with hr | hr
    · exact ok.bnd r hr
    · rw [List.mem_singleton.mp hr]; omega⟩
  rw [Bool.eq_false_iff, Ne, less_is h h' ok1 ok]
  rintro ⟨_, H⟩
  split at H
  · rw [List.length_append] at H; simp at H; omega
  · have hb := h'.b
    have hl : 2 ≤ longestF st' := by unfold longestF; split <;> omega
    have := H 2 (by omega) (by split <;> omega)
    rw [colF_app] at this
    simp only [colF, List.map_cons, List.map_nil, List.sum_cons, List.sum_nil] at this
    omega
theorem less_blank {st st' : Sc} {rs : List Int} (ok : RsOk rs) (h : ScIs st rs 0) (h' : ScIs st' rs 1) : lessF st st' = true := by
  rw [less_is h h' ok ok]
  refine ⟨by omega, ?_⟩
  split
  · exact Int.le_refl _
  · intro ts _ _; omega
theorem equal_ends {st st' : Sc} {a b c d e : Int} (ha : 0 ≤ a) (he : 0 ≤ e) (h : ScIs st [a + 1, b, c, d, e] 0) (h' : ScIs st' [a, b, c, d, e + 1] 0) : (st.count = st'.count ∧ st.b = st'.b) ↔ a = e := by
  constructor
  · rintro ⟨e1, _⟩
    have H := count_ne_of h h' e1 (a + 1).toNat
    simp only [List.map_cons, List.map_nil, List.count_cons, List.count_nil, beq_iff_eq] at H
    by_cases hae : a = e
    · exact hae
    · exfalso
      have n1 : ¬ a.toNat = (a + 1).toNat := by omega
      have n2 : ¬ (e + 1).toNat = (a + 1).toNat := by omega
      simp only [n1, n2, if_true, if_false] at H
      omega
  · rintro rfl
    refine ⟨count_eq_of h h' ?_, by rw [h.b, h'.b]⟩
    have p1 : [a + 1, b, c, d, a].Perm (a :: [a + 1, b, c, d]) := List.perm_append_comm (l₁ := [a + 1, b, c, d]) (l₂ := [a])
    have p2 : [a, b, c, d, a + 1].Perm (a :: [a + 1, b, c, d]) := List.Perm.cons a (List.perm_append_comm (l₁ := [b, c, d]) (l₂ := [a + 1]))
    exact p1.trans p2.symm
/-! the pile, top first: told by depths -/
def red : List Nat → Nat → Option (List Nat)
  | [], d => some [d]
  | m :: r, d => if m < d then some (d :: m :: r) else if m = d ∧ 0 < d then red r (d - 1) else none
def redM (ds : List Nat) : Option (List Nat) := ds.foldl (fun o d => o.bind fun p => red p d) (some [])
theorem redM_snoc (ds : List Nat) (d : Nat) : redM (ds ++ [d]) = (redM ds).bind fun p => red p d := by simp [redM]
/-- all outlines with so many ends, as their ends' depths -/
def trees : Nat → List (List Nat)
  | 0 => []
  | 1 => [[0]]
  | 2 => [[1, 1]]
  | 3 => [[1, 2, 2], [2, 2, 1]]
  | 4 => [[1, 2, 3, 3], [1, 3, 3, 2], [2, 2, 2, 2], [2, 3, 3, 1], [3, 3, 2, 1]]
  | _ => []
end
/-! T0 -/
section
theorem lines15 : True := by
  k_with_none
  k_with "mine enter" => (
    refine' code_def (by k_asm) (by k_asm) (by k_asm) (by k_asm) (by k_asm) (by exact rfl) (by exact rfl) (by first | exact rfl | assumption) (by k_is) (by k_is) (by ktr_room) (by exact BindsTo.of_eq rfl) (by exact locs rfl) ?_ (by exact rfl) (by exact rfl) (by exact rfl) (by decide)
    k_whole
    intro _ _ _ _ _ _ _ _ _
    (try dsimp only)
    (try k_fold))
  k_with "mine ret0" => (refine' ret0 (by assumption) ?_ (by k_asm) (by first | k_asm | (refine cb_drop (by assumption) ?_; intro _ _; k_extra "mine sub1")))
  k_with "QEnd" => (dsimp only [QEnd])
  k_with "mine hasattr" => (
    refine' ha_line (by k_asm) (by k_asm) ?_
    intro _ _ _
    (try k_sweep))
  k_with "call builtin:hasattr" => (k_here; k_extra "mine hasattr")
  k_with "mine make" => (
    refine' call_cls (by k_asm) (by k_asm) (by k_asm) (by k_is) (by k_is) (by k_is) ?_
    k_whole
    intro _ _ _ _ _ kql kqm
    (try k_lt kql)
    (try k_lt2 kqm)
    (revert kql kqm; intro _ _)
    (try k_sweep)
    k_extra "mine enter")
  k_with "mine sub1" => (
    first
    | assumption
    | exact List.mem_append_left _ (by assumption)
    | exact List.mem_append_right _ (by assumption)
    | (refine List.Mem.tail _ ?_; k_extra "mine sub1")
    | (refine List.mem_append_left _ ?_; k_extra "mine sub1")
    | (refine List.mem_append_right _ ?_; k_extra "mine sub1"))
  k_with "mine sub" => (
    first
    | (refine sub_cons ?_ ?_; (focus (first | exact List.mem_cons.mpr (Or.inl (by rfl)) | k_memK | k_mem)); k_extra "mine sub")
    | exact List.forall_mem_nil _
    | (intro _ _; k_extra "mine sub1"))
  k_with "mine own" => (intro _ _; k_extra "mine sub1")
  k_with "mine ps" => (
    first
    | exact PsAre.nil
    | (refine PsAre.any (by with_unfolding_all rfl) ?_; k_extra "mine ps"))
  k_with "call type:tuple" => (
    k_here
    (with_reducible show wpAny _ _ (call (Value.type _) [Value.ref _]) _ _ _)
    k_dflt (refine' kde_tupleOf (by k_asm) (by k_asm) (by exact News.isList (by k_asm) (by k_mem)) (by (rw [List.size_toArray]; have hL9 := IntsAre.length (by assumption); omega)) (by exact rfl) ?_)
    intro _ _ _ _ kql
    (try k_lt kql)
    (revert kql; intro _)
    (try k_sweep))
  k_with "call ref" => (
    k_here
    (with_reducible show wpAny _ _ (call (Value.ref 42) [Value.int _ _, Value.int _ _]) _ _ _)
    k_dflt (refine' Con0.use (add_con _ _ _ _ _ _ _ _) (by k_asm) (by k_asm) (by k_asm) (by k_asm) (by k_asm) (by first | exact rfl | assumption) (by trivial) (by ktr_room) (by ktr_units) ?_)
    intro _ _ _ _ _
    (try k_sweep)
    (try dsimp only)
    (try k_fold))
  k_with "call ref" => (
    k_here
    (with_reducible show wpAny _ _ (call (Value.ref 56) [Value.int _ _, Value.int _ _]) _ _ _)
    k_dflt (refine' Con0.use (sub_con _ _ _ _ _ _ _ _) (by k_asm) (by k_asm) (by k_asm) (by k_asm) (by k_asm) (by first | exact rfl | assumption) (by trivial) (by ktr_room) (by ktr_units) ?_)
    intro _ _ _ _ _
    (try k_sweep)
    (try dsimp only)
    (try k_fold))
  k_with "call ref" => (
    k_here
    (with_reducible show wpAny _ _ (call (Value.ref 28) [Value.int _ _, Value.int _ _]) _ _ _)
    k_dflt (refine' Con0.use (lt_con _ _ _ _ _ _ _ _) (by k_asm) (by k_asm) (by k_asm) (by k_asm) (by k_asm) (by first | exact rfl | assumption) (by trivial) (by ktr_room) (by ktr_units) ?_)
    intro _ _ _ _ _
    (try k_sweep)
    (try dsimp only)
    (try k_fold))
  k_with "call ref" => (
    k_here
    (with_reducible show wpAny _ _ (call (Value.ref 35) [Value.int _ _, Value.int _ _]) _ _ _)
    k_dflt (refine' Con0.use (le_con _ _ _ _ _ _ _ _) (by k_asm) (by k_asm) (by k_asm) (by k_asm) (by k_asm) (by first | exact rfl | assumption) (by trivial) (by ktr_room) (by ktr_units) ?_)
    intro _ _ _ _ _
    (try k_sweep)
    (try dsimp only)
    (try k_fold))
  k_with "call ref" => (
    k_here
    (with_reducible show wpAny _ _ (call (Value.ref 49) [Value.str _ _, Value.int _ _]) _ _ _)
    k_dflt (refine' Con0.use (mul_con _ _ _ _ _ _ _ _) (by k_asm) (by k_asm) (by k_asm) (by k_asm) (by k_asm) (by first | exact rfl | assumption) (by k_extra "mine mulPre") (by ktr_room) (by ktr_units) ?_)
    intro _ _ _ _ _
    (try k_sweep)
    (try dsimp only)
    (try k_fold))
  k_with "call ref" => (
    k_here
    (with_reducible show wpAny _ _ (call (Value.ref 63) [Value.str _ _, Value.str _ _]) _ _ _)
    k_dflt (refine' Con0.use (concat_con _ _ _ _ _ _ _ _) (by k_asm) (by k_asm) (by k_asm) (by k_asm) (by k_asm) (by first | exact rfl | assumption) (by k_extra "mine catPre") (by ktr_room) (by ktr_units) ?_)
    intro _ _ _ _ _
    (try k_sweep)
    (try dsimp only)
    (try k_fold))
  k_with "mine mulPre" => (exact ⟨rfl, by omega, by omega⟩)
  k_with "mine catPre" => ((try simp only [codes_S, len_S, codes_tab, codes_nil, len_tab, len_nil, List.length_append, List.length_replicate, List.length_cons, List.length_nil]); omega)
  k_with "pyIter ref" => (k_here; refine stop ?_)
  k_with "exec While" => (k_here; refine stop ?_)
  k_with "mine enterC" => (
    refine' code_defC (by k_asm) (by k_asm) (by k_asm) (by k_asm) (by k_asm) (by exact rfl) (by exact rfl) (by first | exact rfl | assumption) (by k_is) (by k_is) (by ktr_room) (by exact BindsTo.of_eq rfl) (by exact rfl) (by decide +kernel) ?_ (by exact rfl) (by exact rfl) (by exact rfl)
    k_whole
    intro _ _ _ _ _ _ _ _ kqY _ _ _ kql
    (try k_lt kql)
    (revert kql; intro _)
    k_cells kqY
    (try (rename News _ _ _ _ => kqN; simp only [List.cons_append, List.nil_append] at kqN; revert kqN; intro _))
    (try dsimp only)
    (try k_fold))
  k_with "eval Name" => (k_here; (with_reducible show wpAny _ _ (eval (Expr.Name _ _) (envOfC _ _ _ _ _)) _ _ _); k_dflt (refine' bootName (by k_asm) (by k_asm) (by k_asm) (by rfl) (by rfl) (by k_is) (by first | boot_by_name | boot_fast | decide +kernel) (by decide) ?_; k_whole))
  k_with "exec Assign cons ListComp" => (
    k_here
    k_dflt (refine LCg.Assign_ListComp_U (F₀ := by k_asm) (by rfl) (by with_unfolding_all rfl) (by with_unfolding_all rfl) (by decide) (by rfl) (by decide) (by rfl) (by rfl) (by rfl) ?_))
  k_with "CompSrc" => (k_here; refine stop ?_)
  k_with "mine mem" => (first | assumption | (refine List.Mem.tail _ ?_; k_extra "mine mem"))
  k_with "eval Name" => (k_here; (with_reducible show wpAny _ _ (eval (Expr.Name _ _) (compEnvC _ _ _ _)) _ _ _); k_dflt (refine' kcf_cell (by k_asm) (by rfl) (by k_extra "mine mem") (by assumption) ?_; k_whole))
  k_with "eval Name" => (k_here; (with_reducible show wpAny _ _ (eval (Expr.Name _ _) (envOfC _ _ _ _ _)) _ _ _); k_dflt (refine' cellName (by rfl) (by rfl) (by k_asm) (by rfl) (by k_extra "mine mem") (by assumption) ?_; k_whole))
  k_with "mine short" => ((try simp only [List.length_append, List.length_take, List.length_drop, List.length_cons, List.length_nil]); omega)
  k_with "mine mem0" => (first | exact List.mem_cons.mpr (Or.inl (by rfl)) | assumption | (refine List.Mem.tail _ ?_; k_extra "mine mem0"))
  k_with "exec For" => (k_here; k_dflt ((rename Fr _ _ _ _ => kqF); (with_unfolding_all refine' For_invVF kqF (by exact rfl) (by exact rfl) ?_; k_whole)))
  k_with "mine memL" => (first | exact List.mem_cons.mpr (Or.inl (by rfl)) | (refine List.Mem.tail _ ?_; k_extra "mine memL"))
  k_with "WPost" => (dsimp only [WPost])
  trivial
def opsT : Str := Str.ofString "( ) [ ] : , ; + - * / | & < > = . % { } == != <= >= ~ ^ << >> ** += -= *= /= %= &= |= ^= <<= >>= **= // //= @ @= -> ... := !"
def opsL : List Str := Txt.split opsT (Str.ofString " ")
def opsC : List Str := [Str.ofString "(", Str.ofString ")", Str.ofString "[", Str.ofString "]", Str.ofString ":", Str.ofString ",", Str.ofString ";", Str.ofString "+", Str.ofString "-", Str.ofString "*", Str.ofString "/", Str.ofString "|", Str.ofString "&", Str.ofString "<", Str.ofString ">", Str.ofString "=", Str.ofString ".", Str.ofString "%", Str.ofString "{", Str.ofString "}", Str.ofString "==", Str.ofString "!=", Str.ofString "<=", Str.ofString ">=", Str.ofString "~", Str.ofString "^", Str.ofString "<<", Str.ofString ">>", Str.ofString "**", Str.ofString "+=", Str.ofString "-=", Str.ofString "*=", Str.ofString "/=", Str.ofString "%=", Str.ofString "&=", Str.ofString "|=", Str.ofString "^=", Str.ofString "<<=", Str.ofString ">>=", Str.ofString "**=", Str.ofString "//", Str.ofString "//=", Str.ofString "@", Str.ofString "@=", Str.ofString "->", Str.ofString "...", Str.ofString ":=", Str.ofString "!"]
theorem opsL_eq : opsL = opsC := by decide +kernel
def isIntV (v : Option (Option Value)) (n : Int) : Bool := match v with
  | some (some (.int m _)) => m == n
  | _ => false
theorem isIntV_eq {v : Option (Option Value)} {n : Int} (h : isIntV v n = true) : ∃ t, v = some (some (.int n t)) := by
  unfold isIntV at h
  split at h
  · exact ⟨_, by rw [eq_of_beq h]⟩
  · cases h
theorem tab_all (P : Params) : ((List.range 48).all fun p => isIntV (nsIn (hd.heap_1 P) 130 (opsC.getD p default)) (7 + (p : Int))) = true := by
  with_unfolding_all rfl
theorem tab_at (P : Params) {p : Int} (h0 : 0 ≤ p) (h1 : p < 48) : ∃ t, nsIn (hd.heap_1 P) 130 (opsL.getD p.toNat default) = some (some (.int (7 + p) t)) := by
  have h := List.all_eq_true.mp (tab_all P) p.toNat (List.mem_range.mpr (by omega))
  rw [opsL_eq]
  rw [Int.toNat_of_nonneg h0] at h
  exact isIntV_eq h
theorem opsL_len : opsL.length = 48 := by rw [opsL_eq]; rfl
section lines
variable {w : World} {prog : Program} {A : Around} {E : Value → Shared → Prop} {s : Shared} {h₀ : Heap} {L : Addr} {m : Str → Option Value} {news : List (Addr × Obj)} {value slice : PySem.Expr}
theorem ops_item {a : Addr} {l : List (Str × Tok)} {p : Int} {u : Tok} {Q : Value → Shared → Prop} (N : News h₀ L s.heap news) (hm : (a, listOf (strValues l).toArray 0) ∈ news) (hO : l.map (·.1) = opsL)
    (h0 : 0 ≤ p) (h1 : p < 48) (h : ∀ t', Q (.str (opsL.getD p.toNat default) t') s)
    (hs : subscripted slice false (.ref a) (.int p u) = operate [.ref a, .int p u] (getItem (.ref a) (.int p u))) :
    wpAny (model prog w) A (subscriptTail value slice (.ref a) (.int p u)) Q E s := by
  have hl : l.length = 48 := by rw [← List.length_map (f := fun x : Str × Tok => x.1), hO, opsL_len]
  refine item_strsT (News.isList N hm) h0 (by omega) (by omega) (fun y t' hy => ?_) hs
  rw [hO] at hy
  have e : opsL.getD p.toNat default = y := by rw [List.getD_eq_getElem?_getD, hy]; rfl
  rw [← e]; exact h t'
theorem tab_item {y : Str} {t : Tok} {p : Int} {Q : Value → Shared → Prop} (F : Fr h₀ L s.heap m) (X : Frag.In (hd.heap_1 w.params) h₀) (h0 : 0 ≤ p) (h1 : p < 48) (hy : y = opsL.getD p.toNat default)
    (h : ∀ t, Q (.int (7 + p) t) { s with toks := s.toks + 1 })
    (hs : subscripted slice false (.ref 130) (.str y t) = operate [.ref 130, .str y t] (getItem (.ref 130) (.str y t))) :
    wpAny (model prog w) A (subscriptTail value slice (.ref 130) (.str y t)) Q E s := by
  subst hy
  obtain ⟨t', e⟩ := tab_at w.params h0 h1
  exact topItem_K F X (by with_unfolding_all rfl) (by k_keys) e (h t') hs
end lines
end
/-! G0 -/
section
/-! the outline's plain laws: Garsia and Wachs, for six -/
def lin : List Int → List Int → Int
  | d :: D, x :: X => d * x + lin D X
  | _, _ => 0
theorem lin_nilR (D : List Int) : lin D [] = 0 := by cases D <;> rfl
theorem lin_append : ∀ {D X : List Int} (E Y : List Int), D.length = X.length → lin (D ++ E) (X ++ Y) = lin D X + lin E Y
  | [], [], E, Y, _ => by simp [lin]
  | d :: D, x :: X, E, Y, h => by
    simp only [List.cons_append, lin]
    rw [lin_append (D := D) (X := X) E Y (by simpa using h)]
    omega
  | [], _ :: _, _, _, h => by simp at h
  | _ :: _, [], _, _, h => by simp at h
theorem lin_up : ∀ {D X : List Int}, D.length = X.length → lin (D.map (· + 1)) X = lin D X + X.sum
  | [], [], _ => rfl
  | d :: D, x :: X, h => by
    simp only [List.map_cons, lin, List.sum_cons]
    rw [lin_up (D := D) (X := X) (by simpa using h), Int.add_mul]
    omega
  | [], _ :: _, h => by simp at h
  | _ :: _, [], h => by simp at h
/-! all trees' depths, by the number of ends -/
def trF : Nat → Nat → List (List Int)
  | 0, _ => []
  | k + 1, n => if n ≤ 1 then [[0]] else (List.range (n - 1)).flatMap fun c => (trF k (c + 1)).flatMap fun L => (trF k (n - 1 - c)).map fun R => (L ++ R).map (· + 1)
theorem minL_le {ns : List Int} : ∀ a ∈ ns, minL ns ≤ a := by
  have key : ∀ (r : List Int) (x : Int), r.foldl (fun m y => if y < m then y else m) x ≤ x ∧ ∀ y ∈ r, r.foldl (fun m y => if y < m then y else m) x ≤ y := by
    intro r
    induction r with
    | nil => intro x; simp
    | cons z r ih =>
      intro x
      simp only [List.foldl_cons]
      obtain ⟨h2, h3⟩ := ih (if z < x then z else x)
      refine ⟨?_, fun y hy => ?_⟩
      · by_cases hz : z < x
        · rw [if_pos hz] at h2 ⊢; omega
        · rw [if_neg hz] at h2 ⊢; omega
      · rcases List.mem_cons.mp hy with rfl | hy
        · by_cases hz : y < x
          · rw [if_pos hz] at h2 ⊢; omega
          · rw [if_neg hz] at h2 ⊢; omega
        · exact h3 y hy
  cases ns with
  | nil => intro a ha; cases ha
  | cons x r =>
    intro a ha
    rcases List.mem_cons.mp ha with rfl | ha
    · exact (key r a).1
    · exact (key r x).2 a ha
theorem minL_mem {ns : List Int} (h : ns ≠ []) : minL ns ∈ ns := by
  have key : ∀ (r : List Int) (x : Int), r.foldl (fun m y => if y < m then y else m) x ∈ x :: r := by
    intro r
    induction r with
    | nil => intro x; simp
    | cons z r ih =>
      intro x
      simp only [List.foldl_cons]
      rcases List.mem_cons.mp (ih (if z < x then z else x)) with h | h
      · rw [h]
        split
        · simp
        · simp
      · exact .tail _ (.tail _ h)
  cases ns with
  | nil => exact absurd rfl h
  | cons x r => exact key r x
theorem seg_split (ws : List Int) (a b i : Nat) : (ws.drop i).take (a + b) = (ws.drop i).take a ++ (ws.drop (i + a)).take b := by
  rw [List.take_add, List.drop_drop]
theorem seg_len {ws : List Int} {n i : Nat} (h : i + n ≤ ws.length) : ((ws.drop i).take n).length = n := by
  rw [List.length_take, List.length_drop]; omega
theorem lc_tree (ws : List Int) : ∀ k n i, 1 ≤ n → n ≤ k → i + n ≤ ws.length →
    (∀ T ∈ trF k n, T.length = n ∧ lcF ws k n i ≤ lin T ((ws.drop i).take n)) ∧ ∃ T ∈ trF k n, lcF ws k n i = lin T ((ws.drop i).take n) := by
  intro k
  induction k with
  | zero => intro n i h1 h2; omega
  | succ k ih =>
    intro n i h1 h2 h3
    by_cases hn : n ≤ 1
    · obtain rfl : n = 1 := by omega
      simp only [trF, lcF, if_pos (Nat.le_refl 1)]
      have hl := seg_len (n := 1) h3
      generalize (ws.drop i).take 1 = X at hl
      match X, hl with
      | [x], _ => simp [lin]
    · simp only [trF, lcF, if_neg hn]
      have key : ∀ c < n - 1, ∀ L R, L.length = c + 1 → R.length = n - 1 - c → lin ((L ++ R).map (· + 1)) ((ws.drop i).take n) = lin L ((ws.drop i).take (c + 1)) + lin R ((ws.drop (i + 1 + c)).take (n - 1 - c)) + ((ws.drop i).take n).sum := by
        intro c hc L R hL hR
        rw [lin_up (by rw [List.length_append, hL, hR, seg_len h3]; omega)]
        congr 1
        have e : (ws.drop i).take n = (ws.drop i).take (c + 1) ++ (ws.drop (i + 1 + c)).take (n - 1 - c) := by
          rw [show i + 1 + c = i + (c + 1) by omega, ← seg_split]
          congr 1
          omega
        rw [e, lin_append]
        rw [hL, seg_len (by omega)]
      constructor
      · intro T hT
        obtain ⟨c, hc, hT⟩ := List.mem_flatMap.mp hT
        obtain ⟨L, hL, hT⟩ := List.mem_flatMap.mp hT
        obtain ⟨R, hR, rfl⟩ := List.mem_map.mp hT
        have hc := List.mem_range.mp hc
        obtain ⟨l1, l2⟩ := (ih (c + 1) i (by omega) (by omega) (by omega)).1 L hL
        obtain ⟨r1, r2⟩ := (ih (n - 1 - c) (i + 1 + c) (by omega) (by omega) (by omega)).1 R hR
        refine ⟨by rw [List.length_map, List.length_append, l1, r1]; omega, ?_⟩
        rw [key c hc L R l1 r1]
        have hm := minL_le (ns := (List.range (n - 1)).map fun c => lcF ws k (c + 1) i + lcF ws k (n - 1 - c) (i + 1 + c)) _ (List.mem_map.mpr ⟨c, List.mem_range.mpr hc, rfl⟩)
        omega
      · have hm := minL_mem (ns := (List.range (n - 1)).map fun c => lcF ws k (c + 1) i + lcF ws k (n - 1 - c) (i + 1 + c)) (by
          intro e
          have := congrArg List.length e
          simp at this
          omega)
        obtain ⟨c, hc, he⟩ := List.mem_map.mp hm
        have hc := List.mem_range.mp hc
        obtain ⟨a1, L, hL, l2⟩ := ih (c + 1) i (by omega) (by omega) (by omega)
        obtain ⟨a2, R, hR, r2⟩ := ih (n - 1 - c) (i + 1 + c) (by omega) (by omega) (by omega)
        refine ⟨(L ++ R).map (· + 1), List.mem_flatMap.mpr ⟨c, List.mem_range.mpr hc, List.mem_flatMap.mpr ⟨L, hL, List.mem_map.mpr ⟨R, hR, rfl⟩⟩⟩, ?_⟩
        rw [key c hc L R (a1 L hL).1 (a2 R hR).1, ← he, l2, r2]
/-! forms over the weights (the constant ahead), and what is known of a step -/
def addV : List Int → List Int → List Int
  | [], g => g
  | f, [] => f
  | a :: f, b :: g => (a + b) :: addV f g
def scV (c : Int) (f : List Int) : List Int := f.map (c * ·)
def unV (i : Nat) : List Int := List.replicate (i + 1) 0 ++ [1]
theorem lin_addV : ∀ (f g w : List Int), lin (addV f g) w = lin f w + lin g w
  | [], g, w => by simp [addV, lin]
  | a :: f, [], w => by simp [addV, lin]
  | a :: f, b :: g, [] => by simp [addV, lin]
  | a :: f, b :: g, x :: w => by
    simp only [addV, lin]
    rw [lin_addV f g w, Int.add_mul]
    omega
theorem lin_scV (c : Int) : ∀ (f w : List Int), lin (scV c f) w = c * lin f w
  | [], w => by simp [scV, lin]
  | a :: f, [] => by simp [scV, lin]
  | a :: f, x :: w => by
    have := lin_scV c f w
    simp only [scV, List.map_cons, lin] at this ⊢
    rw [this, Int.mul_add, Int.mul_assoc]
theorem lin_rep (i : Nat) (w : List Int) (f : List Int) : lin (List.replicate i 0 ++ f) w = lin f (w.drop i) := by
  induction i generalizing w with
  | zero => simp
  | succ i ih =>
    cases w with
    | nil => simp [List.replicate_succ, lin_nilR]
    | cons x w => simp only [List.replicate_succ, List.cons_append, lin, List.drop_succ_cons, ih]; omega
theorem lin_unV (i : Nat) (w : List Int) : lin (unV i) (1 :: w) = w.getD i 0 := by
  rw [unV, lin_rep, List.drop_succ_cons]
  rw [List.getD_eq_getElem?_getD, ← List.head?_drop]
  generalize w.drop i = X
  cases X <;> simp [lin]
theorem lin_zero {v : List Int} (w : List Int) (h : v.all (· = 0) = true) : lin v w = 0 := by
  induction v generalizing w with
  | nil => rfl
  | cons a v ih =>
    simp only [List.all_cons, Bool.and_eq_true, decide_eq_true_eq] at h
    cases w with
    | nil => rfl
    | cons x w => simp only [lin, h.1, ih w h.2]; omega
def subV (f g : List Int) : List Int := addV f (scV (-1) g)
theorem lin_subV (f g w : List Int) : lin (subV f g) w = lin f w - lin g w := by
  rw [subV, lin_addV, lin_scV]; omega
def facts (n k j : Nat) : List (List Int) :=
  [1] :: ((List.range n).map (fun i => subV (unV i) [1])) ++ ((List.range k).map (fun i => subV (subV (unV i) (unV (i + 2))) [1])) ++ (if k + 2 < n then [subV (unV (k + 2)) (unV k)] else [])
    ++ ((List.range (k - j)).map (fun i => subV (subV (addV (unV k) (unV (k + 1))) (unV (j + i))) [1])) ++ (if 0 < j then [subV (unV (j - 1)) (addV (unV k) (unV (k + 1)))] else [])
structure Dec (n k j : Nat) (w : List Int) : Prop where
  pos : ∀ i < n, 0 < w.getD i 0
  past : ∀ i < k, w.getD (i + 2) 0 < w.getD i 0
  here : k + 2 < n → w.getD k 0 ≤ w.getD (k + 2) 0
  less : ∀ i < k, j ≤ i → w.getD i 0 < w.getD k 0 + w.getD (k + 1) 0
  back : 0 < j → w.getD k 0 + w.getD (k + 1) 0 ≤ w.getD (j - 1) 0
theorem lin_one (w : List Int) : lin [1] (1 :: w) = 1 := by simp [lin]
theorem facts_ok {n k j : Nat} {w : List Int} (h : Dec n k j w) : ∀ f ∈ facts n k j, 0 ≤ lin f (1 :: w) := by
  intro f hf
  unfold facts at hf
  rcases List.mem_append.mp hf with hf | hf
  · rcases List.mem_append.mp hf with hf | hf
    · rcases List.mem_append.mp hf with hf | hf
      · rcases List.mem_append.mp hf with hf | hf
        · rcases List.mem_cons.mp hf with rfl | hf
          · rw [lin_one]; omega
          · obtain ⟨i, hi, rfl⟩ := List.mem_map.mp hf
            have := h.pos i (List.mem_range.mp hi)
            rw [lin_subV, lin_unV, lin_one]; omega
        · obtain ⟨i, hi, rfl⟩ := List.mem_map.mp hf
          have := h.past i (List.mem_range.mp hi)
          rw [lin_subV, lin_subV, lin_unV, lin_unV, lin_one]; omega
      · split at hf
        · rename_i hk
          obtain rfl := List.mem_singleton.mp hf
          have := h.here hk
          rw [lin_subV, lin_unV, lin_unV]; omega
        · cases hf
    · obtain ⟨i, hi, rfl⟩ := List.mem_map.mp hf
      have hi := List.mem_range.mp hi
      have := h.less (j + i) (by omega) (by omega)
      rw [lin_subV, lin_subV, lin_addV, lin_unV, lin_unV, lin_unV, lin_one]; omega
  · split at hf
    · rename_i hk
      obtain rfl := List.mem_singleton.mp hf
      have := h.back hk
      rw [lin_subV, lin_addV, lin_unV, lin_unV, lin_unV]; omega
    · cases hf
/-- a tree of the shorter row, its joint torn apart again -/
def lift (k j : Nat) (D : List Int) : List Int := (D.take j ++ D.drop (j + 1)).take k ++ [D.getD j 0 + 1, D.getD j 0 + 1] ++ (D.take j ++ D.drop (j + 1)).drop k
def comb : List Nat → List (List Int) → List Int
  | l :: ls, f :: fs => addV (scV (l : Int) f) (comb ls fs)
  | _, _ => []
theorem comb_ok (w : List Int) : ∀ (ls : List Nat) (fs : List (List Int)), (∀ f ∈ fs, 0 ≤ lin f w) → 0 ≤ lin (comb ls fs) w
  | [], _, _ => by simp [comb, lin]
  | _ :: _, [], _ => by simp [comb, lin]
  | l :: ls, f :: fs, h => by
    rw [comb, lin_addV, lin_scV]
    have h1 := comb_ok w ls fs (fun g hg => h g (.tail _ hg))
    have h2 := Int.mul_nonneg (Int.natCast_nonneg l) (h f (.head _))
    omega
def chkB (k j n : Nat) : List (List Int) → List (Nat × Nat × List Nat) → Bool
  | [], _ => true
  | T :: Ts, (t, q, ls) :: cs => decide (0 < q) && decide (t < (trF 6 (n - 1)).length) && (subV (scV (q : Int) (0 :: subV T (lift k j ((trF 6 (n - 1)).getD t [])))) (comb ls (facts n k j))).all (· = 0) && chkB k j n Ts cs
  | _ :: _, [] => false
def chkI (k j n : Nat) : List (List Int) → List (Nat × List Nat) → Bool
  | [], _ => true
  | D :: Ds, (c, ls) :: cs => (decide (lift k j D ∈ trF 6 n) || (decide (0 < c) && (addV [(c : Int)] (comb ls (facts n k j ++ (trF 6 (n - 1)).map fun T => 0 :: subV (lift k j T) (lift k j D)))).all (· = 0))) && chkI k j n Ds cs
  | _ :: _, [] => false
def chk (n k j : Nat) (b : List (Nat × Nat × List Nat)) (i : List (Nat × List Nat)) : Bool := chkB k j n (trF 6 n) b && chkI k j n (trF 6 (n - 1)) i
theorem lin_zcons (f w : List Int) : lin (0 :: f) (1 :: w) = lin f w := by simp [lin]
theorem getD_in {L : List (List Int)} {t : Nat} (h : t < L.length) : L.getD t [] = L[t] := by rw [List.getD_eq_getElem?_getD, List.getElem?_eq_getElem h, Option.getD_some]
theorem chkB_ok {k j n : Nat} {w : List Int} (h : Dec n k j w) : ∀ (Ts : List (List Int)) (cs : List (Nat × Nat × List Nat)), chkB k j n Ts cs = true → ∀ T ∈ Ts, ∃ T' ∈ trF 6 (n - 1), lin (lift k j T') w ≤ lin T w
  | [], _, _, T, hT => by cases hT
  | _ :: _, [], hc, _, _ => by simp [chkB] at hc
  | U :: Ts, (t, q, ls) :: cs, hc, T, hT => by
    simp only [chkB, Bool.and_eq_true, decide_eq_true_eq] at hc
    obtain ⟨⟨⟨h1, h2⟩, h3⟩, h4⟩ := hc
    rcases List.mem_cons.mp hT with rfl | hT
    · refine ⟨_, List.getElem_mem h2, ?_⟩
      have e := lin_zero (1 :: w) h3
      rw [lin_subV, lin_scV, lin_zcons, lin_subV, getD_in h2] at e
      have p := comb_ok (1 :: w) ls _ (facts_ok h)
      have h5 : 0 ≤ (q : Int) * (lin T w - lin (lift k j (trF 6 (n - 1))[t]) w) := by omega
      have h6 := Int.nonneg_of_mul_nonneg_right h5 (by omega)
      omega
    · exact chkB_ok h Ts cs h4 T hT
theorem chkI_ok {k j n : Nat} {w : List Int} (h : Dec n k j w) : ∀ (Ds : List (List Int)) (cs : List (Nat × List Nat)), chkI k j n Ds cs = true → ∀ D ∈ Ds, (∀ T ∈ trF 6 (n - 1), lin (lift k j D) w ≤ lin (lift k j T) w) → lift k j D ∈ trF 6 n
  | [], _, _, T, hT, _ => by cases hT
  | _ :: _, [], hc, _, _, _ => by simp [chkI] at hc
  | U :: Ts, (c, ls) :: cs, hc, D, hD, hm => by
    simp only [chkI, Bool.and_eq_true, Bool.or_eq_true, decide_eq_true_eq] at hc
    obtain ⟨h1, h2⟩ := hc
    rcases List.mem_cons.mp hD with rfl | hD
    · rcases h1 with h1 | ⟨h1, h3⟩
      · exact h1
      · exfalso
        have e := lin_zero (1 :: w) h3
        rw [lin_addV] at e
        have p := comb_ok (1 :: w) ls (facts n k j ++ (trF 6 (n - 1)).map fun T => 0 :: subV (lift k j T) (lift k j D)) (by
          intro f hf
          rcases List.mem_append.mp hf with hf | hf
          · exact facts_ok h f hf
          · obtain ⟨T, hT, rfl⟩ := List.mem_map.mp hf
            have := hm T hT
            rw [lin_zcons, lin_subV]
            omega)
        have e2 : lin [(c : Int)] (1 :: w) = c := by simp [lin]
        omega
    · exact chkI_ok h Ts cs h2 D hD hm
theorem ck_2_0_0 : chk 2 0 0 [(0, 1, [])] [(0, [])] = true := by decide +kernel
theorem ck_3_0_0 : chk 3 0 0 [(0, 1, [0, 0, 0, 0, 1]), (0, 1, [])] [(0, [])] = true := by decide +kernel
theorem ck_3_1_0 : chk 3 1 0 [(0, 1, []), (0, 1, [1, 0, 0, 0, 1])] [(0, [])] = true := by decide +kernel
theorem ck_3_1_1 : chk 3 1 1 [(0, 1, []), (0, 1, [1, 0, 0, 0, 1])] [(0, [])] = true := by decide +kernel
theorem ck_4_0_0 : chk 4 0 0 [(0, 1, [1, 0, 0, 0, 1, 1]), (0, 1, [1, 0, 1, 0, 0, 1]), (0, 1, []), (1, 1, [0, 0, 0, 0, 0, 1]), (1, 1, [])] [(0, []), (0, [])] = true := by decide +kernel
theorem ck_4_1_0 : chk 4 1 0 [(0, 1, [1, 0, 0, 0, 0, 0, 1, 1]), (0, 1, [1, 0, 0, 0, 0, 0, 0, 1]), (0, 1, []), (1, 1, []), (1, 1, [1, 0, 0, 0, 0, 1])] [(0, []), (0, [])] = true := by decide +kernel
theorem ck_4_1_1 : chk 4 1 1 [(0, 1, [0, 0, 0, 0, 0, 0, 1]), (0, 1, []), (0, 1, [0, 0, 0, 0, 0, 0, 0, 1]), (1, 1, []), (1, 1, [1, 0, 0, 0, 0, 1])] [(0, []), (0, [])] = true := by decide +kernel
theorem ck_4_2_0 : chk 4 2 0 [(0, 1, [1, 0, 0, 0, 0, 0, 0, 1]), (0, 1, [2, 0, 0, 0, 0, 0, 1, 1]), (0, 1, []), (1, 1, [2, 0, 0, 0, 0, 0, 2]), (0, 1, [2, 1, 0, 0, 0, 0, 1])] [(0, []), (1, [0, 0, 0, 0, 0, 0, 0, 0, 1, 1])] = true := by decide +kernel
theorem ck_4_2_1 : chk 4 2 1 [(0, 1, []), (0, 1, [1, 0, 0, 0, 0, 0, 1]), (0, 1, [0, 0, 0, 0, 0, 0, 0, 0, 1]), (1, 1, [2, 0, 0, 0, 0, 0, 2]), (0, 1, [2, 1, 0, 0, 0, 0, 1, 0, 1])] [(0, []), (1, [0, 0, 0, 0, 0, 0, 0, 1, 1, 1])] = true := by decide +kernel
theorem ck_4_2_2 : chk 4 2 2 [(0, 1, []), (0, 1, [1, 0, 0, 0, 0, 0, 1]), (1, 1, []), (1, 1, [2, 0, 0, 1, 0, 0, 1]), (1, 1, [2, 1, 0, 0, 0, 0, 1])] [(0, []), (0, [])] = true := by decide +kernel
theorem ck_5_0_0 : chk 5 0 0 [(0, 1, [2, 0, 0, 0, 1, 1, 1]), (0, 1, [2, 0, 0, 1, 1, 0, 1]), (0, 1, [1, 0, 1, 0, 0, 0, 1]), (2, 1, [2, 0, 0, 0, 2, 0, 2]), (1, 1, [2, 0, 2, 0, 0, 0, 1]), (0, 1, []), (1, 1, []), (2, 1, [0, 0, 0, 0, 0, 0, 1]), (2, 1, []), (3, 1, [1, 0, 0, 0, 1, 0, 1]), (3, 1, [1, 0, 1, 0, 0, 0, 1]), (3, 1, []), (4, 1, [0, 0, 0, 0, 0, 0, 1]), (4, 1, [])] [(0, []), (0, []), (0, []), (0, []), (0, [])] = true := by decide +kernel
theorem ck_5_1_0 : chk 5 1 0 [(0, 1, [2, 0, 0, 0, 0, 1, 0, 1, 1]), (0, 1, [2, 0, 0, 1, 0, 0, 0, 1, 1]), (0, 1, [1, 0, 0, 0, 0, 0, 0, 0, 1]), (1, 1, [2, 0, 0, 0, 0, 0, 0, 1, 2]), (1, 1, [2, 0, 0, 0, 0, 0, 0, 0, 2]), (0, 1, []), (2, 1, [0, 0, 0, 0, 0, 0, 0, 1]), (2, 1, []), (2, 1, [1, 0, 0, 0, 0, 0, 1]), (3, 1, [1, 0, 0, 0, 0, 0, 0, 1, 1]), (3, 1, [1, 0, 0, 0, 0, 0, 0, 0, 1]), (3, 1, []), (4, 1, []), (4, 1, [1, 0, 0, 0, 0, 0, 1])] [(0, []), (1, [0, 0, 0, 0, 0, 0, 1, 1, 0, 0, 0, 1]), (0, []), (0, []), (0, [])] = true := by decide +kernel
theorem ck_5_1_1 : chk 5 1 1 [(0, 1, [1, 0, 0, 0, 0, 1, 0, 1]), (0, 1, [1, 0, 0, 1, 0, 0, 0, 1]), (0, 1, []), (1, 1, [0, 0, 0, 0, 0, 0, 0, 1]), (1, 1, []), (0, 1, [0, 0, 0, 0, 0, 0, 0, 0, 1]), (2, 1, [0, 0, 0, 0, 0, 0, 0, 1]), (2, 1, []), (2, 1, [1, 0, 0, 0, 0, 0, 1]), (3, 1, [0, 0, 0, 0, 0, 0, 0, 1]), (3, 1, []), (3, 1, [0, 0, 0, 0, 0, 0, 0, 0, 1]), (4, 1, []), (4, 1, [1, 0, 0, 0, 0, 0, 1])] [(0, []), (0, []), (0, []), (0, []), (0, [])] = true := by decide +kernel
theorem ck_5_2_0 : chk 5 2 0 [(0, 1, [2, 0, 0, 0, 0, 0, 0, 0, 1, 1, 1]), (0, 1, [2, 0, 0, 0, 0, 0, 0, 0, 0, 1, 1]), (0, 1, [1, 0, 0, 0, 0, 0, 0, 0, 0, 1]), (1, 1, [2, 0, 0, 0, 0, 0, 0, 0, 0, 2]), (1, 1, [3, 0, 0, 0, 0, 0, 0, 1, 0, 2]), (2, 1, [0, 0, 0, 0, 0, 0, 0, 0, 1]), (2, 1, []), (2, 1, [1, 0, 0, 0, 0, 0, 0, 1]), (1, 1, []), (3, 1, [1, 0, 0, 0, 0, 0, 0, 0, 0, 1]), (3, 1, [2, 0, 0, 0, 0, 0, 0, 1, 0, 1]), (3, 1, []), (4, 1, [2, 0, 0, 0, 0, 0, 0, 2]), (3, 1, [2, 1, 0, 0, 0, 0, 0, 1])] [(1, [0, 0, 0, 0, 0, 0, 0, 1, 1, 0, 0, 0, 0, 1]), (0, []), (0, []), (0, []), (1, [0, 0, 0, 0, 0, 0, 0, 0, 0, 0, 1, 0, 0, 0, 1])] = true := by decide +kernel
theorem ck_5_2_1 : chk 5 2 1 [(0, 1, [1, 0, 0, 0, 0, 0, 0, 0, 1, 1]), (0, 1, [1, 0, 0, 0, 0, 0, 0, 0, 0, 1]), (0, 1, []), (1, 1, []), (1, 1, [1, 0, 0, 0, 0, 0, 0, 1]), (2, 1, [0, 0, 0, 0, 0, 0, 0, 0, 1]), (2, 1, []), (2, 1, [1, 0, 0, 0, 0, 0, 0, 1]), (1, 1, [0, 0, 0, 0, 0, 0, 0, 0, 0, 0, 2]), (3, 1, []), (3, 1, [1, 0, 0, 0, 0, 0, 0, 1]), (3, 1, [0, 0, 0, 0, 0, 0, 0, 0, 0, 0, 1]), (4, 1, [2, 0, 0, 0, 0, 0, 0, 2]), (3, 1, [2, 1, 0, 0, 0, 0, 0, 1, 0, 0, 1])] [(0, []), (0, []), (0, []), (0, []), (1, [0, 0, 0, 0, 0, 0, 0, 0, 0, 1, 1, 0, 0, 0, 1])] = true := by decide +kernel
theorem ck_5_2_2 : chk 5 2 2 [(0, 1, [0, 0, 0, 0, 0, 0, 0, 0, 1]), (0, 1, []), (0, 1, [0, 0, 0, 0, 0, 0, 0, 0, 0, 1]), (1, 1, []), (1, 1, [1, 0, 0, 0, 0, 0, 0, 1]), (2, 1, [0, 0, 0, 0, 0, 0, 0, 0, 1]), (2, 1, []), (2, 1, [1, 0, 0, 0, 0, 0, 0, 1]), (2, 1, [1, 1, 0, 0, 0, 0, 0, 0, 0, 1]), (3, 1, []), (3, 1, [1, 0, 0, 0, 0, 0, 0, 1]), (4, 1, []), (4, 1, [2, 0, 0, 1, 0, 0, 0, 1]), (4, 1, [2, 1, 0, 0, 0, 0, 0, 1])] [(0, []), (0, []), (0, []), (0, []), (0, [])] = true := by decide +kernel
theorem ck_5_3_0 : chk 5 3 0 [(0, 1, [2, 0, 0, 0, 0, 0, 0, 0, 0, 1, 1]), (0, 1, [3, 0, 0, 0, 0, 0, 0, 0, 1, 1, 1]), (0, 1, [1, 0, 0, 0, 0, 0, 0, 0, 0, 1]), (1, 1, [4, 0, 0, 0, 0, 0, 0, 0, 2, 2]), (0, 1, [3, 0, 1, 0, 0, 0, 0, 0, 1, 1]), (2, 1, []), (2, 1, [1, 0, 0, 0, 0, 0, 0, 0, 1]), (0, 1, []), (0, 1, [1, 0, 0, 0, 0, 0, 1]), (0, 1, [3, 0, 0, 0, 2, 0, 0, 0, 1]), (2, 1, [4, 0, 2, 0, 0, 0, 0, 0, 2]), (3, 1, [2, 0, 0, 0, 0, 0, 0, 0, 2]), (4, 1, [5, 0, 0, 0, 0, 0, 0, 2, 3]), (1, 1, [3, 1, 1, 0, 0, 0, 0, 0, 1])] [(0, []), (0, []), (0, []), (5, [0, 0, 0, 0, 0, 0, 2, 1, 1, 1, 0, 0, 0, 0, 1]), (6, [0, 0, 0, 0, 0, 0, 2, 1, 1, 1, 1, 0, 0, 0, 1])] = true := by decide +kernel
theorem ck_5_3_1 : chk 5 3 1 [(0, 1, [1, 0, 0, 0, 0, 0, 0, 0, 0, 1]), (0, 1, [2, 0, 0, 0, 0, 0, 0, 0, 1, 1]), (0, 1, []), (1, 1, [2, 0, 0, 0, 0, 0, 0, 0, 2]), (0, 1, [2, 0, 1, 0, 0, 0, 0, 0, 1]), (2, 1, []), (2, 1, [1, 0, 0, 0, 0, 0, 0, 0, 1]), (0, 1, [0, 0, 0, 0, 0, 0, 0, 0, 0, 0, 0, 1]), (1, 1, [0, 0, 0, 0, 0, 0, 0, 0, 0, 0, 0, 2]), (3, 1, [3, 0, 0, 0, 0, 0, 0, 0, 3]), (2, 1, [4, 0, 2, 0, 0, 0, 0, 0, 2]), (0, 1, [2, 0, 0, 0, 2, 0, 0, 0, 0, 0, 0, 2]), (4, 1, [5, 0, 0, 0, 0, 0, 0, 2, 3]), (0, 1, [3, 1, 1, 0, 1, 0, 0, 0, 0, 0, 0, 2])] [(0, []), (1, [0, 0, 0, 0, 0, 0, 0, 0, 0, 0, 1, 0, 1]), (0, []), (4, [0, 0, 0, 0, 0, 0, 0, 1, 1, 0, 2, 0, 0, 0, 1]), (5, [0, 0, 0, 0, 0, 0, 1, 1, 1, 1, 1, 0, 0, 0, 1])] = true := by decide +kernel
theorem ck_5_3_2 : chk 5 3 2 [(0, 1, []), (0, 1, [1, 0, 0, 0, 0, 0, 0, 0, 1]), (0, 1, [0, 0, 0, 0, 0, 0, 0, 0, 0, 0, 1]), (1, 1, [2, 0, 0, 0, 0, 0, 0, 0, 2]), (0, 1, [2, 0, 1, 0, 0, 0, 0, 0, 1, 0, 1]), (2, 1, []), (2, 1, [1, 0, 0, 0, 0, 0, 0, 0, 1]), (2, 1, [1, 0, 0, 1, 0, 0, 0, 0, 0, 0, 1]), (2, 1, [1, 1, 0, 0, 0, 0, 0, 0, 0, 0, 1]), (3, 1, [3, 0, 0, 0, 0, 0, 0, 0, 3]), (2, 1, [4, 0, 2, 0, 0, 0, 0, 0, 2]), (4, 1, [2, 0, 0, 0, 0, 0, 0, 0, 2]), (0, 1, [3, 2, 0, 0, 0, 0, 0, 0, 1, 0, 2]), (0, 1, [4, 2, 0, 0, 0, 0, 1, 0, 1, 0, 2])] [(0, []), (1, [0, 0, 0, 0, 0, 0, 0, 0, 0, 1, 1, 1]), (0, []), (4, [0, 0, 0, 0, 0, 0, 0, 1, 1, 2, 0, 0, 0, 1]), (4, [0, 0, 0, 0, 0, 0, 1, 1, 1, 1, 0, 0, 0, 1])] = true := by decide +kernel
theorem ck_5_3_3 : chk 5 3 3 [(0, 1, []), (0, 1, [1, 0, 0, 0, 0, 0, 0, 0, 1]), (1, 1, []), (1, 1, [2, 0, 0, 0, 1, 0, 0, 0, 1]), (1, 1, [2, 0, 1, 0, 0, 0, 0, 0, 1]), (2, 1, []), (2, 1, [1, 0, 0, 0, 0, 0, 0, 0, 1]), (3, 1, []), (3, 1, [1, 0, 0, 0, 0, 0, 1]), (3, 1, [3, 0, 0, 0, 2, 0, 0, 0, 1]), (2, 1, [4, 0, 2, 0, 0, 0, 0, 0, 2]), (1, 1, [4, 0, 0, 0, 0, 0, 2, 0, 2]), (3, 1, [3, 1, 1, 0, 0, 0, 0, 0, 1]), (4, 1, [3, 1, 1, 0, 0, 0, 0, 0, 1])] [(0, []), (0, []), (0, []), (0, []), (0, [])] = true := by decide +kernel
theorem ck_6_0_0 : chk 6 0 0 [(1, 1, [3, 0, 0, 0, 0, 1, 2, 1]), (0, 1, [3, 0, 0, 0, 2, 1, 0, 1]), (3, 1, [2, 0, 0, 0, 0, 0, 2, 1]), (2, 1, [4, 0, 0, 0, 2, 2, 0, 1]), (1, 1, [3, 0, 0, 2, 1, 0, 0, 1]), (0, 1, [1, 0, 1, 0, 0, 0, 0, 1]), (1, 1, [1, 0, 1, 0, 0, 0, 0, 1]), (5, 1, [2, 0, 0, 0, 2, 0, 0, 2]), (2, 1, [2, 0, 2, 0, 0, 0, 0, 1]), (6, 1, [4, 0, 0, 0, 2, 2, 0, 2]), (7, 1, [4, 0, 0, 0, 2, 2, 0, 2]), (3, 1, [2, 0, 2, 0, 0, 0, 0, 1]), (4, 1, [3, 0, 2, 0, 1, 0, 0, 1]), (4, 1, [3, 0, 3, 0, 0, 0, 0, 1]), (0, 1, []), (1, 1, []), (2, 1, []), (3, 1, []), (4, 1, []), (5, 1, [0, 0, 0, 0, 0, 0, 0, 1]), (6, 1, [0, 0, 0, 0, 0, 0, 0, 1]), (5, 1, []), (6, 1, []), (7, 1, [1, 0, 0, 0, 1, 0, 0, 1]), (7, 1, [1, 0, 1, 0, 0, 0, 0, 1]), (7, 1, []), (8, 1, [0, 0, 0, 0, 0, 0, 0, 1]), (8, 1, []), (9, 1, [2, 0, 0, 0, 1, 1, 0, 1]), (9, 1, [2, 0, 0, 1, 1, 0, 0, 1]), (9, 1, [1, 0, 1, 0, 0, 0, 0, 1]), (11, 1, [2, 0, 0, 0, 2, 0, 0, 2]), (10, 1, [2, 0, 2, 0, 0, 0, 0, 1]), (9, 1, []), (10, 1, []), (11, 1, [0, 0, 0, 0, 0, 0, 0, 1]), (11, 1, []), (12, 1, [1, 0, 0, 0, 1, 0, 0, 1]), (12, 1, [1, 0, 1, 0, 0, 0, 0, 1]), (12, 1, []), (13, 1, [0, 0, 0, 0, 0, 0, 0, 1]), (13, 1, [])] [(0, []), (0, []), (0, []), (0, []), (0, []), (0, []), (0, []), (0, []), (0, []), (0, []), (0, []), (0, []), (0, []), (0, [])] = true := by decide +kernel
theorem ck_6_1_0 : chk 6 1 0 [(0, 1, [3, 0, 0, 0, 0, 1, 1, 0, 1, 1]), (0, 1, [3, 0, 0, 0, 1, 1, 0, 0, 1, 1]), (0, 1, [2, 0, 0, 1, 0, 0, 0, 0, 1, 1]), (2, 1, [4, 0, 0, 0, 0, 2, 0, 0, 2, 2]), (1, 1, [3, 0, 0, 2, 0, 0, 0, 0, 1, 1]), (0, 1, [1, 0, 0, 0, 0, 0, 0, 0, 0, 1]), (1, 1, [1, 0, 0, 0, 0, 0, 0, 0, 0, 1]), (2, 1, [2, 0, 0, 0, 0, 0, 0, 0, 1, 2]), (2, 1, [2, 0, 0, 0, 0, 0, 0, 0, 0, 2]), (3, 1, [3, 0, 0, 0, 0, 1, 0, 0, 1, 2]), (3, 1, [3, 0, 0, 1, 0, 0, 0, 0, 1, 2]), (3, 1, [2, 0, 0, 0, 0, 0, 0, 0, 0, 2]), (4, 1, [3, 0, 0, 0, 0, 0, 0, 0, 1, 3]), (4, 1, [3, 0, 0, 0, 0, 0, 0, 0, 0, 3]), (0, 1, []), (1, 1, []), (5, 1, [0, 0, 0, 0, 0, 0, 0, 0, 1]), (6, 1, [1, 0, 0, 0, 0, 1, 0, 0, 1]), (6, 1, [1, 0, 0, 1, 0, 0, 0, 0, 1]), (5, 1, []), (6, 1, []), (5, 1, [1, 0, 0, 0, 0, 0, 0, 1]), (6, 1, [1, 0, 0, 0, 0, 0, 0, 1]), (7, 1, [1, 0, 0, 0, 0, 0, 0, 0, 1, 1]), (7, 1, [1, 0, 0, 0, 0, 0, 0, 0, 0, 1]), (7, 1, []), (8, 1, []), (8, 1, [1, 0, 0, 0, 0, 0, 0, 1]), (9, 1, [2, 0, 0, 0, 0, 1, 0, 0, 1, 1]), (9, 1, [2, 0, 0, 1, 0, 0, 0, 0, 1, 1]), (9, 1, [1, 0, 0, 0, 0, 0, 0, 0, 0, 1]), (10, 1, [2, 0, 0, 0, 0, 0, 0, 0, 1, 2]), (10, 1, [2, 0, 0, 0, 0, 0, 0, 0, 0, 2]), (9, 1, []), (11, 1, [0, 0, 0, 0, 0, 0, 0, 0, 1]), (11, 1, []), (11, 1, [1, 0, 0, 0, 0, 0, 0, 1]), (12, 1, [1, 0, 0, 0, 0, 0, 0, 0, 1, 1]), (12, 1, [1, 0, 0, 0, 0, 0, 0, 0, 0, 1]), (12, 1, []), (13, 1, []), (13, 1, [1, 0, 0, 0, 0, 0, 0, 1])] [(0, []), (0, []), (1, [0, 0, 0, 0, 0, 0, 0, 1, 1, 0, 0, 0, 0, 0, 0, 1]), (2, [0, 0, 0, 0, 0, 1, 0, 1, 1, 0, 0, 0, 0, 0, 0, 0, 1]), (3, [0, 0, 0, 1, 0, 0, 0, 2, 1, 0, 0, 0, 0, 0, 0, 0, 1]), (0, []), (0, []), (0, []), (0, []), (0, []), (1, [0, 0, 0, 0, 0, 0, 0, 1, 1, 0, 0, 0, 0, 0, 0, 0, 0, 0, 0, 0, 0, 1]), (0, []), (0, []), (0, [])] = true := by decide +kernel
theorem ck_6_1_1 : chk 6 1 1 [(0, 1, [2, 0, 0, 0, 0, 1, 1, 0, 1]), (0, 1, [2, 0, 0, 0, 1, 1, 0, 0, 1]), (0, 1, [1, 0, 0, 1, 0, 0, 0, 0, 1]), (2, 1, [2, 0, 0, 0, 0, 2, 0, 0, 2]), (1, 1, [2, 0, 0, 2, 0, 0, 0, 0, 1]), (0, 1, []), (1, 1, []), (2, 1, [0, 0, 0, 0, 0, 0, 0, 0, 1]), (2, 1, []), (3, 1, [1, 0, 0, 0, 0, 1, 0, 0, 1]), (3, 1, [1, 0, 0, 1, 0, 0, 0, 0, 1]), (3, 1, []), (4, 1, [0, 0, 0, 0, 0, 0, 0, 0, 1]), (4, 1, []), (0, 1, [0, 0, 0, 0, 0, 0, 0, 0, 0, 1]), (1, 1, [0, 0, 0, 0, 0, 0, 0, 0, 0, 1]), (5, 1, [0, 0, 0, 0, 0, 0, 0, 0, 1]), (6, 1, [1, 0, 0, 0, 0, 1, 0, 0, 1]), (6, 1, [1, 0, 0, 1, 0, 0, 0, 0, 1]), (5, 1, []), (6, 1, []), (5, 1, [1, 0, 0, 0, 0, 0, 0, 1]), (6, 1, [1, 0, 0, 0, 0, 0, 0, 1]), (7, 1, [0, 0, 0, 0, 0, 0, 0, 0, 1]), (7, 1, []), (7, 1, [0, 0, 0, 0, 0, 0, 0, 0, 0, 1]), (8, 1, []), (8, 1, [1, 0, 0, 0, 0, 0, 0, 1]), (9, 1, [1, 0, 0, 0, 0, 1, 0, 0, 1]), (9, 1, [1, 0, 0, 1, 0, 0, 0, 0, 1]), (9, 1, []), (10, 1, [0, 0, 0, 0, 0, 0, 0, 0, 1]), (10, 1, []), (9, 1, [0, 0, 0, 0, 0, 0, 0, 0, 0, 1]), (11, 1, [0, 0, 0, 0, 0, 0, 0, 0, 1]), (11, 1, []), (11, 1, [1, 0, 0, 0, 0, 0, 0, 1]), (12, 1, [0, 0, 0, 0, 0, 0, 0, 0, 1]), (12, 1, []), (12, 1, [0, 0, 0, 0, 0, 0, 0, 0, 0, 1]), (13, 1, []), (13, 1, [1, 0, 0, 0, 0, 0, 0, 1])] [(0, []), (0, []), (0, []), (0, []), (0, []), (0, []), (0, []), (0, []), (0, []), (0, []), (0, []), (0, []), (0, []), (0, [])] = true := by decide +kernel
theorem ck_6_2_0 : chk 6 2 0 [(0, 1, [3, 0, 0, 0, 0, 0, 1, 0, 0, 1, 1, 1]), (0, 1, [3, 0, 0, 0, 1, 0, 0, 0, 0, 1, 1, 1]), (0, 1, [2, 0, 0, 0, 0, 0, 0, 0, 0, 0, 1, 1]), (1, 1, [3, 0, 0, 0, 0, 0, 0, 0, 0, 1, 1, 2]), (1, 1, [3, 0, 0, 0, 0, 0, 0, 0, 0, 0, 1, 2]), (0, 1, [1, 0, 0, 0, 0, 0, 0, 0, 0, 0, 1]), (2, 1, [2, 0, 0, 0, 0, 0, 0, 0, 0, 1, 2]), (2, 1, [2, 0, 0, 0, 0, 0, 0, 0, 0, 0, 2]), (2, 1, [3, 0, 0, 0, 0, 0, 0, 0, 1, 0, 2]), (3, 1, [3, 0, 0, 0, 0, 0, 0, 0, 0, 1, 2, 1]), (3, 1, [3, 0, 0, 0, 0, 0, 0, 0, 0, 0, 2, 1]), (3, 1, [2, 0, 0, 0, 0, 0, 0, 0, 0, 0, 2]), (4, 1, [3, 0, 0, 0, 0, 0, 0, 0, 0, 0, 3]), (4, 1, [4, 0, 0, 0, 0, 0, 0, 0, 1, 0, 3]), (5, 1, [1, 0, 0, 0, 0, 0, 1, 0, 0, 1]), (5, 1, [1, 0, 0, 0, 1, 0, 0, 0, 0, 1]), (5, 1, []), (6, 1, [1, 0, 0, 0, 0, 0, 0, 0, 0, 1, 0, 1]), (6, 1, [1, 0, 0, 0, 0, 0, 0, 0, 0, 0, 0, 1]), (5, 1, [1, 0, 0, 0, 0, 0, 0, 0, 1]), (6, 1, []), (2, 1, []), (6, 1, [1, 0, 0, 0, 0, 0, 0, 1]), (7, 1, [1, 0, 0, 0, 0, 0, 0, 0, 0, 0, 1]), (7, 1, [2, 0, 0, 0, 0, 0, 0, 0, 1, 0, 1]), (7, 1, []), (8, 1, [2, 0, 0, 0, 0, 0, 0, 0, 2]), (7, 1, [2, 1, 0, 0, 0, 0, 0, 0, 1]), (9, 1, [2, 0, 0, 0, 0, 0, 0, 0, 0, 1, 1, 1]), (9, 1, [2, 0, 0, 0, 0, 0, 0, 0, 0, 0, 1, 1]), (9, 1, [1, 0, 0, 0, 0, 0, 0, 0, 0, 0, 1]), (10, 1, [2, 0, 0, 0, 0, 0, 0, 0, 0, 0, 2]), (10, 1, [3, 0, 0, 0, 0, 0, 0, 0, 1, 0, 2]), (11, 1, [0, 0, 0, 0, 0, 0, 0, 0, 0, 1]), (11, 1, []), (11, 1, [1, 0, 0, 0, 0, 0, 0, 0, 1]), (10, 1, []), (12, 1, [1, 0, 0, 0, 0, 0, 0, 0, 0, 0, 1]), (12, 1, [2, 0, 0, 0, 0, 0, 0, 0, 1, 0, 1]), (12, 1, []), (13, 1, [2, 0, 0, 0, 0, 0, 0, 0, 2]), (12, 1, [2, 1, 0, 0, 0, 0, 0, 0, 1])] [(2, [0, 0, 0, 0, 0, 0, 1, 0, 1, 1, 0, 0, 0, 0, 0, 0, 0, 1]), (4, [0, 0, 0, 0, 0, 0, 0, 1, 2, 1, 1, 0, 0, 0, 0, 0, 0, 1]), (0, []), (3, [0, 0, 0, 0, 0, 1, 0, 1, 1, 0, 0, 0, 0, 0, 0, 0, 0, 0, 1]), (5, [0, 0, 0, 0, 0, 0, 0, 2, 2, 0, 0, 1, 0, 0, 0, 0, 0, 0, 1]), (0, []), (0, []), (0, []), (1, [0, 0, 0, 0, 0, 0, 0, 0, 0, 0, 0, 1, 0, 0, 0, 0, 0, 0, 0, 1]), (1, [0, 0, 0, 0, 0, 0, 0, 0, 1, 1, 0, 0, 0, 0, 0, 0, 0, 0, 0, 0, 0, 0, 0, 1]), (0, []), (0, []), (0, []), (1, [0, 0, 0, 0, 0, 0, 0, 0, 0, 0, 0, 1, 0, 0, 0, 0, 0, 0, 0, 0, 0, 0, 0, 0, 1])] = true := by decide +kernel
theorem ck_6_2_1 : chk 6 2 1 [(0, 1, [2, 0, 0, 0, 0, 0, 1, 0, 0, 1, 1]), (0, 1, [2, 0, 0, 0, 1, 0, 0, 0, 0, 1, 1]), (0, 1, [1, 0, 0, 0, 0, 0, 0, 0, 0, 0, 1]), (1, 1, [2, 0, 0, 0, 0, 0, 0, 0, 0, 1, 2]), (1, 1, [2, 0, 0, 0, 0, 0, 0, 0, 0, 0, 2]), (0, 1, []), (2, 1, [0, 0, 0, 0, 0, 0, 0, 0, 0, 1]), (2, 1, []), (2, 1, [1, 0, 0, 0, 0, 0, 0, 0, 1]), (3, 1, [1, 0, 0, 0, 0, 0, 0, 0, 0, 1, 1]), (3, 1, [1, 0, 0, 0, 0, 0, 0, 0, 0, 0, 1]), (3, 1, []), (4, 1, []), (4, 1, [1, 0, 0, 0, 0, 0, 0, 0, 1]), (5, 1, [1, 0, 0, 0, 0, 0, 1, 0, 0, 1]), (5, 1, [1, 0, 0, 0, 1, 0, 0, 0, 0, 1]), (5, 1, []), (6, 1, [1, 0, 0, 0, 0, 0, 0, 0, 0, 1, 1]), (6, 1, [1, 0, 0, 0, 0, 0, 0, 0, 0, 0, 1]), (5, 1, [1, 0, 0, 0, 0, 0, 0, 0, 1]), (6, 1, []), (2, 1, [0, 0, 0, 0, 0, 0, 0, 0, 0, 0, 0, 2]), (6, 1, [1, 0, 0, 0, 0, 0, 0, 1]), (7, 1, []), (7, 1, [1, 0, 0, 0, 0, 0, 0, 0, 1]), (7, 1, [0, 0, 0, 0, 0, 0, 0, 0, 0, 0, 0, 1]), (8, 1, [2, 0, 0, 0, 0, 0, 0, 0, 2]), (7, 1, [2, 1, 0, 0, 0, 0, 0, 0, 1, 0, 0, 1]), (9, 1, [1, 0, 0, 0, 0, 0, 0, 0, 0, 1, 1]), (9, 1, [1, 0, 0, 0, 0, 0, 0, 0, 0, 0, 1]), (9, 1, []), (10, 1, []), (10, 1, [1, 0, 0, 0, 0, 0, 0, 0, 1]), (11, 1, [0, 0, 0, 0, 0, 0, 0, 0, 0, 1]), (11, 1, []), (11, 1, [1, 0, 0, 0, 0, 0, 0, 0, 1]), (10, 1, [0, 0, 0, 0, 0, 0, 0, 0, 0, 0, 0, 2]), (12, 1, []), (12, 1, [1, 0, 0, 0, 0, 0, 0, 0, 1]), (12, 1, [0, 0, 0, 0, 0, 0, 0, 0, 0, 0, 0, 1]), (13, 1, [2, 0, 0, 0, 0, 0, 0, 0, 2]), (12, 1, [2, 1, 0, 0, 0, 0, 0, 0, 1, 0, 0, 1])] [(0, []), (1, [0, 0, 0, 0, 0, 0, 0, 0, 1, 1, 0, 0, 0, 0, 1]), (0, []), (0, []), (0, []), (0, []), (0, []), (0, []), (1, [0, 0, 0, 0, 0, 0, 0, 0, 0, 0, 1, 1, 0, 0, 0, 0, 0, 0, 0, 1]), (0, []), (0, []), (0, []), (0, []), (1, [0, 0, 0, 0, 0, 0, 0, 0, 0, 0, 1, 1, 0, 0, 0, 0, 0, 0, 0, 0, 0, 0, 0, 0, 1])] = true := by decide +kernel
theorem ck_6_2_2 : chk 6 2 2 [(0, 1, [1, 0, 0, 0, 0, 0, 1, 0, 0, 1]), (0, 1, [1, 0, 0, 0, 1, 0, 0, 0, 0, 1]), (0, 1, []), (1, 1, [0, 0, 0, 0, 0, 0, 0, 0, 0, 1]), (1, 1, []), (0, 1, [0, 0, 0, 0, 0, 0, 0, 0, 0, 0, 1]), (2, 1, [0, 0, 0, 0, 0, 0, 0, 0, 0, 1]), (2, 1, []), (2, 1, [1, 0, 0, 0, 0, 0, 0, 0, 1]), (3, 1, [0, 0, 0, 0, 0, 0, 0, 0, 0, 1]), (3, 1, []), (3, 1, [0, 0, 0, 0, 0, 0, 0, 0, 0, 0, 1]), (4, 1, []), (4, 1, [1, 0, 0, 0, 0, 0, 0, 0, 1]), (5, 1, [1, 0, 0, 0, 0, 0, 1, 0, 0, 1]), (5, 1, [1, 0, 0, 0, 1, 0, 0, 0, 0, 1]), (5, 1, []), (6, 1, [0, 0, 0, 0, 0, 0, 0, 0, 0, 1]), (6, 1, []), (5, 1, [1, 0, 0, 0, 0, 0, 0, 0, 1]), (6, 1, [0, 0, 0, 0, 0, 0, 0, 0, 0, 0, 1]), (5, 1, [1, 1, 0, 0, 0, 0, 0, 0, 0, 0, 1]), (8, 1, [0, 0, 0, 0, 0, 0, 0, 0, 0, 1]), (7, 1, []), (7, 1, [1, 0, 0, 0, 0, 0, 0, 0, 1]), (8, 1, []), (8, 1, [2, 0, 0, 1, 0, 0, 0, 0, 1]), (8, 1, [2, 1, 0, 0, 0, 0, 0, 0, 1]), (9, 1, [0, 0, 0, 0, 0, 0, 0, 0, 0, 1]), (9, 1, []), (9, 1, [0, 0, 0, 0, 0, 0, 0, 0, 0, 0, 1]), (10, 1, []), (10, 1, [1, 0, 0, 0, 0, 0, 0, 0, 1]), (11, 1, [0, 0, 0, 0, 0, 0, 0, 0, 0, 1]), (11, 1, []), (11, 1, [1, 0, 0, 0, 0, 0, 0, 0, 1]), (11, 1, [1, 1, 0, 0, 0, 0, 0, 0, 0, 0, 1]), (12, 1, []), (12, 1, [1, 0, 0, 0, 0, 0, 0, 0, 1]), (13, 1, []), (13, 1, [2, 0, 0, 1, 0, 0, 0, 0, 1]), (13, 1, [2, 1, 0, 0, 0, 0, 0, 0, 1])] [(0, []), (0, []), (0, []), (0, []), (0, []), (0, []), (0, []), (0, []), (0, []), (0, []), (0, []), (0, []), (0, []), (0, [])] = true := by decide +kernel
theorem ck_6_3_0 : chk 6 3 0 [(5, 1, [4, 0, 0, 0, 0, 1, 2, 0, 0, 0, 0, 1]), (0, 1, [3, 0, 0, 0, 0, 0, 0, 0, 0, 0, 0, 1, 1, 1]), (0, 1, [2, 0, 0, 0, 0, 0, 0, 0, 0, 0, 0, 1, 1]), (1, 1, [3, 0, 0, 0, 0, 0, 0, 0, 0, 0, 0, 1, 2]), (1, 1, [4, 0, 0, 0, 0, 0, 0, 0, 0, 1, 0, 1, 2]), (2, 1, [2, 0, 0, 0, 0, 0, 0, 0, 0, 0, 1, 2]), (2, 1, [2, 0, 0, 0, 0, 0, 0, 0, 0, 0, 0, 2]), (2, 1, [3, 0, 0, 0, 0, 0, 0, 0, 0, 1, 0, 2]), (1, 1, [1, 0, 0, 0, 0, 0, 0, 0, 0, 0, 0, 1]), (3, 1, [3, 0, 0, 0, 0, 0, 0, 0, 0, 0, 0, 2, 1]), (3, 1, [4, 0, 0, 0, 0, 0, 0, 0, 0, 1, 0, 2, 1]), (3, 1, [2, 0, 0, 0, 0, 0, 0, 0, 0, 0, 0, 2]), (4, 1, [5, 0, 0, 0, 0, 0, 0, 0, 0, 2, 0, 3]), (3, 1, [4, 0, 1, 0, 0, 0, 0, 0, 0, 1, 0, 2]), (5, 1, [1, 0, 0, 0, 0, 0, 0, 0, 0, 0, 1, 0, 0, 1]), (5, 1, [1, 0, 0, 0, 0, 0, 0, 0, 0, 0, 0, 0, 0, 1]), (5, 1, []), (6, 1, [1, 0, 0, 0, 0, 0, 0, 0, 0, 0, 0, 0, 1]), (6, 1, [2, 0, 0, 0, 0, 0, 0, 0, 0, 1, 0, 0, 1]), (5, 1, [1, 0, 0, 0, 0, 0, 0, 0, 1]), (6, 1, []), (7, 1, [0, 0, 0, 0, 0, 0, 0, 0, 0, 0, 1]), (6, 1, [1, 0, 0, 0, 0, 0, 0, 1]), (6, 1, [2, 0, 0, 0, 1, 0, 0, 0, 0, 1]), (6, 1, [2, 0, 1, 0, 0, 0, 0, 0, 0, 1]), (7, 1, [1, 0, 0, 0, 0, 0, 0, 0, 0, 1]), (3, 1, []), (3, 1, [1, 0, 0, 0, 0, 0, 0, 1]), (9, 1, [2, 0, 0, 0, 0, 0, 0, 0, 0, 0, 0, 1, 1]), (9, 1, [3, 0, 0, 0, 0, 0, 0, 0, 0, 1, 0, 1, 1]), (9, 1, [1, 0, 0, 0, 0, 0, 0, 0, 0, 0, 0, 1]), (10, 1, [4, 0, 0, 0, 0, 0, 0, 0, 0, 2, 0, 2]), (9, 1, [3, 0, 1, 0, 0, 0, 0, 0, 0, 1, 0, 1]), (11, 1, []), (11, 1, [1, 0, 0, 0, 0, 0, 0, 0, 0, 1]), (9, 1, []), (9, 1, [1, 0, 0, 0, 0, 0, 0, 1]), (9, 1, [3, 0, 0, 0, 2, 0, 0, 0, 0, 1]), (11, 1, [4, 0, 2, 0, 0, 0, 0, 0, 0, 2]), (12, 1, [2, 0, 0, 0, 0, 0, 0, 0, 0, 2]), (13, 1, [5, 0, 0, 0, 0, 0, 0, 0, 2, 3]), (10, 1, [3, 1, 1, 0, 0, 0, 0, 0, 0, 1])] [(3, [0, 0, 0, 0, 0, 0, 1, 0, 1, 1, 0, 0, 0, 0, 0, 0, 0, 0, 0, 1]), (6, [0, 0, 0, 0, 0, 0, 0, 1, 2, 2, 0, 1, 0, 0, 0, 0, 0, 0, 0, 1]), (3, [0, 0, 0, 0, 0, 0, 0, 1, 1, 1, 0, 0, 0, 0, 0, 0, 0, 0, 0, 1]), (0, []), (0, []), (0, []), (0, []), (0, []), (2, [0, 0, 0, 0, 0, 0, 0, 1, 0, 0, 0, 0, 1, 0, 0, 0, 0, 0, 0, 0, 1]), (0, []), (0, []), (0, []), (5, [0, 0, 0, 0, 0, 0, 0, 2, 1, 1, 0, 1, 0, 0, 0, 0, 0, 0, 0, 0, 0, 0, 0, 0, 0, 1]), (6, [0, 0, 0, 0, 0, 0, 0, 2, 1, 1, 0, 1, 1, 0, 0, 0, 0, 0, 0, 0, 0, 0, 0, 0, 0, 1])] = true := by decide +kernel
theorem ck_6_3_1 : chk 6 3 1 [(0, 1, [2, 0, 0, 0, 0, 0, 0, 0, 0, 0, 1, 1, 1]), (0, 1, [2, 0, 0, 0, 0, 0, 0, 0, 0, 0, 0, 1, 1]), (0, 1, [1, 0, 0, 0, 0, 0, 0, 0, 0, 0, 0, 1]), (1, 1, [2, 0, 0, 0, 0, 0, 0, 0, 0, 0, 0, 2]), (1, 1, [3, 0, 0, 0, 0, 0, 0, 0, 0, 1, 0, 2]), (2, 1, [0, 0, 0, 0, 0, 0, 0, 0, 0, 0, 1]), (2, 1, []), (2, 1, [1, 0, 0, 0, 0, 0, 0, 0, 0, 1]), (1, 1, []), (3, 1, [1, 0, 0, 0, 0, 0, 0, 0, 0, 0, 0, 1]), (3, 1, [2, 0, 0, 0, 0, 0, 0, 0, 0, 1, 0, 1]), (3, 1, []), (4, 1, [2, 0, 0, 0, 0, 0, 0, 0, 0, 2]), (3, 1, [2, 0, 1, 0, 0, 0, 0, 0, 0, 1]), (5, 1, [1, 0, 0, 0, 0, 0, 0, 0, 0, 0, 1, 0, 1]), (5, 1, [1, 0, 0, 0, 0, 0, 0, 0, 0, 0, 0, 0, 1]), (5, 1, []), (6, 1, [1, 0, 0, 0, 0, 0, 0, 0, 0, 0, 0, 1]), (6, 1, [2, 0, 0, 0, 0, 0, 0, 0, 0, 1, 0, 1]), (5, 1, [1, 0, 0, 0, 0, 0, 0, 0, 1]), (6, 1, []), (7, 1, [0, 0, 0, 0, 0, 0, 0, 0, 0, 0, 1, 0, 0, 1]), (6, 1, [1, 0, 0, 0, 0, 0, 0, 1]), (7, 1, [2, 0, 0, 0, 0, 0, 0, 0, 0, 2]), (6, 1, [2, 0, 1, 0, 0, 0, 0, 0, 0, 1]), (6, 1, [1, 0, 0, 0, 1, 0, 0, 0, 0, 0, 0, 0, 0, 1]), (3, 1, [0, 0, 0, 0, 0, 0, 0, 0, 0, 0, 0, 0, 0, 2]), (4, 1, [0, 0, 0, 0, 0, 0, 0, 0, 0, 0, 0, 0, 0, 3]), (9, 1, [1, 0, 0, 0, 0, 0, 0, 0, 0, 0, 0, 1]), (9, 1, [2, 0, 0, 0, 0, 0, 0, 0, 0, 1, 0, 1]), (9, 1, []), (10, 1, [2, 0, 0, 0, 0, 0, 0, 0, 0, 2]), (9, 1, [2, 0, 1, 0, 0, 0, 0, 0, 0, 1]), (11, 1, []), (11, 1, [1, 0, 0, 0, 0, 0, 0, 0, 0, 1]), (9, 1, [0, 0, 0, 0, 0, 0, 0, 0, 0, 0, 0, 0, 0, 1]), (10, 1, [0, 0, 0, 0, 0, 0, 0, 0, 0, 0, 0, 0, 0, 2]), (12, 1, [3, 0, 0, 0, 0, 0, 0, 0, 0, 3]), (11, 1, [4, 0, 2, 0, 0, 0, 0, 0, 0, 2]), (9, 1, [2, 0, 0, 0, 2, 0, 0, 0, 0, 0, 0, 0, 0, 2]), (13, 1, [5, 0, 0, 0, 0, 0, 0, 0, 2, 3]), (9, 1, [3, 1, 1, 0, 1, 0, 0, 0, 0, 0, 0, 0, 0, 2])] [(1, [0, 0, 0, 0, 0, 0, 0, 0, 0, 1, 1, 0, 0, 0, 0, 0, 1]), (0, []), (0, []), (0, []), (1, [0, 0, 0, 0, 0, 0, 0, 0, 0, 0, 0, 0, 1, 0, 0, 0, 0, 1]), (0, []), (0, []), (1, [0, 0, 0, 0, 0, 0, 0, 0, 0, 0, 0, 0, 1, 0, 0, 0, 0, 0, 0, 0, 1]), (2, [0, 0, 0, 0, 0, 0, 0, 1, 0, 0, 0, 1, 0, 0, 0, 0, 0, 0, 0, 0, 1]), (0, []), (1, [0, 0, 0, 0, 0, 0, 0, 0, 0, 0, 0, 0, 1, 0, 0, 0, 0, 0, 0, 0, 0, 0, 0, 1]), (0, []), (4, [0, 0, 0, 0, 0, 0, 0, 0, 1, 1, 0, 0, 2, 0, 0, 0, 0, 0, 0, 0, 0, 0, 0, 0, 0, 1]), (5, [0, 0, 0, 0, 0, 0, 0, 1, 1, 1, 0, 1, 1, 0, 0, 0, 0, 0, 0, 0, 0, 0, 0, 0, 0, 1])] = true := by decide +kernel
theorem ck_6_3_2 : chk 6 3 2 [(0, 1, [1, 0, 0, 0, 0, 0, 0, 0, 0, 0, 1, 1]), (0, 1, [1, 0, 0, 0, 0, 0, 0, 0, 0, 0, 0, 1]), (0, 1, []), (1, 1, []), (1, 1, [1, 0, 0, 0, 0, 0, 0, 0, 0, 1]), (2, 1, [0, 0, 0, 0, 0, 0, 0, 0, 0, 0, 1]), (2, 1, []), (2, 1, [1, 0, 0, 0, 0, 0, 0, 0, 0, 1]), (1, 1, [0, 0, 0, 0, 0, 0, 0, 0, 0, 0, 0, 0, 2]), (3, 1, []), (3, 1, [1, 0, 0, 0, 0, 0, 0, 0, 0, 1]), (3, 1, [0, 0, 0, 0, 0, 0, 0, 0, 0, 0, 0, 0, 1]), (4, 1, [2, 0, 0, 0, 0, 0, 0, 0, 0, 2]), (3, 1, [2, 0, 1, 0, 0, 0, 0, 0, 0, 1, 0, 0, 1]), (5, 1, [1, 0, 0, 0, 0, 0, 0, 0, 0, 0, 1, 1]), (5, 1, [1, 0, 0, 0, 0, 0, 0, 0, 0, 0, 0, 1]), (5, 1, []), (6, 1, []), (6, 1, [1, 0, 0, 0, 0, 0, 0, 0, 0, 1]), (5, 1, [1, 0, 0, 0, 0, 0, 0, 0, 1]), (6, 1, [0, 0, 0, 0, 0, 0, 0, 0, 0, 0, 0, 0, 1]), (8, 1, [0, 0, 0, 0, 0, 0, 0, 0, 0, 0, 1]), (8, 1, []), (7, 1, [2, 0, 0, 0, 0, 0, 0, 0, 0, 2]), (6, 1, [2, 0, 1, 0, 0, 0, 0, 0, 0, 1, 0, 0, 1]), (8, 1, [1, 0, 0, 0, 0, 0, 0, 0, 0, 1]), (8, 1, [2, 0, 0, 2, 0, 0, 0, 0, 0, 0, 0, 0, 1]), (6, 1, [2, 2, 0, 0, 0, 0, 0, 0, 0, 0, 0, 0, 2]), (9, 1, []), (9, 1, [1, 0, 0, 0, 0, 0, 0, 0, 0, 1]), (9, 1, [0, 0, 0, 0, 0, 0, 0, 0, 0, 0, 0, 0, 1]), (10, 1, [2, 0, 0, 0, 0, 0, 0, 0, 0, 2]), (9, 1, [2, 0, 1, 0, 0, 0, 0, 0, 0, 1, 0, 0, 1]), (11, 1, []), (11, 1, [1, 0, 0, 0, 0, 0, 0, 0, 0, 1]), (11, 1, [1, 0, 0, 1, 0, 0, 0, 0, 0, 0, 0, 0, 1]), (11, 1, [1, 1, 0, 0, 0, 0, 0, 0, 0, 0, 0, 0, 1]), (12, 1, [3, 0, 0, 0, 0, 0, 0, 0, 0, 3]), (11, 1, [4, 0, 2, 0, 0, 0, 0, 0, 0, 2]), (13, 1, [2, 0, 0, 0, 0, 0, 0, 0, 0, 2]), (9, 1, [3, 2, 0, 0, 0, 0, 0, 0, 0, 1, 0, 0, 2]), (9, 1, [4, 2, 0, 0, 0, 0, 0, 1, 0, 1, 0, 0, 2])] [(0, []), (0, []), (0, []), (0, []), (1, [0, 0, 0, 0, 0, 0, 0, 0, 0, 0, 0, 1, 1, 0, 0, 0, 1]), (0, []), (0, []), (1, [0, 0, 0, 0, 0, 0, 0, 0, 0, 0, 0, 1, 1, 0, 0, 0, 0, 0, 0, 1]), (0, []), (0, []), (1, [0, 0, 0, 0, 0, 0, 0, 0, 0, 0, 0, 1, 1, 0, 0, 0, 0, 0, 0, 0, 0, 0, 1]), (0, []), (4, [0, 0, 0, 0, 0, 0, 0, 0, 1, 1, 0, 2, 0, 0, 0, 0, 0, 0, 0, 0, 0, 0, 0, 0, 1]), (4, [0, 0, 0, 0, 0, 0, 0, 1, 1, 1, 0, 1, 0, 0, 0, 0, 0, 0, 0, 0, 0, 0, 0, 0, 1])] = true := by decide +kernel
theorem ck_6_3_3 : chk 6 3 3 [(0, 1, [0, 0, 0, 0, 0, 0, 0, 0, 0, 0, 1]), (0, 1, []), (0, 1, [0, 0, 0, 0, 0, 0, 0, 0, 0, 0, 0, 1]), (1, 1, []), (1, 1, [1, 0, 0, 0, 0, 0, 0, 0, 0, 1]), (2, 1, [0, 0, 0, 0, 0, 0, 0, 0, 0, 0, 1]), (2, 1, []), (2, 1, [1, 0, 0, 0, 0, 0, 0, 0, 0, 1]), (2, 1, [1, 0, 1, 0, 0, 0, 0, 0, 0, 0, 0, 1]), (3, 1, []), (3, 1, [1, 0, 0, 0, 0, 0, 0, 0, 0, 1]), (4, 1, []), (4, 1, [2, 0, 0, 0, 1, 0, 0, 0, 0, 1]), (4, 1, [2, 0, 1, 0, 0, 0, 0, 0, 0, 1]), (5, 1, [0, 0, 0, 0, 0, 0, 0, 0, 0, 0, 1]), (5, 1, []), (5, 1, [0, 0, 0, 0, 0, 0, 0, 0, 0, 0, 0, 1]), (6, 1, []), (6, 1, [1, 0, 0, 0, 0, 0, 0, 0, 0, 1]), (7, 1, [0, 0, 0, 0, 0, 0, 0, 0, 0, 0, 1]), (7, 1, []), (8, 1, [0, 0, 0, 0, 0, 0, 0, 0, 0, 0, 1]), (7, 1, [1, 0, 0, 0, 0, 0, 0, 1]), (7, 1, [2, 0, 0, 0, 1, 0, 0, 0, 0, 1]), (7, 1, [2, 0, 1, 0, 0, 0, 0, 0, 0, 1]), (8, 1, [1, 0, 0, 0, 0, 0, 0, 0, 0, 1]), (4, 1, [2, 0, 0, 0, 0, 0, 0, 2, 0, 0, 0, 2]), (4, 1, [3, 0, 0, 0, 0, 0, 0, 3, 0, 0, 0, 2]), (9, 1, []), (9, 1, [1, 0, 0, 0, 0, 0, 0, 0, 0, 1]), (10, 1, []), (10, 1, [2, 0, 0, 0, 1, 0, 0, 0, 0, 1]), (10, 1, [2, 0, 1, 0, 0, 0, 0, 0, 0, 1]), (11, 1, []), (11, 1, [1, 0, 0, 0, 0, 0, 0, 0, 0, 1]), (12, 1, []), (12, 1, [1, 0, 0, 0, 0, 0, 0, 1]), (12, 1, [3, 0, 0, 0, 2, 0, 0, 0, 0, 1]), (11, 1, [4, 0, 2, 0, 0, 0, 0, 0, 0, 2]), (10, 1, [4, 0, 0, 0, 0, 0, 0, 2, 0, 2]), (12, 1, [3, 1, 1, 0, 0, 0, 0, 0, 0, 1]), (13, 1, [3, 1, 1, 0, 0, 0, 0, 0, 0, 1])] [(0, []), (0, []), (0, []), (0, []), (0, []), (0, []), (0, []), (0, []), (0, []), (0, []), (0, []), (0, []), (0, []), (0, [])] = true := by decide +kernel
theorem ck_6_4_0 : chk 6 4 0 [(0, 1, [3, 0, 0, 0, 0, 0, 0, 0, 0, 0, 0, 1, 1, 1]), (5, 1, [4, 0, 0, 0, 2, 1, 0, 0, 0, 0, 0, 1]), (0, 1, [2, 0, 0, 0, 0, 0, 0, 0, 0, 0, 0, 1, 1]), (1, 1, [5, 0, 0, 0, 0, 0, 0, 0, 0, 0, 2, 1, 2]), (0, 1, [4, 0, 0, 1, 0, 0, 0, 0, 0, 0, 1, 1, 1]), (2, 1, [2, 0, 0, 0, 0, 0, 0, 0, 0, 0, 0, 2]), (2, 1, [3, 0, 0, 0, 0, 0, 0, 0, 0, 0, 1, 2]), (0, 1, [1, 0, 0, 0, 0, 0, 0, 0, 0, 0, 0, 1]), (1, 1, [1, 0, 0, 0, 0, 0, 0, 0, 0, 0, 0, 1]), (0, 1, [4, 0, 0, 0, 0, 2, 0, 0, 0, 0, 1, 1]), (2, 1, [6, 0, 0, 2, 0, 0, 0, 0, 0, 0, 2, 2]), (3, 1, [4, 0, 0, 0, 0, 0, 0, 0, 0, 0, 2, 2]), (4, 1, [8, 0, 0, 0, 0, 0, 0, 0, 0, 2, 3, 3]), (1, 1, [4, 0, 1, 1, 0, 0, 0, 0, 0, 0, 1, 1]), (5, 1, [1, 0, 0, 0, 0, 0, 0, 0, 0, 0, 0, 0, 0, 1]), (5, 1, [2, 0, 0, 0, 0, 0, 0, 0, 0, 0, 1, 0, 0, 1]), (5, 1, []), (5, 1, [2, 0, 0, 0, 0, 1, 0, 0, 0, 0, 1]), (5, 1, [2, 0, 0, 1, 0, 0, 0, 0, 0, 0, 1]), (5, 1, [1, 0, 0, 0, 0, 0, 0, 0, 1]), (6, 1, [1, 0, 0, 0, 0, 0, 0, 0, 0, 0, 1]), (6, 1, [1, 0, 0, 0, 0, 0, 0, 1]), (7, 1, [1, 0, 0, 0, 0, 0, 0, 0, 0, 0, 1]), (0, 1, []), (0, 1, [1, 0, 0, 0, 0, 0, 0, 0, 1]), (2, 1, []), (3, 1, []), (3, 1, [1, 0, 0, 0, 0, 0, 0, 1]), (0, 1, [4, 0, 0, 0, 0, 3, 0, 0, 0, 0, 1]), (0, 1, [4, 0, 0, 1, 0, 2, 0, 0, 0, 0, 1]), (1, 1, [3, 0, 0, 0, 0, 2, 0, 0, 0, 0, 1]), (5, 1, [6, 0, 2, 2, 0, 0, 0, 0, 0, 0, 2]), (6, 1, [6, 0, 2, 2, 0, 0, 0, 0, 0, 0, 2]), (11, 1, [3, 0, 0, 0, 0, 0, 0, 0, 0, 0, 3]), (3, 1, [3, 0, 0, 0, 0, 0, 0, 0, 0, 0, 2, 0, 1]), (9, 1, [2, 0, 0, 0, 0, 0, 0, 0, 0, 0, 2]), (10, 1, [2, 0, 0, 0, 0, 0, 0, 0, 0, 0, 2]), (3, 1, [4, 0, 0, 1, 2, 0, 0, 0, 0, 0, 1]), (2, 1, [5, 0, 2, 2, 0, 0, 0, 0, 0, 0, 1]), (1, 1, [3, 2, 0, 0, 0, 0, 0, 0, 0, 0, 1]), (4, 1, [4, 0, 1, 2, 0, 0, 0, 0, 0, 0, 1]), (0, 1, [6, 3, 0, 0, 0, 0, 0, 0, 2, 0, 1])] [(0, []), (0, []), (0, []), (0, []), (0, []), (0, []), (0, []), (0, []), (3, [0, 0, 0, 0, 0, 0, 0, 1, 1, 0, 0, 0, 1, 0, 0, 0, 0, 0, 0, 0, 1]), (11, [0, 0, 0, 0, 0, 0, 0, 1, 4, 2, 2, 0, 2, 0, 0, 0, 0, 0, 0, 0, 1]), (12, [0, 0, 0, 0, 0, 0, 0, 2, 4, 2, 2, 0, 2, 0, 0, 0, 0, 0, 0, 0, 1]), (8, [0, 0, 0, 0, 0, 0, 0, 1, 3, 1, 1, 0, 2, 0, 0, 0, 0, 0, 0, 0, 1]), (14, [0, 0, 0, 0, 0, 0, 0, 3, 4, 2, 2, 1, 2, 0, 0, 0, 0, 0, 0, 0, 1]), (15, [0, 0, 0, 0, 0, 0, 0, 3, 4, 2, 2, 1, 3, 0, 0, 0, 0, 0, 0, 0, 1])] = true := by decide +kernel
theorem ck_6_4_1 : chk 6 4 1 [(0, 1, [2, 0, 0, 0, 0, 0, 0, 0, 0, 0, 0, 1, 1]), (0, 1, [3, 0, 0, 0, 0, 0, 0, 0, 0, 0, 1, 1, 1]), (0, 1, [1, 0, 0, 0, 0, 0, 0, 0, 0, 0, 0, 1]), (1, 1, [4, 0, 0, 0, 0, 0, 0, 0, 0, 0, 2, 2]), (0, 1, [3, 0, 0, 1, 0, 0, 0, 0, 0, 0, 1, 1]), (2, 1, []), (2, 1, [1, 0, 0, 0, 0, 0, 0, 0, 0, 0, 1]), (0, 1, []), (0, 1, [1, 0, 0, 0, 0, 0, 0, 0, 1]), (0, 1, [3, 0, 0, 0, 0, 2, 0, 0, 0, 0, 1]), (2, 1, [4, 0, 0, 2, 0, 0, 0, 0, 0, 0, 2]), (3, 1, [2, 0, 0, 0, 0, 0, 0, 0, 0, 0, 2]), (4, 1, [5, 0, 0, 0, 0, 0, 0, 0, 0, 2, 3]), (1, 1, [3, 0, 1, 1, 0, 0, 0, 0, 0, 0, 1]), (5, 1, [1, 0, 0, 0, 0, 0, 0, 0, 0, 0, 0, 0, 1]), (5, 1, [2, 0, 0, 0, 0, 0, 0, 0, 0, 0, 1, 0, 1]), (5, 1, []), (5, 1, [2, 0, 0, 0, 0, 1, 0, 0, 0, 0, 1]), (5, 1, [2, 0, 0, 1, 0, 0, 0, 0, 0, 0, 1]), (5, 1, [1, 0, 0, 0, 0, 0, 0, 0, 1]), (6, 1, [1, 0, 0, 0, 0, 0, 0, 0, 0, 0, 1]), (6, 1, [1, 0, 0, 0, 0, 0, 0, 1]), (6, 1, [2, 0, 0, 0, 0, 0, 0, 1, 0, 0, 1]), (0, 1, [0, 0, 0, 0, 0, 0, 0, 0, 0, 0, 0, 0, 0, 0, 1]), (1, 1, [0, 0, 0, 0, 0, 0, 0, 0, 0, 0, 0, 0, 0, 0, 1]), (2, 1, [0, 0, 0, 0, 0, 0, 0, 0, 0, 0, 0, 0, 0, 0, 2]), (3, 1, [0, 0, 0, 0, 0, 0, 0, 0, 0, 0, 0, 0, 0, 0, 2]), (4, 1, [0, 0, 0, 0, 0, 0, 0, 0, 0, 0, 0, 0, 0, 0, 3]), (9, 1, [5, 0, 0, 0, 0, 0, 0, 0, 0, 0, 4, 1]), (7, 1, [6, 0, 0, 3, 0, 0, 0, 0, 0, 0, 3]), (9, 1, [3, 0, 0, 0, 0, 0, 0, 0, 0, 0, 3]), (10, 1, [6, 0, 0, 0, 0, 0, 0, 0, 0, 2, 4]), (6, 1, [6, 0, 2, 2, 0, 0, 0, 0, 0, 0, 2]), (11, 1, [3, 0, 0, 0, 0, 0, 0, 0, 0, 0, 3]), (0, 1, [2, 0, 0, 0, 0, 2, 0, 0, 0, 0, 0, 0, 0, 0, 2]), (1, 1, [2, 0, 0, 0, 0, 2, 0, 0, 0, 0, 0, 0, 0, 0, 2]), (10, 1, [2, 0, 0, 0, 0, 0, 0, 0, 0, 0, 2, 0, 0, 0, 2]), (12, 1, [7, 0, 0, 0, 0, 0, 0, 0, 0, 3, 4]), (11, 1, [7, 0, 2, 0, 0, 0, 0, 0, 0, 2, 3]), (1, 1, [3, 2, 0, 0, 0, 0, 0, 0, 0, 0, 1, 0, 0, 0, 1]), (13, 1, [9, 0, 0, 0, 0, 0, 0, 0, 2, 3, 4]), (1, 1, [4, 2, 1, 0, 0, 1, 0, 0, 0, 0, 0, 0, 0, 0, 2])] [(0, []), (0, []), (0, []), (5, [0, 0, 0, 0, 0, 0, 0, 0, 2, 1, 1, 1, 0, 0, 0, 0, 0, 1]), (6, [0, 0, 0, 0, 0, 0, 0, 0, 2, 1, 1, 1, 1, 0, 0, 0, 0, 1]), (0, []), (0, []), (2, [0, 0, 0, 0, 0, 0, 0, 0, 1, 0, 0, 0, 1, 0, 0, 0, 0, 0, 0, 0, 1]), (3, [0, 0, 0, 0, 0, 0, 0, 1, 1, 0, 0, 1, 0, 0, 0, 0, 0, 0, 0, 0, 1]), (11, [0, 0, 0, 0, 0, 0, 0, 0, 4, 2, 2, 2, 1, 0, 0, 0, 0, 0, 0, 0, 1]), (12, [0, 0, 0, 0, 0, 0, 0, 0, 4, 2, 2, 2, 2, 0, 0, 0, 0, 0, 0, 0, 1]), (8, [0, 0, 0, 0, 0, 0, 0, 1, 3, 1, 1, 2, 0, 0, 0, 0, 0, 0, 0, 0, 1]), (13, [0, 0, 0, 0, 0, 0, 0, 1, 4, 2, 2, 2, 2, 0, 0, 0, 0, 0, 0, 0, 1]), (14, [0, 0, 0, 0, 0, 0, 0, 2, 4, 2, 2, 3, 1, 0, 0, 0, 0, 0, 0, 0, 1])] = true := by decide +kernel
theorem ck_6_4_2 : chk 6 4 2 [(0, 1, [1, 0, 0, 0, 0, 0, 0, 0, 0, 0, 0, 1]), (0, 1, [2, 0, 0, 0, 0, 0, 0, 0, 0, 0, 1, 1]), (0, 1, []), (1, 1, [2, 0, 0, 0, 0, 0, 0, 0, 0, 0, 2]), (0, 1, [2, 0, 0, 1, 0, 0, 0, 0, 0, 0, 1]), (2, 1, []), (2, 1, [1, 0, 0, 0, 0, 0, 0, 0, 0, 0, 1]), (0, 1, [0, 0, 0, 0, 0, 0, 0, 0, 0, 0, 0, 0, 0, 1]), (1, 1, [0, 0, 0, 0, 0, 0, 0, 0, 0, 0, 0, 0, 0, 2]), (3, 1, [3, 0, 0, 0, 0, 0, 0, 0, 0, 0, 3]), (2, 1, [4, 0, 0, 2, 0, 0, 0, 0, 0, 0, 2]), (0, 1, [2, 0, 0, 0, 0, 2, 0, 0, 0, 0, 0, 0, 0, 2]), (4, 1, [5, 0, 0, 0, 0, 0, 0, 0, 0, 2, 3]), (0, 1, [3, 0, 1, 1, 0, 1, 0, 0, 0, 0, 0, 0, 0, 2]), (5, 1, [1, 0, 0, 0, 0, 0, 0, 0, 0, 0, 0, 1]), (5, 1, [2, 0, 0, 0, 0, 0, 0, 0, 0, 0, 1, 1]), (5, 1, []), (6, 1, [2, 0, 0, 0, 0, 0, 0, 0, 0, 0, 2]), (5, 1, [2, 0, 0, 1, 0, 0, 0, 0, 0, 0, 1]), (5, 1, [1, 0, 0, 0, 0, 0, 0, 0, 1]), (5, 1, [1, 0, 0, 0, 0, 1, 0, 0, 0, 0, 0, 0, 0, 1]), (8, 1, []), (8, 1, [1, 0, 0, 0, 0, 0, 0, 0, 0, 0, 1]), (7, 1, [4, 0, 0, 0, 0, 0, 0, 0, 0, 2, 2]), (5, 1, [2, 0, 1, 1, 0, 0, 0, 0, 0, 0, 0, 0, 0, 1]), (5, 1, [1, 1, 0, 0, 0, 0, 0, 0, 0, 0, 0, 0, 0, 1]), (8, 1, [2, 0, 0, 2, 0, 0, 0, 0, 0, 0, 0, 0, 0, 1]), (6, 1, [2, 2, 0, 0, 0, 0, 0, 0, 0, 0, 0, 0, 0, 2]), (9, 1, [4, 0, 0, 0, 0, 0, 0, 0, 0, 0, 4]), (7, 1, [6, 0, 0, 3, 0, 0, 0, 0, 0, 0, 3]), (9, 1, [3, 0, 0, 0, 0, 0, 0, 0, 0, 0, 3, 0, 0, 1]), (10, 1, [6, 0, 0, 0, 0, 0, 0, 0, 0, 2, 4]), (0, 1, [4, 1, 0, 1, 0, 2, 0, 0, 0, 0, 0, 0, 0, 3]), (11, 1, [3, 0, 0, 0, 0, 0, 0, 0, 0, 0, 3]), (8, 1, [4, 0, 0, 2, 0, 0, 0, 0, 0, 0, 2]), (11, 1, [3, 0, 0, 1, 0, 0, 0, 0, 0, 0, 2, 0, 0, 1]), (5, 1, [4, 2, 0, 0, 0, 2, 0, 0, 0, 0, 0, 0, 0, 2]), (12, 1, [7, 0, 0, 0, 0, 0, 0, 0, 0, 3, 4]), (0, 1, [4, 2, 0, 1, 0, 1, 0, 0, 0, 0, 0, 0, 0, 3]), (13, 1, [5, 0, 0, 0, 0, 0, 0, 0, 0, 2, 3]), (7, 1, [6, 2, 0, 3, 0, 0, 0, 0, 0, 0, 1, 0, 0, 2]), (7, 1, [6, 3, 0, 2, 0, 0, 0, 0, 0, 0, 1, 0, 0, 2])] [(0, []), (1, [0, 0, 0, 0, 0, 0, 0, 0, 0, 0, 0, 0, 1, 0, 1]), (0, []), (4, [0, 0, 0, 0, 0, 0, 0, 0, 0, 1, 1, 0, 2, 0, 0, 0, 1]), (5, [0, 0, 0, 0, 0, 0, 0, 0, 1, 1, 1, 1, 1, 0, 0, 0, 1]), (0, []), (1, [0, 0, 0, 0, 0, 0, 0, 0, 0, 0, 0, 0, 1, 0, 0, 0, 0, 0, 0, 1]), (2, [0, 0, 0, 0, 0, 0, 0, 0, 1, 0, 0, 1, 0, 0, 0, 0, 0, 0, 0, 1]), (0, []), (9, [0, 0, 0, 0, 0, 0, 0, 0, 1, 2, 2, 1, 3, 0, 0, 0, 0, 0, 0, 1]), (10, [0, 0, 0, 0, 0, 0, 0, 0, 2, 2, 2, 2, 2, 0, 0, 0, 0, 0, 0, 1]), (6, [0, 0, 0, 0, 0, 0, 0, 1, 1, 1, 1, 0, 2, 0, 0, 0, 0, 0, 0, 1]), (11, [0, 0, 0, 0, 0, 0, 0, 1, 2, 2, 2, 2, 2, 0, 0, 0, 0, 0, 0, 1]), (11, [0, 0, 0, 0, 0, 0, 0, 2, 2, 2, 2, 1, 2, 0, 0, 0, 0, 0, 0, 1])] = true := by decide +kernel
theorem ck_6_4_3 : chk 6 4 3 [(0, 1, []), (0, 1, [1, 0, 0, 0, 0, 0, 0, 0, 0, 0, 1]), (0, 1, [0, 0, 0, 0, 0, 0, 0, 0, 0, 0, 0, 0, 1]), (1, 1, [2, 0, 0, 0, 0, 0, 0, 0, 0, 0, 2]), (0, 1, [2, 0, 0, 1, 0, 0, 0, 0, 0, 0, 1, 0, 1]), (2, 1, []), (2, 1, [1, 0, 0, 0, 0, 0, 0, 0, 0, 0, 1]), (2, 1, [1, 0, 0, 0, 1, 0, 0, 0, 0, 0, 0, 0, 1]), (2, 1, [1, 0, 1, 0, 0, 0, 0, 0, 0, 0, 0, 0, 1]), (3, 1, [3, 0, 0, 0, 0, 0, 0, 0, 0, 0, 3]), (2, 1, [4, 0, 0, 2, 0, 0, 0, 0, 0, 0, 2]), (4, 1, [2, 0, 0, 0, 0, 0, 0, 0, 0, 0, 2]), (0, 1, [3, 0, 2, 0, 0, 0, 0, 0, 0, 0, 1, 0, 2]), (0, 1, [4, 0, 2, 0, 0, 0, 0, 0, 1, 0, 1, 0, 2]), (5, 1, []), (5, 1, [1, 0, 0, 0, 0, 0, 0, 0, 0, 0, 1]), (5, 1, [0, 0, 0, 0, 0, 0, 0, 0, 0, 0, 0, 0, 1]), (6, 1, [2, 0, 0, 0, 0, 0, 0, 0, 0, 0, 2]), (5, 1, [2, 0, 0, 1, 0, 0, 0, 0, 0, 0, 1, 0, 1]), (7, 1, []), (7, 1, [1, 0, 0, 0, 0, 0, 0, 0, 0, 0, 1]), (7, 1, [1, 0, 0, 0, 0, 0, 0, 1]), (8, 1, [1, 0, 0, 0, 0, 0, 0, 0, 0, 0, 1]), (7, 1, [2, 0, 0, 0, 2, 0, 0, 0, 0, 0, 0, 0, 1]), (5, 1, [2, 0, 2, 0, 0, 0, 0, 0, 0, 0, 0, 0, 2]), (2, 1, [2, 0, 0, 0, 0, 0, 0, 2, 0, 0, 0, 0, 2]), (4, 1, [2, 0, 0, 0, 0, 0, 0, 2, 0, 0, 0, 0, 2]), (4, 1, [3, 0, 0, 0, 0, 0, 0, 3, 0, 0, 0, 0, 2]), (9, 1, [4, 0, 0, 0, 0, 0, 0, 0, 0, 0, 4]), (3, 1, [4, 1, 0, 0, 0, 0, 0, 0, 0, 0, 3, 0, 1]), (10, 1, [3, 0, 0, 0, 0, 0, 0, 0, 0, 0, 3]), (10, 1, [4, 0, 0, 0, 2, 0, 0, 0, 0, 0, 2, 0, 1]), (7, 1, [6, 0, 2, 2, 0, 0, 0, 0, 0, 0, 2]), (11, 1, [3, 0, 0, 0, 0, 0, 0, 0, 0, 0, 3]), (8, 1, [4, 0, 0, 2, 0, 0, 0, 0, 0, 0, 2]), (12, 1, [2, 0, 0, 0, 0, 0, 0, 0, 0, 0, 2]), (13, 1, [2, 0, 0, 0, 0, 0, 0, 0, 0, 0, 2]), (12, 1, [4, 0, 0, 0, 3, 0, 0, 0, 0, 0, 1, 0, 1]), (1, 1, [6, 0, 3, 0, 0, 0, 0, 2, 0, 0, 1, 0, 3]), (13, 1, [3, 0, 0, 0, 2, 0, 0, 0, 0, 0, 1, 0, 1]), (5, 1, [6, 2, 3, 0, 0, 1, 0, 0, 0, 0, 0, 0, 3]), (7, 1, [6, 3, 2, 0, 0, 0, 0, 0, 0, 0, 1, 0, 1])] [(0, []), (1, [0, 0, 0, 0, 0, 0, 0, 0, 0, 0, 0, 1, 1, 1]), (0, []), (4, [0, 0, 0, 0, 0, 0, 0, 0, 0, 1, 1, 2, 0, 0, 0, 1]), (4, [0, 0, 0, 0, 0, 0, 0, 0, 1, 1, 1, 1, 0, 0, 0, 1]), (0, []), (1, [0, 0, 0, 0, 0, 0, 0, 0, 0, 0, 0, 1, 1, 0, 0, 0, 0, 0, 1]), (0, []), (0, []), (8, [0, 0, 0, 0, 0, 0, 0, 0, 1, 2, 2, 3, 0, 0, 0, 0, 0, 0, 1]), (8, [0, 0, 0, 0, 0, 0, 0, 0, 2, 2, 2, 2, 0, 0, 0, 0, 0, 0, 1]), (5, [0, 0, 0, 0, 0, 0, 0, 1, 0, 1, 1, 2, 0, 0, 0, 0, 0, 0, 0, 0, 1]), (8, [0, 0, 0, 0, 0, 0, 0, 1, 1, 2, 2, 2, 0, 0, 0, 0, 0, 0, 0, 0, 1]), (9, [0, 0, 0, 0, 0, 0, 0, 2, 1, 2, 2, 2, 0, 0, 0, 0, 0, 0, 0, 0, 1])] = true := by decide +kernel
theorem ck_6_4_4 : chk 6 4 4 [(0, 1, []), (0, 1, [1, 0, 0, 0, 0, 0, 0, 0, 0, 0, 1]), (1, 1, []), (1, 1, [2, 0, 0, 0, 0, 1, 0, 0, 0, 0, 1]), (1, 1, [2, 0, 0, 1, 0, 0, 0, 0, 0, 0, 1]), (2, 1, []), (2, 1, [1, 0, 0, 0, 0, 0, 0, 0, 0, 0, 1]), (3, 1, []), (3, 1, [1, 0, 0, 0, 0, 0, 0, 0, 1]), (3, 1, [3, 0, 0, 0, 0, 2, 0, 0, 0, 0, 1]), (2, 1, [4, 0, 0, 2, 0, 0, 0, 0, 0, 0, 2]), (1, 1, [4, 0, 0, 0, 0, 0, 0, 0, 2, 0, 2]), (3, 1, [3, 0, 1, 1, 0, 0, 0, 0, 0, 0, 1]), (4, 1, [3, 0, 1, 1, 0, 0, 0, 0, 0, 0, 1]), (5, 1, []), (5, 1, [1, 0, 0, 0, 0, 0, 0, 0, 0, 0, 1]), (6, 1, []), (6, 1, [2, 0, 0, 0, 0, 1, 0, 0, 0, 0, 1]), (6, 1, [2, 0, 0, 1, 0, 0, 0, 0, 0, 0, 1]), (6, 1, [1, 0, 0, 0, 0, 0, 0, 0, 1]), (7, 1, [1, 0, 0, 0, 0, 0, 0, 0, 0, 0, 1]), (7, 1, [1, 0, 0, 0, 0, 0, 0, 1]), (8, 1, [1, 0, 0, 0, 0, 0, 0, 0, 0, 0, 1]), (9, 1, []), (9, 1, [1, 0, 0, 0, 0, 0, 0, 0, 1]), (11, 1, []), (12, 1, []), (12, 1, [1, 0, 0, 0, 0, 0, 0, 1]), (9, 1, [4, 0, 0, 0, 0, 3, 0, 0, 0, 0, 1]), (5, 1, [7, 0, 0, 3, 0, 0, 0, 0, 1, 0, 3]), (10, 1, [3, 0, 0, 0, 0, 2, 0, 0, 0, 0, 1]), (4, 1, [4, 1, 0, 1, 0, 0, 0, 0, 0, 0, 2]), (7, 1, [6, 0, 2, 2, 0, 0, 0, 0, 0, 0, 2]), (11, 1, [3, 0, 0, 0, 0, 2, 0, 0, 0, 0, 1]), (8, 1, [4, 0, 0, 2, 0, 0, 0, 0, 0, 0, 2]), (12, 1, [2, 0, 0, 0, 0, 1, 0, 0, 0, 0, 1]), (13, 1, [2, 0, 0, 0, 0, 1, 0, 0, 0, 0, 1]), (12, 1, [4, 0, 0, 1, 2, 0, 0, 0, 0, 0, 1]), (11, 1, [5, 0, 2, 2, 0, 0, 0, 0, 0, 0, 1]), (10, 1, [3, 2, 0, 0, 0, 0, 0, 0, 0, 0, 1]), (13, 1, [4, 0, 1, 2, 0, 0, 0, 0, 0, 0, 1]), (9, 1, [6, 3, 0, 0, 0, 0, 0, 0, 2, 0, 1])] [(0, []), (0, []), (0, []), (0, []), (0, []), (0, []), (0, []), (0, []), (0, []), (0, []), (0, []), (0, []), (0, []), (0, [])] = true := by decide +kernel
def cells : List (Nat × Nat × Nat) := [(2, 0, 0), (3, 0, 0), (3, 1, 0), (3, 1, 1), (4, 0, 0), (4, 1, 0), (4, 1, 1), (4, 2, 0), (4, 2, 1), (4, 2, 2), (5, 0, 0), (5, 1, 0), (5, 1, 1), (5, 2, 0), (5, 2, 1), (5, 2, 2), (5, 3, 0), (5, 3, 1), (5, 3, 2), (5, 3, 3), (6, 0, 0), (6, 1, 0), (6, 1, 1), (6, 2, 0), (6, 2, 1), (6, 2, 2), (6, 3, 0), (6, 3, 1), (6, 3, 2), (6, 3, 3), (6, 4, 0), (6, 4, 1), (6, 4, 2), (6, 4, 3), (6, 4, 4)]
theorem cells_ok : ∀ c ∈ cells, ∃ b i, chk c.1 c.2.1 c.2.2 b i = true :=
  allC ⟨_, _, ck_2_0_0⟩ (allC ⟨_, _, ck_3_0_0⟩ (allC ⟨_, _, ck_3_1_0⟩ (allC ⟨_, _, ck_3_1_1⟩ (allC ⟨_, _, ck_4_0_0⟩ (allC ⟨_, _, ck_4_1_0⟩ (allC ⟨_, _, ck_4_1_1⟩ (allC ⟨_, _, ck_4_2_0⟩ (allC ⟨_, _, ck_4_2_1⟩ (allC ⟨_, _, ck_4_2_2⟩ (allC ⟨_, _, ck_5_0_0⟩ (allC ⟨_, _, ck_5_1_0⟩ (allC ⟨_, _, ck_5_1_1⟩ (allC ⟨_, _, ck_5_2_0⟩ (allC ⟨_, _, ck_5_2_1⟩ (allC ⟨_, _, ck_5_2_2⟩ (allC ⟨_, _, ck_5_3_0⟩ (allC ⟨_, _, ck_5_3_1⟩ (allC ⟨_, _, ck_5_3_2⟩ (allC ⟨_, _, ck_5_3_3⟩ (allC ⟨_, _, ck_6_0_0⟩ (allC ⟨_, _, ck_6_1_0⟩ (allC ⟨_, _, ck_6_1_1⟩ (allC ⟨_, _, ck_6_2_0⟩ (allC ⟨_, _, ck_6_2_1⟩ (allC ⟨_, _, ck_6_2_2⟩ (allC ⟨_, _, ck_6_3_0⟩ (allC ⟨_, _, ck_6_3_1⟩ (allC ⟨_, _, ck_6_3_2⟩ (allC ⟨_, _, ck_6_3_3⟩ (allC ⟨_, _, ck_6_4_0⟩ (allC ⟨_, _, ck_6_4_1⟩ (allC ⟨_, _, ck_6_4_2⟩ (allC ⟨_, _, ck_6_4_3⟩ (allC ⟨_, _, ck_6_4_4⟩ (List.forall_mem_nil _)))))))))))))))))))))))))))))))))))
theorem chk_all {n k j : Nat} (h2 : 2 ≤ n) (h6 : n ≤ 6) (hk : k + 2 ≤ n) (hj : j ≤ k) : ∃ b i, chk n k j b i = true := by
  have key : ∀ n ∈ List.range 7, ∀ k ∈ List.range 7, ∀ j ∈ List.range 7, (2 ≤ n ∧ k + 2 ≤ n ∧ j ≤ k) → (n, k, j) ∈ cells := by decide +kernel
  have h1 : k < 7 := Nat.lt_of_le_of_lt (Nat.le_of_add_right_le hk) (Nat.lt_succ_of_le h6)
  exact cells_ok _ (key n (List.mem_range.mpr (Nat.lt_succ_of_le h6)) k (List.mem_range.mpr h1) j (List.mem_range.mpr (Nat.lt_of_le_of_lt hj h1)) ⟨h2, hk, hj⟩)
theorem gw_opt {n k j : Nat} {w : List Int} (h2 : 2 ≤ n) (h6 : n ≤ 6) (hk : k + 2 ≤ n) (hj : j ≤ k) (h : Dec n k j w) {D : List Int} (hD : D ∈ trF 6 (n - 1)) (hm : ∀ T ∈ trF 6 (n - 1), lin (lift k j D) w ≤ lin (lift k j T) w) :
    lift k j D ∈ trF 6 n ∧ ∀ T ∈ trF 6 n, lin (lift k j D) w ≤ lin T w := by
  obtain ⟨b, i, hc⟩ := chk_all h2 h6 hk hj
  simp only [chk, Bool.and_eq_true] at hc
  refine ⟨chkI_ok h _ _ hc.2 D hD hm, fun T hT => ?_⟩
  obtain ⟨T', hT', hle⟩ := chkB_ok h _ _ hc.1 T hT
  exact Int.le_trans (hm T' hT') hle
/-! one step of the row -/
theorem drop_app {α : Type} (A B : List α) (n : Nat) (h : A.length = n) : (A ++ B).drop n = B := by subst h; simp
theorem take_app {α : Type} (A B : List α) (n : Nat) (h : A.length = n) : (A ++ B).take n = A := by subst h; simp
theorem getD_app {α : Type} (A B : List α) (x d : α) (n : Nat) (h : A.length = n) : (A ++ x :: B).getD n d = x := by subst h; simp
theorem lift_lin {k j : Nat} {D X : List Int} (hD : D.length + 1 = X.length) (hk : k + 2 ≤ X.length) (hj : j ≤ k) :
    lin (lift k j D) X = lin D ((X.take k ++ X.drop (k + 2)).take j ++ [X.getD k 0 + X.getD (k + 1) 0] ++ (X.take k ++ X.drop (k + 2)).drop j) + (X.getD k 0 + X.getD (k + 1) 0) := by
  obtain ⟨A, B', hX, hA⟩ : ∃ A B', X = A ++ B' ∧ A.length = k := ⟨X.take k, X.drop k, (List.take_append_drop k X).symm, by rw [List.length_take]; omega⟩
  obtain ⟨x, y, B, rfl⟩ : ∃ x y B, B' = x :: y :: B := by
    subst hX
    rw [List.length_append] at hk
    match B', hk with
    | x :: y :: B, _ => exact ⟨x, y, B, rfl⟩
    | [_], hk => simp at hk; omega
    | [], hk => simp at hk; omega
  obtain ⟨A1, A2, rfl, hA1⟩ : ∃ A1 A2, A = A1 ++ A2 ∧ A1.length = j := ⟨A.take j, A.drop j, (List.take_append_drop j A).symm, by rw [List.length_take]; omega⟩
  subst hX
  simp only [List.length_append, List.length_cons] at hD hk hA
  obtain ⟨E1, R, rfl, hE1⟩ : ∃ E1 R, D = E1 ++ R ∧ E1.length = j := ⟨D.take j, D.drop j, (List.take_append_drop j D).symm, by rw [List.length_take]; omega⟩
  obtain ⟨d, R', rfl⟩ : ∃ d R', R = d :: R' := by
    cases R with
    | nil => simp at hD; omega
    | cons d R => exact ⟨d, R, rfl⟩
  simp only [List.length_append, List.length_cons] at hD
  obtain ⟨E2, EB, rfl, hE2⟩ : ∃ E2 EB, R' = E2 ++ EB ∧ E2.length = A2.length := ⟨R'.take A2.length, R'.drop A2.length, (List.take_append_drop _ R').symm, by rw [List.length_take]; omega⟩
  simp only [List.length_append] at hD
  have e1 : (E1 ++ d :: (E2 ++ EB)).take j = E1 := take_app _ _ _ hE1
  have e2 : (E1 ++ d :: (E2 ++ EB)).drop (j + 1) = E2 ++ EB := by
    rw [show E1 ++ d :: (E2 ++ EB) = (E1 ++ [d]) ++ (E2 ++ EB) by simp]
    exact drop_app _ _ _ (by simp [hE1])
  have e3 : (E1 ++ d :: (E2 ++ EB)).getD j 0 = d := getD_app _ _ _ _ _ hE1
  have f1 : (A1 ++ A2 ++ x :: y :: B).take k = A1 ++ A2 := take_app _ _ _ (by simp; omega)
  have f2 : (A1 ++ A2 ++ x :: y :: B).drop (k + 2) = B := by
    rw [show A1 ++ A2 ++ x :: y :: B = (A1 ++ A2 ++ [x, y]) ++ B by simp]
    exact drop_app _ _ _ (by simp; omega)
  have f3 : (A1 ++ A2 ++ x :: y :: B).getD k 0 = x := getD_app _ _ _ _ _ (by simp; omega)
  have f4 : (A1 ++ A2 ++ x :: y :: B).getD (k + 1) 0 = y := by
    rw [show A1 ++ A2 ++ x :: y :: B = (A1 ++ A2 ++ [x]) ++ y :: B by simp]
    exact getD_app _ _ _ _ _ (by simp; omega)
  have g1 : (E1 ++ (E2 ++ EB)).take k = E1 ++ E2 := by rw [← List.append_assoc]; exact take_app _ _ _ (by simp; omega)
  have g2 : (E1 ++ (E2 ++ EB)).drop k = EB := by rw [← List.append_assoc]; exact drop_app _ _ _ (by simp; omega)
  have g3 : (A1 ++ A2 ++ B).take j = A1 := by rw [List.append_assoc]; exact take_app _ _ _ hA1
  have g4 : (A1 ++ A2 ++ B).drop j = A2 ++ B := by rw [List.append_assoc]; exact drop_app _ _ _ hA1
  rw [lift, e1, e2, e3, g1, g2, f1, f2, f3, f4, g3, g4]
  rw [show E1 ++ E2 ++ [d + 1, d + 1] ++ EB = E1 ++ (E2 ++ ((d + 1) :: (d + 1) :: EB)) by simp, show A1 ++ A2 ++ x :: y :: B = A1 ++ (A2 ++ (x :: y :: B)) by simp,
    show A1 ++ [x + y] ++ (A2 ++ B) = A1 ++ ((x + y) :: (A2 ++ B)) by simp]
  rw [lin_append _ _ (by omega), lin_append _ _ (by omega), lin_append _ _ (by omega)]
  simp only [lin]
  rw [lin_append _ _ hE2]
  simp only [Int.add_mul, Int.mul_add]
  omega
theorem map_step {α : Type} (f : α → Int) (line : List α) (it : α) (k j : Nat) (x y : Int) (h : f it = x + y) :
    ((line.take k ++ line.drop (k + 2)).take j ++ [it] ++ (line.take k ++ line.drop (k + 2)).drop j).map f = ((((line.map f).take k ++ (line.map f).drop (k + 2)).take j ++ [x + y] ++ ((line.map f).take k ++ (line.map f).drop (k + 2)).drop j)) := by
  simp [h, List.map_take, List.map_drop]
/-! which place -/
theorem findK_ok (line : Ln6) : ∀ n k, line.length ≤ k + n + 1 → k + 2 ≤ line.length → k ≤ findK line n k ∧ findK line n k + 2 ≤ line.length ∧ (∀ i, k ≤ i → i < findK line n k → wAt line (i + 2) < wAt line i) ∧ (findK line n k + 2 < line.length → wAt line (findK line n k) ≤ wAt line (findK line n k + 2))
  | 0, k, h, h2 => by omega
  | n + 1, k, h, h2 => by
    rw [findK]
    split
    · rename_i hc
      obtain ⟨a, b, c, d⟩ := findK_ok line n (k + 1) (by omega) (by omega)
      refine ⟨by omega, b, fun i hi hi2 => ?_, d⟩
      by_cases e : i = k
      · subst e; omega
      · exact c i (by omega) hi2
    · refine ⟨Nat.le_refl _, h2, fun i hi hi2 => by omega, fun h3 => ?_⟩
      rename_i hc
      by_cases e : wAt line k ≤ wAt line (k + 2)
      · exact e
      · exact absurd ⟨h3, e⟩ hc
theorem backK_ok (line : Ln6) (x : Int) : ∀ k, backK line x k ≤ k ∧ (∀ i, i < k → backK line x k ≤ i → wAt line i < x) ∧ (0 < backK line x k → x ≤ wAt line (backK line x k - 1))
  | 0 => ⟨Nat.le_refl _, fun i hi => by omega, fun h => absurd h (by simp [backK])⟩
  | k + 1 => by
    rw [backK]
    split
    · rename_i hc
      obtain ⟨a, b, c⟩ := backK_ok line x k
      refine ⟨by omega, fun i hi hi2 => ?_, c⟩
      by_cases e : i = k
      · subst e; exact hc
      · exact b i (by omega) hi2
    · rename_i hc
      refine ⟨Nat.le_refl _, fun i hi hi2 => by omega, fun _ => ?_⟩
      rw [show k + 1 - 1 = k by omega]
      omega
theorem wAt_map (line : Ln6) (k : Nat) : (line.map Prod.fst).getD k 0 = wAt line k := by
  simp only [wAt, List.getD_eq_getElem?_getD, List.getElem?_map]
  cases line[k]? <;> rfl
def cntE (e : Nat) (it : Int × List Int) : Int := (it.2.count (e : Int) : Nat)
theorem cnt_map (line : Ln6) (e k : Nat) : (line.map (cntE e)).getD k 0 = ((eAt line k).count (e : Int) : Nat) := by
  simp only [eAt, List.getD_eq_getElem?_getD, List.getElem?_map]
  cases line[k]? <;> rfl
theorem bumps_at : ∀ (es ds : List Int) (e : Nat), (∀ x ∈ es, 0 ≤ x) → e < ds.length → (es.foldl bump1 ds).length = ds.length ∧ (es.foldl bump1 ds).getD e 0 = ds.getD e 0 + (es.count (e : Int) : Nat)
  | [], ds, e, _, _ => by simp
  | x :: es, ds, e, h, he => by
    have hx := h x (.head _)
    have hl : (bump1 ds x).length = ds.length := by simp [bump1]
    obtain ⟨a, b⟩ := bumps_at es (bump1 ds x) e (fun y hy => h y (.tail _ hy)) (by rw [hl]; exact he)
    refine ⟨by rw [List.foldl_cons, a, hl], ?_⟩
    rw [List.foldl_cons, b, List.count_cons]
    simp only [bump1, List.getD_eq_getElem?_getD, List.getElem?_set]
    by_cases hxe : x.toNat = e
    · rw [if_pos hxe, if_pos (by omega)]
      have : x = (e : Int) := by omega
      subst this
      simp
      omega
    · rw [if_neg hxe]
      have : ¬ x = (e : Int) := by omega
      simp [this]
theorem trF_len : ∀ n ≤ 6, ∀ D ∈ trF 6 n, 1 ≤ n → D.length = n := by decide +kernel
theorem gw_run : ∀ (n : Nat) (line : Ln6) (ds : List Int), n + 1 ≤ 6 → line.length = n + 1 → (∀ it ∈ line, 0 < it.1) → (∀ it ∈ line, ∀ x ∈ it.2, 0 ≤ x) →
    ∃ D ∈ trF 6 (n + 1), (∀ T ∈ trF 6 (n + 1), lin D (line.map Prod.fst) ≤ lin T (line.map Prod.fst)) ∧ (gwRun n (line, ds)).2.length = ds.length ∧ ∀ e < ds.length, (gwRun n (line, ds)).2.getD e 0 = ds.getD e 0 + lin D (line.map (cntE e))
  | 0, line, ds, _, hl, hp, _ => by
    match line, hl with
    | [it], _ =>
      refine ⟨[0], by decide, fun T hT => ?_, rfl, fun e he => by simp [gwRun, lin]⟩
      have : T = [0] := by simpa [trF] using hT
      subst this
      exact Int.le_refl _
  | n + 1, line, ds, h6, hl, hp, hx => by
    obtain ⟨-, hk, hpast, hhere⟩ := findK_ok line line.length 0 (by omega) (by omega)
    rw [gwRun]
    generalize hkk : findK line line.length 0 = k at hk hpast hhere
    obtain ⟨hj, hless, hback⟩ := backK_ok (line.take k ++ line.drop (k + 2)) (wAt line k + wAt line (k + 1)) k
    generalize hjj : backK (line.take k ++ line.drop (k + 2)) (wAt line k + wAt line (k + 1)) k = j at hj hless hback
    have hw2 : ∀ i < k, wAt (line.take k ++ line.drop (k + 2)) i = wAt line i := by
      intro i hi
      simp only [wAt, List.getD_eq_getElem?_getD]
      rw [List.getElem?_append_left (by rw [List.length_take]; omega), List.getElem?_take_of_lt hi]
    have hmemD : ∀ i < line.length, 0 < wAt line i := by
      intro i hi
      have : line[i]? = some line[i] := List.getElem?_eq_getElem hi
      simp only [wAt, List.getD_eq_getElem?_getD, this, Option.getD_some]
      exact hp _ (List.getElem_mem hi)
    have hmemE : ∀ i, ∀ x ∈ eAt line i, 0 ≤ x := by
      intro i x hxx
      by_cases hi : i < line.length
      · have : line[i]? = some line[i] := List.getElem?_eq_getElem hi
        simp only [eAt, List.getD_eq_getElem?_getD, this, Option.getD_some] at hxx
        exact hx _ (List.getElem_mem hi) x hxx
      · have : line[i]? = none := List.getElem?_eq_none (by omega)
        simp [eAt, List.getD_eq_getElem?_getD, this] at hxx
    rw [gw_step hkk.symm hjj.symm]
    have hmem2 : ∀ it, it ∈ (line.take k ++ line.drop (k + 2)).take j ++ [(wAt line k + wAt line (k + 1), eAt line k ++ eAt line (k + 1))] ++ (line.take k ++ line.drop (k + 2)).drop j → it ∈ line ∨ it = (wAt line k + wAt line (k + 1), eAt line k ++ eAt line (k + 1)) := by
      have h3 : ∀ it, it ∈ line.take k ++ line.drop (k + 2) → it ∈ line := fun it h => (List.mem_append.mp h).elim List.mem_of_mem_take List.mem_of_mem_drop
      intro it hit
      rcases List.mem_append.mp hit with hit | hit
      · rcases List.mem_append.mp hit with hit | hit
        · exact .inl (h3 _ (List.mem_of_mem_take hit))
        · exact .inr (List.mem_singleton.mp hit)
      · exact .inl (h3 _ (List.mem_of_mem_drop hit))
    have p1 := hmemD k (by omega)
    have p2 := hmemD (k + 1) (by omega)
    obtain ⟨D, hD, hm, hlen, hat⟩ := gw_run n ((line.take k ++ line.drop (k + 2)).take j ++ [(wAt line k + wAt line (k + 1), eAt line k ++ eAt line (k + 1))] ++ (line.take k ++ line.drop (k + 2)).drop j) ((eAt line k ++ eAt line (k + 1)).foldl bump1 ds) (by omega)
      (Nat.succ.inj ((step_len line hk j _).trans hl))
      (fun it hit => by
        rcases hmem2 it hit with h | rfl
        · exact hp it h
        · dsimp only; omega)
      (fun it hit x hxx => by
        rcases hmem2 it hit with h | rfl
        · exact hx it h x hxx
        · rcases List.mem_append.mp hxx with h | h
          · exact hmemE _ x h
          · exact hmemE _ x h)
    have hDl := trF_len (n + 1) (by omega) D hD (by omega)
    have hlift : ∀ T ∈ trF 6 (n + 1), lin (lift k j T) (line.map Prod.fst) = lin T (((line.take k ++ line.drop (k + 2)).take j ++ [(wAt line k + wAt line (k + 1), eAt line k ++ eAt line (k + 1))] ++ (line.take k ++ line.drop (k + 2)).drop j).map Prod.fst) + (wAt line k + wAt line (k + 1)) := by
      intro T hT
      have hTl := trF_len (n + 1) (by omega) T hT (by omega)
      rw [lift_lin (by rw [List.length_map]; omega) (by rw [List.length_map]; omega) hj, wAt_map, wAt_map, map_step Prod.fst line _ k j (wAt line k) (wAt line (k + 1)) rfl]
    have hdec : Dec (n + 2) k j (line.map Prod.fst) := by
      refine ⟨fun i hi => ?_, fun i hi => ?_, fun h => ?_, fun i hi hji => ?_, fun h => ?_⟩
      · rw [wAt_map]; exact hmemD i (by omega)
      · rw [wAt_map, wAt_map]; exact hpast i (by omega) hi
      · rw [wAt_map, wAt_map]; exact hhere (by omega)
      · rw [wAt_map, wAt_map, wAt_map, ← hw2 i hi]; exact hless i hi hji
      · rw [wAt_map, wAt_map, wAt_map, ← hw2 (j - 1) (by omega)]; exact hback h
    obtain ⟨o1, o2⟩ := gw_opt (n := n + 2) (by omega) (by omega) (by omega) hj hdec (D := D) hD (fun T hT => by
      rw [hlift D hD, hlift T hT]
      have := hm T hT
      omega)
    have hb := fun e (he : e < ds.length) => bumps_at (eAt line k ++ eAt line (k + 1)) ds e (fun x hxx => (List.mem_append.mp hxx).elim (hmemE _ x) (hmemE _ x)) he
    refine ⟨lift k j D, o1, o2, ?_, fun e he => ?_⟩
    · rw [hlen]
      cases ds with
      | nil => 
        have key : ∀ es : List Int, (es.foldl bump1 []).length = 0 := by
          intro es
          induction es with
          | nil => rfl
          | cons x es ih => simpa [bump1] using ih
        exact key _
      | cons d ds => exact (hb 0 (by simp)).1
    · rw [hat e (by rw [(hb e he).1]; exact he), (hb e he).2, lift_lin (by rw [List.length_map]; omega) (by rw [List.length_map]; omega) hj, cnt_map, cnt_map,
        map_step (cntE e) line _ k j ((eAt line k).count (e : Int) : Nat) ((eAt line (k + 1)).count (e : Int) : Nat) (by simp [cntE]), List.count_append]
      omega
/-! six weights -/
theorem lin_rep0 (D : List Int) (X : List Int) : ∀ e : Nat, lin D (List.replicate e 0 ++ X) = lin (D.drop e) X
  | 0 => rfl
  | e + 1 => by
    cases D with
    | nil => rfl
    | cons d D =>
      show d * 0 + lin D (List.replicate e 0 ++ X) = _
      rw [Int.mul_zero, Int.zero_add, lin_rep0 D X e, List.drop_succ_cons]
theorem lin_pick {D X : List Int} {e n : Nat} (h : X = List.replicate e 0 ++ 1 :: List.replicate n 0) : lin D X = D.getD e 0 := by
  rw [h, lin_rep0, List.getD_eq_getElem?_getD, ← List.head?_drop]
  cases D.drop e with
  | nil => rfl
  | cons d E =>
    have e0 := lin_rep0 E [] n
    rw [List.append_nil, lin_nilR] at e0
    show d * 1 + lin E (List.replicate n 0) = d
    rw [e0, Int.mul_one, Int.add_zero]
theorem same_list {D R : List Int} (hl : R.length = D.length) (h : ∀ e, e < D.length → R.getD e 0 = D.getD e 0) : R = D := by
  refine List.ext_getElem hl fun i h1 h2 => ?_
  have := h i h2
  rw [List.getD_eq_getElem?_getD, List.getD_eq_getElem?_getD, List.getElem?_eq_getElem h1, List.getElem?_eq_getElem h2] at this
  exact this
theorem cnt0 (a b c d e f : Int) : ∀ i : Nat, i < 6 → (line0 [a, b, c, d, e, f]).map (cntE i) = List.replicate i 0 ++ 1 :: List.replicate (5 - i) 0
  | 0, _ => rfl
  | 1, _ => rfl
  | 2, _ => rfl
  | 3, _ => rfl
  | 4, _ => rfl
  | 5, _ => rfl
theorem gw_six (a b c d e f : Int) (h : ∀ x ∈ [a, b, c, d, e, f], 0 < x) : gw [a, b, c, d, e, f] ∈ trF 6 6 ∧ ∀ T ∈ trF 6 6, lin (gw [a, b, c, d, e, f]) [a, b, c, d, e, f] ≤ lin T [a, b, c, d, e, f] := by
  obtain ⟨D, hD, hm, hl, hat⟩ := gw_run 5 (line0 [a, b, c, d, e, f]) [0, 0, 0, 0, 0, 0] (Nat.le_refl 6) rfl (fun it hi => by
    have h1 : it.1 ∈ (line0 [a, b, c, d, e, f]).map Prod.fst := List.mem_map.mpr ⟨it, hi, rfl⟩
    exact h _ h1) (fun it hi => by
    have h1 : it.2 ∈ (line0 [a, b, c, d, e, f]).map Prod.snd := List.mem_map.mpr ⟨it, hi, rfl⟩
    revert h1
    generalize it.2 = l
    exact (by decide : ∀ l ∈ [[(0 : Int)], [1], [2], [3], [4], [5]], ∀ x ∈ l, 0 ≤ x) l)
  have hDl := trF_len 6 (Nat.le_refl 6) D hD (by decide)
  have hg : gw [a, b, c, d, e, f] = D := by
    refine same_list (hl.trans hDl.symm) fun i hi => ?_
    rw [hDl] at hi
    have hz : [(0 : Int), 0, 0, 0, 0, 0].getD i 0 = 0 := (by decide : ∀ i, i < 6 → [(0 : Int), 0, 0, 0, 0, 0].getD i 0 = 0) i hi
    exact (hat i hi).trans (by rw [hz, Int.zero_add, lin_pick (cnt0 a b c d e f i hi)])
  rw [hg]
  exact ⟨hD, hm⟩
def trees6 : List (List Nat) := (trF 6 6).map fun D => D.map Int.toNat
theorem trees6_cast : ∀ D ∈ trF 6 6, (D.map Int.toNat).map (fun (n : Nat) => (n : Int)) = D := by decide +kernel
theorem gw_tree (a b c d e f : Int) (h : ∀ x ∈ [a, b, c, d, e, f], 0 < x) : ∃ D ∈ trees6, gw [a, b, c, d, e, f] = D.map (fun (n : Nat) => (n : Int)) :=
  ⟨_, List.mem_map.mpr ⟨_, (gw_six a b c d e f h).1, rfl⟩, (trees6_cast _ (gw_six a b c d e f h).1).symm⟩
theorem trees6_ok : ∀ D ∈ trees6, D.length = 6 ∧ (∀ d ∈ D, 1 ≤ d ∧ d ≤ 5) ∧ redM D = some [0] := by decide +kernel
theorem gw_least {a b c d e f : Int} (h : ∀ x ∈ [a, b, c, d, e, f], 0 < x) : lin (gw [a, b, c, d, e, f]) [a, b, c, d, e, f] = lc [a, b, c, d, e, f] 6 0 := by
  obtain ⟨g1, g2⟩ := gw_six a b c d e f h
  obtain ⟨l1, T, hT, l2⟩ := lc_tree [a, b, c, d, e, f] 6 6 0 (by omega) (by omega) (by simp)
  have a1 := (l1 _ g1).2
  have a2 := g2 T hT
  simp only [List.drop_zero, show [a, b, c, d, e, f].take 6 = [a, b, c, d, e, f] from rfl] at a1 l2
  unfold lc
  omega
def GwIs (ws : List Int) (D : List Nat) : Prop := gw ws = D.map (fun (n : Nat) => (n : Int))
def priceF (tl : Int) (ws : List Int) (D : List Nat) (i : Nat) : Int := ((List.range i).map fun j => tl + ws.getD j 0 * (D.getD j 0 : Int)).sum
theorem priceF_lin (tl : Int) : ∀ (ws : List Int) (D : List Nat), D.length = ws.length → priceF tl ws D ws.length = lin (D.map (fun (n : Nat) => (n : Int))) ws + ws.length * tl := by
  have key : ∀ (ws : List Int) (D : List Nat) (k : Nat), D.length = ws.length → ((List.range ws.length).map fun j => tl + ws.getD j 0 * (D.getD j 0 : Int)).sum = lin (D.map (fun (n : Nat) => (n : Int))) ws + ws.length * tl := by
    intro ws
    induction ws with
    | nil =>
      intro D k hD
      rw [List.length_eq_zero_iff.mp hD]
      show (0 : Int) = 0 + 0 * tl
      rw [Int.zero_mul, Int.zero_add]
    | cons w ws ih =>
      intro D k hD
      obtain ⟨d, D, rfl⟩ := List.exists_cons_of_length_eq_add_one hD
      rw [List.length_cons, List.range_succ_eq_map, List.map_cons, List.sum_cons, List.map_map]
      have := ih D k (Nat.succ.inj hD)
      show (tl + w * (d : Int)) + ((List.range ws.length).map fun j => tl + ws.getD j 0 * (D.getD j 0 : Int)).sum = ((d : Int) * w + lin (D.map (fun (n : Nat) => (n : Int))) ws) + ((ws.length + 1 : Nat) : Int) * tl
      rw [this, Int.natCast_add, Int.add_mul, Int.mul_comm w]
      omega
  exact fun ws D h => key ws D 0 h
theorem cost_eq {a b c d e f tl : Int} {D : List Nat} (h : GwIs [a, b, c, d, e, f] D) (hp : ∀ x ∈ [a, b, c, d, e, f], 0 < x) : priceF tl [a, b, c, d, e, f] D 6 = lc [a, b, c, d, e, f] 6 0 + 6 * tl := by
  have h1 : gw [a, b, c, d, e, f] = D.map (fun (n : Nat) => (n : Int)) := h
  have hl := trF_len 6 (Nat.le_refl 6) _ (gw_six a b c d e f hp).1 (by decide)
  rw [h1, List.length_map] at hl
  rw [← gw_least hp, h1]
  exact priceF_lin tl [a, b, c, d, e, f] D hl
end
/-! V0 -/
section
theorem lines16 : True := by
  k_with_none
  k_with "mine enter" => (
    refine' code_def (by k_asm) (by k_asm) (by k_asm) (by k_asm) (by k_asm) (by exact rfl) (by exact rfl) (by first | exact rfl | assumption) (by k_is) (by k_is) (by ktr_room) (by exact BindsTo.of_eq rfl) (by exact locs rfl) ?_ (by exact rfl) (by exact rfl) (by exact rfl) (by decide)
    k_whole
    intro _ _ _ _ _ _ _ _ _
    (try dsimp only)
    (try k_fold))
  k_with "mine ret0" => (refine' ret0 (by assumption) ?_ (by k_asm) (by first | k_asm | (refine cb_drop (by assumption) ?_; intro _ _; k_extra "mine sub1")))
  k_with "QEnd" => (dsimp only [QEnd])
  k_with "mine hasattr" => (
    refine' ha_line (by k_asm) (by k_asm) ?_
    intro _ _ _
    (try k_sweep))
  k_with "call builtin:hasattr" => (k_here; k_extra "mine hasattr")
  k_with "mine make" => (
    refine' call_cls (by k_asm) (by k_asm) (by k_asm) (by k_is) (by k_is) (by k_is) ?_
    k_whole
    intro _ _ _ _ _ kql kqm
    (try k_lt kql)
    (try k_lt2 kqm)
    (revert kql kqm; intro _ _)
    (try k_sweep)
    k_extra "mine enter")
  k_with "mine sub1" => (
    first
    | assumption
    | exact List.mem_append_left _ (by assumption)
    | exact List.mem_append_right _ (by assumption)
    | (refine List.Mem.tail _ ?_; k_extra "mine sub1")
    | (refine List.mem_append_left _ ?_; k_extra "mine sub1")
    | (refine List.mem_append_right _ ?_; k_extra "mine sub1"))
  k_with "mine sub" => (
    first
    | (refine sub_cons ?_ ?_; (focus (first | exact List.mem_cons.mpr (Or.inl (by rfl)) | k_memK | k_mem)); k_extra "mine sub")
    | exact List.forall_mem_nil _
    | (intro _ _; k_extra "mine sub1"))
  k_with "mine own" => (intro _ _; k_extra "mine sub1")
  k_with "mine ps" => (
    first
    | exact PsAre.nil
    | (refine PsAre.any (by with_unfolding_all rfl) ?_; k_extra "mine ps"))
  k_with "call type:tuple" => (
    k_here
    (with_reducible show wpAny _ _ (call (Value.type _) [Value.ref _]) _ _ _)
    k_dflt (refine' kde_tupleOf (by k_asm) (by k_asm) (by exact News.isList (by k_asm) (by k_mem)) (by (rw [List.size_toArray]; have hL9 := IntsAre.length (by assumption); omega)) (by exact rfl) ?_)
    intro _ _ _ _ kql
    (try k_lt kql)
    (revert kql; intro _)
    (try k_sweep))
  k_with "call ref" => (
    k_here
    (with_reducible show wpAny _ _ (call (Value.ref 42) [Value.int _ _, Value.int _ _]) _ _ _)
    k_dflt (refine' Con0.use (add_con _ _ _ _ _ _ _ _) (by k_asm) (by k_asm) (by k_asm) (by k_asm) (by k_asm) (by first | exact rfl | assumption) (by trivial) (by ktr_room) (by ktr_units) ?_)
    intro _ _ _ _ _
    (try k_sweep)
    (try dsimp only)
    (try k_fold))
  k_with "call ref" => (
    k_here
    (with_reducible show wpAny _ _ (call (Value.ref 56) [Value.int _ _, Value.int _ _]) _ _ _)
    k_dflt (refine' Con0.use (sub_con _ _ _ _ _ _ _ _) (by k_asm) (by k_asm) (by k_asm) (by k_asm) (by k_asm) (by first | exact rfl | assumption) (by trivial) (by ktr_room) (by ktr_units) ?_)
    intro _ _ _ _ _
    (try k_sweep)
    (try dsimp only)
    (try k_fold))
  k_with "call ref" => (
    k_here
    (with_reducible show wpAny _ _ (call (Value.ref 28) [Value.int _ _, Value.int _ _]) _ _ _)
    k_dflt (refine' Con0.use (lt_con _ _ _ _ _ _ _ _) (by k_asm) (by k_asm) (by k_asm) (by k_asm) (by k_asm) (by first | exact rfl | assumption) (by trivial) (by ktr_room) (by ktr_units) ?_)
    intro _ _ _ _ _
    (try k_sweep)
    (try dsimp only)
    (try k_fold))
  k_with "call ref" => (
    k_here
    (with_reducible show wpAny _ _ (call (Value.ref 35) [Value.int _ _, Value.int _ _]) _ _ _)
    k_dflt (refine' Con0.use (le_con _ _ _ _ _ _ _ _) (by k_asm) (by k_asm) (by k_asm) (by k_asm) (by k_asm) (by first | exact rfl | assumption) (by trivial) (by ktr_room) (by ktr_units) ?_)
    intro _ _ _ _ _
    (try k_sweep)
    (try dsimp only)
    (try k_fold))
  k_with "call ref" => (
    k_here
    (with_reducible show wpAny _ _ (call (Value.ref 49) [Value.str _ _, Value.int _ _]) _ _ _)
    k_dflt (refine' Con0.use (mul_con _ _ _ _ _ _ _ _) (by k_asm) (by k_asm) (by k_asm) (by k_asm) (by k_asm) (by first | exact rfl | assumption) (by k_extra "mine mulPre") (by ktr_room) (by ktr_units) ?_)
    intro _ _ _ _ _
    (try k_sweep)
    (try dsimp only)
    (try k_fold))
  k_with "call ref" => (
    k_here
    (with_reducible show wpAny _ _ (call (Value.ref 63) [Value.str _ _, Value.str _ _]) _ _ _)
    k_dflt (refine' Con0.use (concat_con _ _ _ _ _ _ _ _) (by k_asm) (by k_asm) (by k_asm) (by k_asm) (by k_asm) (by first | exact rfl | assumption) (by k_extra "mine catPre") (by ktr_room) (by ktr_units) ?_)
    intro _ _ _ _ _
    (try k_sweep)
    (try dsimp only)
    (try k_fold))
  k_with "mine mulPre" => (exact ⟨rfl, by omega, by omega⟩)
  k_with "mine catPre" => ((try simp only [codes_S, len_S, codes_tab, codes_nil, len_tab, len_nil, List.length_append, List.length_replicate, List.length_cons, List.length_nil]); omega)
  k_with "pyIter ref" => (k_here; refine stop ?_)
  k_with "exec While" => (k_here; refine stop ?_)
  k_with "mine enterC" => (
    refine' code_defC (by k_asm) (by k_asm) (by k_asm) (by k_asm) (by k_asm) (by exact rfl) (by exact rfl) (by first | exact rfl | assumption) (by k_is) (by k_is) (by ktr_room) (by exact BindsTo.of_eq rfl) (by exact rfl) (by decide +kernel) ?_ (by exact rfl) (by exact rfl) (by exact rfl)
    k_whole
    intro _ _ _ _ _ _ _ _ kqY _ _ _ kql
    (try k_lt kql)
    (revert kql; intro _)
    k_cells kqY
    (try (rename News _ _ _ _ => kqN; simp only [List.cons_append, List.nil_append] at kqN; revert kqN; intro _))
    (try dsimp only)
    (try k_fold))
  k_with "eval Name" => (k_here; (with_reducible show wpAny _ _ (eval (Expr.Name _ _) (envOfC _ _ _ _ _)) _ _ _); k_dflt (refine' bootName (by k_asm) (by k_asm) (by k_asm) (by rfl) (by rfl) (by k_is) (by first | boot_by_name | boot_fast | decide +kernel) (by decide) ?_; k_whole))
  k_with "mine mem" => (first | assumption | (refine List.Mem.tail _ ?_; k_extra "mine mem"))
  k_with "eval Name" => (k_here; (with_reducible show wpAny _ _ (eval (Expr.Name _ _) (compEnvC _ _ _ _)) _ _ _); k_dflt (refine' kcf_cell (by k_asm) (by rfl) (by k_extra "mine mem") (by assumption) ?_; k_whole))
  k_with "eval Name" => (k_here; (with_reducible show wpAny _ _ (eval (Expr.Name _ _) (envOfC _ _ _ _ _)) _ _ _); k_dflt (refine' cellName (by rfl) (by rfl) (by k_asm) (by rfl) (by k_extra "mine mem") (by assumption) ?_; k_whole))
  k_with "mine short" => ((try simp only [List.length_append, List.length_take, List.length_drop, List.length_cons, List.length_nil]); omega)
  k_with "mine mem0" => (first | exact List.mem_cons.mpr (Or.inl (by rfl)) | assumption | (refine List.Mem.tail _ ?_; k_extra "mine mem0"))
  k_with "exec For" => (k_here; k_dflt ((rename Fr _ _ _ _ => kqF); (with_unfolding_all refine' For_invVF kqF (by exact rfl) (by exact rfl) ?_; k_whole)))
  k_with "mine memL" => (first | exact List.mem_cons.mpr (Or.inl (by rfl)) | (refine List.Mem.tail _ ?_; k_extra "mine memL"))
  k_with "WPost" => (dsimp only [WPost])
  trivial
theorem kms_drop (vs : List Value) {k : Int} (h0 : 0 ≤ k) : kms_pick vs (some k) none = vs.drop k.toNat := by
  simp only [kms_pick, kms_lo, kms_hi, if_neg (Int.not_lt.mpr h0)]
  rcases Nat.le_total k.toNat vs.length with hk | hk
  · rw [Nat.min_eq_left hk, List.take_of_length_le (by rw [List.length_drop]; exact Nat.le_refl _)]
  · rw [Nat.min_eq_right hk, List.drop_eq_nil_of_le (Nat.le_refl _), List.drop_eq_nil_of_le hk]; simp
section lines
variable {prog : Program} {w : World} {A : Around} {E : Value → Shared → Prop} {s : Shared} {h₀ : Heap} {L : Addr} {m : Str → Option Value} {news : List (Addr × Obj)} {value slice : PySem.Expr}
theorem six_drop {l : Addr} {a b c d e f k : Int} {t0 t1 t2 t3 t4 t5 t : Tok} {nn : Nat} {Q : Value → Shared → Prop} (F : Fr h₀ L s.heap m) (N : News h₀ L s.heap news)
    (hm : (l, listOf #[.int a t0, .int b t1, .int c t2, .int d t3, .int e t4, .int f t5] nn) ∈ news) (h0 : 0 ≤ k)
    (h : ∀ D us h', Fr h₀ L h' m → News h₀ L h' ((D, listOf (List.toArray us) 0) :: news) → (∀ p ∈ news, p.1 < D) → IntsAre us ([a, b, c, d, e, f].drop k.toNat) → Q (.ref D) { s with heap := h' })
    (hs : subscripted slice false (.ref l) (.ref s.heap.objs.size) = operate [.ref s.heap.objs.size, .ref l] (getItem (.ref l) (.ref s.heap.objs.size))) :
    wpAny (model prog w) A (subscriptTail value slice (.ref l) (.ref s.heap.objs.size)) Q E { s with heap := s.heap.push { cls := .type "slice", data := .fields #[.int k t, .none, .none] } } := by
  have hI : IntsAre [.int a t0, .int b t1, .int c t2, .int d t3, .int e t4, .int f t5] [a, b, c, d, e, f] := .cons _ _ (.cons _ _ (.cons _ _ (.cons _ _ (.cons _ _ (.cons _ _ .nil)))))
  have hl : s.heap.IsList l #[.int a t0, .int b t1, .int c t2, .int d t3, .int e t4, .int f t5] := News.isList N hm
  refine tail_any (Heap.IsList.typeIs (s := { s with heap := s.heap.push { cls := .type "slice", data := .fields #[.int k t, .none, .none] } }) (hl.push _)) list_getitem_lookup
    (wpAny_getItem_list_slice (hl.push _) (Heap.IsSliceOf.new ..) (.int k t) .none .none (by simp) ?_ (Nat.le_of_ble_eq_true rfl)) hs
  have N1 := News.push (F.push { cls := .type "slice", data := .fields #[.int k t, .none, .none] }) (N.grown fun _ _ e => Heap.get?_push_of_some _ e) { cls := .type "list", data := .seq (slicePick #[.int a t0, .int b t1, .int c t2, .int d t3, .int e t4, .int f t5] (some k) none none) }
  rw [Heap.size_push] at N1
  show Q (.ref (s.heap.push _).objs.size) _
  rw [Heap.size_push]
  rw [kms_pick_eq] at N1
  have e1 : kms_pick [.int a t0, .int b t1, .int c t2, .int d t3, .int e t4, .int f t5] (some k) none = [.int a t0, .int b t1, .int c t2, .int d t3, .int e t4, .int f t5].drop k.toNat := kms_drop _ h0
  rw [show kms_pick (#[Value.int a t0, .int b t1, .int c t2, .int d t3, .int e t4, .int f t5] : Array Value).toList (some k) none = [.int a t0, .int b t1, .int c t2, .int d t3, .int e t4, .int f t5].drop k.toNat from e1] at N1
  have lt : ∀ p ∈ news, p.1 < s.heap.objs.size + 1 := fun p hp => Nat.lt_succ_of_lt (Heap.lt_size (N p hp).1)
  have e2 : slicePick #[Value.int a t0, .int b t1, .int c t2, .int d t3, .int e t4, .int f t5] (some k) none none = ([Value.int a t0, .int b t1, .int c t2, .int d t3, .int e t4, .int f t5].drop k.toNat).toArray := by
    rw [kms_pick_eq]
    exact congrArg List.toArray e1
  rw [e2]
  exact h _ _ _ ((F.push _).push _) N1 lt (hI.drop _)
end lines
theorem lines17 : True := by
  k_with "subscriptTail List Slice ref ref" => (
    k_here
    (with_reducible show wpAny _ _ (subscriptTail (PySem.Expr.List _ _) (PySem.Expr.Slice _ _ none _) (Value.ref _) (Value.ref _)) _ _ _)
    k_dflt (refine' six_drop (by k_asm) (by k_asm) (by k_extra "mine memL") (by exact Int.natCast_nonneg _) ?_ (by with_unfolding_all rfl))
    intro _ _ _ _ _ kql _
    (try k_lt kql)
    (revert kql; intro _)
    (try k_sweep))
  k_with "call ref" => (k_here; (with_reducible show wpAny _ _ (call (Value.ref 144) _) _ _ _); refine stop ?_)
  trivial
noncomputable def ck1 : Cut hd.P := by
  apply Cut.mk
  intro hck
  conv => whnf
  focus
    w_strict (
      k_go0
      (all_goals try k_fold)
      iterate 70 walk1
      walk_at "subscriptTail List Slice ref ref"
      iterate 28 walk1
      (repeat (revert ‹_›))
      exact fun h => h.out)
end
/-! V1 -/
section
theorem lines18 : True := by
  k_with_none
  k_with "mine enter" => (
    refine' code_def (by k_asm) (by k_asm) (by k_asm) (by k_asm) (by k_asm) (by exact rfl) (by exact rfl) (by first | exact rfl | assumption) (by k_is) (by k_is) (by ktr_room) (by exact BindsTo.of_eq rfl) (by exact locs rfl) ?_ (by exact rfl) (by exact rfl) (by exact rfl) (by decide)
    k_whole
    intro _ _ _ _ _ _ _ _ _
    (try dsimp only)
    (try k_fold))
  k_with "mine ret0" => (refine' ret0 (by assumption) ?_ (by k_asm) (by first | k_asm | (refine cb_drop (by assumption) ?_; intro _ _; k_extra "mine sub1")))
  k_with "QEnd" => (dsimp only [QEnd])
  k_with "mine hasattr" => (
    refine' ha_line (by k_asm) (by k_asm) ?_
    intro _ _ _
    (try k_sweep))
  k_with "call builtin:hasattr" => (k_here; k_extra "mine hasattr")
  k_with "mine make" => (
    refine' call_cls (by k_asm) (by k_asm) (by k_asm) (by k_is) (by k_is) (by k_is) ?_
    k_whole
    intro _ _ _ _ _ kql kqm
    (try k_lt kql)
    (try k_lt2 kqm)
    (revert kql kqm; intro _ _)
    (try k_sweep)
    k_extra "mine enter")
  k_with "mine sub1" => (
    first
    | assumption
    | exact List.mem_append_left _ (by assumption)
    | exact List.mem_append_right _ (by assumption)
    | (refine List.Mem.tail _ ?_; k_extra "mine sub1")
    | (refine List.mem_append_left _ ?_; k_extra "mine sub1")
    | (refine List.mem_append_right _ ?_; k_extra "mine sub1"))
  k_with "mine sub" => (
    first
    | (refine sub_cons ?_ ?_; (focus (first | exact List.mem_cons.mpr (Or.inl (by rfl)) | k_memK | k_mem)); k_extra "mine sub")
    | exact List.forall_mem_nil _
    | (intro _ _; k_extra "mine sub1"))
  k_with "mine own" => (intro _ _; k_extra "mine sub1")
  k_with "mine ps" => (
    first
    | exact PsAre.nil
    | (refine PsAre.any (by with_unfolding_all rfl) ?_; k_extra "mine ps"))
  k_with "call type:tuple" => (
    k_here
    (with_reducible show wpAny _ _ (call (Value.type _) [Value.ref _]) _ _ _)
    k_dflt (refine' kde_tupleOf (by k_asm) (by k_asm) (by exact News.isList (by k_asm) (by k_mem)) (by (rw [List.size_toArray]; have hL9 := IntsAre.length (by assumption); omega)) (by exact rfl) ?_)
    intro _ _ _ _ kql
    (try k_lt kql)
    (revert kql; intro _)
    (try k_sweep))
  k_with "call ref" => (
    k_here
    (with_reducible show wpAny _ _ (call (Value.ref 42) [Value.int _ _, Value.int _ _]) _ _ _)
    k_dflt (refine' Con0.use (add_con _ _ _ _ _ _ _ _) (by k_asm) (by k_asm) (by k_asm) (by k_asm) (by k_asm) (by first | exact rfl | assumption) (by trivial) (by ktr_room) (by ktr_units) ?_)
    intro _ _ _ _ _
    (try k_sweep)
    (try dsimp only)
    (try k_fold))
  k_with "call ref" => (
    k_here
    (with_reducible show wpAny _ _ (call (Value.ref 56) [Value.int _ _, Value.int _ _]) _ _ _)
    k_dflt (refine' Con0.use (sub_con _ _ _ _ _ _ _ _) (by k_asm) (by k_asm) (by k_asm) (by k_asm) (by k_asm) (by first | exact rfl | assumption) (by trivial) (by ktr_room) (by ktr_units) ?_)
    intro _ _ _ _ _
    (try k_sweep)
    (try dsimp only)
    (try k_fold))
  k_with "call ref" => (
    k_here
    (with_reducible show wpAny _ _ (call (Value.ref 28) [Value.int _ _, Value.int _ _]) _ _ _)
    k_dflt (refine' Con0.use (lt_con _ _ _ _ _ _ _ _) (by k_asm) (by k_asm) (by k_asm) (by k_asm) (by k_asm) (by first | exact rfl | assumption) (by trivial) (by ktr_room) (by ktr_units) ?_)
    intro _ _ _ _ _
    (try k_sweep)
    (try dsimp only)
    (try k_fold))
  k_with "call ref" => (
    k_here
    (with_reducible show wpAny _ _ (call (Value.ref 35) [Value.int _ _, Value.int _ _]) _ _ _)
    k_dflt (refine' Con0.use (le_con _ _ _ _ _ _ _ _) (by k_asm) (by k_asm) (by k_asm) (by k_asm) (by k_asm) (by first | exact rfl | assumption) (by trivial) (by ktr_room) (by ktr_units) ?_)
    intro _ _ _ _ _
    (try k_sweep)
    (try dsimp only)
    (try k_fold))
  k_with "call ref" => (
    k_here
    (with_reducible show wpAny _ _ (call (Value.ref 49) [Value.str _ _, Value.int _ _]) _ _ _)
    k_dflt (refine' Con0.use (mul_con _ _ _ _ _ _ _ _) (by k_asm) (by k_asm) (by k_asm) (by k_asm) (by k_asm) (by first | exact rfl | assumption) (by k_extra "mine mulPre") (by ktr_room) (by ktr_units) ?_)
    intro _ _ _ _ _
    (try k_sweep)
    (try dsimp only)
    (try k_fold))
  k_with "call ref" => (
    k_here
    (with_reducible show wpAny _ _ (call (Value.ref 63) [Value.str _ _, Value.str _ _]) _ _ _)
    k_dflt (refine' Con0.use (concat_con _ _ _ _ _ _ _ _) (by k_asm) (by k_asm) (by k_asm) (by k_asm) (by k_asm) (by first | exact rfl | assumption) (by k_extra "mine catPre") (by ktr_room) (by ktr_units) ?_)
    intro _ _ _ _ _
    (try k_sweep)
    (try dsimp only)
    (try k_fold))
  k_with "mine mulPre" => (exact ⟨rfl, by omega, by omega⟩)
  k_with "mine catPre" => ((try simp only [codes_S, len_S, codes_tab, codes_nil, len_tab, len_nil, List.length_append, List.length_replicate, List.length_cons, List.length_nil]); omega)
  k_with "pyIter ref" => (k_here; refine stop ?_)
  k_with "exec While" => (k_here; refine stop ?_)
  k_with "mine enterC" => (
    refine' code_defC (by k_asm) (by k_asm) (by k_asm) (by k_asm) (by k_asm) (by exact rfl) (by exact rfl) (by first | exact rfl | assumption) (by k_is) (by k_is) (by ktr_room) (by exact BindsTo.of_eq rfl) (by exact rfl) (by decide +kernel) ?_ (by exact rfl) (by exact rfl) (by exact rfl)
    k_whole
    intro _ _ _ _ _ _ _ _ kqY _ _ _ kql
    (try k_lt kql)
    (revert kql; intro _)
    k_cells kqY
    (try (rename News _ _ _ _ => kqN; simp only [List.cons_append, List.nil_append] at kqN; revert kqN; intro _))
    (try dsimp only)
    (try k_fold))
  k_with "eval Name" => (k_here; (with_reducible show wpAny _ _ (eval (Expr.Name _ _) (envOfC _ _ _ _ _)) _ _ _); k_dflt (refine' bootName (by k_asm) (by k_asm) (by k_asm) (by rfl) (by rfl) (by k_is) (by first | boot_by_name | boot_fast | decide +kernel) (by decide) ?_; k_whole))
  k_with "mine mem" => (first | assumption | (refine List.Mem.tail _ ?_; k_extra "mine mem"))
  k_with "eval Name" => (k_here; (with_reducible show wpAny _ _ (eval (Expr.Name _ _) (compEnvC _ _ _ _)) _ _ _); k_dflt (refine' kcf_cell (by k_asm) (by rfl) (by k_extra "mine mem") (by assumption) ?_; k_whole))
  k_with "eval Name" => (k_here; (with_reducible show wpAny _ _ (eval (Expr.Name _ _) (envOfC _ _ _ _ _)) _ _ _); k_dflt (refine' cellName (by rfl) (by rfl) (by k_asm) (by rfl) (by k_extra "mine mem") (by assumption) ?_; k_whole))
  k_with "mine short" => ((try simp only [List.length_append, List.length_take, List.length_drop, List.length_cons, List.length_nil]); omega)
  k_with "mine mem0" => (first | exact List.mem_cons.mpr (Or.inl (by rfl)) | assumption | (refine List.Mem.tail _ ?_; k_extra "mine mem0"))
  k_with "exec For" => (k_here; k_dflt ((rename Fr _ _ _ _ => kqF); (with_unfolding_all refine' For_invVF kqF (by exact rfl) (by exact rfl) ?_; k_whole)))
  k_with "mine memL" => (first | exact List.mem_cons.mpr (Or.inl (by rfl)) | (refine List.Mem.tail _ ?_; k_extra "mine memL"))
  k_with "WPost" => (dsimp only [WPost])
  trivial
/-- what the script tells: the six places, the figures -/
def placesL (xs : List Int) : List Int := (xs.take 6).map (fun k => k.fmod 48) ++ [7, 1, 4, 8, 33, 2].drop ((xs.take 6).length : Int).toNat
theorem placesL_len (xs : List Int) : (placesL xs).length = 6 := by
  simp only [placesL, List.length_append, List.length_map, List.length_drop, List.length_cons, List.length_nil, List.length_take, Int.toNat_natCast]; omega
theorem placesL_bnd (xs : List Int) : ∀ p ∈ placesL xs, 0 ≤ p ∧ p < 48 := by
  intro p hp
  rcases List.mem_append.mp hp with hp | hp
  · obtain ⟨k, _, rfl⟩ := List.mem_map.mp hp
    exact ⟨Int.fmod_nonneg_of_pos _ (by decide), Int.fmod_lt_of_pos _ (by decide)⟩
  · have h2 := List.mem_of_mem_drop hp
    simp only [List.mem_cons, List.not_mem_nil, or_false] at h2
    omega
theorem six_of {vs : List Value} {ns : List Int} (h : IntsAre vs ns) (hl : ns.length = 6) : ∃ a b c d e f t0 t1 t2 t3 t4 t5, vs = [.int a t0, .int b t1, .int c t2, .int d t3, .int e t4, .int f t5] ∧ ns = [a, b, c, d, e, f] := by
  cases h with | nil => simp at hl | cons a t0 h =>
  cases h with | nil => simp at hl | cons b t1 h =>
  cases h with | nil => simp at hl | cons c t2 h =>
  cases h with | nil => simp at hl | cons d t3 h =>
  cases h with | nil => simp at hl | cons e t4 h =>
  cases h with | nil => simp at hl | cons f t5 h =>
  cases h with
  | nil => exact ⟨a, b, c, d, e, f, t0, t1, t2, t3, t4, t5, rfl, rfl⟩
  | cons g t6 h => simp at hl
theorem fr_ps {h₀ h : Heap} {L : Addr} {m : Str → Option Value} {ps : List (Str × Value)} (F : Fr h₀ L h m) (hp : PsAre m ps) : ∃ u, Fr h₀ L h (kstB u ps) := ⟨m, by rw [kstB_id hp]; exact F⟩
theorem news_sub {h₀ h : Heap} {L : Addr} {news nx : Led} (N : News h₀ L h news) (hs : ∀ p ∈ nx, p ∈ news) : News h₀ L h nx := fun p hp => N p (hs p hp)
noncomputable def ck2 : Cut ck1.P := by
  apply Cut.mk
  intro hck
  conv => whnf
  focus
    intros
    w_on
    rename_i Do lO hO1 kO eO aO FO NO lO2 GcO kXO hO3 oO dO tkO DA wsA hA iA cA lA l1A hklA1 hklA2 gA ysA i8A l8A DB hB tkB o1B lC hC l1C DD wsD hD iD cD lD l1D DE usE hE iE l1E Dp wsp hp ip l1p hp2 tkp hk1 hk2 hk3 hk4 hk5 hk6 gG ysG iG lG DG hG tkG o1G hG2 tkG2 tG hG3 oF FF NF dF tkF
    rename Shared => s1
    rename World => w
    obtain ⟨u, F4⟩ := fr_ps (ps := [(Str.ofString "places", .ref Dp)]) FF (by k_extra "mine ps")
    have N4 := news_sub (nx := [(Dp, listOf wsp.toArray 0), (Do, listOf (strValues lO).toArray 0), (s1.heap.objs.size + 1 + 1, oF), (s1.heap.objs.size + 1, oO)]) NF (by k_extra "mine sub")
    have eO' : lO.map (·.1) = opsL := eO
    have lt1 := l1p.2.2.2.2.2
    obtain ⟨p0, p1, p2, p3, p4, p5, t0, t1, t2, t3, t4, t5, rfl, hpl⟩ := six_of ip (placesL_len _)
    have hpb : ∀ p ∈ [p0, p1, p2, p3, p4, p5], 0 ≤ p ∧ p < 48 := hpl ▸ placesL_bnd _
    obtain ⟨fg, tkf, hf0, hf1, dF2⟩ : ∃ fg tk, 0 ≤ fg ∧ fg < 117649 ∧ oF.data = .cell (some (.int fg tk)) := ⟨_, _, Int.fmod_nonneg_of_pos _ (by decide), Int.fmod_lt_of_pos _ (by decide), dF⟩
    clear NF FF dF hk1 hk2 hk3 hk4 hk5 hk6 ip hpl iG lG o1G l1p iE l1E iD cD lD l1D l1C o1B i8A l8A hklA1 hklA2 iA cA lA l1A eO NO FO
    (repeat (revert ‹_›))
    exact fun h => h.out
end
/-! V2 -/
section
theorem lines19 : True := by
  k_with_none
  k_with "mine enter" => (
    refine' code_def (by k_asm) (by k_asm) (by k_asm) (by k_asm) (by k_asm) (by exact rfl) (by exact rfl) (by first | exact rfl | assumption) (by k_is) (by k_is) (by ktr_room) (by exact BindsTo.of_eq rfl) (by exact locs rfl) ?_ (by exact rfl) (by exact rfl) (by exact rfl) (by decide)
    k_whole
    intro _ _ _ _ _ _ _ _ _
    (try dsimp only)
    (try k_fold))
  k_with "mine ret0" => (refine' ret0 (by assumption) ?_ (by k_asm) (by first | k_asm | (refine cb_drop (by assumption) ?_; intro _ _; k_extra "mine sub1")))
  k_with "QEnd" => (dsimp only [QEnd])
  k_with "mine hasattr" => (
    refine' ha_line (by k_asm) (by k_asm) ?_
    intro _ _ _
    (try k_sweep))
  k_with "call builtin:hasattr" => (k_here; k_extra "mine hasattr")
  k_with "mine make" => (
    refine' call_cls (by k_asm) (by k_asm) (by k_asm) (by k_is) (by k_is) (by k_is) ?_
    k_whole
    intro _ _ _ _ _ kql kqm
    (try k_lt kql)
    (try k_lt2 kqm)
    (revert kql kqm; intro _ _)
    (try k_sweep)
    k_extra "mine enter")
  k_with "mine sub1" => (
    first
    | assumption
    | exact List.mem_append_left _ (by assumption)
    | exact List.mem_append_right _ (by assumption)
    | (refine List.Mem.tail _ ?_; k_extra "mine sub1")
    | (refine List.mem_append_left _ ?_; k_extra "mine sub1")
    | (refine List.mem_append_right _ ?_; k_extra "mine sub1"))
  k_with "mine sub" => (
    first
    | (refine sub_cons ?_ ?_; (focus (first | exact List.mem_cons.mpr (Or.inl (by rfl)) | k_memK | k_mem)); k_extra "mine sub")
    | exact List.forall_mem_nil _
    | (intro _ _; k_extra "mine sub1"))
  k_with "mine own" => (intro _ _; k_extra "mine sub1")
  k_with "mine ps" => (
    first
    | exact PsAre.nil
    | (refine PsAre.any (by with_unfolding_all rfl) ?_; k_extra "mine ps"))
  k_with "call type:tuple" => (
    k_here
    (with_reducible show wpAny _ _ (call (Value.type _) [Value.ref _]) _ _ _)
    k_dflt (refine' kde_tupleOf (by k_asm) (by k_asm) (by exact News.isList (by k_asm) (by k_mem)) (by (rw [List.size_toArray]; have hL9 := IntsAre.length (by assumption); omega)) (by exact rfl) ?_)
    intro _ _ _ _ kql
    (try k_lt kql)
    (revert kql; intro _)
    (try k_sweep))
  k_with "call ref" => (
    k_here
    (with_reducible show wpAny _ _ (call (Value.ref 42) [Value.int _ _, Value.int _ _]) _ _ _)
    k_dflt (refine' Con0.use (add_con _ _ _ _ _ _ _ _) (by k_asm) (by k_asm) (by k_asm) (by k_asm) (by k_asm) (by first | exact rfl | assumption) (by trivial) (by ktr_room) (by ktr_units) ?_)
    intro _ _ _ _ _
    (try k_sweep)
    (try dsimp only)
    (try k_fold))
  k_with "call ref" => (
    k_here
    (with_reducible show wpAny _ _ (call (Value.ref 56) [Value.int _ _, Value.int _ _]) _ _ _)
    k_dflt (refine' Con0.use (sub_con _ _ _ _ _ _ _ _) (by k_asm) (by k_asm) (by k_asm) (by k_asm) (by k_asm) (by first | exact rfl | assumption) (by trivial) (by ktr_room) (by ktr_units) ?_)
    intro _ _ _ _ _
    (try k_sweep)
    (try dsimp only)
    (try k_fold))
  k_with "call ref" => (
    k_here
    (with_reducible show wpAny _ _ (call (Value.ref 28) [Value.int _ _, Value.int _ _]) _ _ _)
    k_dflt (refine' Con0.use (lt_con _ _ _ _ _ _ _ _) (by k_asm) (by k_asm) (by k_asm) (by k_asm) (by k_asm) (by first | exact rfl | assumption) (by trivial) (by ktr_room) (by ktr_units) ?_)
    intro _ _ _ _ _
    (try k_sweep)
    (try dsimp only)
    (try k_fold))
  k_with "call ref" => (
    k_here
    (with_reducible show wpAny _ _ (call (Value.ref 35) [Value.int _ _, Value.int _ _]) _ _ _)
    k_dflt (refine' Con0.use (le_con _ _ _ _ _ _ _ _) (by k_asm) (by k_asm) (by k_asm) (by k_asm) (by k_asm) (by first | exact rfl | assumption) (by trivial) (by ktr_room) (by ktr_units) ?_)
    intro _ _ _ _ _
    (try k_sweep)
    (try dsimp only)
    (try k_fold))
  k_with "call ref" => (
    k_here
    (with_reducible show wpAny _ _ (call (Value.ref 49) [Value.str _ _, Value.int _ _]) _ _ _)
    k_dflt (refine' Con0.use (mul_con _ _ _ _ _ _ _ _) (by k_asm) (by k_asm) (by k_asm) (by k_asm) (by k_asm) (by first | exact rfl | assumption) (by k_extra "mine mulPre") (by ktr_room) (by ktr_units) ?_)
    intro _ _ _ _ _
    (try k_sweep)
    (try dsimp only)
    (try k_fold))
  k_with "call ref" => (
    k_here
    (with_reducible show wpAny _ _ (call (Value.ref 63) [Value.str _ _, Value.str _ _]) _ _ _)
    k_dflt (refine' Con0.use (concat_con _ _ _ _ _ _ _ _) (by k_asm) (by k_asm) (by k_asm) (by k_asm) (by k_asm) (by first | exact rfl | assumption) (by k_extra "mine catPre") (by ktr_room) (by ktr_units) ?_)
    intro _ _ _ _ _
    (try k_sweep)
    (try dsimp only)
    (try k_fold))
  k_with "mine mulPre" => (exact ⟨rfl, by omega, by omega⟩)
  k_with "mine catPre" => ((try simp only [codes_S, len_S, codes_tab, codes_nil, len_tab, len_nil, List.length_append, List.length_replicate, List.length_cons, List.length_nil]); omega)
  k_with "pyIter ref" => (k_here; refine stop ?_)
  k_with "exec While" => (k_here; refine stop ?_)
  k_with "mine enterC" => (
    refine' code_defC (by k_asm) (by k_asm) (by k_asm) (by k_asm) (by k_asm) (by exact rfl) (by exact rfl) (by first | exact rfl | assumption) (by k_is) (by k_is) (by ktr_room) (by exact BindsTo.of_eq rfl) (by exact rfl) (by decide +kernel) ?_ (by exact rfl) (by exact rfl) (by exact rfl)
    k_whole
    intro _ _ _ _ _ _ _ _ kqY _ _ _ kql
    (try k_lt kql)
    (revert kql; intro _)
    k_cells kqY
    (try (rename News _ _ _ _ => kqN; simp only [List.cons_append, List.nil_append] at kqN; revert kqN; intro _))
    (try dsimp only)
    (try k_fold))
  k_with "eval Name" => (k_here; (with_reducible show wpAny _ _ (eval (Expr.Name _ _) (envOfC _ _ _ _ _)) _ _ _); k_dflt (refine' bootName (by k_asm) (by k_asm) (by k_asm) (by rfl) (by rfl) (by k_is) (by first | boot_by_name | boot_fast | decide +kernel) (by decide) ?_; k_whole))
  k_with "mine mem" => (first | assumption | (refine List.Mem.tail _ ?_; k_extra "mine mem"))
  k_with "eval Name" => (k_here; (with_reducible show wpAny _ _ (eval (Expr.Name _ _) (compEnvC _ _ _ _)) _ _ _); k_dflt (refine' kcf_cell (by k_asm) (by rfl) (by k_extra "mine mem") (by assumption) ?_; k_whole))
  k_with "eval Name" => (k_here; (with_reducible show wpAny _ _ (eval (Expr.Name _ _) (envOfC _ _ _ _ _)) _ _ _); k_dflt (refine' cellName (by rfl) (by rfl) (by k_asm) (by rfl) (by k_extra "mine mem") (by assumption) ?_; k_whole))
  k_with "mine short" => ((try simp only [List.length_append, List.length_take, List.length_drop, List.length_cons, List.length_nil]); omega)
  k_with "mine mem0" => (first | exact List.mem_cons.mpr (Or.inl (by rfl)) | assumption | (refine List.Mem.tail _ ?_; k_extra "mine mem0"))
  k_with "exec For" => (k_here; k_dflt ((rename Fr _ _ _ _ => kqF); (with_unfolding_all refine' For_invVF kqF (by exact rfl) (by exact rfl) ?_; k_whole)))
  k_with "mine memL" => (first | exact List.mem_cons.mpr (Or.inl (by rfl)) | (refine List.Mem.tail _ ?_; k_extra "mine memL"))
  k_with "WPost" => (dsimp only [WPost])
  k_with "mine comp" => (
    k_here
    k_dflt (refine LCg.Assign_ListComp_U (F₀ := by k_asm) (by rfl) (by with_unfolding_all rfl) (by with_unfolding_all rfl) (by decide) (by rfl) (by decide) (by rfl) (by rfl) (by rfl) ?_))
  k_with "exec Assign cons ListComp" => (k_extra "mine comp")
  k_with "CompSrc" => (k_here; refine stop ?_)
  trivial
noncomputable def ck3 : Cut ck2.P := by
  apply Cut.mk
  intro hck
  conv => whnf
  focus
    set_option tactic.hygienic false in intros
    w_on
    have hMk := kstMark
    k_steps
    rename IsRange _ _ _ _ _ _ _ _ => hR
    rename Fr _ _ _ _ => F3
    rename News _ _ _ _ => N3
    unfold Stop
    refine LCg.CompSrc.range (n := 5) (by rfl) F3 N3 hR ?_ ?_ ?_ ?_
    · decide
    · rfl
    · exact Nat.le_of_ble_eq_true rfl
    clear F3 N3 hR
    intro g9
    refine' rest_ind (fun i ys fz => fz = _ ∧ IntsAre ys ((List.range i).map fun k => Int.fmod (Int.fdiv fg ((7 : Int) ^ k)) 7)) ⟨rfl, .nil⟩ ?vt ?vf
    case vt =>
      rintro i ys fz v I oI C oC Dd m₂ h tk E' hi ⟨rfl, hys⟩ ⟨t9, rfl⟩ hC hx F N off ne
      obtain rfl | rfl | rfl | rfl | rfl : i = 0 ∨ i = 1 ∨ i = 2 ∨ i = 3 ∨ i = 4 := by omega
      all_goals (try k_fold)
      all_goals k_steps
      all_goals (rename Fr _ _ _ _ => F4)
      all_goals (rename News _ _ _ _ => N4)
      all_goals (try k_unfold)
      all_goals (refine LCg.CompEnd.intro F4 N4 _ (fun q hq => by simpa using hq) off trivial ⟨rfl, ?_⟩)
      all_goals (rw [List.range_succ, List.map_append])
      all_goals exact hys.append (.cons _ _ .nil)
    case vf =>
      rintro ys fz ⟨rfl, hys⟩
      (try k_fold)
      (repeat (revert ‹_›))
      exact fun h => h.out
end
/-! V3 -/
section
theorem lines20 : True := by
  k_with_none
  k_with "mine enter" => (
    refine' code_def (by k_asm) (by k_asm) (by k_asm) (by k_asm) (by k_asm) (by exact rfl) (by exact rfl) (by first | exact rfl | assumption) (by k_is) (by k_is) (by ktr_room) (by exact BindsTo.of_eq rfl) (by exact locs rfl) ?_ (by exact rfl) (by exact rfl) (by exact rfl) (by decide)
    k_whole
    intro _ _ _ _ _ _ _ _ _
    (try dsimp only)
    (try k_fold))
  k_with "mine ret0" => (refine' ret0 (by assumption) ?_ (by k_asm) (by first | k_asm | (refine cb_drop (by assumption) ?_; intro _ _; k_extra "mine sub1")))
  k_with "QEnd" => (dsimp only [QEnd])
  k_with "mine hasattr" => (
    refine' ha_line (by k_asm) (by k_asm) ?_
    intro _ _ _
    (try k_sweep))
  k_with "call builtin:hasattr" => (k_here; k_extra "mine hasattr")
  k_with "mine make" => (
    refine' call_cls (by k_asm) (by k_asm) (by k_asm) (by k_is) (by k_is) (by k_is) ?_
    k_whole
    intro _ _ _ _ _ kql kqm
    (try k_lt kql)
    (try k_lt2 kqm)
    (revert kql kqm; intro _ _)
    (try k_sweep)
    k_extra "mine enter")
  k_with "mine sub1" => (
    first
    | assumption
    | exact List.mem_append_left _ (by assumption)
    | exact List.mem_append_right _ (by assumption)
    | (refine List.Mem.tail _ ?_; k_extra "mine sub1")
    | (refine List.mem_append_left _ ?_; k_extra "mine sub1")
    | (refine List.mem_append_right _ ?_; k_extra "mine sub1"))
  k_with "mine sub" => (
    first
    | (refine sub_cons ?_ ?_; (focus (first | exact List.mem_cons.mpr (Or.inl (by rfl)) | k_memK | k_mem)); k_extra "mine sub")
    | exact List.forall_mem_nil _
    | (intro _ _; k_extra "mine sub1"))
  k_with "mine own" => (intro _ _; k_extra "mine sub1")
  k_with "mine ps" => (
    first
    | exact PsAre.nil
    | (refine PsAre.any (by with_unfolding_all rfl) ?_; k_extra "mine ps"))
  k_with "call type:tuple" => (
    k_here
    (with_reducible show wpAny _ _ (call (Value.type _) [Value.ref _]) _ _ _)
    k_dflt (refine' kde_tupleOf (by k_asm) (by k_asm) (by exact News.isList (by k_asm) (by k_mem)) (by (rw [List.size_toArray]; have hL9 := IntsAre.length (by assumption); omega)) (by exact rfl) ?_)
    intro _ _ _ _ kql
    (try k_lt kql)
    (revert kql; intro _)
    (try k_sweep))
  k_with "call ref" => (
    k_here
    (with_reducible show wpAny _ _ (call (Value.ref 42) [Value.int _ _, Value.int _ _]) _ _ _)
    k_dflt (refine' Con0.use (add_con _ _ _ _ _ _ _ _) (by k_asm) (by k_asm) (by k_asm) (by k_asm) (by k_asm) (by first | exact rfl | assumption) (by trivial) (by ktr_room) (by ktr_units) ?_)
    intro _ _ _ _ _
    (try k_sweep)
    (try dsimp only)
    (try k_fold))
  k_with "call ref" => (
    k_here
    (with_reducible show wpAny _ _ (call (Value.ref 56) [Value.int _ _, Value.int _ _]) _ _ _)
    k_dflt (refine' Con0.use (sub_con _ _ _ _ _ _ _ _) (by k_asm) (by k_asm) (by k_asm) (by k_asm) (by k_asm) (by first | exact rfl | assumption) (by trivial) (by ktr_room) (by ktr_units) ?_)
    intro _ _ _ _ _
    (try k_sweep)
    (try dsimp only)
    (try k_fold))
  k_with "call ref" => (
    k_here
    (with_reducible show wpAny _ _ (call (Value.ref 28) [Value.int _ _, Value.int _ _]) _ _ _)
    k_dflt (refine' Con0.use (lt_con _ _ _ _ _ _ _ _) (by k_asm) (by k_asm) (by k_asm) (by k_asm) (by k_asm) (by first | exact rfl | assumption) (by trivial) (by ktr_room) (by ktr_units) ?_)
    intro _ _ _ _ _
    (try k_sweep)
    (try dsimp only)
    (try k_fold))
  k_with "call ref" => (
    k_here
    (with_reducible show wpAny _ _ (call (Value.ref 35) [Value.int _ _, Value.int _ _]) _ _ _)
    k_dflt (refine' Con0.use (le_con _ _ _ _ _ _ _ _) (by k_asm) (by k_asm) (by k_asm) (by k_asm) (by k_asm) (by first | exact rfl | assumption) (by trivial) (by ktr_room) (by ktr_units) ?_)
    intro _ _ _ _ _
    (try k_sweep)
    (try dsimp only)
    (try k_fold))
  k_with "call ref" => (
    k_here
    (with_reducible show wpAny _ _ (call (Value.ref 49) [Value.str _ _, Value.int _ _]) _ _ _)
    k_dflt (refine' Con0.use (mul_con _ _ _ _ _ _ _ _) (by k_asm) (by k_asm) (by k_asm) (by k_asm) (by k_asm) (by first | exact rfl | assumption) (by k_extra "mine mulPre") (by ktr_room) (by ktr_units) ?_)
    intro _ _ _ _ _
    (try k_sweep)
    (try dsimp only)
    (try k_fold))
  k_with "call ref" => (
    k_here
    (with_reducible show wpAny _ _ (call (Value.ref 63) [Value.str _ _, Value.str _ _]) _ _ _)
    k_dflt (refine' Con0.use (concat_con _ _ _ _ _ _ _ _) (by k_asm) (by k_asm) (by k_asm) (by k_asm) (by k_asm) (by first | exact rfl | assumption) (by k_extra "mine catPre") (by ktr_room) (by ktr_units) ?_)
    intro _ _ _ _ _
    (try k_sweep)
    (try dsimp only)
    (try k_fold))
  k_with "mine mulPre" => (exact ⟨rfl, by omega, by omega⟩)
  k_with "mine catPre" => ((try simp only [codes_S, len_S, codes_tab, codes_nil, len_tab, len_nil, List.length_append, List.length_replicate, List.length_cons, List.length_nil]); omega)
  k_with "pyIter ref" => (k_here; refine stop ?_)
  k_with "exec While" => (k_here; refine stop ?_)
  k_with "mine enterC" => (
    refine' code_defC (by k_asm) (by k_asm) (by k_asm) (by k_asm) (by k_asm) (by exact rfl) (by exact rfl) (by first | exact rfl | assumption) (by k_is) (by k_is) (by ktr_room) (by exact BindsTo.of_eq rfl) (by exact rfl) (by decide +kernel) ?_ (by exact rfl) (by exact rfl) (by exact rfl)
    k_whole
    intro _ _ _ _ _ _ _ _ kqY _ _ _ kql
    (try k_lt kql)
    (revert kql; intro _)
    k_cells kqY
    (try (rename News _ _ _ _ => kqN; simp only [List.cons_append, List.nil_append] at kqN; revert kqN; intro _))
    (try dsimp only)
    (try k_fold))
  k_with "eval Name" => (k_here; (with_reducible show wpAny _ _ (eval (Expr.Name _ _) (envOfC _ _ _ _ _)) _ _ _); k_dflt (refine' bootName (by k_asm) (by k_asm) (by k_asm) (by rfl) (by rfl) (by k_is) (by first | boot_by_name | boot_fast | decide +kernel) (by decide) ?_; k_whole))
  k_with "mine mem" => (first | assumption | (refine List.Mem.tail _ ?_; k_extra "mine mem"))
  k_with "eval Name" => (k_here; (with_reducible show wpAny _ _ (eval (Expr.Name _ _) (compEnvC _ _ _ _)) _ _ _); k_dflt (refine' kcf_cell (by k_asm) (by rfl) (by k_extra "mine mem") (by assumption) ?_; k_whole))
  k_with "eval Name" => (k_here; (with_reducible show wpAny _ _ (eval (Expr.Name _ _) (envOfC _ _ _ _ _)) _ _ _); k_dflt (refine' cellName (by rfl) (by rfl) (by k_asm) (by rfl) (by k_extra "mine mem") (by assumption) ?_; k_whole))
  k_with "mine short" => ((try simp only [List.length_append, List.length_take, List.length_drop, List.length_cons, List.length_nil]); omega)
  k_with "mine mem0" => (first | exact List.mem_cons.mpr (Or.inl (by rfl)) | assumption | (refine List.Mem.tail _ ?_; k_extra "mine mem0"))
  k_with "exec For" => (k_here; k_dflt ((rename Fr _ _ _ _ => kqF); (with_unfolding_all refine' For_invVF kqF (by exact rfl) (by exact rfl) ?_; k_whole)))
  k_with "mine memL" => (first | exact List.mem_cons.mpr (Or.inl (by rfl)) | (refine List.Mem.tail _ ?_; k_extra "mine memL"))
  k_with "WPost" => (dsimp only [WPost])
  k_with "mine comp" => (
    k_here
    k_dflt (refine LCg.Assign_ListComp_U (F₀ := by k_asm) (by rfl) (by with_unfolding_all rfl) (by with_unfolding_all rfl) (by decide) (by rfl) (by decide) (by rfl) (by rfl) (by rfl) ?_))
  k_with "exec Assign cons ListComp" => (k_extra "mine comp")
  k_with "CompSrc" => (k_here; refine stop ?_)
  k_with "subscriptTail" => (
    k_here
    (with_reducible show wpAny _ _ (subscriptTail _ _ (Value.ref _) (Value.int _ _)) _ _ _)
    k_dflt (refine' ops_item (by k_asm) (by k_extra "mine memL") (by with_reducible assumption) (by assumption) (by assumption) ?_ (by with_unfolding_all rfl))
    intro _)
  k_with "subscriptTail" => (
    k_here
    (with_reducible show wpAny _ _ (subscriptTail _ _ (Value.ref 130) (Value.str _ _)) _ _ _)
    k_dflt (refine' tab_item (by k_asm) (by k_asm) (by assumption) (by assumption) (by rfl) ?_ (by with_unfolding_all rfl))
    intro _)
  k_with "call ref" => (k_here; (with_reducible show wpAny _ _ (call (Value.ref 144) _) _ _ _); refine stop ?_)
  trivial
theorem digs_eq (fg : Int) : (List.range 5).map (fun k => Int.fmod (Int.fdiv fg ((7 : Int) ^ k)) 7) = [Int.fmod (Int.fdiv fg 1) 7, Int.fmod (Int.fdiv fg 7) 7, Int.fmod (Int.fdiv fg 49) 7, Int.fmod (Int.fdiv fg 343) 7, Int.fmod (Int.fdiv fg 2401) 7] := rfl
theorem five_of {vs : List Value} {ns : List Int} (h : IntsAre vs ns) (hl : ns.length = 5) : ∃ a b c d e t0 t1 t2 t3 t4, vs = [.int a t0, .int b t1, .int c t2, .int d t3, .int e t4] ∧ ns = [a, b, c, d, e] := by
  cases h with | nil => simp at hl | cons a t0 h =>
  cases h with | nil => simp at hl | cons b t1 h =>
  cases h with | nil => simp at hl | cons c t2 h =>
  cases h with | nil => simp at hl | cons d t3 h =>
  cases h with | nil => simp at hl | cons e t4 h =>
  cases h with
  | nil => exact ⟨a, b, c, d, e, t0, t1, t2, t3, t4, rfl, rfl⟩
  | cons g t6 h => simp at hl
noncomputable def ck4 : Cut ck3.P := by
  apply Cut.mk
  intro hck
  conv => whnf
  focus
    k_fill
    set_option tactic.hygienic false in intros
    w_on
    repeat (rename Glob _ _ _ _ _ _ _ _ => hGl; clear hGl)
    k_steps
    rename Fr _ _ _ _ => F3
    rename News _ _ _ _ => N3
    unfold Stop
    refine LCg.CompSrc.ledger (by rfl) F3 N3 (.tail _ (.head _)) (Nat.le_of_ble_eq_true rfl) ?_
    clear F3 N3
    intro g8
    refine' rest_ind (n := 6) (fun i zs fz => fz = _ ∧ IntsAre zs ([7 + p0, 7 + p1, 7 + p2, 7 + p3, 7 + p4, 7 + p5].take i)) ⟨rfl, .nil⟩ ?wt ?wf
    case wt =>
      rintro i zs fz v I oI C oC Dd m₂ h tk E' hi ⟨rfl, hz⟩ hv hC hx F N off ne
      obtain ⟨p, t, e1, hp0, hp1, e2⟩ : ∃ p t, v = .int p t ∧ 0 ≤ p ∧ p < 48 ∧ ([7 + p0, 7 + p1, 7 + p2, 7 + p3, 7 + p4, 7 + p5].take (i + 1) = [7 + p0, 7 + p1, 7 + p2, 7 + p3, 7 + p4, 7 + p5].take i ++ [7 + p]) := by
        simp only [List.forall_mem_cons] at hpb
        obtain rfl | rfl | rfl | rfl | rfl | rfl : i = 0 ∨ i = 1 ∨ i = 2 ∨ i = 3 ∨ i = 4 ∨ i = 5 := by omega
        · exact ⟨p0, _, (Option.some.inj hv).symm, hpb.1.1, hpb.1.2, rfl⟩
        · exact ⟨p1, _, (Option.some.inj hv).symm, hpb.2.1.1, hpb.2.1.2, rfl⟩
        · exact ⟨p2, _, (Option.some.inj hv).symm, hpb.2.2.1.1, hpb.2.2.1.2, rfl⟩
        · exact ⟨p3, _, (Option.some.inj hv).symm, hpb.2.2.2.1.1, hpb.2.2.2.1.2, rfl⟩
        · exact ⟨p4, _, (Option.some.inj hv).symm, hpb.2.2.2.2.1.1, hpb.2.2.2.2.1.2, rfl⟩
        · exact ⟨p5, _, (Option.some.inj hv).symm, hpb.2.2.2.2.2.1.1, hpb.2.2.2.2.2.1.2, rfl⟩
      subst e1
      (try k_fold)
      k_steps
      rename Fr _ _ _ _ => F4
      rename News _ _ _ _ => N4
      (try k_unfold)
      refine LCg.CompEnd.intro F4 N4 _ (fun q hq => by simpa using hq) off ?_ ⟨rfl, ?_⟩
      · exact Or.inr ⟨_, .tail _ (.head _), rfl, _, rfl⟩
      · rw [e2]
        exact hz.append (.cons _ _ .nil)
    case wf =>
      rintro zs fz ⟨rfl, hz⟩
      obtain ⟨a0, a1, a2, a3, a4, a5, u0, u1, u2, u3, u4, u5, rfl, he⟩ := six_of hz rfl
      simp only [List.cons.injEq, and_true, List.take] at he
      obtain ⟨rfl, rfl, rfl, rfl, rfl, rfl⟩ := he
      (try k_fold)
      k_steps
      rename Fr _ _ _ _ => F3
      rename News _ _ _ _ => N3
      unfold Stop
      refine Con.use (depths_con w _ mg mb _ _ (7 + p0) (7 + p1) (7 + p2) (7 + p3) (7 + p4) (7 + p5) u0 u1 u2 u3 u4 u5) K0 F3 kXO N3 T rfl (.head _) ?_ ?_ ?_
      · ktr_room
      · ktr_units
      rename_i Dr hr1 tkr o1r gM LM hM FM NM BM XM TM li1 li2 li3 tkM tT kM TcM kXM hM2 tkM2 Dw hw tkw o1w
      rintro r tlg h4 tk4 F N hne ⟨Dd, us, nd, rfl, hmD, hus⟩
      obtain ⟨q0, q1, q2, q3, q4, v0, v1, v2, v3, v4, rfl, hr⟩ := five_of hys rfl
      have hrb : ∀ x ∈ [q0, q1, q2, q3, q4], 0 ≤ x ∧ x < 7 := hr ▸ fun x hx => by
        obtain ⟨k, _, rfl⟩ := List.mem_map.mp hx
        exact ⟨Int.fmod_nonneg_of_pos _ (by decide), Int.fmod_lt_of_pos _ (by decide)⟩
      simp only [mul_sp] at F
      have htl : 0 ≤ fg.fdiv 16807 ∧ fg.fdiv 16807 < 7 := by
        rw [Int.fdiv_eq_ediv_of_nonneg _ (by decide)]; omega
      obtain ⟨u9, F5⟩ := fr_ps (ps := [(Str.ofString "tail", .str (S (List.replicate (fg.fdiv 16807).toNat 32)) tkM), (Str.ofString "runs", .ref Dr), (Str.ofString "places", .ref Dp)]) F (by k_extra "mine ps")
      generalize fg.fdiv 16807 = tl at F5 htl
      have N5 := news_sub (nx := [(Dd, listOf us.toArray nd), (Dr, LCg.lst [.int q0 v0, .int q1 v1, .int q2 v2, .int q3 v3, .int q4 v4]), (Dp, listOf [Value.int p0 t0, .int p1 t1, .int p2 t2, .int p3 t3, .int p4 t4, .int p5 t5].toArray 0), (Do, listOf (strValues lO).toArray 0), (s1.heap.objs.size + 1, oO)]) N (by
        intro p hp
        rcases List.mem_cons.mp hp with rfl | hp
        · exact List.mem_append_left _ hmD
        · refine List.mem_append_right _ ?_
          exact (show ∀ p ∈ [(Dr, LCg.lst [.int q0 v0, .int q1 v1, .int q2 v2, .int q3 v3, .int q4 v4]), (Dp, listOf [Value.int p0 t0, .int p1 t1, .int p2 t2, .int p3 t3, .int p4 t4, .int p5 t5].toArray 0), (Do, listOf (strValues lO).toArray 0), (s1.heap.objs.size + 1, oO)], p ∈ _ from by k_extra "mine sub") p hp)
      clear F N hne hmD F3 N3 o1w kM TcM o1r FM NM BM XM TM li1 li2 hz hys hr dF2 hf0 hf1
      (repeat (revert ‹_›))
      exact fun h => h.out
end
/-! V4 -/
section
theorem lines21 : True := by
  k_with_none
  k_with "mine enter" => (
    refine' code_def (by k_asm) (by k_asm) (by k_asm) (by k_asm) (by k_asm) (by exact rfl) (by exact rfl) (by first | exact rfl | assumption) (by k_is) (by k_is) (by ktr_room) (by exact BindsTo.of_eq rfl) (by exact locs rfl) ?_ (by exact rfl) (by exact rfl) (by exact rfl) (by decide)
    k_whole
    intro _ _ _ _ _ _ _ _ _
    (try dsimp only)
    (try k_fold))
  k_with "mine ret0" => (refine' ret0 (by assumption) ?_ (by k_asm) (by first | k_asm | (refine cb_drop (by assumption) ?_; intro _ _; k_extra "mine sub1")))
  k_with "QEnd" => (dsimp only [QEnd])
  k_with "mine hasattr" => (
    refine' ha_line (by k_asm) (by k_asm) ?_
    intro _ _ _
    (try k_sweep))
  k_with "call builtin:hasattr" => (k_here; k_extra "mine hasattr")
  k_with "mine make" => (
    refine' call_cls (by k_asm) (by k_asm) (by k_asm) (by k_is) (by k_is) (by k_is) ?_
    k_whole
    intro _ _ _ _ _ kql kqm
    (try k_lt kql)
    (try k_lt2 kqm)
    (revert kql kqm; intro _ _)
    (try k_sweep)
    k_extra "mine enter")
  k_with "mine sub1" => (
    first
    | assumption
    | exact List.mem_append_left _ (by assumption)
    | exact List.mem_append_right _ (by assumption)
    | (refine List.Mem.tail _ ?_; k_extra "mine sub1")
    | (refine List.mem_append_left _ ?_; k_extra "mine sub1")
    | (refine List.mem_append_right _ ?_; k_extra "mine sub1"))
  k_with "mine sub" => (
    first
    | (refine sub_cons ?_ ?_; (focus (first | exact List.mem_cons.mpr (Or.inl (by rfl)) | k_memK | k_mem)); k_extra "mine sub")
    | exact List.forall_mem_nil _
    | (intro _ _; k_extra "mine sub1"))
  k_with "mine own" => (intro _ _; k_extra "mine sub1")
  k_with "mine ps" => (
    first
    | exact PsAre.nil
    | (refine PsAre.any (by with_unfolding_all rfl) ?_; k_extra "mine ps"))
  k_with "call type:tuple" => (
    k_here
    (with_reducible show wpAny _ _ (call (Value.type _) [Value.ref _]) _ _ _)
    k_dflt (refine' kde_tupleOf (by k_asm) (by k_asm) (by exact News.isList (by k_asm) (by k_mem)) (by (rw [List.size_toArray]; have hL9 := IntsAre.length (by assumption); omega)) (by exact rfl) ?_)
    intro _ _ _ _ kql
    (try k_lt kql)
    (revert kql; intro _)
    (try k_sweep))
  k_with "call ref" => (
    k_here
    (with_reducible show wpAny _ _ (call (Value.ref 42) [Value.int _ _, Value.int _ _]) _ _ _)
    k_dflt (refine' Con0.use (add_con _ _ _ _ _ _ _ _) (by k_asm) (by k_asm) (by k_asm) (by k_asm) (by k_asm) (by first | exact rfl | assumption) (by trivial) (by ktr_room) (by ktr_units) ?_)
    intro _ _ _ _ _
    (try k_sweep)
    (try dsimp only)
    (try k_fold))
  k_with "call ref" => (
    k_here
    (with_reducible show wpAny _ _ (call (Value.ref 56) [Value.int _ _, Value.int _ _]) _ _ _)
    k_dflt (refine' Con0.use (sub_con _ _ _ _ _ _ _ _) (by k_asm) (by k_asm) (by k_asm) (by k_asm) (by k_asm) (by first | exact rfl | assumption) (by trivial) (by ktr_room) (by ktr_units) ?_)
    intro _ _ _ _ _
    (try k_sweep)
    (try dsimp only)
    (try k_fold))
  k_with "call ref" => (
    k_here
    (with_reducible show wpAny _ _ (call (Value.ref 28) [Value.int _ _, Value.int _ _]) _ _ _)
    k_dflt (refine' Con0.use (lt_con _ _ _ _ _ _ _ _) (by k_asm) (by k_asm) (by k_asm) (by k_asm) (by k_asm) (by first | exact rfl | assumption) (by trivial) (by ktr_room) (by ktr_units) ?_)
    intro _ _ _ _ _
    (try k_sweep)
    (try dsimp only)
    (try k_fold))
  k_with "call ref" => (
    k_here
    (with_reducible show wpAny _ _ (call (Value.ref 35) [Value.int _ _, Value.int _ _]) _ _ _)
    k_dflt (refine' Con0.use (le_con _ _ _ _ _ _ _ _) (by k_asm) (by k_asm) (by k_asm) (by k_asm) (by k_asm) (by first | exact rfl | assumption) (by trivial) (by ktr_room) (by ktr_units) ?_)
    intro _ _ _ _ _
    (try k_sweep)
    (try dsimp only)
    (try k_fold))
  k_with "call ref" => (
    k_here
    (with_reducible show wpAny _ _ (call (Value.ref 49) [Value.str _ _, Value.int _ _]) _ _ _)
    k_dflt (refine' Con0.use (mul_con _ _ _ _ _ _ _ _) (by k_asm) (by k_asm) (by k_asm) (by k_asm) (by k_asm) (by first | exact rfl | assumption) (by k_extra "mine mulPre") (by ktr_room) (by ktr_units) ?_)
    intro _ _ _ _ _
    (try k_sweep)
    (try dsimp only)
    (try k_fold))
  k_with "call ref" => (
    k_here
    (with_reducible show wpAny _ _ (call (Value.ref 63) [Value.str _ _, Value.str _ _]) _ _ _)
    k_dflt (refine' Con0.use (concat_con _ _ _ _ _ _ _ _) (by k_asm) (by k_asm) (by k_asm) (by k_asm) (by k_asm) (by first | exact rfl | assumption) (by k_extra "mine catPre") (by ktr_room) (by ktr_units) ?_)
    intro _ _ _ _ _
    (try k_sweep)
    (try dsimp only)
    (try k_fold))
  k_with "mine mulPre" => (exact ⟨rfl, by omega, by omega⟩)
  k_with "mine catPre" => ((try simp only [codes_S, len_S, codes_tab, codes_nil, len_tab, len_nil, List.length_append, List.length_replicate, List.length_cons, List.length_nil]); omega)
  k_with "pyIter ref" => (k_here; refine stop ?_)
  k_with "exec While" => (k_here; refine stop ?_)
  k_with "mine enterC" => (
    refine' code_defC (by k_asm) (by k_asm) (by k_asm) (by k_asm) (by k_asm) (by exact rfl) (by exact rfl) (by first | exact rfl | assumption) (by k_is) (by k_is) (by ktr_room) (by exact BindsTo.of_eq rfl) (by exact rfl) (by decide +kernel) ?_ (by exact rfl) (by exact rfl) (by exact rfl)
    k_whole
    intro _ _ _ _ _ _ _ _ kqY _ _ _ kql
    (try k_lt kql)
    (revert kql; intro _)
    k_cells kqY
    (try (rename News _ _ _ _ => kqN; simp only [List.cons_append, List.nil_append] at kqN; revert kqN; intro _))
    (try dsimp only)
    (try k_fold))
  k_with "eval Name" => (k_here; (with_reducible show wpAny _ _ (eval (Expr.Name _ _) (envOfC _ _ _ _ _)) _ _ _); k_dflt (refine' bootName (by k_asm) (by k_asm) (by k_asm) (by rfl) (by rfl) (by k_is) (by first | boot_by_name | boot_fast | decide +kernel) (by decide) ?_; k_whole))
  k_with "mine mem" => (first | assumption | (refine List.Mem.tail _ ?_; k_extra "mine mem"))
  k_with "eval Name" => (k_here; (with_reducible show wpAny _ _ (eval (Expr.Name _ _) (compEnvC _ _ _ _)) _ _ _); k_dflt (refine' kcf_cell (by k_asm) (by rfl) (by k_extra "mine mem") (by assumption) ?_; k_whole))
  k_with "eval Name" => (k_here; (with_reducible show wpAny _ _ (eval (Expr.Name _ _) (envOfC _ _ _ _ _)) _ _ _); k_dflt (refine' cellName (by rfl) (by rfl) (by k_asm) (by rfl) (by k_extra "mine mem") (by assumption) ?_; k_whole))
  k_with "mine short" => ((try simp only [List.length_append, List.length_take, List.length_drop, List.length_cons, List.length_nil]); omega)
  k_with "mine mem0" => (first | exact List.mem_cons.mpr (Or.inl (by rfl)) | assumption | (refine List.Mem.tail _ ?_; k_extra "mine mem0"))
  k_with "exec For" => (k_here; k_dflt ((rename Fr _ _ _ _ => kqF); (with_unfolding_all refine' For_invVF kqF (by exact rfl) (by exact rfl) ?_; k_whole)))
  k_with "mine memL" => (first | exact List.mem_cons.mpr (Or.inl (by rfl)) | (refine List.Mem.tail _ ?_; k_extra "mine memL"))
  k_with "WPost" => (dsimp only [WPost])
  trivial
/-- the pile in the ledger, top first -/
inductive PileIn (w : World) (rs : List Int) (tl : Int) (fz : Led) : List Value → List Nat → Prop
  | nil : PileIn w rs tl fz [] []
  | cons {v : Value} {d : Nat} {vs : List Value} {ds : List Nat} {raw : Str} {st : Sc} (h : WsIn w fz v raw st) (hs : ScIs st (rs.take d) tl) (h5 : d ≤ 5) (h0 : d = 0 → raw = S (List.replicate tl.toNat 32)) (r : PileIn w rs tl fz vs ds) : PileIn w rs tl fz (v :: vs) (d :: ds)
theorem PileIn.mono {w : World} {rs : List Int} {tl : Int} {fz fz' : Led} {vs : List Value} {ds : List Nat} (h : PileIn w rs tl fz vs ds) (hs : ∀ p ∈ fz, p ∈ fz') : PileIn w rs tl fz' vs ds := by
  induction h with
  | nil => exact .nil
  | cons h a b c _ ih => exact .cons (h.mono hs) a b c ih
structure MS where
  np : Nat
  stk : List Value
  dep : List Nat
  price : Int
  tp : Tok
  fz : Led
theorem priceF_succ (tl : Int) (ws : List Int) (D : List Nat) (i : Nat) : priceF tl ws D (i + 1) = priceF tl ws D i + (tl + ws.getD i 0 * (D.getD i 0 : Int)) := by simp [priceF, List.range_succ]
theorem lines22 : True := by
  k_with "mine comp" => (
    k_here
    k_dflt (refine LCg.Assign_ListComp_U (F₀ := by k_asm) (by rfl) (by with_unfolding_all rfl) (by with_unfolding_all rfl) (by decide) (by rfl) (by decide) (by rfl) (by rfl) (by rfl) ?_))
  k_with "exec Assign cons ListComp" => (k_extra "mine comp")
  k_with "CompSrc" => (k_here; refine stop ?_)
  k_with "subscriptTail" => (
    k_here
    (with_reducible show wpAny _ _ (subscriptTail _ _ (Value.ref _) (Value.int _ _)) _ _ _)
    k_dflt (refine' ops_item (by k_asm) (by k_extra "mine memL") (by assumption) (by assumption) (by assumption) ?_ (by with_unfolding_all rfl))
    intro _)
  k_with "subscriptTail" => (
    k_here
    (with_reducible show wpAny _ _ (subscriptTail _ _ (Value.ref 130) (Value.str _ _)) _ _ _)
    k_dflt (refine' tab_item (by k_asm) (by k_asm) (by assumption) (by assumption) (by rfl) ?_ (by with_unfolding_all rfl))
    intro _)
  k_with "call ref" => (k_here; (with_reducible show wpAny _ _ (call (Value.ref 144) _) _ _ _); refine stop ?_)
  trivial
noncomputable def ck5 : Cut2 ck4.P := by
  apply Cut2.mk
  intro hck hck2
  conv => whnf
  focus
    k_fill
    set_option tactic.hygienic false in intros
    w_on
    have hMk := kstMark
    obtain ⟨D, hDm, hDe⟩ := gw_tree (7 + p0) (7 + p1) (7 + p2) (7 + p3) (7 + p4) (7 + p5) (by
      simp only [List.forall_mem_cons] at hpb ⊢
      obtain ⟨b0, b1, b2, b3, b4, b5, _⟩ := hpb
      refine ⟨by omega, by omega, by omega, by omega, by omega, by omega, fun x hx => by cases hx⟩)
    obtain ⟨hDl, hDb, hDr⟩ := trees6_ok D hDm
    rw [hDe] at hus
    have hGw : GwIs [7 + p0, 7 + p1, 7 + p2, 7 + p3, 7 + p4, 7 + p5] D := hDe
    clear hDe
    k_steps
    rename IsRange _ _ _ _ _ _ _ _ => hR
    rename Fr _ _ _ _ => F3
    rename News _ _ _ _ => N3
    rename_i Dq _ lQ _ _ _ _ _ _ _ _ _ _ _ _
    unfold Stop
    refine' forR (σ := MS) (τ := MS) (n := 6) (fun _ z => (Dq, listOf z.stk.reverse.toArray z.np) :: (Dd, listOf us.toArray nd) :: (Dr, listOf [Value.int q0 v0, .int q1 v1, .int q2 v2, .int q3 v3, .int q4 v4].toArray 5) :: (Dp, listOf [Value.int p0 t0, .int p1 t1, .int p2 t2, .int p3 t3, .int p4 t4, .int p5 t5].toArray 0) :: (Do, listOf (strValues lO).toArray 0) :: (s1.heap.objs.size + 1, oO) :: z.fz)
      (fun _ z => [(Str.ofString "pile", .ref Dq), (Str.ofString "price", .int z.price z.tp), (Str.ofString "depths", .ref Dd), (Str.ofString "tail", .str (S (List.replicate tl.toNat 32)) tkM), (Str.ofString "runs", .ref Dr), (Str.ofString "places", .ref Dp)])
      (fun i z => PileIn w [q0, q1, q2, q3, q4] tl z.fz z.stk z.dep ∧ redM (D.take i) = some z.dep ∧ z.price = priceF tl [7 + p0, 7 + p1, 7 + p2, 7 + p3, 7 + p4, 7 + p5] D i ∧ OwnOff z.fz [Dq] ∧ z.dep.length ≤ i)
      (fun z => (Dq, listOf z.stk.reverse.toArray z.np) :: (Dd, listOf us.toArray nd) :: (Dr, listOf [Value.int q0 v0, .int q1 v1, .int q2 v2, .int q3 v3, .int q4 v4].toArray 5) :: (Dp, listOf [Value.int p0 t0, .int p1 t1, .int p2 t2, .int p3 t3, .int p4 t4, .int p5 t5].toArray 0) :: (Do, listOf (strValues lO).toArray 0) :: (s1.heap.objs.size + 1, oO) :: z.fz)
      (fun z => [(Str.ofString "pile", .ref Dq), (Str.ofString "price", .int z.price z.tp), (Str.ofString "depths", .ref Dd), (Str.ofString "tail", .str (S (List.replicate tl.toNat 32)) tkM), (Str.ofString "runs", .ref Dr), (Str.ofString "places", .ref Dp)])
      (fun z => PileIn w [q0, q1, q2, q3, q4] tl z.fz z.stk [0] ∧ z.price = priceF tl [7 + p0, 7 + p1, 7 + p2, 7 + p3, 7 + p4, 7 + p5] D 6 ∧ OwnOff z.fz [Dq])
      ⟨0, [], [], 0, _, []⟩ rfl hR (by decide) rfl F3 N3 (fun p hp => hp) ?vp ?vP ?vt ?vd ?vc
    case vp => k_extra "mine ps"
    case vP => exact ⟨.nil, rfl, rfl, (fun p hp => by cases hp), Nat.le_refl _⟩
    case vd =>
      rintro ⟨np, stk, dep, price, tp, fz⟩ u h tk ⟨e1, e2, e3, e4, e5⟩ F N
      refine EndS.intro ⟨np, stk, dep, price, tp, fz⟩ F N (by k_extra "mine ps") (fun p hp => hp) ⟨?_, e3, e4⟩
      rw [show (6 : Nat) = D.length from hDl.symm, List.take_length, hDr] at e2
      rw [Option.some.inj e2]; exact e1
    case vc =>
      clear F3 N3 hR
      rintro ⟨np, stk, dep, price, tp, fz⟩ u h tk ⟨e1, e3, e4⟩ F N
      dsimp only at e1 e3 e4 F N
      (try k_fold)
      (repeat (revert ‹_›))
      exact fun _ h => h.out
    case vt =>
      clear F3 N3 hR
      rintro i ⟨np, stk, dep, price, tp, fz⟩ t u h tk own hi ⟨e1, e2, e3, e4, e5⟩ hoff F N
      dsimp only at e1 e2 e3 e4 e5 hoff F N
      simp only [List.cons_append, List.nil_append] at N
      simp only [List.map_cons] at hoff
      (try k_fold)
      (repeat (revert ‹_›))
      exact fun h _ => h.out
end
/-! V5 -/
section
theorem lines23 : True := by
  k_with_none
  k_with "mine enter" => (
    refine' code_def (by k_asm) (by k_asm) (by k_asm) (by k_asm) (by k_asm) (by exact rfl) (by exact rfl) (by first | exact rfl | assumption) (by k_is) (by k_is) (by ktr_room) (by exact BindsTo.of_eq rfl) (by exact locs rfl) ?_ (by exact rfl) (by exact rfl) (by exact rfl) (by decide)
    k_whole
    intro _ _ _ _ _ _ _ _ _
    (try dsimp only)
    (try k_fold))
  k_with "mine ret0" => (refine' ret0 (by assumption) ?_ (by k_asm) (by first | k_asm | (refine cb_drop (by assumption) ?_; intro _ _; k_extra "mine sub1")))
  k_with "QEnd" => (dsimp only [QEnd])
  k_with "mine hasattr" => (
    refine' ha_line (by k_asm) (by k_asm) ?_
    intro _ _ _
    (try k_sweep))
  k_with "call builtin:hasattr" => (k_here; k_extra "mine hasattr")
  k_with "mine make" => (
    refine' call_cls (by k_asm) (by k_asm) (by k_asm) (by k_is) (by k_is) (by k_is) ?_
    k_whole
    intro _ _ _ _ _ kql kqm
    (try k_lt kql)
    (try k_lt2 kqm)
    (revert kql kqm; intro _ _)
    (try k_sweep)
    k_extra "mine enter")
  k_with "mine sub1" => (
    first
    | assumption
    | exact List.mem_append_left _ (by assumption)
    | exact List.mem_append_right _ (by assumption)
    | (refine List.Mem.tail _ ?_; k_extra "mine sub1")
    | (refine List.mem_append_left _ ?_; k_extra "mine sub1")
    | (refine List.mem_append_right _ ?_; k_extra "mine sub1"))
  k_with "mine sub" => (
    first
    | (refine sub_cons ?_ ?_; (focus (first | exact List.mem_cons.mpr (Or.inl (by rfl)) | k_memK | k_mem)); k_extra "mine sub")
    | exact List.forall_mem_nil _
    | (intro _ _; k_extra "mine sub1"))
  k_with "mine own" => (intro _ _; k_extra "mine sub1")
  k_with "mine ps" => (
    first
    | exact PsAre.nil
    | (refine PsAre.any (by with_unfolding_all rfl) ?_; k_extra "mine ps"))
  k_with "call type:tuple" => (
    k_here
    (with_reducible show wpAny _ _ (call (Value.type _) [Value.ref _]) _ _ _)
    k_dflt (refine' kde_tupleOf (by k_asm) (by k_asm) (by exact News.isList (by k_asm) (by k_mem)) (by (rw [List.size_toArray]; have hL9 := IntsAre.length (by assumption); omega)) (by exact rfl) ?_)
    intro _ _ _ _ kql
    (try k_lt kql)
    (revert kql; intro _)
    (try k_sweep))
  k_with "call ref" => (
    k_here
    (with_reducible show wpAny _ _ (call (Value.ref 42) [Value.int _ _, Value.int _ _]) _ _ _)
    k_dflt (refine' Con0.use (add_con _ _ _ _ _ _ _ _) (by k_asm) (by k_asm) (by k_asm) (by k_asm) (by k_asm) (by first | exact rfl | assumption) (by trivial) (by ktr_room) (by ktr_units) ?_)
    intro _ _ _ _ _
    (try k_sweep)
    (try dsimp only)
    (try k_fold))
  k_with "call ref" => (
    k_here
    (with_reducible show wpAny _ _ (call (Value.ref 56) [Value.int _ _, Value.int _ _]) _ _ _)
    k_dflt (refine' Con0.use (sub_con _ _ _ _ _ _ _ _) (by k_asm) (by k_asm) (by k_asm) (by k_asm) (by k_asm) (by first | exact rfl | assumption) (by trivial) (by ktr_room) (by ktr_units) ?_)
    intro _ _ _ _ _
    (try k_sweep)
    (try dsimp only)
    (try k_fold))
  k_with "call ref" => (
    k_here
    (with_reducible show wpAny _ _ (call (Value.ref 28) [Value.int _ _, Value.int _ _]) _ _ _)
    k_dflt (refine' Con0.use (lt_con _ _ _ _ _ _ _ _) (by k_asm) (by k_asm) (by k_asm) (by k_asm) (by k_asm) (by first | exact rfl | assumption) (by trivial) (by ktr_room) (by ktr_units) ?_)
    intro _ _ _ _ _
    (try k_sweep)
    (try dsimp only)
    (try k_fold))
  k_with "call ref" => (
    k_here
    (with_reducible show wpAny _ _ (call (Value.ref 35) [Value.int _ _, Value.int _ _]) _ _ _)
    k_dflt (refine' Con0.use (le_con _ _ _ _ _ _ _ _) (by k_asm) (by k_asm) (by k_asm) (by k_asm) (by k_asm) (by first | exact rfl | assumption) (by trivial) (by ktr_room) (by ktr_units) ?_)
    intro _ _ _ _ _
    (try k_sweep)
    (try dsimp only)
    (try k_fold))
  k_with "call ref" => (
    k_here
    (with_reducible show wpAny _ _ (call (Value.ref 49) [Value.str _ _, Value.int _ _]) _ _ _)
    k_dflt (refine' Con0.use (mul_con _ _ _ _ _ _ _ _) (by k_asm) (by k_asm) (by k_asm) (by k_asm) (by k_asm) (by first | exact rfl | assumption) (by k_extra "mine mulPre") (by ktr_room) (by ktr_units) ?_)
    intro _ _ _ _ _
    (try k_sweep)
    (try dsimp only)
    (try k_fold))
  k_with "call ref" => (
    k_here
    (with_reducible show wpAny _ _ (call (Value.ref 63) [Value.str _ _, Value.str _ _]) _ _ _)
    k_dflt (refine' Con0.use (concat_con _ _ _ _ _ _ _ _) (by k_asm) (by k_asm) (by k_asm) (by k_asm) (by k_asm) (by first | exact rfl | assumption) (by k_extra "mine catPre") (by ktr_room) (by ktr_units) ?_)
    intro _ _ _ _ _
    (try k_sweep)
    (try dsimp only)
    (try k_fold))
  k_with "mine mulPre" => (exact ⟨rfl, by omega, by omega⟩)
  k_with "mine catPre" => ((try simp only [codes_S, len_S, codes_tab, codes_nil, len_tab, len_nil, List.length_append, List.length_replicate, List.length_cons, List.length_nil]); omega)
  k_with "pyIter ref" => (k_here; refine stop ?_)
  k_with "exec While" => (k_here; refine stop ?_)
  k_with "mine enterC" => (
    refine' code_defC (by k_asm) (by k_asm) (by k_asm) (by k_asm) (by k_asm) (by exact rfl) (by exact rfl) (by first | exact rfl | assumption) (by k_is) (by k_is) (by ktr_room) (by exact BindsTo.of_eq rfl) (by exact rfl) (by decide +kernel) ?_ (by exact rfl) (by exact rfl) (by exact rfl)
    k_whole
    intro _ _ _ _ _ _ _ _ kqY _ _ _ kql
    (try k_lt kql)
    (revert kql; intro _)
    k_cells kqY
    (try (rename News _ _ _ _ => kqN; simp only [List.cons_append, List.nil_append] at kqN; revert kqN; intro _))
    (try dsimp only)
    (try k_fold))
  k_with "eval Name" => (k_here; (with_reducible show wpAny _ _ (eval (Expr.Name _ _) (envOfC _ _ _ _ _)) _ _ _); k_dflt (refine' bootName (by k_asm) (by k_asm) (by k_asm) (by rfl) (by rfl) (by k_is) (by first | boot_by_name | boot_fast | decide +kernel) (by decide) ?_; k_whole))
  k_with "mine mem" => (first | assumption | (refine List.Mem.tail _ ?_; k_extra "mine mem"))
  k_with "eval Name" => (k_here; (with_reducible show wpAny _ _ (eval (Expr.Name _ _) (compEnvC _ _ _ _)) _ _ _); k_dflt (refine' kcf_cell (by k_asm) (by rfl) (by k_extra "mine mem") (by assumption) ?_; k_whole))
  k_with "eval Name" => (k_here; (with_reducible show wpAny _ _ (eval (Expr.Name _ _) (envOfC _ _ _ _ _)) _ _ _); k_dflt (refine' cellName (by rfl) (by rfl) (by k_asm) (by rfl) (by k_extra "mine mem") (by assumption) ?_; k_whole))
  k_with "mine short" => ((try simp only [List.length_append, List.length_take, List.length_drop, List.length_cons, List.length_nil]); omega)
  k_with "mine mem0" => (first | exact List.mem_cons.mpr (Or.inl (by rfl)) | assumption | (refine List.Mem.tail _ ?_; k_extra "mine mem0"))
  k_with "exec For" => (k_here; k_dflt ((rename Fr _ _ _ _ => kqF); (with_unfolding_all refine' For_invVF kqF (by exact rfl) (by exact rfl) ?_; k_whole)))
  k_with "mine memL" => (first | exact List.mem_cons.mpr (Or.inl (by rfl)) | (refine List.Mem.tail _ ?_; k_extra "mine memL"))
  k_with "WPost" => (dsimp only [WPost])
  k_with "mine comp" => (
    k_here
    k_dflt (refine LCg.Assign_ListComp_U (F₀ := by k_asm) (by rfl) (by with_unfolding_all rfl) (by with_unfolding_all rfl) (by decide) (by rfl) (by decide) (by rfl) (by rfl) (by rfl) ?_))
  k_with "exec Assign cons ListComp" => (k_extra "mine comp")
  k_with "CompSrc" => (k_here; refine stop ?_)
  k_with "subscriptTail" => (
    k_here
    (with_reducible show wpAny _ _ (subscriptTail _ _ (Value.ref _) (Value.int _ _)) _ _ _)
    k_dflt (refine' ops_item (by k_asm) (by k_extra "mine memL") (by with_reducible assumption) (by assumption) (by assumption) ?_ (by with_unfolding_all rfl))
    intro _)
  k_with "subscriptTail" => (
    k_here
    (with_reducible show wpAny _ _ (subscriptTail _ _ (Value.ref 130) (Value.str _ _)) _ _ _)
    k_dflt (refine' tab_item (by k_asm) (by k_asm) (by assumption) (by assumption) (by rfl) ?_ (by with_unfolding_all rfl))
    intro _)
  k_with "call ref" => (k_here; (with_reducible show wpAny _ _ (call (Value.ref 144) _) _ _ _); refine stop ?_)
  trivial
theorem ints_val {vs : List Value} {ns : List Int} (h : IntsAre vs ns) : ∀ {i : Nat} {n : Int}, ns[i]? = some n → ∃ t, vs[i]? = some (.int n t) := by
  induction h with
  | nil => intro i n hn; simp at hn
  | cons n t _ ih =>
    intro i m hm
    cases i with
    | zero => exact ⟨t, by simpa using hm⟩
    | succ i => simpa using ih (by simpa using hm)
theorem lines24 : True := by
  k_with "subscriptTail Name Name ref int" => (
    k_here
    (with_reducible show wpAny _ _ (subscriptTail (PySem.Expr.Name _ _) _ (Value.ref _) (Value.int _ _)) _ _ _)
    k_dflt (refine' kim_list (by k_asm) (by k_extra "mine memL") rfl rfl (by omega) (by omega) (by assumption) ?_ (by with_unfolding_all rfl) (by kmk_pure); k_whole))
  k_with "subscriptTail Name Slice ref ref" => (
    k_here
    (with_reducible show wpAny _ _ (subscriptTail _ (PySem.Expr.Slice _ _ none _) (Value.ref _) (Value.ref _)) _ _ _)
    k_dflt (refine' val_take (by k_asm) (by k_asm) (by k_extra "mine memL") (by omega) (by (simp only [List.length_cons, List.length_nil]; omega)) ?_ (by with_unfolding_all rfl) (by kmk_pure))
    intro _ _ _ _ kql
    (try k_lt kql)
    (revert kql; intro _)
    (try k_sweep))
  k_with "eval IfExp" => (k_here; refine stop ?_)
  trivial
noncomputable def ck7 : Cut ck5.P := by
  apply Cut.mk
  intro hck
  conv => whnf
  focus
    k_fill
    set_option tactic.hygienic false in intros
    w_on
    have hMk := kstMark
    obtain ⟨d, hd⟩ : ∃ d, D[i]? = some d := ⟨D[i], List.getElem?_eq_getElem (by omega)⟩
    have hd15 := hDb d (List.mem_of_getElem? hd)
    have hi0 : (0 + (i : Int)).toNat = i := by omega
    rename IntsAre us _ => hus
    obtain ⟨td, hud⟩ := ints_val hus (i := (0 + (i : Int)).toNat) (n := (d : Int)) (by rw [hi0, List.getElem?_map, hd]; rfl)
    have hgd : (D.map (fun (n : Nat) => (n : Int))).getD (0 + (i : Int)).toNat 0 = (d : Int) := by
      rw [hi0, List.getD_eq_getElem?_getD, List.getElem?_map, hd]; rfl
    obtain ⟨p, tpl, hpv, hp0, hp1, hpw, hgp⟩ : ∃ p t, [Value.int p0 t0, Value.int p1 t1, Value.int p2 t2, Value.int p3 t3, Value.int p4 t4, Value.int p5 t5][(0 + (i : Int)).toNat]? = some (.int p t) ∧ 0 ≤ p ∧ p < 48 ∧ [7 + p0, 7 + p1, 7 + p2, 7 + p3, 7 + p4, 7 + p5].getD i 0 = 7 + p ∧ [p0, p1, p2, p3, p4, p5].getD (0 + (i : Int)).toNat 0 = p := by
      rw [hi0]
      simp only [List.forall_mem_cons] at hpb
      obtain ⟨b0, b1, b2, b3, b4, b5, _⟩ := hpb
      obtain rfl | rfl | rfl | rfl | rfl | rfl : i = 0 ∨ i = 1 ∨ i = 2 ∨ i = 3 ∨ i = 4 ∨ i = 5 := by omega
      · exact ⟨p0, _, rfl, b0.1, b0.2, rfl, rfl⟩
      · exact ⟨p1, _, rfl, b1.1, b1.2, rfl, rfl⟩
      · exact ⟨p2, _, rfl, b2.1, b2.2, rfl, rfl⟩
      · exact ⟨p3, _, rfl, b3.1, b3.2, rfl, rfl⟩
      · exact ⟨p4, _, rfl, b4.1, b4.2, rfl, rfl⟩
      · exact ⟨p5, _, rfl, b5.1, b5.2, rfl, rfl⟩
    have hIr : IntsAre [Value.int q0 v0, .int q1 v1, .int q2 v2, .int q3 v3, .int q4 v4] [q0, q1, q2, q3, q4] := .cons _ _ (.cons _ _ (.cons _ _ (.cons _ _ (.cons _ _ .nil))))
    have hIo := hIr.take d
    k_steps
    rename Fr _ _ _ _ => F3
    rename News _ _ _ _ => N3
    rename_i Dn _ _ _ lN _
    unfold Stop
    simp only [hgd, Int.toNat_natCast] at F3 N3
    obtain ⟨u2, F4⟩ := fr_ps (ps := [(Str.ofString "own", .ref Dn), (Str.ofString "k", .int (0 + (i : Int)) t), (Str.ofString "pile", .ref Dq), (Str.ofString "price", .int price tp), (Str.ofString "depths", .ref Dd), (Str.ofString "tail", .str (S (List.replicate tl.toNat 32)) tkM), (Str.ofString "runs", .ref Dr), (Str.ofString "places", .ref Dp)]) F3 (by k_extra "mine ps")
    refine wpAny_mono (Q := fun v s' => Stop (∃ X us' ns' c h' tk', v = .ref X ∧ s' = { s1 with heap := h', toks := tk' } ∧ Fr T.heap s1.heap.objs.size h' (kstB u2 [(Str.ofString "own", .ref Dn), (Str.ofString "k", .int (0 + (i : Int)) t), (Str.ofString "pile", .ref Dq), (Str.ofString "price", .int price tp), (Str.ofString "depths", .ref Dd), (Str.ofString "tail", .str (S (List.replicate tl.toNat 32)) tkM), (Str.ofString "runs", .ref Dr), (Str.ofString "places", .ref Dp)]) ∧
      News T.heap s1.heap.objs.size h' ((X, listOf (List.toArray us') c) :: (Dn, listOf ([Value.int q0 v0, .int q1 v1, .int q2 v2, .int q3 v3, .int q4 v4].take d).toArray 0) :: (Dq, listOf stk.reverse.toArray np) :: (Dd, listOf us.toArray nd) :: (Dr, listOf [Value.int q0 v0, .int q1 v1, .int q2 v2, .int q3 v3, .int q4 v4].toArray 5) :: (Dp, listOf [Value.int p0 t0, .int p1 t1, .int p2 t2, .int p3 t3, .int p4 t4, .int p5 t5].toArray 0) :: (Do, listOf (strValues lO).toArray 0) :: (s1.heap.objs.size + 1, oO) :: (fz ++ own)) ∧ Dq < X ∧ IntsAre us' ns' ∧ ns'.Perm ([q0, q1, q2, q3, q4].take d))) ?va ?vb (fun _ _ e => e)
    case va =>
      clear F3
      refine wpAny_IfExp ?_
      k_steps
      · rename News _ _ _ _ => N5
        rename Fr _ _ _ _ => F5
        rename IntsAre _ (List.reverse _) => hRv
        rename _ ∧ _ ∧ _ ∧ _ ∧ _ ∧ _ ∧ _ ∧ AllLt _ _ => lRv
        exact ⟨_, _, _, _, _, _, rfl, rfl, F5, N5, lRv.2.1, hRv, List.reverse_perm _⟩
      · rename News _ _ _ _ => N5
        rename Fr _ _ _ _ => F5
        refine ⟨Dn, _, _, 0, _, _, rfl, rfl, F5, news_sub N5 ?_, lN.1, hIo, .refl _⟩
        k_extra "mine sub"
    case vb =>
      clear F3 N3 F4 hIo
      rintro v s' ⟨Xo, us', ns', c, h5, tk5, rfl, rfl, F9, N9, hX, hI5, hp5⟩
      (repeat (revert ‹_›))
      exact fun h => h.out
end
/-! V6 -/
section
theorem lines25 : True := by
  k_with_none
  k_with "mine enter" => (
    refine' code_def (by k_asm) (by k_asm) (by k_asm) (by k_asm) (by k_asm) (by exact rfl) (by exact rfl) (by first | exact rfl | assumption) (by k_is) (by k_is) (by ktr_room) (by exact BindsTo.of_eq rfl) (by exact locs rfl) ?_ (by exact rfl) (by exact rfl) (by exact rfl) (by decide)
    k_whole
    intro _ _ _ _ _ _ _ _ _
    (try dsimp only)
    (try k_fold))
  k_with "mine ret0" => (refine' ret0 (by assumption) ?_ (by k_asm) (by first | k_asm | (refine cb_drop (by assumption) ?_; intro _ _; k_extra "mine sub1")))
  k_with "QEnd" => (dsimp only [QEnd])
  k_with "mine hasattr" => (
    refine' ha_line (by k_asm) (by k_asm) ?_
    intro _ _ _
    (try k_sweep))
  k_with "call builtin:hasattr" => (k_here; k_extra "mine hasattr")
  k_with "mine make" => (
    refine' call_cls (by k_asm) (by k_asm) (by k_asm) (by k_is) (by k_is) (by k_is) ?_
    k_whole
    intro _ _ _ _ _ kql kqm
    (try k_lt kql)
    (try k_lt2 kqm)
    (revert kql kqm; intro _ _)
    (try k_sweep)
    k_extra "mine enter")
  k_with "mine sub1" => (
    first
    | assumption
    | exact List.mem_append_left _ (by assumption)
    | exact List.mem_append_right _ (by assumption)
    | (refine List.Mem.tail _ ?_; k_extra "mine sub1")
    | (refine List.mem_append_left _ ?_; k_extra "mine sub1")
    | (refine List.mem_append_right _ ?_; k_extra "mine sub1"))
  k_with "mine sub" => (
    first
    | (refine sub_cons ?_ ?_; (focus (first | exact List.mem_cons.mpr (Or.inl (by rfl)) | k_memK | k_mem)); k_extra "mine sub")
    | exact List.forall_mem_nil _
    | (intro _ _; k_extra "mine sub1"))
  k_with "mine own" => (intro _ _; k_extra "mine sub1")
  k_with "mine ps" => (
    first
    | exact PsAre.nil
    | (refine PsAre.any (by with_unfolding_all rfl) ?_; k_extra "mine ps"))
  k_with "call type:tuple" => (
    k_here
    (with_reducible show wpAny _ _ (call (Value.type _) [Value.ref _]) _ _ _)
    k_dflt (refine' kde_tupleOf (by k_asm) (by k_asm) (by exact News.isList (by k_asm) (by k_mem)) (by (rw [List.size_toArray]; have hL9 := IntsAre.length (by assumption); omega)) (by exact rfl) ?_)
    intro _ _ _ _ kql
    (try k_lt kql)
    (revert kql; intro _)
    (try k_sweep))
  k_with "call ref" => (
    k_here
    (with_reducible show wpAny _ _ (call (Value.ref 42) [Value.int _ _, Value.int _ _]) _ _ _)
    k_dflt (refine' Con0.use (add_con _ _ _ _ _ _ _ _) (by k_asm) (by k_asm) (by k_asm) (by k_asm) (by k_asm) (by first | exact rfl | assumption) (by trivial) (by ktr_room) (by ktr_units) ?_)
    intro _ _ _ _ _
    (try k_sweep)
    (try dsimp only)
    (try k_fold))
  k_with "call ref" => (
    k_here
    (with_reducible show wpAny _ _ (call (Value.ref 56) [Value.int _ _, Value.int _ _]) _ _ _)
    k_dflt (refine' Con0.use (sub_con _ _ _ _ _ _ _ _) (by k_asm) (by k_asm) (by k_asm) (by k_asm) (by k_asm) (by first | exact rfl | assumption) (by trivial) (by ktr_room) (by ktr_units) ?_)
    intro _ _ _ _ _
    (try k_sweep)
    (try dsimp only)
    (try k_fold))
  k_with "call ref" => (
    k_here
    (with_reducible show wpAny _ _ (call (Value.ref 28) [Value.int _ _, Value.int _ _]) _ _ _)
    k_dflt (refine' Con0.use (lt_con _ _ _ _ _ _ _ _) (by k_asm) (by k_asm) (by k_asm) (by k_asm) (by k_asm) (by first | exact rfl | assumption) (by trivial) (by ktr_room) (by ktr_units) ?_)
    intro _ _ _ _ _
    (try k_sweep)
    (try dsimp only)
    (try k_fold))
  k_with "call ref" => (
    k_here
    (with_reducible show wpAny _ _ (call (Value.ref 35) [Value.int _ _, Value.int _ _]) _ _ _)
    k_dflt (refine' Con0.use (le_con _ _ _ _ _ _ _ _) (by k_asm) (by k_asm) (by k_asm) (by k_asm) (by k_asm) (by first | exact rfl | assumption) (by trivial) (by ktr_room) (by ktr_units) ?_)
    intro _ _ _ _ _
    (try k_sweep)
    (try dsimp only)
    (try k_fold))
  k_with "call ref" => (
    k_here
    (with_reducible show wpAny _ _ (call (Value.ref 49) [Value.str _ _, Value.int _ _]) _ _ _)
    k_dflt (refine' Con0.use (mul_con _ _ _ _ _ _ _ _) (by k_asm) (by k_asm) (by k_asm) (by k_asm) (by k_asm) (by first | exact rfl | assumption) (by k_extra "mine mulPre") (by ktr_room) (by ktr_units) ?_)
    intro _ _ _ _ _
    (try k_sweep)
    (try dsimp only)
    (try k_fold))
  k_with "call ref" => (
    k_here
    (with_reducible show wpAny _ _ (call (Value.ref 63) [Value.str _ _, Value.str _ _]) _ _ _)
    k_dflt (refine' Con0.use (concat_con _ _ _ _ _ _ _ _) (by k_asm) (by k_asm) (by k_asm) (by k_asm) (by k_asm) (by first | exact rfl | assumption) (by k_extra "mine catPre") (by ktr_room) (by ktr_units) ?_)
    intro _ _ _ _ _
    (try k_sweep)
    (try dsimp only)
    (try k_fold))
  k_with "mine mulPre" => (exact ⟨rfl, by omega, by omega⟩)
  k_with "mine catPre" => ((try simp only [codes_S, len_S, codes_tab, codes_nil, len_tab, len_nil, List.length_append, List.length_replicate, List.length_cons, List.length_nil]); omega)
  k_with "pyIter ref" => (k_here; refine stop ?_)
  k_with "exec While" => (k_here; refine stop ?_)
  k_with "mine enterC" => (
    refine' code_defC (by k_asm) (by k_asm) (by k_asm) (by k_asm) (by k_asm) (by exact rfl) (by exact rfl) (by first | exact rfl | assumption) (by k_is) (by k_is) (by ktr_room) (by exact BindsTo.of_eq rfl) (by exact rfl) (by decide +kernel) ?_ (by exact rfl) (by exact rfl) (by exact rfl)
    k_whole
    intro _ _ _ _ _ _ _ _ kqY _ _ _ kql
    (try k_lt kql)
    (revert kql; intro _)
    k_cells kqY
    (try (rename News _ _ _ _ => kqN; simp only [List.cons_append, List.nil_append] at kqN; revert kqN; intro _))
    (try dsimp only)
    (try k_fold))
  k_with "eval Name" => (k_here; (with_reducible show wpAny _ _ (eval (Expr.Name _ _) (envOfC _ _ _ _ _)) _ _ _); k_dflt (refine' bootName (by k_asm) (by k_asm) (by k_asm) (by rfl) (by rfl) (by k_is) (by first | boot_by_name | boot_fast | decide +kernel) (by decide) ?_; k_whole))
  k_with "mine mem" => (first | assumption | (refine List.Mem.tail _ ?_; k_extra "mine mem"))
  k_with "eval Name" => (k_here; (with_reducible show wpAny _ _ (eval (Expr.Name _ _) (compEnvC _ _ _ _)) _ _ _); k_dflt (refine' kcf_cell (by k_asm) (by rfl) (by k_extra "mine mem") (by assumption) ?_; k_whole))
  k_with "eval Name" => (k_here; (with_reducible show wpAny _ _ (eval (Expr.Name _ _) (envOfC _ _ _ _ _)) _ _ _); k_dflt (refine' cellName (by rfl) (by rfl) (by k_asm) (by rfl) (by k_extra "mine mem") (by assumption) ?_; k_whole))
  k_with "mine short" => ((try simp only [List.length_append, List.length_take, List.length_drop, List.length_cons, List.length_nil]); omega)
  k_with "mine mem0" => (first | exact List.mem_cons.mpr (Or.inl (by rfl)) | assumption | (refine List.Mem.tail _ ?_; k_extra "mine mem0"))
  k_with "exec For" => (k_here; k_dflt ((rename Fr _ _ _ _ => kqF); (with_unfolding_all refine' For_invVF kqF (by exact rfl) (by exact rfl) ?_; k_whole)))
  k_with "mine memL" => (first | exact List.mem_cons.mpr (Or.inl (by rfl)) | (refine List.Mem.tail _ ?_; k_extra "mine memL"))
  k_with "WPost" => (dsimp only [WPost])
  k_with "mine comp" => (
    k_here
    k_dflt (refine LCg.Assign_ListComp_U (F₀ := by k_asm) (by rfl) (by with_unfolding_all rfl) (by with_unfolding_all rfl) (by decide) (by rfl) (by decide) (by rfl) (by rfl) (by rfl) ?_))
  k_with "exec Assign cons ListComp" => (k_extra "mine comp")
  k_with "CompSrc" => (k_here; refine stop ?_)
  k_with "subscriptTail" => (
    k_here
    (with_reducible show wpAny _ _ (subscriptTail _ _ (Value.ref _) (Value.int _ _)) _ _ _)
    k_dflt (refine' ops_item (by k_asm) (by k_extra "mine memL") (by with_reducible assumption) (by assumption) (by assumption) ?_ (by with_unfolding_all rfl))
    intro _)
  k_with "subscriptTail" => (
    k_here
    (with_reducible show wpAny _ _ (subscriptTail _ _ (Value.ref 130) (Value.str _ _)) _ _ _)
    k_dflt (refine' tab_item (by k_asm) (by k_asm) (by assumption) (by assumption) (by rfl) ?_ (by with_unfolding_all rfl))
    intro _)
  k_with "call ref" => (k_here; (with_reducible show wpAny _ _ (call (Value.ref 144) _) _ _ _); refine stop ?_)
  trivial
theorem opsL_short (p : Nat) : (opsL.getD p default).length ≤ 3 := by
  rw [opsL_eq]
  have h : ∀ x ∈ opsC, x.length ≤ 3 := by decide +kernel
  rw [List.getD_eq_getElem?_getD]
  rcases Nat.lt_or_ge p opsC.length with hp | hp
  · rw [List.getElem?_eq_getElem hp]; exact h _ (List.getElem_mem hp)
  · rw [List.getElem?_eq_none hp]; decide +kernel
theorem opsL_head {p : Int} (h0 : 0 ≤ p) (h1 : p < 48) : ∃ c r, codes (opsL.getD p.toNat default) = c :: r ∧ c ≠ 32 ∧ c ≠ 9 := by
  rw [opsL_eq]
  have h : ∀ x ∈ opsC, (match codes x with | [] => false | c :: _ => c != 32 && c != 9) = true := by decide +kernel
  have hl : p.toNat < opsC.length := by show p.toNat < 48; omega
  have h2 := h _ (List.getElem_mem hl)
  rw [List.getD_eq_getElem?_getD, List.getElem?_eq_getElem hl, Option.getD_some]
  cases e : codes opsC[p.toNat] with
  | nil => rw [e] at h2; cases h2
  | cons c r => rw [e] at h2; simp only [Bool.and_eq_true, bne_iff_ne] at h2; exact ⟨c, r, rfl, h2.1, h2.2⟩
theorem sumN_take_perm {a b : List Int} (p : a.Perm b) : sumN a = sumN b := by have := sumN_perm p; omega
theorem leadC_len_eq : ∀ {rs : List Int}, (∀ r ∈ rs, 0 ≤ r) → ((leadC rs).length : Int) = sumN rs
  | [], _ => rfl
  | b :: r, h => by
    have h1 := leadC_len_eq (rs := r) fun x hx => h x (.tail _ hx)
    have h2 := h b (.head _)
    have e : (leadC (b :: r)).length = b.toNat + 1 + (leadC r).length := by simp [leadC]; omega
    rw [e]
    simp only [sumN, List.map_cons, List.sum_cons] at h1 ⊢
    omega
theorem ws_make {w : World} {mean : ExcName → Option Value} {mg mb : Str → Option Value} {x : Str} {t : Tok} {dp un : Nat} {gd : Option (List Code)} {cn : Str} {cs : Scope} {a : Addr} {ccd : Value} {cl : List (Str × Addr)} {outer : List Env} {A₀ : Around} {base h₀ : Heap} {L : Addr} {m : Str → Option Value} {news : Led} {s : Shared}
    {Q E : Value → Shared → Prop} (hlen : x.length ≤ 200)
    (B : Below A₀ base outer h₀) (F : Fr h₀ L s.heap m) (X : Frag.In (hd.heap_1 w.params) h₀) (N : News h₀ L s.heap news) (T : Top view LOO mean mg mb h₀) (hk : cs.kind = .function)
    (hd : dp + 3 < recursionLimit) (hu : un + 20 * 3 < cLine)
    (ret : ∀ xI dI tI cI us st t1 t2 t3 t4 t5 t6 t7 t8 t9 h' tk', Fr h₀ L h' m → News h₀ L h' ((xI, instObj 125 dI) :: (dI, wsDict w x st tI t1 t2 t3 t4 t5 t6 t7 t8) :: (tI, tupOf [.ref cI, .int st.b t9]) :: (cI, tupOf us) :: news) → IntsAre us st.count →
      (∀ q ∈ news, q.1 ≠ xI ∧ q.1 ≠ dI ∧ q.1 ≠ tI ∧ q.1 ≠ cI) → st = scan (codes x) sc0 → Q (.ref xI) { s with heap := h', toks := tk' }) :
    wpAny (model PySem.Challenge.rw_tl0032_01.row.prog w) (ktrTop dp un gd cn cs L a ccd cl outer) (call (.ref 125) [.str x t]) Q E s := by
  refine Con.use (ws_con w mean mg mb x t) B F X N T hk hlen hd hu ?_
  rintro r tl h' tk' F' N' hne ⟨xI, dI, tI, cI, us, t1, t2, t3, t4, t5, t6, t7, t8, t9, rfl, m1, m2, m3, m4, hI⟩
  refine ret xI dI tI cI us _ t1 t2 t3 t4 t5 t6 t7 t8 t9 h' tk' F' (news_sub N' ?_) hI (fun q hq => ⟨hne _ m1 q hq, hne _ m2 q hq, hne _ m3 q hq, hne _ m4 q hq⟩) rfl
  refine allC (List.mem_append_left _ m1) (allC (List.mem_append_left _ m2) (allC (List.mem_append_left _ m3) (allC (List.mem_append_left _ m4) (fun p hp => ?_))))
  exact List.mem_append_right _ hp
theorem lines26 : True := by
  k_with "call ref" => (
    k_here
    (try dsimp only [List.cons_append, List.nil_append])
    (with_reducible show wpAny _ _ (call (Value.ref 151) [Value.ref _, Value.str _ _]) _ _ _)
    k_dflt (refine' Con0.use (lead_con _ _ _ _ _ _ _ _) (by k_asm) (by k_asm) (by k_asm) (by k_asm) (by k_asm) (by first | exact rfl | assumption) (by exact ⟨_, _, by k_extra "mine memL", by assumption, by assumption, by assumption, by k_extra "mine catPre"⟩) (by ktr_room) (by ktr_units) ?_)
    intro _ _ _ _ _
    (try k_sweep)
    (try dsimp only)
    (try k_fold))
  k_with "call ref" => (k_here; (with_reducible show wpAny _ _ (call (Value.ref 125) _) _ _ _); refine stop ?_)
  k_with "subscriptTail Name Subscript ref int" => (
    k_here
    (with_reducible show wpAny _ _ (subscriptTail _ _ (Value.ref _) (Value.int _ _)) _ _ _)
    k_dflt (refine' ops_item (by k_asm) (by k_extra "mine memL") (by with_reducible assumption) (by assumption) (by assumption) ?_ (by with_unfolding_all rfl))
    intro _)
  trivial
noncomputable def ck8 : Cut ck7.P := by
  apply Cut.mk
  intro hck
  conv => whnf
  focus
    k_fill
    set_option tactic.hygienic false in intros
    w_on
    have hMk := kstMark
    have hb8 : ∀ x ∈ ns', 0 ≤ x ∧ x ≤ 8 := fun x hx => by
      have := hrb x (List.mem_of_mem_take (hp5.mem_iff.mp hx)); omega
    have hl6 : ns'.length ≤ 6 := by rw [hp5.length_eq, List.length_take]; simp only [List.length_cons, List.length_nil]; omega
    have hlo := opsL_short p.toNat
    have hsp : (Str.ofString " \t").length = 2 := by decide +kernel
    have hll := leadC_len ns' hb8
    have hlo2 : (codes (opsL.getD p.toNat default)).length ≤ 3 := by rw [← len_codes]; exact hlo
    have hsp2 : (codes (Str.ofString " \t")).length = 2 := by rw [← len_codes]; exact hsp
    iterate 16 walk1
    rw [hgp]
    k_steps
    rename Fr _ _ _ _ => F3
    rename News _ _ _ _ => N3
    unfold Stop
    simp only [codes_S] at F3 ⊢
    have hRl : (S (leadC ns' ++ List.replicate tl.toNat 32 ++ (codes (opsL.getD p.toNat default) ++ codes (Str.ofString " \t")))).length ≤ 200 := by
      rw [len_S]; simp only [List.length_append, List.length_replicate]; omega
    refine ws_make hRl K0 F3 kXO N3 T rfl (by ktr_room) (by ktr_units) ?_
    rintro xI dI tI cI uw st x1 x2 x3 x4 x5 x6 x7 x8 x9 h6 tk6 F6 N6 hIw hneW hst
    obtain ⟨oc, or, hoc, ho32, ho9⟩ := opsL_head hp0 hp1
    have htn : ((tl.toNat : Nat) : Int) = tl := by omega
    have hSc : ScIs st ([q0, q1, q2, q3, q4].take d) tl := by
      rw [hst, codes_S, List.append_assoc]
      have := scan_all (rs := ns') (fun r hr => (hb8 r hr).1) tl.toNat (c := codes (opsL.getD p.toNat default) ++ codes (Str.ofString " \t")) (by rw [hoc]; exact stops_cons ho32 ho9)
      rw [htn] at this
      exact this.perm hp5
    have hRs : RsOk [q0, q1, q2, q3, q4] := ⟨Nat.le_of_ble_eq_true rfl, fun r hr => by have := hrb r hr; omega⟩
    have hOk := hSc.ok (hRs.take d) htl.1 (by omega)
    have hWl : WsIn w [(xI, instObj 125 dI), (dI, wsDict w (S (leadC ns' ++ List.replicate tl.toNat 32 ++ (codes (opsL.getD p.toNat default) ++ codes (Str.ofString " \t")))) st tI x1 x2 x3 x4 x5 x6 x7 x8), (tI, tupOf [.ref cI, .int st.b x9]), (cI, tupOf uw)] (.ref xI) (S (leadC ns' ++ List.replicate tl.toNat 32 ++ (codes (opsL.getD p.toNat default) ++ codes (Str.ofString " \t")))) st :=
      ⟨xI, dI, tI, cI, uw, x1, x2, x3, x4, x5, x6, x7, x8, x9, rfl, .head _, .tail _ (.head _), .tail _ (.tail _ (.head _)), .tail _ (.tail _ (.tail _ (.head _))), hIw⟩
    have hRow : codes (S (leadC ns' ++ List.replicate tl.toNat 32 ++ (codes (opsL.getD p.toNat default) ++ codes (Str.ofString " \t")))) = (leadC ns' ++ List.replicate tl.toNat 32) ++ (codes (opsL.getD p.toNat default) ++ codes (Str.ofString " \t")) := codes_S _
    have hRn : ((leadC ns' ++ List.replicate tl.toNat 32).length : Int) = st.n := by
      have hle := leadC_len_eq (rs := ns') (fun r hr => (hb8 r hr).1)
      rw [hSc.n, List.length_append, List.length_replicate, ← sumN_take_perm hp5]; omega
    generalize S (leadC ns' ++ List.replicate tl.toNat 32 ++ (codes (opsL.getD p.toNat default) ++ codes (Str.ofString " \t"))) = RT at F3 F6 N6 hWl hRow hRl hst
    obtain ⟨u3, F7⟩ := fr_ps (ps := [(Str.ofString "row", .str RT _), (Str.ofString "own", .ref Dn), (Str.ofString "k", .int (0 + (i : Int)) t), (Str.ofString "pile", .ref Dq), (Str.ofString "price", .int price tp), (Str.ofString "depths", .ref Dd), (Str.ofString "tail", .str (S (List.replicate tl.toNat 32)) tkM), (Str.ofString "runs", .ref Dr), (Str.ofString "places", .ref Dp)]) F6 (by k_extra "mine ps")
    have N7 := news_sub (nx := (xI, instObj 125 dI) :: (dI, wsDict w RT st tI x1 x2 x3 x4 x5 x6 x7 x8) :: (tI, tupOf [.ref cI, .int st.b x9]) :: (cI, tupOf uw) :: (Dn, listOf ([Value.int q0 v0, .int q1 v1, .int q2 v2, .int q3 v3, .int q4 v4].take d).toArray 0) :: (Dq, listOf stk.reverse.toArray np) :: (Dd, listOf us.toArray nd) :: (Dr, listOf [Value.int q0 v0, .int q1 v1, .int q2 v2, .int q3 v3, .int q4 v4].toArray 5) :: (Dp, listOf [Value.int p0 t0, .int p1 t1, .int p2 t2, .int p3 t3, .int p4 t4, .int p5 t5].toArray 0) :: (Do, listOf (strValues lO).toArray 0) :: (s1.heap.objs.size + 1, oO) :: (fz ++ own)) N6 (by k_extra "mine sub")
    have hxq := hneW (Dq, listOf stk.reverse.toArray np) (.tail _ (.tail _ (.head _)))
    have hxo : ∀ q ∈ own, q.1 ≠ xI ∧ q.1 ≠ dI ∧ q.1 ≠ tI ∧ q.1 ≠ cI := fun q hq => hneW q (by k_extra "mine sub1")
    clear F3 N3 F6 N6 hneW hIw hst hI5 hl6 hb8 hll hlo hlo2 hsp hsp2
    (repeat (revert ‹_›))
    exact fun h => h.out
end
/-! V7 -/
section
theorem lines27 : True := by
  k_with_none
  k_with "mine enter" => (
    refine' code_def (by k_asm) (by k_asm) (by k_asm) (by k_asm) (by k_asm) (by exact rfl) (by exact rfl) (by first | exact rfl | assumption) (by k_is) (by k_is) (by ktr_room) (by exact BindsTo.of_eq rfl) (by exact locs rfl) ?_ (by exact rfl) (by exact rfl) (by exact rfl) (by decide)
    k_whole
    intro _ _ _ _ _ _ _ _ _
    (try dsimp only)
    (try k_fold))
  k_with "mine ret0" => (refine' ret0 (by assumption) ?_ (by k_asm) (by first | k_asm | (refine cb_drop (by assumption) ?_; intro _ _; k_extra "mine sub1")))
  k_with "QEnd" => (dsimp only [QEnd])
  k_with "mine hasattr" => (
    refine' ha_line (by k_asm) (by k_asm) ?_
    intro _ _ _
    (try k_sweep))
  k_with "call builtin:hasattr" => (k_here; k_extra "mine hasattr")
  k_with "mine make" => (
    refine' call_cls (by k_asm) (by k_asm) (by k_asm) (by k_is) (by k_is) (by k_is) ?_
    k_whole
    intro _ _ _ _ _ kql kqm
    (try k_lt kql)
    (try k_lt2 kqm)
    (revert kql kqm; intro _ _)
    (try k_sweep)
    k_extra "mine enter")
  k_with "mine sub1" => (
    first
    | assumption
    | exact List.mem_append_left _ (by assumption)
    | exact List.mem_append_right _ (by assumption)
    | (refine List.Mem.tail _ ?_; k_extra "mine sub1")
    | (refine List.mem_append_left _ ?_; k_extra "mine sub1")
    | (refine List.mem_append_right _ ?_; k_extra "mine sub1"))
  k_with "mine sub" => (
    first
    | (refine sub_cons ?_ ?_; (focus (first | exact List.mem_cons.mpr (Or.inl (by rfl)) | k_memK | k_mem)); k_extra "mine sub")
    | exact List.forall_mem_nil _
    | (intro _ _; k_extra "mine sub1"))
  k_with "mine own" => (intro _ _; k_extra "mine sub1")
  k_with "mine ps" => (
    first
    | exact PsAre.nil
    | (refine PsAre.any (by with_unfolding_all rfl) ?_; k_extra "mine ps"))
  k_with "call type:tuple" => (
    k_here
    (with_reducible show wpAny _ _ (call (Value.type _) [Value.ref _]) _ _ _)
    k_dflt (refine' kde_tupleOf (by k_asm) (by k_asm) (by exact News.isList (by k_asm) (by k_mem)) (by (rw [List.size_toArray]; have hL9 := IntsAre.length (by assumption); omega)) (by exact rfl) ?_)
    intro _ _ _ _ kql
    (try k_lt kql)
    (revert kql; intro _)
    (try k_sweep))
  k_with "call ref" => (
    k_here
    (with_reducible show wpAny _ _ (call (Value.ref 42) [Value.int _ _, Value.int _ _]) _ _ _)
    k_dflt (refine' Con0.use (add_con _ _ _ _ _ _ _ _) (by k_asm) (by k_asm) (by k_asm) (by k_asm) (by k_asm) (by first | exact rfl | assumption) (by trivial) (by ktr_room) (by ktr_units) ?_)
    intro _ _ _ _ _
    (try k_sweep)
    (try dsimp only)
    (try k_fold))
  k_with "call ref" => (
    k_here
    (with_reducible show wpAny _ _ (call (Value.ref 56) [Value.int _ _, Value.int _ _]) _ _ _)
    k_dflt (refine' Con0.use (sub_con _ _ _ _ _ _ _ _) (by k_asm) (by k_asm) (by k_asm) (by k_asm) (by k_asm) (by first | exact rfl | assumption) (by trivial) (by ktr_room) (by ktr_units) ?_)
    intro _ _ _ _ _
    (try k_sweep)
    (try dsimp only)
    (try k_fold))
  k_with "call ref" => (
    k_here
    (with_reducible show wpAny _ _ (call (Value.ref 28) [Value.int _ _, Value.int _ _]) _ _ _)
    k_dflt (refine' Con0.use (lt_con _ _ _ _ _ _ _ _) (by k_asm) (by k_asm) (by k_asm) (by k_asm) (by k_asm) (by first | exact rfl | assumption) (by trivial) (by ktr_room) (by ktr_units) ?_)
    intro _ _ _ _ _
    (try k_sweep)
    (try dsimp only)
    (try k_fold))
  k_with "call ref" => (
    k_here
    (with_reducible show wpAny _ _ (call (Value.ref 35) [Value.int _ _, Value.int _ _]) _ _ _)
    k_dflt (refine' Con0.use (le_con _ _ _ _ _ _ _ _) (by k_asm) (by k_asm) (by k_asm) (by k_asm) (by k_asm) (by first | exact rfl | assumption) (by trivial) (by ktr_room) (by ktr_units) ?_)
    intro _ _ _ _ _
    (try k_sweep)
    (try dsimp only)
    (try k_fold))
  k_with "call ref" => (
    k_here
    (with_reducible show wpAny _ _ (call (Value.ref 49) [Value.str _ _, Value.int _ _]) _ _ _)
    k_dflt (refine' Con0.use (mul_con _ _ _ _ _ _ _ _) (by k_asm) (by k_asm) (by k_asm) (by k_asm) (by k_asm) (by first | exact rfl | assumption) (by k_extra "mine mulPre") (by ktr_room) (by ktr_units) ?_)
    intro _ _ _ _ _
    (try k_sweep)
    (try dsimp only)
    (try k_fold))
  k_with "call ref" => (
    k_here
    (with_reducible show wpAny _ _ (call (Value.ref 63) [Value.str _ _, Value.str _ _]) _ _ _)
    k_dflt (refine' Con0.use (concat_con _ _ _ _ _ _ _ _) (by k_asm) (by k_asm) (by k_asm) (by k_asm) (by k_asm) (by first | exact rfl | assumption) (by k_extra "mine catPre") (by ktr_room) (by ktr_units) ?_)
    intro _ _ _ _ _
    (try k_sweep)
    (try dsimp only)
    (try k_fold))
  k_with "mine mulPre" => (exact ⟨rfl, by omega, by omega⟩)
  k_with "mine catPre" => ((try simp only [codes_S, len_S, codes_tab, codes_nil, len_tab, len_nil, List.length_append, List.length_replicate, List.length_cons, List.length_nil]); omega)
  k_with "pyIter ref" => (k_here; refine stop ?_)
  k_with "exec While" => (k_here; refine stop ?_)
  k_with "mine enterC" => (
    refine' code_defC (by k_asm) (by k_asm) (by k_asm) (by k_asm) (by k_asm) (by exact rfl) (by exact rfl) (by first | exact rfl | assumption) (by k_is) (by k_is) (by ktr_room) (by exact BindsTo.of_eq rfl) (by exact rfl) (by decide +kernel) ?_ (by exact rfl) (by exact rfl) (by exact rfl)
    k_whole
    intro _ _ _ _ _ _ _ _ kqY _ _ _ kql
    (try k_lt kql)
    (revert kql; intro _)
    k_cells kqY
    (try (rename News _ _ _ _ => kqN; simp only [List.cons_append, List.nil_append] at kqN; revert kqN; intro _))
    (try dsimp only)
    (try k_fold))
  k_with "eval Name" => (k_here; (with_reducible show wpAny _ _ (eval (Expr.Name _ _) (envOfC _ _ _ _ _)) _ _ _); k_dflt (refine' bootName (by k_asm) (by k_asm) (by k_asm) (by rfl) (by rfl) (by k_is) (by first | boot_by_name | boot_fast | decide +kernel) (by decide) ?_; k_whole))
  k_with "mine mem" => (first | assumption | (refine List.Mem.tail _ ?_; k_extra "mine mem"))
  k_with "eval Name" => (k_here; (with_reducible show wpAny _ _ (eval (Expr.Name _ _) (compEnvC _ _ _ _)) _ _ _); k_dflt (refine' kcf_cell (by k_asm) (by rfl) (by k_extra "mine mem") (by assumption) ?_; k_whole))
  k_with "eval Name" => (k_here; (with_reducible show wpAny _ _ (eval (Expr.Name _ _) (envOfC _ _ _ _ _)) _ _ _); k_dflt (refine' cellName (by rfl) (by rfl) (by k_asm) (by rfl) (by k_extra "mine mem") (by assumption) ?_; k_whole))
  k_with "mine short" => ((try simp only [List.length_append, List.length_take, List.length_drop, List.length_cons, List.length_nil]); omega)
  k_with "mine mem0" => (first | exact List.mem_cons.mpr (Or.inl (by rfl)) | assumption | (refine List.Mem.tail _ ?_; k_extra "mine mem0"))
  k_with "exec For" => (k_here; k_dflt ((rename Fr _ _ _ _ => kqF); (with_unfolding_all refine' For_invVF kqF (by exact rfl) (by exact rfl) ?_; k_whole)))
  k_with "mine memL" => (first | exact List.mem_cons.mpr (Or.inl (by rfl)) | (refine List.Mem.tail _ ?_; k_extra "mine memL"))
  k_with "WPost" => (dsimp only [WPost])
  k_with "mine comp" => (
    k_here
    k_dflt (refine LCg.Assign_ListComp_U (F₀ := by k_asm) (by rfl) (by with_unfolding_all rfl) (by with_unfolding_all rfl) (by decide) (by rfl) (by decide) (by rfl) (by rfl) (by rfl) ?_))
  k_with "exec Assign cons ListComp" => (k_extra "mine comp")
  k_with "CompSrc" => (k_here; refine stop ?_)
  k_with "subscriptTail" => (
    k_here
    (with_reducible show wpAny _ _ (subscriptTail _ _ (Value.ref _) (Value.int _ _)) _ _ _)
    k_dflt (refine' ops_item (by k_asm) (by k_extra "mine memL") (by with_reducible assumption) (by assumption) (by assumption) ?_ (by with_unfolding_all rfl))
    intro _)
  k_with "subscriptTail" => (
    k_here
    (with_reducible show wpAny _ _ (subscriptTail _ _ (Value.ref 130) (Value.str _ _)) _ _ _)
    k_dflt (refine' tab_item (by k_asm) (by k_asm) (by assumption) (by assumption) (by rfl) ?_ (by with_unfolding_all rfl))
    intro _)
  k_with "call ref" => (k_here; (with_reducible show wpAny _ _ (call (Value.ref 144) _) _ _ _); refine stop ?_)
  k_with "call ref" => (
    k_here
    (try dsimp only [List.cons_append, List.nil_append])
    (with_reducible show wpAny _ _ (call (Value.ref 94) [Value.ref _, Value.int _ _]) _ _ _)
    k_dflt (refine' Con0.use (indent_con _ _ _ _ _ _ _ _ _) (by k_asm) (by k_asm) (by k_asm) (by k_asm) (by k_asm) (by first | exact rfl | assumption) (by exact ⟨WsIn.mono (by with_reducible assumption) (by k_extra "mine sub"), by with_reducible assumption, by omega, by omega⟩) (by ktr_room) (by ktr_units) ?_)
    intro _ _ _ _ _
    (try k_sweep)
    (try dsimp only)
    (try k_fold))
  trivial
theorem row_slice {RT y sp : Str} {c1 : List Nat} (hR : codes RT = c1 ++ (codes y ++ codes sp)) (hs : (codes sp).length = 2) : Txt.slice RT (some (c1.length : Int)) (some (-2)) = y := by
  have hl : RT.length = c1.length + (codes y).length + 2 := by rw [len_codes, hR, List.length_append, List.length_append, hs]; omega
  have e1 : Txt.slice RT (some (c1.length : Int)) (some (-2)) = PySem.StrLaws.sliceText RT (some (c1.length : Int)) (some ((c1.length + (codes y).length : Nat) : Int)) := by
    have e2 : PySem.Builtin.Str.strSliceIndices (some (c1.length : Int)) (some (-2)) 1 RT.length = PySem.Builtin.Str.strSliceIndices (some (c1.length : Int)) (some ((c1.length + (codes y).length : Nat) : Int)) 1 RT.length := by
      rw [hl]
      simp only [PySem.Builtin.Str.strSliceIndices]
      congr 1
      all_goals omega
    unfold Txt.slice PySem.StrLaws.sliceText
    rw [e2]
  rw [e1, PySem.StrLaws.sliceText_nat RT (by omega) (by omega)]
  refine codes_inj ?_
  show codes (S (((codes RT).drop c1.length).take (c1.length + (codes y).length - c1.length))) = codes y
  rw [codes_S, hR, List.drop_left, Nat.add_sub_cancel_left, List.take_left]
section lines
variable {prog : Program} {w : World} {A : Around} {E : Value → Shared → Prop} {s : Shared} {h₀ : Heap} {L : Addr} {m : Str → Option Value} {news : List (Addr × Obj)} {value slice : PySem.Expr}
theorem row_item {RT y sp : Str} {c1 : List Nat} {i : Int} {t ui uj : Tok} {Q : Value → Shared → Prop} (F : Fr h₀ L s.heap m) (N : News h₀ L s.heap news) (hR : codes RT = c1 ++ (codes y ++ codes sp)) (hs : (codes sp).length = 2) (hi : (c1.length : Int) = i) (hlen : RT.length ≤ 200)
    (h : ∀ h' t' k, Fr h₀ L h' m → News h₀ L h' news → Q (.str y t') { s with heap := h', toks := k })
    (hss : subscripted slice false (.str RT t) (.ref s.heap.objs.size) = operate [.ref s.heap.objs.size, .str RT t] (getItem (.str RT t) (.ref s.heap.objs.size)))
    (ht : ∀ r, letTemporaryGo value (.str RT t) r = pure ()) :
    wpAny (model prog w) A (subscriptTail value slice (.str RT t) (.ref s.heap.objs.size)) Q E { s with heap := s.heap.push { cls := .type "slice", data := .fields #[.int i ui, .int (-2) uj, .none] } } := by
  subst hi
  refine slice_strN_ss F N (fun h' t' k F' N' => ?_) hss ht (Nat.le_trans hlen (Nat.le_of_ble_eq_true rfl))
  rw [row_slice hR hs]
  exact h h' t' k F' N'
end lines
theorem lines28 : True := by
  k_with "subscriptTail Name Slice str ref" => (
    k_here
    (with_reducible show wpAny _ _ (subscriptTail _ (PySem.Expr.Slice _ _ none _) (Value.str _ _) (Value.ref _)) _ _ _)
    k_dflt (refine' row_item (by k_asm) (by k_asm) (by with_reducible assumption) (by with_reducible assumption) (by with_reducible assumption) (by with_reducible assumption) ?_ (by with_unfolding_all rfl) (by kmk_pure))
    intro _ _ _ _ _
    (try k_sweep))
  k_with "subscriptTail" => (
    k_here
    (with_reducible show wpAny _ _ (subscriptTail _ _ (Value.ref 130) (Value.str _ _)) _ _ _)
    k_dflt (refine' tab_item (by k_asm) (by k_asm) (by with_reducible assumption) (by with_reducible assumption) (by rfl) ?_ (by with_unfolding_all rfl))
    intro _)
  trivial
noncomputable def ck9 : Cut ck8.P := by
  apply Cut.mk
  intro hck
  conv => whnf
  focus
    k_fill
    set_option tactic.hygienic false in intros
    w_on
    have hMk := kstMark
    have hsp2 : (codes (Str.ofString " \t")).length = 2 := by decide +kernel
    k_steps
    rename Fr _ _ _ _ => F3
    rename News _ _ _ _ => N3
    obtain ⟨tpr, tcl, u4, F5⟩ : ∃ tpr tcl u4, Fr T.heap s1.heap.objs.size _ (kstB u4 ([(Str.ofString "column", .int 0 tcl), (Str.ofString "lead", .ref xI), (Str.ofString "price", .int (price + indentF st (7 + p)) tpr), (Str.ofString "k", .int (0 + (i : Int)) t), (Str.ofString "pile", .ref Dq), (Str.ofString "depths", .ref Dd), (Str.ofString "tail", .str (S (List.replicate tl.toNat 32)) tkM), (Str.ofString "runs", .ref Dr), (Str.ofString "places", .ref Dp)]))  := ⟨_, _, fr_ps F3 (by k_extra "mine ps")⟩
    clear F3
    unfold Stop
    (repeat (revert ‹_›))
    exact fun h => h.out
end
/-! V8 -/
section
theorem lines29 : True := by
  k_with_none
  k_with "mine enter" => (
    refine' code_def (by k_asm) (by k_asm) (by k_asm) (by k_asm) (by k_asm) (by exact rfl) (by exact rfl) (by first | exact rfl | assumption) (by k_is) (by k_is) (by ktr_room) (by exact BindsTo.of_eq rfl) (by exact locs rfl) ?_ (by exact rfl) (by exact rfl) (by exact rfl) (by decide)
    k_whole
    intro _ _ _ _ _ _ _ _ _
    (try dsimp only)
    (try k_fold))
  k_with "mine ret0" => (refine' ret0 (by assumption) ?_ (by k_asm) (by first | k_asm | (refine cb_drop (by assumption) ?_; intro _ _; k_extra "mine sub1")))
  k_with "QEnd" => (dsimp only [QEnd])
  k_with "mine hasattr" => (
    refine' ha_line (by k_asm) (by k_asm) ?_
    intro _ _ _
    (try k_sweep))
  k_with "call builtin:hasattr" => (k_here; k_extra "mine hasattr")
  k_with "mine make" => (
    refine' call_cls (by k_asm) (by k_asm) (by k_asm) (by k_is) (by k_is) (by k_is) ?_
    k_whole
    intro _ _ _ _ _ kql kqm
    (try k_lt kql)
    (try k_lt2 kqm)
    (revert kql kqm; intro _ _)
    (try k_sweep)
    k_extra "mine enter")
  k_with "mine sub1" => (
    first
    | assumption
    | exact List.mem_append_left _ (by assumption)
    | exact List.mem_append_right _ (by assumption)
    | (refine List.Mem.tail _ ?_; k_extra "mine sub1")
    | (refine List.mem_append_left _ ?_; k_extra "mine sub1")
    | (refine List.mem_append_right _ ?_; k_extra "mine sub1"))
  k_with "mine sub" => (
    first
    | (refine sub_cons ?_ ?_; (focus (first | exact List.mem_cons.mpr (Or.inl (by rfl)) | k_memK | k_mem)); k_extra "mine sub")
    | exact List.forall_mem_nil _
    | (intro _ _; k_extra "mine sub1"))
  k_with "mine own" => (intro _ _; k_extra "mine sub1")
  k_with "mine ps" => (
    first
    | exact PsAre.nil
    | (refine PsAre.any (by with_unfolding_all rfl) ?_; k_extra "mine ps"))
  k_with "call type:tuple" => (
    k_here
    (with_reducible show wpAny _ _ (call (Value.type _) [Value.ref _]) _ _ _)
    k_dflt (refine' kde_tupleOf (by k_asm) (by k_asm) (by exact News.isList (by k_asm) (by k_mem)) (by (rw [List.size_toArray]; have hL9 := IntsAre.length (by assumption); omega)) (by exact rfl) ?_)
    intro _ _ _ _ kql
    (try k_lt kql)
    (revert kql; intro _)
    (try k_sweep))
  k_with "call ref" => (
    k_here
    (with_reducible show wpAny _ _ (call (Value.ref 42) [Value.int _ _, Value.int _ _]) _ _ _)
    k_dflt (refine' Con0.use (add_con _ _ _ _ _ _ _ _) (by k_asm) (by k_asm) (by k_asm) (by k_asm) (by k_asm) (by first | exact rfl | assumption) (by trivial) (by ktr_room) (by ktr_units) ?_)
    intro _ _ _ _ _
    (try k_sweep)
    (try dsimp only)
    (try k_fold))
  k_with "call ref" => (
    k_here
    (with_reducible show wpAny _ _ (call (Value.ref 56) [Value.int _ _, Value.int _ _]) _ _ _)
    k_dflt (refine' Con0.use (sub_con _ _ _ _ _ _ _ _) (by k_asm) (by k_asm) (by k_asm) (by k_asm) (by k_asm) (by first | exact rfl | assumption) (by trivial) (by ktr_room) (by ktr_units) ?_)
    intro _ _ _ _ _
    (try k_sweep)
    (try dsimp only)
    (try k_fold))
  k_with "call ref" => (
    k_here
    (with_reducible show wpAny _ _ (call (Value.ref 28) [Value.int _ _, Value.int _ _]) _ _ _)
    k_dflt (refine' Con0.use (lt_con _ _ _ _ _ _ _ _) (by k_asm) (by k_asm) (by k_asm) (by k_asm) (by k_asm) (by first | exact rfl | assumption) (by trivial) (by ktr_room) (by ktr_units) ?_)
    intro _ _ _ _ _
    (try k_sweep)
    (try dsimp only)
    (try k_fold))
  k_with "call ref" => (
    k_here
    (with_reducible show wpAny _ _ (call (Value.ref 35) [Value.int _ _, Value.int _ _]) _ _ _)
    k_dflt (refine' Con0.use (le_con _ _ _ _ _ _ _ _) (by k_asm) (by k_asm) (by k_asm) (by k_asm) (by k_asm) (by first | exact rfl | assumption) (by trivial) (by ktr_room) (by ktr_units) ?_)
    intro _ _ _ _ _
    (try k_sweep)
    (try dsimp only)
    (try k_fold))
  k_with "call ref" => (
    k_here
    (with_reducible show wpAny _ _ (call (Value.ref 49) [Value.str _ _, Value.int _ _]) _ _ _)
    k_dflt (refine' Con0.use (mul_con _ _ _ _ _ _ _ _) (by k_asm) (by k_asm) (by k_asm) (by k_asm) (by k_asm) (by first | exact rfl | assumption) (by k_extra "mine mulPre") (by ktr_room) (by ktr_units) ?_)
    intro _ _ _ _ _
    (try k_sweep)
    (try dsimp only)
    (try k_fold))
  k_with "call ref" => (
    k_here
    (with_reducible show wpAny _ _ (call (Value.ref 63) [Value.str _ _, Value.str _ _]) _ _ _)
    k_dflt (refine' Con0.use (concat_con _ _ _ _ _ _ _ _) (by k_asm) (by k_asm) (by k_asm) (by k_asm) (by k_asm) (by first | exact rfl | assumption) (by k_extra "mine catPre") (by ktr_room) (by ktr_units) ?_)
    intro _ _ _ _ _
    (try k_sweep)
    (try dsimp only)
    (try k_fold))
  k_with "mine mulPre" => (exact ⟨rfl, by omega, by omega⟩)
  k_with "mine catPre" => ((try simp only [codes_S, len_S, codes_tab, codes_nil, len_tab, len_nil, List.length_append, List.length_replicate, List.length_cons, List.length_nil]); omega)
  k_with "pyIter ref" => (k_here; refine stop ?_)
  k_with "exec While" => (k_here; refine stop ?_)
  k_with "mine enterC" => (
    refine' code_defC (by k_asm) (by k_asm) (by k_asm) (by k_asm) (by k_asm) (by exact rfl) (by exact rfl) (by first | exact rfl | assumption) (by k_is) (by k_is) (by ktr_room) (by exact BindsTo.of_eq rfl) (by exact rfl) (by decide +kernel) ?_ (by exact rfl) (by exact rfl) (by exact rfl)
    k_whole
    intro _ _ _ _ _ _ _ _ kqY _ _ _ kql
    (try k_lt kql)
    (revert kql; intro _)
    k_cells kqY
    (try (rename News _ _ _ _ => kqN; simp only [List.cons_append, List.nil_append] at kqN; revert kqN; intro _))
    (try dsimp only)
    (try k_fold))
  k_with "eval Name" => (k_here; (with_reducible show wpAny _ _ (eval (Expr.Name _ _) (envOfC _ _ _ _ _)) _ _ _); k_dflt (refine' bootName (by k_asm) (by k_asm) (by k_asm) (by rfl) (by rfl) (by k_is) (by first | boot_by_name | boot_fast | decide +kernel) (by decide) ?_; k_whole))
  k_with "mine mem" => (first | assumption | (refine List.Mem.tail _ ?_; k_extra "mine mem"))
  k_with "eval Name" => (k_here; (with_reducible show wpAny _ _ (eval (Expr.Name _ _) (compEnvC _ _ _ _)) _ _ _); k_dflt (refine' kcf_cell (by k_asm) (by rfl) (by k_extra "mine mem") (by assumption) ?_; k_whole))
  k_with "eval Name" => (k_here; (with_reducible show wpAny _ _ (eval (Expr.Name _ _) (envOfC _ _ _ _ _)) _ _ _); k_dflt (refine' cellName (by rfl) (by rfl) (by k_asm) (by rfl) (by k_extra "mine mem") (by assumption) ?_; k_whole))
  k_with "mine short" => ((try simp only [List.length_append, List.length_take, List.length_drop, List.length_cons, List.length_nil]); omega)
  k_with "mine mem0" => (first | exact List.mem_cons.mpr (Or.inl (by rfl)) | assumption | (refine List.Mem.tail _ ?_; k_extra "mine mem0"))
  k_with "exec For" => (k_here; k_dflt ((rename Fr _ _ _ _ => kqF); (with_unfolding_all refine' For_invVF kqF (by exact rfl) (by exact rfl) ?_; k_whole)))
  k_with "mine memL" => (first | exact List.mem_cons.mpr (Or.inl (by rfl)) | (refine List.Mem.tail _ ?_; k_extra "mine memL"))
  k_with "WPost" => (dsimp only [WPost])
  k_with "mine comp" => (
    k_here
    k_dflt (refine LCg.Assign_ListComp_U (F₀ := by k_asm) (by rfl) (by with_unfolding_all rfl) (by with_unfolding_all rfl) (by decide) (by rfl) (by decide) (by rfl) (by rfl) (by rfl) ?_))
  k_with "exec Assign cons ListComp" => (k_extra "mine comp")
  k_with "CompSrc" => (k_here; refine stop ?_)
  k_with "subscriptTail" => (
    k_here
    (with_reducible show wpAny _ _ (subscriptTail _ _ (Value.ref _) (Value.int _ _)) _ _ _)
    k_dflt (refine' ops_item (by k_asm) (by k_extra "mine memL") (by with_reducible assumption) (by assumption) (by assumption) ?_ (by with_unfolding_all rfl))
    intro _)
  k_with "subscriptTail" => (
    k_here
    (with_reducible show wpAny _ _ (subscriptTail _ _ (Value.ref 130) (Value.str _ _)) _ _ _)
    k_dflt (refine' tab_item (by k_asm) (by k_asm) (by assumption) (by assumption) (by rfl) ?_ (by with_unfolding_all rfl))
    intro _)
  k_with "call ref" => (k_here; (with_reducible show wpAny _ _ (call (Value.ref 144) _) _ _ _); refine stop ?_)
  k_with "call ref" => (
    k_here
    (try dsimp only [List.cons_append, List.nil_append])
    (with_reducible show wpAny _ _ (call (Value.ref 94) [Value.ref _, Value.int _ _]) _ _ _)
    k_dflt (refine' Con0.use (indent_con _ _ _ _ _ _ _ _ _) (by k_asm) (by k_asm) (by k_asm) (by k_asm) (by k_asm) (by first | exact rfl | assumption) (by exact ⟨WsIn.mono (by with_reducible assumption) (by k_extra "mine sub"), by with_reducible assumption, by omega, by omega⟩) (by ktr_room) (by ktr_units) ?_)
    intro _ _ _ _ _
    (try k_sweep)
    (try dsimp only)
    (try k_fold))
  k_with "binaryOp Mod int int" => (k_here; k_dflt (refine mod_int (by with_reducible assumption) ?_))
  k_with "call builtin:len" => (k_here; (with_reducible show wpAny _ _ (call (Value.builtin "len") [Value.str _ _]) _ _ _); k_dflt (refine PySem.len_str (by with_reducible assumption) ?_))
  trivial
theorem col_step {T A b : Int} (hT : 0 < T) : T * A + b + T - (T * A + b).fmod T = T * (A + (b / T + 1)) := by
  rw [Int.fmod_eq_emod_of_nonneg _ (Int.le_of_lt hT), Int.add_comm (T * A) b, Int.add_mul_emod_self_left, Int.mul_add, Int.mul_add]
  have := Int.emod_add_mul_ediv b T
  omega
noncomputable def ck10 : Cut ck9.P := by
  apply Cut.mk
  intro hck
  conv => whnf
  focus
    k_fill
    set_option tactic.hygienic false in intros
    w_on
    have hMk := kstMark
    have hIo := (IntsAre.cons q0 v0 (IntsAre.cons q1 v1 (IntsAre.cons q2 v2 (IntsAre.cons q3 v3 (IntsAre.cons q4 v4 IntsAre.nil))))).take d
    refine' forV (σ := Int × Tok) (τ := Int × Tok) (fun _ _ => (xI, instObj 125 dI) :: (dI, wsDict w RT st tI x1 x2 x3 x4 x5 x6 x7 x8) :: (tI, tupOf [.ref cI, .int st.b x9]) :: (cI, tupOf uw) :: (Dn, listOf ([Value.int q0 v0, .int q1 v1, .int q2 v2, .int q3 v3, .int q4 v4].take d).toArray 0) :: (Dq, listOf stk.reverse.toArray np) :: (Dd, listOf us.toArray nd) :: (Dr, listOf [Value.int q0 v0, .int q1 v1, .int q2 v2, .int q3 v3, .int q4 v4].toArray 5) :: (Dp, listOf [Value.int p0 t0, .int p1 t1, .int p2 t2, .int p3 t3, .int p4 t4, .int p5 t5].toArray 0) :: (Do, listOf (strValues lO).toArray 0) :: (s1.heap.objs.size + 1, oO) :: (fz ++ own))
      (fun _ z => [(Str.ofString "column", .int z.1 z.2), (Str.ofString "lead", .ref xI), (Str.ofString "price", .int (price + indentF st (7 + p)) tpr), (Str.ofString "k", .int (0 + (i : Int)) t), (Str.ofString "pile", .ref Dq), (Str.ofString "depths", .ref Dd), (Str.ofString "tail", .str (S (List.replicate tl.toNat 32)) tkM), (Str.ofString "runs", .ref Dr), (Str.ofString "places", .ref Dp)])
      (fun j z => z.1 = ((i : Int) + 1) * colF ((i : Int) + 1) (([q0, q1, q2, q3, q4].take d).take j))
      (fun _ => (xI, instObj 125 dI) :: (dI, wsDict w RT st tI x1 x2 x3 x4 x5 x6 x7 x8) :: (tI, tupOf [.ref cI, .int st.b x9]) :: (cI, tupOf uw) :: (Dn, listOf ([Value.int q0 v0, .int q1 v1, .int q2 v2, .int q3 v3, .int q4 v4].take d).toArray 0) :: (Dq, listOf stk.reverse.toArray np) :: (Dd, listOf us.toArray nd) :: (Dr, listOf [Value.int q0 v0, .int q1 v1, .int q2 v2, .int q3 v3, .int q4 v4].toArray 5) :: (Dp, listOf [Value.int p0 t0, .int p1 t1, .int p2 t2, .int p3 t3, .int p4 t4, .int p5 t5].toArray 0) :: (Do, listOf (strValues lO).toArray 0) :: (s1.heap.objs.size + 1, oO) :: (fz ++ own))
      (fun z => [(Str.ofString "column", .int z.1 z.2), (Str.ofString "lead", .ref xI), (Str.ofString "price", .int (price + indentF st (7 + p)) tpr), (Str.ofString "k", .int (0 + (i : Int)) t), (Str.ofString "pile", .ref Dq), (Str.ofString "depths", .ref Dd), (Str.ofString "tail", .str (S (List.replicate tl.toNat 32)) tkM), (Str.ofString "runs", .ref Dr), (Str.ofString "places", .ref Dp)])
      (fun z => z.1 = ((i : Int) + 1) * colF ((i : Int) + 1) ([q0, q1, q2, q3, q4].take d))
      (0, tcl) rfl (fun _ _ => .tail _ (.tail _ (.tail _ (.tail _ (.head _))))) F5 N3 (fun p hp => hp) ?yp ?yP ?yt ?yd ?yc
    case yp => k_extra "mine ps"
    case yP => simp [colF]
    case yd =>
      rintro z u h tk hz F N
      refine EndS.intro z F N (by k_extra "mine ps") (fun p hp => hp) ?_
      rw [hIo.length, List.take_length] at hz
      exact hz
    case yt =>
      clear F5 N3
      rintro j ⟨col, tc⟩ v u h tk own2 hv hz hoff2 F N
      dsimp only at hz F N
      obtain ⟨tb, rfl, hj⟩ := ints_at hIo hv
      obtain ⟨b, hb⟩ : ∃ b, b = ([q0, q1, q2, q3, q4].take d).getD j 0 := ⟨_, rfl⟩
      have hb7 : 0 ≤ b ∧ b < 7 := by
        rw [hb, List.getD_eq_getElem?_getD, List.getElem?_eq_getElem hj]
        exact hrb _ (List.mem_of_mem_take (List.getElem_mem hj))
      rw [← hb] at F
      have hk1 : (0 + (i : Int) + 1) ≠ 0 := by omega
      simp only [List.cons_append, List.nil_append] at N
      (try k_fold)
      k_steps
      rename Fr _ _ _ _ => F4
      rename News _ _ _ _ => N4
      refine' endL (_, _) F4 N4 ?zps ?zn ?zo hoff2 ?zP
      case zps => k_extra "mine ps"
      case zn => k_extra "mine sub"
      case zo => k_extra "mine own"
      case zP =>
        dsimp only
        rw [List.take_succ_eq_append_getElem hj, colF_app]
        have e9 : ([q0, q1, q2, q3, q4].take d)[j] = b := by rw [hb, List.getD_eq_getElem?_getD, List.getElem?_eq_getElem hj]; rfl
        rw [e9, show colF ((i : Int) + 1) [b] = b / ((i : Int) + 1) + 1 by simp [colF], ← col_step (by omega), ← hz, show 0 + (i : Int) + 1 = (i : Int) + 1 by omega]
        omega
    case yc =>
      clear F5 N3
      rintro ⟨col, tc⟩ u h tk hz F N
      dsimp only at hz F N
      (try k_fold)
      have hlt : ¬ ((S (List.replicate tl.toNat 32)).length : Int) ≥ 2 ^ 63 := by rw [len_S, List.length_replicate]; omega
      have hcmp : indentF st (0 + (i : Int) + 1) = col + ((S (List.replicate tl.toNat 32)).length : Int) := by
        rw [indent_is hSc (hRs.take d) (by omega), hz, len_S, List.length_replicate, show 0 + (i : Int) + 1 = (i : Int) + 1 by omega]
        omega
      k_steps
      rename Fr _ _ _ _ => F4
      rename News _ _ _ _ => N4
      unfold Stop
      clear F N
      (repeat (revert ‹_›))
      exact fun h => h.out
end
/-! V9 -/
section
theorem lines30 : True := by
  k_with_none
  k_with "mine enter" => (
    refine' code_def (by k_asm) (by k_asm) (by k_asm) (by k_asm) (by k_asm) (by exact rfl) (by exact rfl) (by first | exact rfl | assumption) (by k_is) (by k_is) (by ktr_room) (by exact BindsTo.of_eq rfl) (by exact locs rfl) ?_ (by exact rfl) (by exact rfl) (by exact rfl) (by decide)
    k_whole
    intro _ _ _ _ _ _ _ _ _
    (try dsimp only)
    (try k_fold))
  k_with "mine ret0" => (refine' ret0 (by assumption) ?_ (by k_asm) (by first | k_asm | (refine cb_drop (by assumption) ?_; intro _ _; k_extra "mine sub1")))
  k_with "QEnd" => (dsimp only [QEnd])
  k_with "mine hasattr" => (
    refine' ha_line (by k_asm) (by k_asm) ?_
    intro _ _ _
    (try k_sweep))
  k_with "call builtin:hasattr" => (k_here; k_extra "mine hasattr")
  k_with "mine make" => (
    refine' call_cls (by k_asm) (by k_asm) (by k_asm) (by k_is) (by k_is) (by k_is) ?_
    k_whole
    intro _ _ _ _ _ kql kqm
    (try k_lt kql)
    (try k_lt2 kqm)
    (revert kql kqm; intro _ _)
    (try k_sweep)
    k_extra "mine enter")
  k_with "mine sub1" => (
    first
    | assumption
    | exact List.mem_append_left _ (by assumption)
    | exact List.mem_append_right _ (by assumption)
    | (refine List.Mem.tail _ ?_; k_extra "mine sub1")
    | (refine List.mem_append_left _ ?_; k_extra "mine sub1")
    | (refine List.mem_append_right _ ?_; k_extra "mine sub1"))
  k_with "mine sub" => (
    first
    | (refine sub_cons ?_ ?_; (focus (first | exact List.mem_cons.mpr (Or.inl (by rfl)) | k_memK | k_mem)); k_extra "mine sub")
    | exact List.forall_mem_nil _
    | (intro _ _; k_extra "mine sub1"))
  k_with "mine own" => (intro _ _; k_extra "mine sub1")
  k_with "mine ps" => (
    first
    | exact PsAre.nil
    | (refine PsAre.any (by with_unfolding_all rfl) ?_; k_extra "mine ps"))
  k_with "call type:tuple" => (
    k_here
    (with_reducible show wpAny _ _ (call (Value.type _) [Value.ref _]) _ _ _)
    k_dflt (refine' kde_tupleOf (by k_asm) (by k_asm) (by exact News.isList (by k_asm) (by k_mem)) (by (rw [List.size_toArray]; have hL9 := IntsAre.length (by assumption); omega)) (by exact rfl) ?_)
    intro _ _ _ _ kql
    (try k_lt kql)
    (revert kql; intro _)
    (try k_sweep))
  k_with "call ref" => (
    k_here
    (with_reducible show wpAny _ _ (call (Value.ref 42) [Value.int _ _, Value.int _ _]) _ _ _)
    k_dflt (refine' Con0.use (add_con _ _ _ _ _ _ _ _) (by k_asm) (by k_asm) (by k_asm) (by k_asm) (by k_asm) (by first | exact rfl | assumption) (by trivial) (by ktr_room) (by ktr_units) ?_)
    intro _ _ _ _ _
    (try k_sweep)
    (try dsimp only)
    (try k_fold))
  k_with "call ref" => (
    k_here
    (with_reducible show wpAny _ _ (call (Value.ref 56) [Value.int _ _, Value.int _ _]) _ _ _)
    k_dflt (refine' Con0.use (sub_con _ _ _ _ _ _ _ _) (by k_asm) (by k_asm) (by k_asm) (by k_asm) (by k_asm) (by first | exact rfl | assumption) (by trivial) (by ktr_room) (by ktr_units) ?_)
    intro _ _ _ _ _
    (try k_sweep)
    (try dsimp only)
    (try k_fold))
  k_with "call ref" => (
    k_here
    (with_reducible show wpAny _ _ (call (Value.ref 28) [Value.int _ _, Value.int _ _]) _ _ _)
    k_dflt (refine' Con0.use (lt_con _ _ _ _ _ _ _ _) (by k_asm) (by k_asm) (by k_asm) (by k_asm) (by k_asm) (by first | exact rfl | assumption) (by trivial) (by ktr_room) (by ktr_units) ?_)
    intro _ _ _ _ _
    (try k_sweep)
    (try dsimp only)
    (try k_fold))
  k_with "call ref" => (
    k_here
    (with_reducible show wpAny _ _ (call (Value.ref 35) [Value.int _ _, Value.int _ _]) _ _ _)
    k_dflt (refine' Con0.use (le_con _ _ _ _ _ _ _ _) (by k_asm) (by k_asm) (by k_asm) (by k_asm) (by k_asm) (by first | exact rfl | assumption) (by trivial) (by ktr_room) (by ktr_units) ?_)
    intro _ _ _ _ _
    (try k_sweep)
    (try dsimp only)
    (try k_fold))
  k_with "call ref" => (
    k_here
    (with_reducible show wpAny _ _ (call (Value.ref 49) [Value.str _ _, Value.int _ _]) _ _ _)
    k_dflt (refine' Con0.use (mul_con _ _ _ _ _ _ _ _) (by k_asm) (by k_asm) (by k_asm) (by k_asm) (by k_asm) (by first | exact rfl | assumption) (by k_extra "mine mulPre") (by ktr_room) (by ktr_units) ?_)
    intro _ _ _ _ _
    (try k_sweep)
    (try dsimp only)
    (try k_fold))
  k_with "call ref" => (
    k_here
    (with_reducible show wpAny _ _ (call (Value.ref 63) [Value.str _ _, Value.str _ _]) _ _ _)
    k_dflt (refine' Con0.use (concat_con _ _ _ _ _ _ _ _) (by k_asm) (by k_asm) (by k_asm) (by k_asm) (by k_asm) (by first | exact rfl | assumption) (by k_extra "mine catPre") (by ktr_room) (by ktr_units) ?_)
    intro _ _ _ _ _
    (try k_sweep)
    (try dsimp only)
    (try k_fold))
  k_with "mine mulPre" => (exact ⟨rfl, by omega, by omega⟩)
  k_with "mine catPre" => ((try simp only [codes_S, len_S, codes_tab, codes_nil, len_tab, len_nil, List.length_append, List.length_replicate, List.length_cons, List.length_nil]); omega)
  k_with "pyIter ref" => (k_here; refine stop ?_)
  k_with "exec While" => (k_here; refine stop ?_)
  k_with "mine enterC" => (
    refine' code_defC (by k_asm) (by k_asm) (by k_asm) (by k_asm) (by k_asm) (by exact rfl) (by exact rfl) (by first | exact rfl | assumption) (by k_is) (by k_is) (by ktr_room) (by exact BindsTo.of_eq rfl) (by exact rfl) (by decide +kernel) ?_ (by exact rfl) (by exact rfl) (by exact rfl)
    k_whole
    intro _ _ _ _ _ _ _ _ kqY _ _ _ kql
    (try k_lt kql)
    (revert kql; intro _)
    k_cells kqY
    (try (rename News _ _ _ _ => kqN; simp only [List.cons_append, List.nil_append] at kqN; revert kqN; intro _))
    (try dsimp only)
    (try k_fold))
  k_with "eval Name" => (k_here; (with_reducible show wpAny _ _ (eval (Expr.Name _ _) (envOfC _ _ _ _ _)) _ _ _); k_dflt (refine' bootName (by k_asm) (by k_asm) (by k_asm) (by rfl) (by rfl) (by k_is) (by first | boot_by_name | boot_fast | decide +kernel) (by decide) ?_; k_whole))
  k_with "mine mem" => (first | assumption | (refine List.Mem.tail _ ?_; k_extra "mine mem"))
  k_with "eval Name" => (k_here; (with_reducible show wpAny _ _ (eval (Expr.Name _ _) (compEnvC _ _ _ _)) _ _ _); k_dflt (refine' kcf_cell (by k_asm) (by rfl) (by k_extra "mine mem") (by assumption) ?_; k_whole))
  k_with "eval Name" => (k_here; (with_reducible show wpAny _ _ (eval (Expr.Name _ _) (envOfC _ _ _ _ _)) _ _ _); k_dflt (refine' cellName (by rfl) (by rfl) (by k_asm) (by rfl) (by k_extra "mine mem") (by assumption) ?_; k_whole))
  k_with "mine short" => ((try simp only [List.length_append, List.length_take, List.length_drop, List.length_cons, List.length_nil]); omega)
  k_with "mine mem0" => (first | exact List.mem_cons.mpr (Or.inl (by rfl)) | assumption | (refine List.Mem.tail _ ?_; k_extra "mine mem0"))
  k_with "exec For" => (k_here; k_dflt ((rename Fr _ _ _ _ => kqF); (with_unfolding_all refine' For_invVF kqF (by exact rfl) (by exact rfl) ?_; k_whole)))
  k_with "mine memL" => (first | exact List.mem_cons.mpr (Or.inl (by rfl)) | (refine List.Mem.tail _ ?_; k_extra "mine memL"))
  k_with "WPost" => (dsimp only [WPost])
  k_with "mine comp" => (
    k_here
    k_dflt (refine LCg.Assign_ListComp_U (F₀ := by k_asm) (by rfl) (by with_unfolding_all rfl) (by with_unfolding_all rfl) (by decide) (by rfl) (by decide) (by rfl) (by rfl) (by rfl) ?_))
  k_with "exec Assign cons ListComp" => (k_extra "mine comp")
  k_with "CompSrc" => (k_here; refine stop ?_)
  k_with "subscriptTail" => (
    k_here
    (with_reducible show wpAny _ _ (subscriptTail _ _ (Value.ref _) (Value.int _ _)) _ _ _)
    k_dflt (refine' ops_item (by k_asm) (by k_extra "mine memL") (by with_reducible assumption) (by assumption) (by assumption) ?_ (by with_unfolding_all rfl))
    intro _)
  k_with "subscriptTail" => (
    k_here
    (with_reducible show wpAny _ _ (subscriptTail _ _ (Value.ref 130) (Value.str _ _)) _ _ _)
    k_dflt (refine' tab_item (by k_asm) (by k_asm) (by assumption) (by assumption) (by rfl) ?_ (by with_unfolding_all rfl))
    intro _)
  k_with "call ref" => (k_here; (with_reducible show wpAny _ _ (call (Value.ref 144) _) _ _ _); refine stop ?_)
  k_with "call ref" => (
    k_here
    (try dsimp only [List.cons_append, List.nil_append])
    (with_reducible show wpAny _ _ (call (Value.ref 94) [Value.ref _, Value.int _ _]) _ _ _)
    k_dflt (refine' Con0.use (indent_con _ _ _ _ _ _ _ _ _) (by k_asm) (by k_asm) (by k_asm) (by k_asm) (by k_asm) (by first | exact rfl | assumption) (by exact ⟨WsIn.mono (by with_reducible assumption) (by k_extra "mine sub"), by with_reducible assumption, by omega, by omega⟩) (by ktr_room) (by ktr_units) ?_)
    intro _ _ _ _ _
    (try k_sweep)
    (try dsimp only)
    (try k_fold))
  trivial
theorem kl_last_snoc (y : Value) : ∀ p : List Value, kl_last (p ++ [y]) = some (p, y)
  | [] => rfl
  | x :: p => by rw [List.cons_append, kl_last, kl_last_snoc y p]
section lines
variable {prog : Program} {w : World} {A : Around} {E : Value → Shared → Prop} {s : Shared} {h₀ : Heap} {L : Addr} {m : Str → Option Value} {news : List (Addr × Obj)} {value slice : PySem.Expr}
theorem pile_len {a : Addr} {vs : List Value} {n k : Nat} {Q : Value → Shared → Prop} (N : News h₀ L s.heap news) (hm : (a, listOf vs.toArray n) ∈ news) (hk : vs.length = k) (h6 : k ≤ 100)
    (h : Q (.int (k : Int) (s.toks + 1)) { s with toks := s.toks + 1 + 1 }) : wpAny (model prog w) A (call (.builtin "len") [.ref a]) Q E s := by
  have e : (vs.toArray.size : Int) = (k : Int) := by rw [List.size_toArray, hk]
  refine len_list (News.isList N hm) (by omega) ?_
  rw [e]; exact h
theorem pile_top {a : Addr} {p : List Value} {v : Value} {n : Nat} {u : Tok} {Q : Value → Shared → Prop} (N : News h₀ L s.heap news) (hm : (a, listOf (p ++ [v]).toArray n) ∈ news) (h6 : p.length ≤ 100) (h : Q v s)
    (hs : subscripted slice false (.ref a) (.int (-1) u) = operate [.ref a, .int (-1) u] (getItem (.ref a) (.int (-1) u))) (hg : ∀ r, letTemporaryGo value (.ref a) r = pure ()) :
    wpAny (model prog w) A (subscriptTail value slice (.ref a) (.int (-1) u)) Q E s := by
  refine kim_back N hm rfl rfl (by decide) ?_ (by decide) ?_ h hs hg
  · rw [List.length_append]; simp; omega
  · rw [List.length_append, show ((-1 : Int) + ((p.length + [v].length : Nat) : Int)).toNat = p.length by simp; omega]
    simp
theorem pile_pop {a : Addr} {p : List Value} {v : Value} {n : Nat} {r : Led} {Q : Value → Shared → Prop} (F : Fr h₀ L s.heap m) (N : News h₀ L s.heap ((a, listOf (p ++ [v]).toArray n) :: r)) (hr : ∀ q ∈ r, q.1 ≠ a) (h6 : p.length ≤ 100)
    (h : ∀ h', Fr h₀ L h' m → News h₀ L h' ((a, listOf p.toArray (n + 1)) :: r) → Q v { s with heap := h' }) : wpAny (model prog w) A (call (.builtin "list.pop") [.ref a]) Q E s :=
  kl_pop F N (kl_last_snoc v p) (Upd.head hr) (Nat.le_trans (by rw [List.length_append]; simp; omega : _ ≤ 200) (Nat.le_of_ble_eq_true rfl)) h
theorem val_take9 {h₀ H : Heap} {g dr tk0 o} {l : Addr} {vs : List Value} {nn : Nat} {k : Int} {t : Tok} {Q : Value → Shared → Prop} (F : Fr h₀ L H m) (N : News h₀ L H news) (hm : (l, listOf vs.toArray nn) ∈ news) (h0 : 0 ≤ k) (h6 : vs.length ≤ 100)
    (h : ∀ D h', Fr h₀ L h' m → News h₀ L h' ((D, listOf (vs.take k.toNat).toArray 0) :: news) → (∀ p ∈ news, p.1 < D) → Q (.ref D) ⟨h', g, dr, tk0, o⟩)
    (hs : subscripted slice false (.ref l) (.ref H.objs.size) = operate [.ref H.objs.size, .ref l] (getItem (.ref l) (.ref H.objs.size))) (ht : ∀ r, letTemporaryGo value (.ref l) r = pure ()) :
    wpAny (model prog w) A (subscriptTail value slice (.ref l) (.ref H.objs.size)) Q E ⟨H.push { cls := .type "slice", data := .fields #[.none, .int k t, .none] }, g, dr, tk0, o⟩ :=
  val_take (s := ⟨H, g, dr, tk0, o⟩) F N hm h0 h6 h hs ht
end lines
theorem red_some {D : List Nat} {x : List Nat} (h : redM D = some x) (i : Nat) : ∃ y, redM (D.take i) = some y := by
  have key : ∀ (l : List Nat), l.foldl (fun o d => o.bind fun p => red p d) (none : Option (List Nat)) = none := by
    intro l
    induction l with
    | nil => rfl
    | cons d l ih => exact ih
  cases e : redM (D.take i) with
  | some y => exact ⟨y, rfl⟩
  | none =>
    have h2 : redM D = (D.drop i).foldl (fun o d => o.bind fun p => red p d) (redM (D.take i)) := by
      unfold redM; rw [← List.foldl_append, List.take_append_drop]
    rw [e, key] at h2
    rw [h2] at h; cases h
structure WS where
  np : Nat
  stk : List Value
  dep : List Nat
  lv : Addr
  dd : Nat
  fw : Led
/-- a lead in the ledger -/
inductive LeadIn (w : World) (rs : List Int) (tl : Int) (fw : Led) (v : Value) (d : Nat) : Prop
  | mk (raw : Str) (st : Sc) (h : WsIn w fw v raw st) (hs : ScIs st (rs.take d) tl) (h5 : d ≤ 5) (h0 : d = 0 → raw = S (List.replicate tl.toNat 32)) : LeadIn w rs tl fw v d
def OffQ (a : Addr) (r : Led) : Prop := ∀ q ∈ r, q.1 ≠ a
theorem lines31 : True := by
  k_with "call builtin:len" => (
    k_here
    (with_reducible show wpAny _ _ (call (Value.builtin "len") [Value.ref _]) _ _ _)
    k_dflt (refine' pile_len (by k_asm) (by k_extra "mine memL") (by with_reducible assumption) (by omega) ?_; k_whole))
  k_with "subscriptTail Name UnaryOp ref int" => (
    k_here
    (with_reducible show wpAny _ _ (subscriptTail _ _ (Value.ref _) (Value.int (-1) _)) _ _ _)
    k_dflt (refine' pile_top (by k_asm) (by k_extra "mine memL") (by (simp only [List.length_reverse]; omega)) ?_ (by with_unfolding_all rfl) (by kmk_pure); k_whole))
  k_with "call builtin:list.pop" => (
    k_here
    (with_reducible show wpAny _ _ (call (Value.builtin _) [Value.ref _]) _ _ _)
    k_dflt (refine' pile_pop (by k_asm) (by k_asm) (by with_reducible assumption) (by (simp only [List.length_reverse]; omega)) ?_)
    intro _ _ _
    (try k_sweep))
  k_with "call ref" => (
    k_here
    (try dsimp only [List.cons_append, List.nil_append])
    (with_reducible show wpAny _ _ (call (Value.ref 115) [Value.ref _, Value.ref _]) _ _ _)
    k_dflt (refine' Con0.use (less_con _ _ _ _ _ _ _ _ _ _) (by k_asm) (by k_asm) (by k_asm) (by k_asm) (by k_asm) (by first | exact rfl | assumption) (by exact ⟨WsIn.mono (by with_reducible assumption) (by k_extra "mine sub"), WsIn.mono (by with_reducible assumption) (by k_extra "mine sub"), by with_reducible assumption, by with_reducible assumption⟩) (by ktr_room) (by ktr_units) ?_)
    intro _ _ _ _ _
    (try k_sweep)
    (try dsimp only)
    (try (rename lessF _ _ = _ => hL'; rw [hL']))
    (try k_fold))
  k_with "call ref" => (
    k_here
    (try dsimp only [List.cons_append, List.nil_append])
    (with_reducible show wpAny _ _ (call (Value.ref 101) [Value.ref _, Value.ref _]) _ _ _)
    k_dflt (refine' Con0.use (equal_con _ _ _ _ _ _ _ _ _ _) (by k_asm) (by k_asm) (by k_asm) (by k_asm) (by k_asm) (by first | exact rfl | assumption) (by exact ⟨WsIn.mono (by with_reducible assumption) (by k_extra "mine sub"), WsIn.mono (by with_reducible assumption) (by k_extra "mine sub"), by with_reducible assumption, by with_reducible assumption⟩) (by ktr_room) (by ktr_units) ?_)
    intro _ _ _ _ _
    (try k_sweep)
    (try dsimp only)
    (try (rename decide _ = _ => hE'; rw [hE']))
    (try k_fold))
  k_with "subscriptTail Name Slice ref ref" => (
    k_here
    (with_reducible show wpAny _ _ (subscriptTail _ (PySem.Expr.Slice _ _ none _) (Value.ref _) (Value.ref _)) _ _ _)
    k_dflt (refine' val_take9 (by k_asm) (by k_asm) (by k_extra "mine memL") (by omega) (by (simp only [List.length_cons, List.length_nil]; omega)) ?_ (by with_unfolding_all rfl) (by kmk_pure))
    intro _ _ _ _ kql
    (try k_lt kql)
    (revert kql; intro _)
    (try k_sweep))
  k_with "call ref" => (
    k_here
    (try dsimp only [List.cons_append, List.nil_append])
    (with_reducible show wpAny _ _ (call (Value.ref 151) [Value.ref _, Value.str _ _]) _ _ _)
    k_dflt (refine' Con0.use (lead_con _ _ _ _ _ _ _ _) (by k_asm) (by k_asm) (by k_asm) (by k_asm) (by k_asm) (by first | exact rfl | assumption) (by exact ⟨_, _, by k_extra "mine memL", by assumption, by assumption, by assumption, by k_extra "mine catPre"⟩) (by ktr_room) (by ktr_units) ?_)
    intro _ _ _ _ _
    (try k_sweep)
    (try dsimp only)
    (try k_fold))
  k_with "call ref" => (k_here; (with_reducible show wpAny _ _ (call (Value.ref 125) _) _ _ _); refine stop ?_)
  trivial
noncomputable def ck11 : Cut2 ck10.P := by
  apply Cut2.mk
  intro hck hck2
  conv => whnf
  focus
    k_fill
    set_option tactic.hygienic false in intros
    w_on
    have hMk := kstMark
    have hIr : IntsAre [Value.int q0 v0, .int q1 v1, .int q2 v2, .int q3 v3, .int q4 v4] [q0, q1, q2, q3, q4] := .cons _ _ (.cons _ _ (.cons _ _ (.cons _ _ (.cons _ _ .nil))))
    obtain ⟨dep9, hR9⟩ := red_some hDr (i + 1)
    have hred : red dep d = some dep9 := by
      rw [List.take_succ_eq_append_getElem (by omega), redM_snoc, e2] at hR9
      have hdi : D[i] = d := by rw [List.getElem?_eq_getElem (by omega)] at hd; exact Option.some.inj hd
      rw [hdi] at hR9; exact hR9
    clear hcmp
    refine whileE (σ := WS) (fun z => (Dq, listOf z.stk.reverse.toArray z.np) :: (Dd, listOf us.toArray nd) :: (Dr, listOf [Value.int q0 v0, .int q1 v1, .int q2 v2, .int q3 v3, .int q4 v4].toArray 5) :: (Dp, listOf [Value.int p0 t0, .int p1 t1, .int p2 t2, .int p3 t3, .int p4 t4, .int p5 t5].toArray 0) :: (Do, listOf (strValues lO).toArray 0) :: (s1.heap.objs.size + 1, oO) :: (z.fw ++ own))
      (fun z => [(Str.ofString "lead", .ref z.lv), (Str.ofString "price", .int (price + indentF st (7 + p)) tpr), (Str.ofString "k", .int (0 + (i : Int)) t), (Str.ofString "pile", .ref Dq), (Str.ofString "depths", .ref Dd), (Str.ofString "tail", .str (S (List.replicate tl.toNat 32)) tkM), (Str.ofString "runs", .ref Dr), (Str.ofString "places", .ref Dp)])
      (fun z => PileIn w [q0, q1, q2, q3, q4] tl z.fw z.stk z.dep ∧ LeadIn w [q0, q1, q2, q3, q4] tl z.fw (.ref z.lv) z.dd ∧ red z.dep z.dd = some dep9 ∧ OffQ Dq z.fw ∧ z.dep.length ≤ i ∧ (∀ q ∈ own, ∀ p ∈ z.fw, q.1 ≠ p.1))
      (fun z => z.dep.length)
      (fun z => PileIn w [q0, q1, q2, q3, q4] tl z.fw z.stk z.dep ∧ LeadIn w [q0, q1, q2, q3, q4] tl z.fw (.ref z.lv) z.dd ∧ dep9 = z.dd :: z.dep ∧ (∀ m r, z.dep = m :: r → m < z.dd) ∧ OffQ Dq z.fw ∧ z.dep.length ≤ i ∧ (∀ q ∈ own, ∀ p ∈ z.fw, q.1 ≠ p.1))
      ⟨np, stk, dep, xI, d, (xI, instObj 125 dI) :: (dI, wsDict w RT st tI x1 x2 x3 x4 x5 x6 x7 x8) :: (tI, tupOf [.ref cI, .int st.b x9]) :: (cI, tupOf uw) :: fz⟩ F4 N4 ?wn ?wp ?wP ?wt ?wc
    case wn => k_extra "mine sub"
    case wp => k_extra "mine ps"
    case wP =>
      refine ⟨e1.mono (fun q hq => by simp [hq]), ⟨RT, st, hWl.mono (by k_extra "mine sub"), hSc, hd15.2, fun h0 => by have h1 : d = 0 := h0; omega⟩, hred, ?_, e5, ?_⟩
      · refine allC (Ne.symm hxq.1) (allC (Ne.symm hxq.2.1) (allC (Ne.symm hxq.2.2.1) (allC (Ne.symm hxq.2.2.2) (fun q hq => ?_))))
        exact e4 q hq Dq (.head _)
      · intro q hq
        refine allC ((hxo q hq).1) (allC ((hxo q hq).2.1) (allC ((hxo q hq).2.2.1) (allC ((hxo q hq).2.2.2) (fun x hx => ?_))))
        exact hoff q hq x.1 (.tail _ (.tail _ (.tail _ (.tail _ (.tail _ (.tail _ (List.mem_map.mpr ⟨x, hx, rfl⟩)))))))
    case wt =>
      clear F4 N4 e1 e2 hred e5 hxq
      rintro ⟨npz, stkz, depz, lv, dd, fw⟩ u h tk ⟨g1, g2, g3, g4, g5, g6⟩ F N
      dsimp only at g1 g2 g3 g4 g5 g6 F N
      obtain ⟨rawz, stz, gW, gS, g55, g0⟩ := g2
      have gOk := gS.ok (hRs.take dd) htl.1 (by omega)
      cases g1 with
      | nil =>
        have hl0 : ([] : List Value).length = 0 := rfl
        simp only [List.reverse_nil] at N
        (try k_fold)
        k_steps
        rename Fr _ _ _ _ => F5
        rename News _ _ _ _ => N5
        refine EndS.intro (WS.mk npz [] [] lv dd fw) F5 N5 (by k_extra "mine ps") (by k_extra "mine sub") ⟨.nil, ⟨rawz, stz, gW, gS, g55, g0⟩, (Option.some.inj g3).symm, (fun m r e => by cases e), g4, g5, g6⟩
      | @cons v dT vs ds raw stT hW hS h5 h0 r =>
        have hlen : (vs.reverse ++ [v]).length = vs.length + 1 := by simp
        have hvl : vs.length = ds.length := by
          clear hW hS h5 h0 g3 g5 hlen N F
          induction r with
          | nil => rfl
          | cons _ _ _ _ _ ih => simp [ih]
        simp only [List.length_cons] at g5
        simp only [List.reverse_cons] at N
        have tOk := hS.ok (hRs.take dT) htl.1 (by omega)
        have hLe := less_take hRs (m := dT) (d := dd) h5 g55 hS gS
        have hEq := equal_take (rs := [q0, q1, q2, q3, q4]) (m := dT) (d := dd) h5 g55 hS gS
        obtain ⟨xT, dTI, tTI, cTI, uT, y1, y2, y3, y4, y5, y6, y7, y8, y9, rfl, m1, m2, m3, m4, hIT⟩ := id hW
        obtain ⟨xL, dL, tL, cL, uL, w1, w2, w3, w4, w5, w6, w7, w8, w9, eL, l1, l2, l3, l4, hIL⟩ := id gW
        cases eL
        have N2 := news_sub (nx := (Dq, listOf (vs.reverse ++ [Value.ref xT]).toArray npz) :: (xT, instObj 125 dTI) :: (dTI, wsDict w raw stT tTI y1 y2 y3 y4 y5 y6 y7 y8) :: (lv, instObj 125 dL) :: (dL, wsDict w rawz stz tL w1 w2 w3 w4 w5 w6 w7 w8) :: (Dd, listOf us.toArray nd) :: (Dr, listOf [Value.int q0 v0, .int q1 v1, .int q2 v2, .int q3 v3, .int q4 v4].toArray 5) :: (Dp, listOf [Value.int p0 t0, .int p1 t1, .int p2 t2, .int p3 t3, .int p4 t4, .int p5 t5].toArray 0) :: (Do, listOf (strValues lO).toArray 0) :: (s1.heap.objs.size + 1, oO) :: (fw ++ own)) N (by
          have mf : ∀ x ∈ fw, x ∈ (Dd, listOf us.toArray nd) :: (Dr, listOf [Value.int q0 v0, .int q1 v1, .int q2 v2, .int q3 v3, .int q4 v4].toArray 5) :: (Dp, listOf [Value.int p0 t0, .int p1 t1, .int p2 t2, .int p3 t3, .int p4 t4, .int p5 t5].toArray 0) :: (Do, listOf (strValues lO).toArray 0) :: (s1.heap.objs.size + 1, oO) :: (fw ++ own) := fun x hx => .tail _ (.tail _ (.tail _ (.tail _ (.tail _ (List.mem_append_left _ hx)))))
          refine allC (.head _) (allC (.tail _ (mf _ m1)) (allC (.tail _ (mf _ m2)) (allC (.tail _ (mf _ l1)) (allC (.tail _ (mf _ l2)) (fun _ hq => .tail _ hq))))))
        clear N
        rcases Nat.lt_trichotomy dT dd with hlt | heq | hgt
        · have hLT : lessF stT stz = true := by rw [hLe]; exact decide_eq_true hlt
          (try k_fold)
          k_steps
          rename Fr _ _ _ _ => F5
          rename News _ _ _ _ => N5
          refine EndS.intro (WS.mk npz (.ref xT :: vs) (dT :: ds) lv dd fw) F5 (news_sub (nx := (Dq, listOf (Value.ref xT :: vs).reverse.toArray npz) :: (Dd, listOf us.toArray nd) :: (Dr, listOf [Value.int q0 v0, .int q1 v1, .int q2 v2, .int q3 v3, .int q4 v4].toArray 5) :: (Dp, listOf [Value.int p0 t0, .int p1 t1, .int p2 t2, .int p3 t3, .int p4 t4, .int p5 t5].toArray 0) :: (Do, listOf (strValues lO).toArray 0) :: (s1.heap.objs.size + 1, oO) :: (fw ++ own)) N5 (by rw [List.reverse_cons]; k_extra "mine sub")) (by k_extra "mine ps") (fun q hq => hq)
            ⟨.cons hW hS h5 h0 r, ⟨rawz, stz, gW, gS, g55, g0⟩, ?_, (fun m r e => by cases e; exact hlt), g4, by simp only [List.length_cons]; omega, g6⟩
          rw [red, if_pos hlt] at g3
          exact (Option.some.inj g3).symm
        · have hLT : lessF stT stz = false := by rw [hLe]; exact decide_eq_false (by omega)
          have hET : decide (stT.count = stz.count ∧ stT.b = stz.b) = true := decide_eq_true (hEq.mpr heq)
          have hnt : stT.nt = (dT : Int) := by rw [hS.nt, List.length_take]; simp; omega
          rw [red, if_neg (by omega)] at g3
          have hdd : 0 < dd := by
            rcases Nat.eq_zero_or_pos dd with e0 | e0
            · rw [if_neg (by omega)] at g3; cases g3
            · exact e0
          rw [if_pos ⟨heq, hdd⟩] at g3
          have hoffN : ∀ q ∈ (xT, instObj 125 dTI) :: (dTI, wsDict w raw stT tTI y1 y2 y3 y4 y5 y6 y7 y8) :: (lv, instObj 125 dL) :: (dL, wsDict w rawz stz tL w1 w2 w3 w4 w5 w6 w7 w8) :: (Dd, listOf us.toArray nd) :: (Dr, listOf [Value.int q0 v0, .int q1 v1, .int q2 v2, .int q3 v3, .int q4 v4].toArray 5) :: (Dp, listOf [Value.int p0 t0, .int p1 t1, .int p2 t2, .int p3 t3, .int p4 t4, .int p5 t5].toArray 0) :: (Do, listOf (strValues lO).toArray 0) :: (s1.heap.objs.size + 1, oO) :: (fw ++ own), q.1 ≠ Dq := by
            refine allC (g4 _ m1) (allC (g4 _ m2) (allC (g4 _ l1) (allC (g4 _ l2) (allC (Nat.ne_of_lt lQ.1) (allC (Nat.ne_of_lt lQ.2.1) (allC (Nat.ne_of_lt lQ.2.2.1) (allC (Nat.ne_of_lt lQ.2.2.2.1) (allC (Nat.ne_of_lt lQ.2.2.2.2) (fun q hq => ?_)))))))))
            rcases List.mem_append.mp hq with hq | hq
            · exact g4 q hq
            · exact hoff q hq Dq (.head _)
          have hTk := hIr.take (stT.nt - 1).toNat
          have hTb : ∀ x ∈ [q0, q1, q2, q3, q4].take (stT.nt - 1).toNat, 0 ≤ x ∧ x ≤ 8 := fun x hx => by
            have := hrb x (List.mem_of_mem_take hx); omega
          have hTl : ([q0, q1, q2, q3, q4].take (stT.nt - 1).toNat).length ≤ 6 := by rw [List.length_take]; simp only [List.length_cons, List.length_nil]; omega
          (try k_fold)
          k_steps
          unfold Stop
          (repeat (revert ‹_›))
          exact fun h _ => h.out
        · exfalso
          rw [red, if_neg (by omega), if_neg (by omega)] at g3
          cases g3
    case wc =>
      clear F4 N4 e1 e2 hred e5
      rintro ⟨npz, stkz, depz, lv, dd, fw⟩ u h tk ⟨g1, g2, g3, g3b, g4, g5, g6⟩ F N
      dsimp only at g1 g2 g3 g3b g4 g5 g6 F N
      (try k_fold)
      (repeat (revert ‹_›))
      exact fun _ h => h.out
end
/-! V10 -/
section
theorem lines32 : True := by
  k_with_none
  k_with "mine enter" => (
    refine' code_def (by k_asm) (by k_asm) (by k_asm) (by k_asm) (by k_asm) (by exact rfl) (by exact rfl) (by first | exact rfl | assumption) (by k_is) (by k_is) (by ktr_room) (by exact BindsTo.of_eq rfl) (by exact locs rfl) ?_ (by exact rfl) (by exact rfl) (by exact rfl) (by decide)
    k_whole
    intro _ _ _ _ _ _ _ _ _
    (try dsimp only)
    (try k_fold))
  k_with "mine ret0" => (refine' ret0 (by assumption) ?_ (by k_asm) (by first | k_asm | (refine cb_drop (by assumption) ?_; intro _ _; k_extra "mine sub1")))
  k_with "QEnd" => (dsimp only [QEnd])
  k_with "mine hasattr" => (
    refine' ha_line (by k_asm) (by k_asm) ?_
    intro _ _ _
    (try k_sweep))
  k_with "call builtin:hasattr" => (k_here; k_extra "mine hasattr")
  k_with "mine make" => (
    refine' call_cls (by k_asm) (by k_asm) (by k_asm) (by k_is) (by k_is) (by k_is) ?_
    k_whole
    intro _ _ _ _ _ kql kqm
    (try k_lt kql)
    (try k_lt2 kqm)
    (revert kql kqm; intro _ _)
    (try k_sweep)
    k_extra "mine enter")
  k_with "mine sub1" => (
    first
    | assumption
    | exact List.mem_append_left _ (by assumption)
    | exact List.mem_append_right _ (by assumption)
    | (refine List.Mem.tail _ ?_; k_extra "mine sub1")
    | (refine List.mem_append_left _ ?_; k_extra "mine sub1")
    | (refine List.mem_append_right _ ?_; k_extra "mine sub1"))
  k_with "mine sub" => (
    first
    | (refine sub_cons ?_ ?_; (focus (first | exact List.mem_cons.mpr (Or.inl (by rfl)) | k_memK | k_mem)); k_extra "mine sub")
    | exact List.forall_mem_nil _
    | (intro _ _; k_extra "mine sub1"))
  k_with "mine own" => (intro _ _; k_extra "mine sub1")
  k_with "mine ps" => (
    first
    | exact PsAre.nil
    | (refine PsAre.any (by with_unfolding_all rfl) ?_; k_extra "mine ps"))
  k_with "call type:tuple" => (
    k_here
    (with_reducible show wpAny _ _ (call (Value.type _) [Value.ref _]) _ _ _)
    k_dflt (refine' kde_tupleOf (by k_asm) (by k_asm) (by exact News.isList (by k_asm) (by k_mem)) (by (rw [List.size_toArray]; have hL9 := IntsAre.length (by assumption); omega)) (by exact rfl) ?_)
    intro _ _ _ _ kql
    (try k_lt kql)
    (revert kql; intro _)
    (try k_sweep))
  k_with "call ref" => (
    k_here
    (with_reducible show wpAny _ _ (call (Value.ref 42) [Value.int _ _, Value.int _ _]) _ _ _)
    k_dflt (refine' Con0.use (add_con _ _ _ _ _ _ _ _) (by k_asm) (by k_asm) (by k_asm) (by k_asm) (by k_asm) (by first | exact rfl | assumption) (by trivial) (by ktr_room) (by ktr_units) ?_)
    intro _ _ _ _ _
    (try k_sweep)
    (try dsimp only)
    (try k_fold))
  k_with "call ref" => (
    k_here
    (with_reducible show wpAny _ _ (call (Value.ref 56) [Value.int _ _, Value.int _ _]) _ _ _)
    k_dflt (refine' Con0.use (sub_con _ _ _ _ _ _ _ _) (by k_asm) (by k_asm) (by k_asm) (by k_asm) (by k_asm) (by first | exact rfl | assumption) (by trivial) (by ktr_room) (by ktr_units) ?_)
    intro _ _ _ _ _
    (try k_sweep)
    (try dsimp only)
    (try k_fold))
  k_with "call ref" => (
    k_here
    (with_reducible show wpAny _ _ (call (Value.ref 28) [Value.int _ _, Value.int _ _]) _ _ _)
    k_dflt (refine' Con0.use (lt_con _ _ _ _ _ _ _ _) (by k_asm) (by k_asm) (by k_asm) (by k_asm) (by k_asm) (by first | exact rfl | assumption) (by trivial) (by ktr_room) (by ktr_units) ?_)
    intro _ _ _ _ _
    (try k_sweep)
    (try dsimp only)
    (try k_fold))
  k_with "call ref" => (
    k_here
    (with_reducible show wpAny _ _ (call (Value.ref 35) [Value.int _ _, Value.int _ _]) _ _ _)
    k_dflt (refine' Con0.use (le_con _ _ _ _ _ _ _ _) (by k_asm) (by k_asm) (by k_asm) (by k_asm) (by k_asm) (by first | exact rfl | assumption) (by trivial) (by ktr_room) (by ktr_units) ?_)
    intro _ _ _ _ _
    (try k_sweep)
    (try dsimp only)
    (try k_fold))
  k_with "call ref" => (
    k_here
    (with_reducible show wpAny _ _ (call (Value.ref 49) [Value.str _ _, Value.int _ _]) _ _ _)
    k_dflt (refine' Con0.use (mul_con _ _ _ _ _ _ _ _) (by k_asm) (by k_asm) (by k_asm) (by k_asm) (by k_asm) (by first | exact rfl | assumption) (by k_extra "mine mulPre") (by ktr_room) (by ktr_units) ?_)
    intro _ _ _ _ _
    (try k_sweep)
    (try dsimp only)
    (try k_fold))
  k_with "call ref" => (
    k_here
    (with_reducible show wpAny _ _ (call (Value.ref 63) [Value.str _ _, Value.str _ _]) _ _ _)
    k_dflt (refine' Con0.use (concat_con _ _ _ _ _ _ _ _) (by k_asm) (by k_asm) (by k_asm) (by k_asm) (by k_asm) (by first | exact rfl | assumption) (by k_extra "mine catPre") (by ktr_room) (by ktr_units) ?_)
    intro _ _ _ _ _
    (try k_sweep)
    (try dsimp only)
    (try k_fold))
  k_with "mine mulPre" => (exact ⟨rfl, by omega, by omega⟩)
  k_with "mine catPre" => ((try simp only [codes_S, len_S, codes_tab, codes_nil, len_tab, len_nil, List.length_append, List.length_replicate, List.length_cons, List.length_nil]); omega)
  k_with "pyIter ref" => (k_here; refine stop ?_)
  k_with "exec While" => (k_here; refine stop ?_)
  k_with "mine enterC" => (
    refine' code_defC (by k_asm) (by k_asm) (by k_asm) (by k_asm) (by k_asm) (by exact rfl) (by exact rfl) (by first | exact rfl | assumption) (by k_is) (by k_is) (by ktr_room) (by exact BindsTo.of_eq rfl) (by exact rfl) (by decide +kernel) ?_ (by exact rfl) (by exact rfl) (by exact rfl)
    k_whole
    intro _ _ _ _ _ _ _ _ kqY _ _ _ kql
    (try k_lt kql)
    (revert kql; intro _)
    k_cells kqY
    (try (rename News _ _ _ _ => kqN; simp only [List.cons_append, List.nil_append] at kqN; revert kqN; intro _))
    (try dsimp only)
    (try k_fold))
  k_with "eval Name" => (k_here; (with_reducible show wpAny _ _ (eval (Expr.Name _ _) (envOfC _ _ _ _ _)) _ _ _); k_dflt (refine' bootName (by k_asm) (by k_asm) (by k_asm) (by rfl) (by rfl) (by k_is) (by first | boot_by_name | boot_fast | decide +kernel) (by decide) ?_; k_whole))
  k_with "mine mem" => (first | assumption | (refine List.Mem.tail _ ?_; k_extra "mine mem"))
  k_with "eval Name" => (k_here; (with_reducible show wpAny _ _ (eval (Expr.Name _ _) (compEnvC _ _ _ _)) _ _ _); k_dflt (refine' kcf_cell (by k_asm) (by rfl) (by k_extra "mine mem") (by assumption) ?_; k_whole))
  k_with "eval Name" => (k_here; (with_reducible show wpAny _ _ (eval (Expr.Name _ _) (envOfC _ _ _ _ _)) _ _ _); k_dflt (refine' cellName (by rfl) (by rfl) (by k_asm) (by rfl) (by k_extra "mine mem") (by assumption) ?_; k_whole))
  k_with "mine short" => ((try simp only [List.length_append, List.length_take, List.length_drop, List.length_cons, List.length_nil]); omega)
  k_with "mine mem0" => (first | exact List.mem_cons.mpr (Or.inl (by rfl)) | assumption | (refine List.Mem.tail _ ?_; k_extra "mine mem0"))
  k_with "exec For" => (k_here; k_dflt ((rename Fr _ _ _ _ => kqF); (with_unfolding_all refine' For_invVF kqF (by exact rfl) (by exact rfl) ?_; k_whole)))
  k_with "mine memL" => (first | exact List.mem_cons.mpr (Or.inl (by rfl)) | (refine List.Mem.tail _ ?_; k_extra "mine memL"))
  k_with "WPost" => (dsimp only [WPost])
  k_with "mine comp" => (
    k_here
    k_dflt (refine LCg.Assign_ListComp_U (F₀ := by k_asm) (by rfl) (by with_unfolding_all rfl) (by with_unfolding_all rfl) (by decide) (by rfl) (by decide) (by rfl) (by rfl) (by rfl) ?_))
  k_with "exec Assign cons ListComp" => (k_extra "mine comp")
  k_with "CompSrc" => (k_here; refine stop ?_)
  k_with "subscriptTail" => (
    k_here
    (with_reducible show wpAny _ _ (subscriptTail _ _ (Value.ref _) (Value.int _ _)) _ _ _)
    k_dflt (refine' ops_item (by k_asm) (by k_extra "mine memL") (by with_reducible assumption) (by assumption) (by assumption) ?_ (by with_unfolding_all rfl))
    intro _)
  k_with "subscriptTail" => (
    k_here
    (with_reducible show wpAny _ _ (subscriptTail _ _ (Value.ref 130) (Value.str _ _)) _ _ _)
    k_dflt (refine' tab_item (by k_asm) (by k_asm) (by assumption) (by assumption) (by rfl) ?_ (by with_unfolding_all rfl))
    intro _)
  k_with "call ref" => (k_here; (with_reducible show wpAny _ _ (call (Value.ref 144) _) _ _ _); refine stop ?_)
  k_with "call ref" => (
    k_here
    (try dsimp only [List.cons_append, List.nil_append])
    (with_reducible show wpAny _ _ (call (Value.ref 94) [Value.ref _, Value.int _ _]) _ _ _)
    k_dflt (refine' Con0.use (indent_con _ _ _ _ _ _ _ _ _) (by k_asm) (by k_asm) (by k_asm) (by k_asm) (by k_asm) (by first | exact rfl | assumption) (by exact ⟨WsIn.mono (by with_reducible assumption) (by k_extra "mine sub"), by with_reducible assumption, by omega, by omega⟩) (by ktr_room) (by ktr_units) ?_)
    intro _ _ _ _ _
    (try k_sweep)
    (try dsimp only)
    (try k_fold))
  trivial
theorem law10 : ck11.P := by
  conv => whnf
  k_fill
  set_option tactic.hygienic false in intros
  w_on
  have hMk := kstMark
  rename Fr _ _ _ _ => F5
  rename News _ _ _ _ => N5
  have hn1 : (stT.nt - 1).toNat = dd - 1 := by omega
  simp only [hn1, codes_S] at hTk hTb hTl F5 N5 ⊢
  have hTl2 := leadC_len _ hTb
  have hlen9 : (S (leadC ([q0, q1, q2, q3, q4].take (dd - 1)) ++ List.replicate tl.toNat 32)).length ≤ 200 := by
    rw [len_S, List.length_append, List.length_replicate]; omega
  refine ws_make hlen9 K0 F5 kXO N5 T rfl (by ktr_room) (by ktr_units) ?_
  rintro xN dN tN cN uN stN z1 z2 z3 z4 z5 z6 z7 z8 z9 h7 tk7 F7 N7 hIN hneN hstN
  have hSn : ScIs stN ([q0, q1, q2, q3, q4].take (dd - 1)) tl := by
    have h9 := scan_all (rs := [q0, q1, q2, q3, q4].take (dd - 1)) (fun r hr => (hTb r hr).1) tl.toNat stops_nil
    rw [List.append_nil, show ((tl.toNat : Nat) : Int) = tl by omega] at h9
    rw [hstN, codes_S]; exact h9
  have hN0 : dd - 1 = 0 → S (leadC ([q0, q1, q2, q3, q4].take (dd - 1)) ++ List.replicate tl.toNat 32) = S (List.replicate tl.toNat 32) := fun e => by rw [e]; rfl
  have hDq := hneN (Dq, listOf vs.reverse.toArray (npz + 1)) (by k_extra "mine memL")
  have hxN : ∀ q ∈ own, q.1 ≠ xN ∧ q.1 ≠ dN ∧ q.1 ≠ tN ∧ q.1 ≠ cN := fun q hq => hneN q (by k_extra "mine sub1")
  generalize S (leadC ([q0, q1, q2, q3, q4].take (dd - 1)) ++ List.replicate tl.toNat 32) = RN at *
  have N8 := news_sub (nx := (xN, instObj 125 dN) :: (dN, wsDict w RN stN tN z1 z2 z3 z4 z5 z6 z7 z8) :: (tN, tupOf [.ref cN, .int stN.b z9]) :: (cN, tupOf uN) :: (Dq, listOf vs.reverse.toArray (npz + 1)) :: (Dd, listOf us.toArray nd) :: (Dr, listOf [Value.int q0 v0, .int q1 v1, .int q2 v2, .int q3 v3, .int q4 v4].toArray 5) :: (Dp, listOf [Value.int p0 t0, .int p1 t1, .int p2 t2, .int p3 t3, .int p4 t4, .int p5 t5].toArray 0) :: (Do, listOf (strValues lO).toArray 0) :: (s1.heap.objs.size + 1, oO) :: (fw ++ own)) N7 (by k_extra "mine sub")
  clear F5 N5 N7 hneN
  (try k_fold)
  k_steps
  rename Fr _ _ _ _ => F8
  rename News _ _ _ _ => N9
  refine WEnd.intro (WS.mk (npz + 1) vs ds xN (dd - 1) ((xN, instObj 125 dN) :: (dN, wsDict w RN stN tN z1 z2 z3 z4 z5 z6 z7 z8) :: (tN, tupOf [.ref cN, .int stN.b z9]) :: (cN, tupOf uN) :: fw)) F8 N9 (by k_extra "mine ps") (by simp only [List.cons_append]; k_extra "mine sub")
    ⟨r.mono (fun q hq => .tail _ (.tail _ (.tail _ (.tail _ hq)))), ⟨RN, stN, ⟨xN, dN, tN, cN, uN, z1, z2, z3, z4, z5, z6, z7, z8, z9, rfl, .head _, .tail _ (.head _), .tail _ (.tail _ (.head _)), .tail _ (.tail _ (.tail _ (.head _))), hIN⟩, hSn, by have h9 : dd ≤ 5 := g55; show dd - 1 ≤ 5; omega, hN0⟩, g3, ?_, ?_, ?_⟩ ?_
  · refine allC (Ne.symm hDq.1) (allC (Ne.symm hDq.2.1) (allC (Ne.symm hDq.2.2.1) (allC (Ne.symm hDq.2.2.2) (fun q hq => ?_))))
    exact g4 q hq
  · show ds.length ≤ i; omega
  · intro q hq
    refine allC ((hxN q hq).1) (allC ((hxN q hq).2.1) (allC ((hxN q hq).2.2.1) (allC ((hxN q hq).2.2.2) (fun x hx => ?_))))
    exact g6 q hq x hx
  · show ds.length < ds.length + 1; omega
end
/-! V11 -/
section
theorem lines33 : True := by
  k_with_none
  k_with "mine enter" => (
    refine' code_def (by k_asm) (by k_asm) (by k_asm) (by k_asm) (by k_asm) (by exact rfl) (by exact rfl) (by first | exact rfl | assumption) (by k_is) (by k_is) (by ktr_room) (by exact BindsTo.of_eq rfl) (by exact locs rfl) ?_ (by exact rfl) (by exact rfl) (by exact rfl) (by decide)
    k_whole
    intro _ _ _ _ _ _ _ _ _
    (try dsimp only)
    (try k_fold))
  k_with "mine ret0" => (refine' ret0 (by assumption) ?_ (by k_asm) (by first | k_asm | (refine cb_drop (by assumption) ?_; intro _ _; k_extra "mine sub1")))
  k_with "QEnd" => (dsimp only [QEnd])
  k_with "mine hasattr" => (
    refine' ha_line (by k_asm) (by k_asm) ?_
    intro _ _ _
    (try k_sweep))
  k_with "call builtin:hasattr" => (k_here; k_extra "mine hasattr")
  k_with "mine make" => (
    refine' call_cls (by k_asm) (by k_asm) (by k_asm) (by k_is) (by k_is) (by k_is) ?_
    k_whole
    intro _ _ _ _ _ kql kqm
    (try k_lt kql)
    (try k_lt2 kqm)
    (revert kql kqm; intro _ _)
    (try k_sweep)
    k_extra "mine enter")
  k_with "mine sub1" => (
    first
    | assumption
    | exact List.mem_append_left _ (by assumption)
    | exact List.mem_append_right _ (by assumption)
    | (refine List.Mem.tail _ ?_; k_extra "mine sub1")
    | (refine List.mem_append_left _ ?_; k_extra "mine sub1")
    | (refine List.mem_append_right _ ?_; k_extra "mine sub1"))
  k_with "mine sub" => (
    first
    | (refine sub_cons ?_ ?_; (focus (first | exact List.mem_cons.mpr (Or.inl (by rfl)) | k_memK | k_mem)); k_extra "mine sub")
    | exact List.forall_mem_nil _
    | (intro _ _; k_extra "mine sub1"))
  k_with "mine own" => (intro _ _; k_extra "mine sub1")
  k_with "mine ps" => (
    first
    | exact PsAre.nil
    | (refine PsAre.any (by with_unfolding_all rfl) ?_; k_extra "mine ps"))
  k_with "call type:tuple" => (
    k_here
    (with_reducible show wpAny _ _ (call (Value.type _) [Value.ref _]) _ _ _)
    k_dflt (refine' kde_tupleOf (by k_asm) (by k_asm) (by exact News.isList (by k_asm) (by k_mem)) (by (rw [List.size_toArray]; have hL9 := IntsAre.length (by assumption); omega)) (by exact rfl) ?_)
    intro _ _ _ _ kql
    (try k_lt kql)
    (revert kql; intro _)
    (try k_sweep))
  k_with "call ref" => (
    k_here
    (with_reducible show wpAny _ _ (call (Value.ref 42) [Value.int _ _, Value.int _ _]) _ _ _)
    k_dflt (refine' Con0.use (add_con _ _ _ _ _ _ _ _) (by k_asm) (by k_asm) (by k_asm) (by k_asm) (by k_asm) (by first | exact rfl | assumption) (by trivial) (by ktr_room) (by ktr_units) ?_)
    intro _ _ _ _ _
    (try k_sweep)
    (try dsimp only)
    (try k_fold))
  k_with "call ref" => (
    k_here
    (with_reducible show wpAny _ _ (call (Value.ref 56) [Value.int _ _, Value.int _ _]) _ _ _)
    k_dflt (refine' Con0.use (sub_con _ _ _ _ _ _ _ _) (by k_asm) (by k_asm) (by k_asm) (by k_asm) (by k_asm) (by first | exact rfl | assumption) (by trivial) (by ktr_room) (by ktr_units) ?_)
    intro _ _ _ _ _
    (try k_sweep)
    (try dsimp only)
    (try k_fold))
  k_with "call ref" => (
    k_here
    (with_reducible show wpAny _ _ (call (Value.ref 28) [Value.int _ _, Value.int _ _]) _ _ _)
    k_dflt (refine' Con0.use (lt_con _ _ _ _ _ _ _ _) (by k_asm) (by k_asm) (by k_asm) (by k_asm) (by k_asm) (by first | exact rfl | assumption) (by trivial) (by ktr_room) (by ktr_units) ?_)
    intro _ _ _ _ _
    (try k_sweep)
    (try dsimp only)
    (try k_fold))
  k_with "call ref" => (
    k_here
    (with_reducible show wpAny _ _ (call (Value.ref 35) [Value.int _ _, Value.int _ _]) _ _ _)
    k_dflt (refine' Con0.use (le_con _ _ _ _ _ _ _ _) (by k_asm) (by k_asm) (by k_asm) (by k_asm) (by k_asm) (by first | exact rfl | assumption) (by trivial) (by ktr_room) (by ktr_units) ?_)
    intro _ _ _ _ _
    (try k_sweep)
    (try dsimp only)
    (try k_fold))
  k_with "call ref" => (
    k_here
    (with_reducible show wpAny _ _ (call (Value.ref 49) [Value.str _ _, Value.int _ _]) _ _ _)
    k_dflt (refine' Con0.use (mul_con _ _ _ _ _ _ _ _) (by k_asm) (by k_asm) (by k_asm) (by k_asm) (by k_asm) (by first | exact rfl | assumption) (by k_extra "mine mulPre") (by ktr_room) (by ktr_units) ?_)
    intro _ _ _ _ _
    (try k_sweep)
    (try dsimp only)
    (try k_fold))
  k_with "call ref" => (
    k_here
    (with_reducible show wpAny _ _ (call (Value.ref 63) [Value.str _ _, Value.str _ _]) _ _ _)
    k_dflt (refine' Con0.use (concat_con _ _ _ _ _ _ _ _) (by k_asm) (by k_asm) (by k_asm) (by k_asm) (by k_asm) (by first | exact rfl | assumption) (by k_extra "mine catPre") (by ktr_room) (by ktr_units) ?_)
    intro _ _ _ _ _
    (try k_sweep)
    (try dsimp only)
    (try k_fold))
  k_with "mine mulPre" => (exact ⟨rfl, by omega, by omega⟩)
  k_with "mine catPre" => ((try simp only [codes_S, len_S, codes_tab, codes_nil, len_tab, len_nil, List.length_append, List.length_replicate, List.length_cons, List.length_nil]); omega)
  k_with "pyIter ref" => (k_here; refine stop ?_)
  k_with "exec While" => (k_here; refine stop ?_)
  k_with "mine enterC" => (
    refine' code_defC (by k_asm) (by k_asm) (by k_asm) (by k_asm) (by k_asm) (by exact rfl) (by exact rfl) (by first | exact rfl | assumption) (by k_is) (by k_is) (by ktr_room) (by exact BindsTo.of_eq rfl) (by exact rfl) (by decide +kernel) ?_ (by exact rfl) (by exact rfl) (by exact rfl)
    k_whole
    intro _ _ _ _ _ _ _ _ kqY _ _ _ kql
    (try k_lt kql)
    (revert kql; intro _)
    k_cells kqY
    (try (rename News _ _ _ _ => kqN; simp only [List.cons_append, List.nil_append] at kqN; revert kqN; intro _))
    (try dsimp only)
    (try k_fold))
  k_with "eval Name" => (k_here; (with_reducible show wpAny _ _ (eval (Expr.Name _ _) (envOfC _ _ _ _ _)) _ _ _); k_dflt (refine' bootName (by k_asm) (by k_asm) (by k_asm) (by rfl) (by rfl) (by k_is) (by first | boot_by_name | boot_fast | decide +kernel) (by decide) ?_; k_whole))
  k_with "mine mem" => (first | assumption | (refine List.Mem.tail _ ?_; k_extra "mine mem"))
  k_with "eval Name" => (k_here; (with_reducible show wpAny _ _ (eval (Expr.Name _ _) (compEnvC _ _ _ _)) _ _ _); k_dflt (refine' kcf_cell (by k_asm) (by rfl) (by k_extra "mine mem") (by assumption) ?_; k_whole))
  k_with "eval Name" => (k_here; (with_reducible show wpAny _ _ (eval (Expr.Name _ _) (envOfC _ _ _ _ _)) _ _ _); k_dflt (refine' cellName (by rfl) (by rfl) (by k_asm) (by rfl) (by k_extra "mine mem") (by assumption) ?_; k_whole))
  k_with "mine short" => ((try simp only [List.length_append, List.length_take, List.length_drop, List.length_cons, List.length_nil]); omega)
  k_with "mine mem0" => (first | exact List.mem_cons.mpr (Or.inl (by rfl)) | assumption | (refine List.Mem.tail _ ?_; k_extra "mine mem0"))
  k_with "exec For" => (k_here; k_dflt ((rename Fr _ _ _ _ => kqF); (with_unfolding_all refine' For_invVF kqF (by exact rfl) (by exact rfl) ?_; k_whole)))
  k_with "mine memL" => (first | exact List.mem_cons.mpr (Or.inl (by rfl)) | (refine List.Mem.tail _ ?_; k_extra "mine memL"))
  k_with "WPost" => (dsimp only [WPost])
  k_with "mine comp" => (
    k_here
    k_dflt (refine LCg.Assign_ListComp_U (F₀ := by k_asm) (by rfl) (by with_unfolding_all rfl) (by with_unfolding_all rfl) (by decide) (by rfl) (by decide) (by rfl) (by rfl) (by rfl) ?_))
  k_with "exec Assign cons ListComp" => (k_extra "mine comp")
  k_with "CompSrc" => (k_here; refine stop ?_)
  k_with "subscriptTail" => (
    k_here
    (with_reducible show wpAny _ _ (subscriptTail _ _ (Value.ref _) (Value.int _ _)) _ _ _)
    k_dflt (refine' ops_item (by k_asm) (by k_extra "mine memL") (by with_reducible assumption) (by assumption) (by assumption) ?_ (by with_unfolding_all rfl))
    intro _)
  k_with "subscriptTail" => (
    k_here
    (with_reducible show wpAny _ _ (subscriptTail _ _ (Value.ref 130) (Value.str _ _)) _ _ _)
    k_dflt (refine' tab_item (by k_asm) (by k_asm) (by assumption) (by assumption) (by rfl) ?_ (by with_unfolding_all rfl))
    intro _)
  k_with "call ref" => (k_here; (with_reducible show wpAny _ _ (call (Value.ref 144) _) _ _ _); refine stop ?_)
  k_with "call ref" => (
    k_here
    (try dsimp only [List.cons_append, List.nil_append])
    (with_reducible show wpAny _ _ (call (Value.ref 94) [Value.ref _, Value.int _ _]) _ _ _)
    k_dflt (refine' Con0.use (indent_con _ _ _ _ _ _ _ _ _) (by k_asm) (by k_asm) (by k_asm) (by k_asm) (by k_asm) (by first | exact rfl | assumption) (by exact ⟨WsIn.mono (by with_reducible assumption) (by k_extra "mine sub"), by with_reducible assumption, by omega, by omega⟩) (by ktr_room) (by ktr_units) ?_)
    intro _ _ _ _ _
    (try k_sweep)
    (try dsimp only)
    (try k_fold))
  trivial
section lines
variable {prog : Program} {w : World} {A : Around} {E : Value → Shared → Prop} {s : Shared} {h₀ : Heap} {L : Addr} {m : Str → Option Value} {news : List (Addr × Obj)}
theorem pile_push {a : Addr} {p : List Value} {v : Value} {n : Nat} {r : Led} {Q : Value → Shared → Prop} (F : Fr h₀ L s.heap m) (N : News h₀ L s.heap ((a, listOf p.toArray n) :: r)) (hr : ∀ q ∈ r, q.1 ≠ a) (h6 : p.length ≤ 100)
    (h : ∀ h', Fr h₀ L h' m → News h₀ L h' ((a, listOf (p ++ [v]).toArray (n + 1)) :: r) → Q .none { s with heap := h' }) : wpAny (model prog w) A (call (.builtin "list.append") [.ref a, v]) Q E s := by
  refine append_K F N (Upd.head hr) (fun h' F' N' => h h' F' ?_) (Nat.le_trans (by rw [List.size_toArray]; exact h6 : _ ≤ 100) (Nat.le_of_ble_eq_true rfl))
  have e : p.toArray.push v = (p ++ [v]).toArray := by simp
  rw [← e]; exact N'
end lines
theorem lines34 : True := by
  k_with "call builtin:len" => (
    k_here
    (with_reducible show wpAny _ _ (call (Value.builtin "len") [Value.ref _]) _ _ _)
    k_dflt (refine' pile_len (by k_asm) (by k_extra "mine memL") (by with_reducible assumption) (by omega) ?_; k_whole))
  k_with "subscriptTail Name UnaryOp ref int" => (
    k_here
    (with_reducible show wpAny _ _ (subscriptTail _ _ (Value.ref _) (Value.int (-1) _)) _ _ _)
    k_dflt (refine' pile_top (by k_asm) (by k_extra "mine memL") (by (simp only [List.length_reverse]; omega)) ?_ (by with_unfolding_all rfl) (by kmk_pure); k_whole))
  k_with "call builtin:list.pop" => (
    k_here
    (with_reducible show wpAny _ _ (call (Value.builtin _) [Value.ref _]) _ _ _)
    k_dflt (refine' pile_pop (by k_asm) (by k_asm) (by with_reducible assumption) (by (simp only [List.length_reverse]; omega)) ?_)
    intro _ _ _
    (try k_sweep))
  k_with "call ref" => (
    k_here
    (try dsimp only [List.cons_append, List.nil_append])
    (with_reducible show wpAny _ _ (call (Value.ref 115) [Value.ref _, Value.ref _]) _ _ _)
    k_dflt (refine' Con0.use (less_con _ _ _ _ _ _ _ _ _ _) (by k_asm) (by k_asm) (by k_asm) (by k_asm) (by k_asm) (by first | exact rfl | assumption) (by exact ⟨WsIn.mono (by with_reducible assumption) (by k_extra "mine sub"), WsIn.mono (by with_reducible assumption) (by k_extra "mine sub"), by with_reducible assumption, by with_reducible assumption⟩) (by ktr_room) (by ktr_units) ?_)
    intro _ _ _ _ _
    (try k_sweep)
    (try dsimp only)
    (try (rename lessF _ _ = _ => hL'; rw [hL']))
    (try k_fold))
  k_with "call ref" => (
    k_here
    (try dsimp only [List.cons_append, List.nil_append])
    (with_reducible show wpAny _ _ (call (Value.ref 101) [Value.ref _, Value.ref _]) _ _ _)
    k_dflt (refine' Con0.use (equal_con _ _ _ _ _ _ _ _ _ _) (by k_asm) (by k_asm) (by k_asm) (by k_asm) (by k_asm) (by first | exact rfl | assumption) (by exact ⟨WsIn.mono (by with_reducible assumption) (by k_extra "mine sub"), WsIn.mono (by with_reducible assumption) (by k_extra "mine sub"), by with_reducible assumption, by with_reducible assumption⟩) (by ktr_room) (by ktr_units) ?_)
    intro _ _ _ _ _
    (try k_sweep)
    (try dsimp only)
    (try (rename decide _ = _ => hE'; rw [hE']))
    (try k_fold))
  k_with "subscriptTail Name Slice ref ref" => (
    k_here
    (with_reducible show wpAny _ _ (subscriptTail _ (PySem.Expr.Slice _ _ none _) (Value.ref _) (Value.ref _)) _ _ _)
    k_dflt (refine' val_take9 (by k_asm) (by k_asm) (by k_extra "mine memL") (by omega) (by (simp only [List.length_cons, List.length_nil]; omega)) ?_ (by with_unfolding_all rfl) (by kmk_pure))
    intro _ _ _ _ kql
    (try k_lt kql)
    (revert kql; intro _)
    (try k_sweep))
  k_with "call ref" => (
    k_here
    (try dsimp only [List.cons_append, List.nil_append])
    (with_reducible show wpAny _ _ (call (Value.ref 151) [Value.ref _, Value.str _ _]) _ _ _)
    k_dflt (refine' Con0.use (lead_con _ _ _ _ _ _ _ _) (by k_asm) (by k_asm) (by k_asm) (by k_asm) (by k_asm) (by first | exact rfl | assumption) (by exact ⟨_, _, by k_extra "mine memL", by assumption, by assumption, by assumption, by k_extra "mine catPre"⟩) (by ktr_room) (by ktr_units) ?_)
    intro _ _ _ _ _
    (try k_sweep)
    (try dsimp only)
    (try k_fold))
  k_with "call ref" => (k_here; (with_reducible show wpAny _ _ (call (Value.ref 125) _) _ _ _); refine stop ?_)
  k_with "call builtin:list.append" => (
    k_here
    (try dsimp only [List.cons_append, List.nil_append])
    (with_reducible show wpAny _ _ (call (Value.builtin _) [Value.ref _, _]) _ _ _)
    k_dflt (refine' pile_push (by k_asm) (by k_asm) (by with_reducible assumption) (by with_reducible assumption) ?_)
    intro _ _ _
    (try k_sweep))
  trivial
theorem law11 : ck11.Q := by
  conv => whnf
  k_fill
  set_option tactic.hygienic false in intros
  w_on
  have hMk := kstMark
  obtain ⟨rawz, stz, gW, gS, g55, g0⟩ := g2
  have gOk := gS.ok (hRs.take dd) htl.1 (by omega)
  have hprice : price + indentF st (7 + p) = priceF tl [7 + p0, 7 + p1, 7 + p2, 7 + p3, 7 + p4, 7 + p5] D (i + 1) := by
    have hb : ∀ r ∈ [q0, q1, q2, q3, q4].take d, 0 ≤ r ∧ r < 7 + p := fun r hr => by
      have := hrb r (List.mem_of_mem_take hr); omega
    have hgD : D.getD i 0 = d := by rw [List.getD_eq_getElem?_getD, hd]; rfl
    rw [priceF_succ, ← e3, hpw, hgD, indent_is hSc (hRs.take d) (by omega), colF_big hb, List.length_take]
    rw [show min d [q0, q1, q2, q3, q4].length = d by simp only [List.length_cons, List.length_nil]; omega]
  have hR8 : redM (D.take (i + 1)) = some (dd :: depz) := by rw [hR9, g3]
  cases g1 with
  | nil =>
    have hl0 : ([] : List Value).length = 0 := rfl
    have hl1 : ([] : List Value).length ≤ 100 := Nat.zero_le _
    simp only [List.reverse_nil] at N
    have hoffN : ∀ q ∈ (Dd, listOf us.toArray nd) :: (Dr, listOf [Value.int q0 v0, .int q1 v1, .int q2 v2, .int q3 v3, .int q4 v4].toArray 5) :: (Dp, listOf [Value.int p0 t0, .int p1 t1, .int p2 t2, .int p3 t3, .int p4 t4, .int p5 t5].toArray 0) :: (Do, listOf (strValues lO).toArray 0) :: (s1.heap.objs.size + 1, oO) :: (fw ++ own), q.1 ≠ Dq := by
      refine allC (Nat.ne_of_lt lQ.1) (allC (Nat.ne_of_lt lQ.2.1) (allC (Nat.ne_of_lt lQ.2.2.1) (allC (Nat.ne_of_lt lQ.2.2.2.1) (allC (Nat.ne_of_lt lQ.2.2.2.2) (fun q hq => ?_)))))
      rcases List.mem_append.mp hq with hq | hq
      · exact g4 q hq
      · exact hoff q hq Dq (.head _)
    (try k_fold)
    k_steps
    rename Fr _ _ _ _ => F5
    rename News _ _ _ _ => N5
    refine endL (MS.mk (npz + 1) [.ref lv] [dd] (price + indentF st (7 + p)) tpr fw) F5 N5 (by k_extra "mine ps") ?_ ?_ ?_ ⟨.cons gW gS g55 g0 .nil, hR8, hprice, ?_, ?_⟩
    · simp only [List.reverse_cons, List.reverse_nil]; k_extra "mine sub"
    · intro q hq; k_extra "mine sub1"
    · intro q hq
      simp only [List.map_cons]
      refine allC (hoff q hq _ (.head _)) (allC (hoff q hq _ (.tail _ (.head _))) (allC (hoff q hq _ (.tail _ (.tail _ (.head _)))) (allC (hoff q hq _ (.tail _ (.tail _ (.tail _ (.head _))))) (allC (hoff q hq _ (.tail _ (.tail _ (.tail _ (.tail _ (.head _)))))) (allC (hoff q hq _ (.tail _ (.tail _ (.tail _ (.tail _ (.tail _ (.head _))))))) (fun b hb => ?_))))))
      obtain ⟨x, hx, rfl⟩ := List.mem_map.mp hb
      exact g6 q hq x hx
    · intro q hq b hb
      rw [List.mem_singleton.mp hb]
      exact g4 q hq
    · show ([dd]).length ≤ i + 1
      simp only [List.length_cons, List.length_nil] at g5 ⊢
      omega
  | @cons v dT vs ds raw stT hW hS h5 h0 r =>
    have hlen : (vs.reverse ++ [v]).length = vs.length + 1 := by simp
    have hvl : vs.length = ds.length := by
      clear hW hS h5 h0 g3 g3b g5 hlen N F hR8
      induction r with
      | nil => rfl
      | cons _ _ _ _ _ ih => simp [ih]
    have g5' := g5
    simp only [List.length_cons] at g5'
    have hl1 : (vs.reverse ++ [v]).length ≤ 100 := by omega
    simp only [List.reverse_cons] at N
    have hlt := g3b dT ds rfl
    have tOk := hS.ok (hRs.take dT) htl.1 (by omega)
    have hEq := equal_take (rs := [q0, q1, q2, q3, q4]) (m := dT) (d := dd) h5 g55 hS gS
    obtain ⟨xT, dTI, tTI, cTI, uT, y1, y2, y3, y4, y5, y6, y7, y8, y9, rfl, m1, m2, m3, m4, hIT⟩ := id hW
    obtain ⟨xL, dL, tL, cL, uL, w1, w2, w3, w4, w5, w6, w7, w8, w9, eL, l1, l2, l3, l4, hIL⟩ := id gW
    cases eL
    have N2 := news_sub (nx := (Dq, listOf (vs.reverse ++ [Value.ref xT]).toArray npz) :: (xT, instObj 125 dTI) :: (dTI, wsDict w raw stT tTI y1 y2 y3 y4 y5 y6 y7 y8) :: (lv, instObj 125 dL) :: (dL, wsDict w rawz stz tL w1 w2 w3 w4 w5 w6 w7 w8) :: (Dd, listOf us.toArray nd) :: (Dr, listOf [Value.int q0 v0, .int q1 v1, .int q2 v2, .int q3 v3, .int q4 v4].toArray 5) :: (Dp, listOf [Value.int p0 t0, .int p1 t1, .int p2 t2, .int p3 t3, .int p4 t4, .int p5 t5].toArray 0) :: (Do, listOf (strValues lO).toArray 0) :: (s1.heap.objs.size + 1, oO) :: (fw ++ own)) N (by
      have mf : ∀ x ∈ fw, x ∈ (Dd, listOf us.toArray nd) :: (Dr, listOf [Value.int q0 v0, .int q1 v1, .int q2 v2, .int q3 v3, .int q4 v4].toArray 5) :: (Dp, listOf [Value.int p0 t0, .int p1 t1, .int p2 t2, .int p3 t3, .int p4 t4, .int p5 t5].toArray 0) :: (Do, listOf (strValues lO).toArray 0) :: (s1.heap.objs.size + 1, oO) :: (fw ++ own) := fun x hx => .tail _ (.tail _ (.tail _ (.tail _ (.tail _ (List.mem_append_left _ hx)))))
      refine allC (.head _) (allC (.tail _ (mf _ m1)) (allC (.tail _ (mf _ m2)) (allC (.tail _ (mf _ l1)) (allC (.tail _ (mf _ l2)) (fun _ hq => .tail _ hq))))))
    clear N
    have hoffN : ∀ q ∈ (xT, instObj 125 dTI) :: (dTI, wsDict w raw stT tTI y1 y2 y3 y4 y5 y6 y7 y8) :: (lv, instObj 125 dL) :: (dL, wsDict w rawz stz tL w1 w2 w3 w4 w5 w6 w7 w8) :: (Dd, listOf us.toArray nd) :: (Dr, listOf [Value.int q0 v0, .int q1 v1, .int q2 v2, .int q3 v3, .int q4 v4].toArray 5) :: (Dp, listOf [Value.int p0 t0, .int p1 t1, .int p2 t2, .int p3 t3, .int p4 t4, .int p5 t5].toArray 0) :: (Do, listOf (strValues lO).toArray 0) :: (s1.heap.objs.size + 1, oO) :: (fw ++ own), q.1 ≠ Dq := by
      refine allC (g4 _ m1) (allC (g4 _ m2) (allC (g4 _ l1) (allC (g4 _ l2) (allC (Nat.ne_of_lt lQ.1) (allC (Nat.ne_of_lt lQ.2.1) (allC (Nat.ne_of_lt lQ.2.2.1) (allC (Nat.ne_of_lt lQ.2.2.2.1) (allC (Nat.ne_of_lt lQ.2.2.2.2) (fun q hq => ?_)))))))))
      rcases List.mem_append.mp hq with hq | hq
      · exact g4 q hq
      · exact hoff q hq Dq (.head _)
    have hET : decide (stT.count = stz.count ∧ stT.b = stz.b) = false := decide_eq_false fun h => by have := hEq.mp h; omega
    (try k_fold)
    k_steps
    rename Fr _ _ _ _ => F5
    rename News _ _ _ _ => N5
    refine endL (MS.mk (npz + 1) (.ref lv :: .ref xT :: vs) (dd :: dT :: ds) (price + indentF st (7 + p)) tpr fw) F5 N5 (by k_extra "mine ps") ?_ ?_ ?_ ⟨.cons gW gS g55 g0 (.cons hW hS h5 h0 r), hR8, hprice, ?_, ?_⟩
    · simp only [List.reverse_cons, List.reverse_nil]; k_extra "mine sub"
    · intro q hq; k_extra "mine sub1"
    · intro q hq
      simp only [List.map_cons]
      refine allC (hoff q hq _ (.head _)) (allC (hoff q hq _ (.tail _ (.head _))) (allC (hoff q hq _ (.tail _ (.tail _ (.head _)))) (allC (hoff q hq _ (.tail _ (.tail _ (.tail _ (.head _))))) (allC (hoff q hq _ (.tail _ (.tail _ (.tail _ (.tail _ (.head _)))))) (allC (hoff q hq _ (.tail _ (.tail _ (.tail _ (.tail _ (.tail _ (.head _))))))) (fun b hb => ?_))))))
      obtain ⟨x, hx, rfl⟩ := List.mem_map.mp hb
      exact g6 q hq x hx
    · intro q hq b hb
      rw [List.mem_singleton.mp hb]
      exact g4 q hq
    · show (dd :: dT :: ds).length ≤ i + 1
      simp only [List.length_cons, List.length_nil] at g5 ⊢
      omega
end
/-! V12 -/
section
theorem lines35 : True := by
  k_with_none
  k_with "mine enter" => (
    refine' code_def (by k_asm) (by k_asm) (by k_asm) (by k_asm) (by k_asm) (by exact rfl) (by exact rfl) (by first | exact rfl | assumption) (by k_is) (by k_is) (by ktr_room) (by exact BindsTo.of_eq rfl) (by exact locs rfl) ?_ (by exact rfl) (by exact rfl) (by exact rfl) (by decide)
    k_whole
    intro _ _ _ _ _ _ _ _ _
    (try dsimp only)
    (try k_fold))
  k_with "mine ret0" => (refine' ret0 (by assumption) ?_ (by k_asm) (by first | k_asm | (refine cb_drop (by assumption) ?_; intro _ _; k_extra "mine sub1")))
  k_with "QEnd" => (dsimp only [QEnd])
  k_with "mine hasattr" => (
    refine' ha_line (by k_asm) (by k_asm) ?_
    intro _ _ _
    (try k_sweep))
  k_with "call builtin:hasattr" => (k_here; k_extra "mine hasattr")
  k_with "mine make" => (
    refine' call_cls (by k_asm) (by k_asm) (by k_asm) (by k_is) (by k_is) (by k_is) ?_
    k_whole
    intro _ _ _ _ _ kql kqm
    (try k_lt kql)
    (try k_lt2 kqm)
    (revert kql kqm; intro _ _)
    (try k_sweep)
    k_extra "mine enter")
  k_with "mine sub1" => (
    first
    | assumption
    | exact List.mem_append_left _ (by assumption)
    | exact List.mem_append_right _ (by assumption)
    | (refine List.Mem.tail _ ?_; k_extra "mine sub1")
    | (refine List.mem_append_left _ ?_; k_extra "mine sub1")
    | (refine List.mem_append_right _ ?_; k_extra "mine sub1"))
  k_with "mine sub" => (
    first
    | (refine sub_cons ?_ ?_; (focus (first | exact List.mem_cons.mpr (Or.inl (by rfl)) | k_memK | k_mem)); k_extra "mine sub")
    | exact List.forall_mem_nil _
    | (intro _ _; k_extra "mine sub1"))
  k_with "mine own" => (intro _ _; k_extra "mine sub1")
  k_with "mine ps" => (
    first
    | exact PsAre.nil
    | (refine PsAre.any (by with_unfolding_all rfl) ?_; k_extra "mine ps"))
  k_with "call type:tuple" => (
    k_here
    (with_reducible show wpAny _ _ (call (Value.type _) [Value.ref _]) _ _ _)
    k_dflt (refine' kde_tupleOf (by k_asm) (by k_asm) (by exact News.isList (by k_asm) (by k_mem)) (by (rw [List.size_toArray]; have hL9 := IntsAre.length (by assumption); omega)) (by exact rfl) ?_)
    intro _ _ _ _ kql
    (try k_lt kql)
    (revert kql; intro _)
    (try k_sweep))
  k_with "call ref" => (
    k_here
    (with_reducible show wpAny _ _ (call (Value.ref 42) [Value.int _ _, Value.int _ _]) _ _ _)
    k_dflt (refine' Con0.use (add_con _ _ _ _ _ _ _ _) (by k_asm) (by k_asm) (by k_asm) (by k_asm) (by k_asm) (by first | exact rfl | assumption) (by trivial) (by ktr_room) (by ktr_units) ?_)
    intro _ _ _ _ _
    (try k_sweep)
    (try dsimp only)
    (try k_fold))
  k_with "call ref" => (
    k_here
    (with_reducible show wpAny _ _ (call (Value.ref 56) [Value.int _ _, Value.int _ _]) _ _ _)
    k_dflt (refine' Con0.use (sub_con _ _ _ _ _ _ _ _) (by k_asm) (by k_asm) (by k_asm) (by k_asm) (by k_asm) (by first | exact rfl | assumption) (by trivial) (by ktr_room) (by ktr_units) ?_)
    intro _ _ _ _ _
    (try k_sweep)
    (try dsimp only)
    (try k_fold))
  k_with "call ref" => (
    k_here
    (with_reducible show wpAny _ _ (call (Value.ref 28) [Value.int _ _, Value.int _ _]) _ _ _)
    k_dflt (refine' Con0.use (lt_con _ _ _ _ _ _ _ _) (by k_asm) (by k_asm) (by k_asm) (by k_asm) (by k_asm) (by first | exact rfl | assumption) (by trivial) (by ktr_room) (by ktr_units) ?_)
    intro _ _ _ _ _
    (try k_sweep)
    (try dsimp only)
    (try k_fold))
  k_with "call ref" => (
    k_here
    (with_reducible show wpAny _ _ (call (Value.ref 35) [Value.int _ _, Value.int _ _]) _ _ _)
    k_dflt (refine' Con0.use (le_con _ _ _ _ _ _ _ _) (by k_asm) (by k_asm) (by k_asm) (by k_asm) (by k_asm) (by first | exact rfl | assumption) (by trivial) (by ktr_room) (by ktr_units) ?_)
    intro _ _ _ _ _
    (try k_sweep)
    (try dsimp only)
    (try k_fold))
  k_with "call ref" => (
    k_here
    (with_reducible show wpAny _ _ (call (Value.ref 49) [Value.str _ _, Value.int _ _]) _ _ _)
    k_dflt (refine' Con0.use (mul_con _ _ _ _ _ _ _ _) (by k_asm) (by k_asm) (by k_asm) (by k_asm) (by k_asm) (by first | exact rfl | assumption) (by k_extra "mine mulPre") (by ktr_room) (by ktr_units) ?_)
    intro _ _ _ _ _
    (try k_sweep)
    (try dsimp only)
    (try k_fold))
  k_with "call ref" => (
    k_here
    (with_reducible show wpAny _ _ (call (Value.ref 63) [Value.str _ _, Value.str _ _]) _ _ _)
    k_dflt (refine' Con0.use (concat_con _ _ _ _ _ _ _ _) (by k_asm) (by k_asm) (by k_asm) (by k_asm) (by k_asm) (by first | exact rfl | assumption) (by k_extra "mine catPre") (by ktr_room) (by ktr_units) ?_)
    intro _ _ _ _ _
    (try k_sweep)
    (try dsimp only)
    (try k_fold))
  k_with "mine mulPre" => (exact ⟨rfl, by omega, by omega⟩)
  k_with "mine catPre" => ((try simp only [codes_S, len_S, codes_tab, codes_nil, len_tab, len_nil, List.length_append, List.length_replicate, List.length_cons, List.length_nil]); omega)
  k_with "pyIter ref" => (k_here; refine stop ?_)
  k_with "exec While" => (k_here; refine stop ?_)
  k_with "mine enterC" => (
    refine' code_defC (by k_asm) (by k_asm) (by k_asm) (by k_asm) (by k_asm) (by exact rfl) (by exact rfl) (by first | exact rfl | assumption) (by k_is) (by k_is) (by ktr_room) (by exact BindsTo.of_eq rfl) (by exact rfl) (by decide +kernel) ?_ (by exact rfl) (by exact rfl) (by exact rfl)
    k_whole
    intro _ _ _ _ _ _ _ _ kqY _ _ _ kql
    (try k_lt kql)
    (revert kql; intro _)
    k_cells kqY
    (try (rename News _ _ _ _ => kqN; simp only [List.cons_append, List.nil_append] at kqN; revert kqN; intro _))
    (try dsimp only)
    (try k_fold))
  k_with "eval Name" => (k_here; (with_reducible show wpAny _ _ (eval (Expr.Name _ _) (envOfC _ _ _ _ _)) _ _ _); k_dflt (refine' bootName (by k_asm) (by k_asm) (by k_asm) (by rfl) (by rfl) (by k_is) (by first | boot_by_name | boot_fast | decide +kernel) (by decide) ?_; k_whole))
  k_with "mine mem" => (first | assumption | (refine List.Mem.tail _ ?_; k_extra "mine mem"))
  k_with "eval Name" => (k_here; (with_reducible show wpAny _ _ (eval (Expr.Name _ _) (compEnvC _ _ _ _)) _ _ _); k_dflt (refine' kcf_cell (by k_asm) (by rfl) (by k_extra "mine mem") (by assumption) ?_; k_whole))
  k_with "eval Name" => (k_here; (with_reducible show wpAny _ _ (eval (Expr.Name _ _) (envOfC _ _ _ _ _)) _ _ _); k_dflt (refine' cellName (by rfl) (by rfl) (by k_asm) (by rfl) (by k_extra "mine mem") (by assumption) ?_; k_whole))
  k_with "mine short" => ((try simp only [List.length_append, List.length_take, List.length_drop, List.length_cons, List.length_nil]); omega)
  k_with "mine mem0" => (first | exact List.mem_cons.mpr (Or.inl (by rfl)) | assumption | (refine List.Mem.tail _ ?_; k_extra "mine mem0"))
  k_with "exec For" => (k_here; k_dflt ((rename Fr _ _ _ _ => kqF); (with_unfolding_all refine' For_invVF kqF (by exact rfl) (by exact rfl) ?_; k_whole)))
  k_with "mine memL" => (first | exact List.mem_cons.mpr (Or.inl (by rfl)) | (refine List.Mem.tail _ ?_; k_extra "mine memL"))
  k_with "WPost" => (dsimp only [WPost])
  k_with "mine comp" => (
    k_here
    k_dflt (refine LCg.Assign_ListComp_U (F₀ := by k_asm) (by rfl) (by with_unfolding_all rfl) (by with_unfolding_all rfl) (by decide) (by rfl) (by decide) (by rfl) (by rfl) (by rfl) ?_))
  k_with "exec Assign cons ListComp" => (k_extra "mine comp")
  k_with "CompSrc" => (k_here; refine stop ?_)
  k_with "subscriptTail" => (
    k_here
    (with_reducible show wpAny _ _ (subscriptTail _ _ (Value.ref _) (Value.int _ _)) _ _ _)
    k_dflt (refine' ops_item (by k_asm) (by k_extra "mine memL") (by with_reducible assumption) (by assumption) (by assumption) ?_ (by with_unfolding_all rfl))
    intro _)
  k_with "subscriptTail" => (
    k_here
    (with_reducible show wpAny _ _ (subscriptTail _ _ (Value.ref 130) (Value.str _ _)) _ _ _)
    k_dflt (refine' tab_item (by k_asm) (by k_asm) (by assumption) (by assumption) (by rfl) ?_ (by with_unfolding_all rfl))
    intro _)
  k_with "call ref" => (k_here; (with_reducible show wpAny _ _ (call (Value.ref 144) _) _ _ _); refine stop ?_)
  k_with "call ref" => (
    k_here
    (try dsimp only [List.cons_append, List.nil_append])
    (with_reducible show wpAny _ _ (call (Value.ref 94) [Value.ref _, Value.int _ _]) _ _ _)
    k_dflt (refine' Con0.use (indent_con _ _ _ _ _ _ _ _ _) (by k_asm) (by k_asm) (by k_asm) (by k_asm) (by k_asm) (by first | exact rfl | assumption) (by exact ⟨WsIn.mono (by with_reducible assumption) (by k_extra "mine sub"), by with_reducible assumption, by omega, by omega⟩) (by ktr_room) (by ktr_units) ?_)
    intro _ _ _ _ _
    (try k_sweep)
    (try dsimp only)
    (try k_fold))
  trivial
theorem ws_make3 {w : World} {mean : ExcName → Option Value} {mg mb : Str → Option Value} {l : List Nat} {t : Tok} {RS : List Int} {TL : Int} {dp un : Nat} {gd : Option (List Code)} {cn : Str} {cs : Scope} {a : Addr} {ccd : Value} {cl : List (Str × Addr)} {outer : List Env} {A₀ : Around} {base h₀ : Heap} {L : Addr} {m : Str → Option Value} {news : Led} {s : Shared}
    {Q E : Value → Shared → Prop} (hlen : l.length ≤ 200) (H : ScIs (scan l sc0) RS TL) (ok : RsOk RS) (h0 : 0 ≤ TL) (h1 : TL ≤ 100)
    (B : Below A₀ base outer h₀) (F : Fr h₀ L s.heap m) (X : Frag.In (hd.heap_1 w.params) h₀) (N : News h₀ L s.heap news) (T : Top view LOO mean mg mb h₀) (hk : cs.kind = .function)
    (hd : dp + 3 < recursionLimit) (hu : un + 20 * 3 < cLine)
    (ret : ∀ xI dI tI cI us raw st t1 t2 t3 t4 t5 t6 t7 t8 t9 h' tk', Fr h₀ L h' m → News h₀ L h' ((xI, instObj 125 dI) :: (dI, wsDict w raw st tI t1 t2 t3 t4 t5 t6 t7 t8) :: (tI, tupOf [.ref cI, .int st.b t9]) :: (cI, tupOf us) :: news) →
      WsIn w [(xI, instObj 125 dI), (dI, wsDict w raw st tI t1 t2 t3 t4 t5 t6 t7 t8), (tI, tupOf [.ref cI, .int st.b t9]), (cI, tupOf us)] (.ref xI) raw st → ScIs st RS TL → ScOk st → Q (.ref xI) { s with heap := h', toks := tk' }) :
    wpAny (model PySem.Challenge.rw_tl0032_01.row.prog w) (ktrTop dp un gd cn cs L a ccd cl outer) (call (.ref 125) [.str (S l) t]) Q E s := by
  refine ws_make (by rw [len_S]; exact hlen) B F X N T hk hd hu ?_
  intro xI dI tI cI us st t1 t2 t3 t4 t5 t6 t7 t8 t9 h' tk' F' N' hI _ hst
  rw [codes_S] at hst
  rw [← hst] at H
  exact ret xI dI tI cI us (S l) st t1 t2 t3 t4 t5 t6 t7 t8 t9 h' tk' F' N' ⟨xI, dI, tI, cI, us, t1, t2, t3, t4, t5, t6, t7, t8, t9, rfl, .head _, .tail _ (.head _), .tail _ (.tail _ (.head _)), .tail _ (.tail _ (.tail _ (.head _))), hI⟩ H (H.ok ok h0 h1)
theorem lines36 : True := by
  k_with "call builtin:len" => (
    k_here
    (with_reducible show wpAny _ _ (call (Value.builtin "len") [Value.ref _]) _ _ _)
    k_dflt (refine' pile_len (by k_asm) (by k_extra "mine memL") (by with_reducible assumption) (by omega) ?_; k_whole))
  k_with "subscriptTail Name UnaryOp ref int" => (
    k_here
    (with_reducible show wpAny _ _ (subscriptTail _ _ (Value.ref _) (Value.int (-1) _)) _ _ _)
    k_dflt (refine' pile_top (by k_asm) (by k_extra "mine memL") (by (simp only [List.length_reverse]; omega)) ?_ (by with_unfolding_all rfl) (by kmk_pure); k_whole))
  k_with "call builtin:list.pop" => (
    k_here
    (with_reducible show wpAny _ _ (call (Value.builtin _) [Value.ref _]) _ _ _)
    k_dflt (refine' pile_pop (by k_asm) (by k_asm) (by with_reducible assumption) (by (simp only [List.length_reverse]; omega)) ?_)
    intro _ _ _
    (try k_sweep))
  k_with "call ref" => (
    k_here
    (try dsimp only [List.cons_append, List.nil_append])
    (with_reducible show wpAny _ _ (call (Value.ref 115) [Value.ref _, Value.ref _]) _ _ _)
    k_dflt (refine' Con0.use (less_con _ _ _ _ _ _ _ _ _ _) (by k_asm) (by k_asm) (by k_asm) (by k_asm) (by k_asm) (by first | exact rfl | assumption) (by exact ⟨WsIn.mono (by with_reducible assumption) (by k_extra "mine sub"), WsIn.mono (by with_reducible assumption) (by k_extra "mine sub"), by with_reducible assumption, by with_reducible assumption⟩) (by ktr_room) (by ktr_units) ?_)
    intro _ _ _ _ _
    (try k_sweep)
    (try dsimp only)
    (try (rename lessF _ _ = _ => hL'; rw [hL']))
    (try k_fold))
  k_with "call ref" => (
    k_here
    (try dsimp only [List.cons_append, List.nil_append])
    (with_reducible show wpAny _ _ (call (Value.ref 101) [Value.ref _, Value.ref _]) _ _ _)
    k_dflt (refine' Con0.use (equal_con _ _ _ _ _ _ _ _ _ _) (by k_asm) (by k_asm) (by k_asm) (by k_asm) (by k_asm) (by first | exact rfl | assumption) (by exact ⟨WsIn.mono (by with_reducible assumption) (by k_extra "mine sub"), WsIn.mono (by with_reducible assumption) (by k_extra "mine sub"), by with_reducible assumption, by with_reducible assumption⟩) (by ktr_room) (by ktr_units) ?_)
    intro _ _ _ _ _
    (try k_sweep)
    (try dsimp only)
    (try (rename decide _ = _ => hE'; rw [hE']))
    (try k_fold))
  k_with "subscriptTail Name Slice ref ref" => (
    k_here
    (with_reducible show wpAny _ _ (subscriptTail _ (PySem.Expr.Slice _ _ none _) (Value.ref _) (Value.ref _)) _ _ _)
    k_dflt (refine' val_take9 (by k_asm) (by k_asm) (by k_extra "mine memL") (by omega) (by (simp only [List.length_cons, List.length_nil]; omega)) ?_ (by with_unfolding_all rfl) (by kmk_pure))
    intro _ _ _ _ kql
    (try k_lt kql)
    (revert kql; intro _)
    (try k_sweep))
  k_with "call ref" => (
    k_here
    (try dsimp only [List.cons_append, List.nil_append])
    (with_reducible show wpAny _ _ (call (Value.ref 151) [Value.ref _, Value.str _ _]) _ _ _)
    k_dflt (refine' Con0.use (lead_con _ _ _ _ _ _ _ _) (by k_asm) (by k_asm) (by k_asm) (by k_asm) (by k_asm) (by first | exact rfl | assumption) (by exact ⟨_, _, by k_extra "mine memL", by assumption, by assumption, by assumption, by k_extra "mine catPre"⟩) (by ktr_room) (by ktr_units) ?_)
    intro _ _ _ _ _
    (try k_sweep)
    (try dsimp only)
    (try k_fold))
  k_with "call ref" => (k_here; (with_reducible show wpAny _ _ (call (Value.ref 125) _) _ _ _); refine stop ?_)
  trivial
noncomputable def ck13 : Cut ck5.Q := by
  apply Cut.mk
  intro hck
  conv => whnf
  focus
    k_fill
    set_option tactic.hygienic false in intros
    w_on
    have hMk := kstMark
    have hRs : RsOk [q0, q1, q2, q3, q4] := ⟨Nat.le_of_ble_eq_true rfl, fun r hr => by have := hrb r hr; omega⟩
    have hIr : IntsAre [Value.int q0 v0, .int q1 v1, .int q2 v2, .int q3 v3, .int q4 v4] [q0, q1, q2, q3, q4] := .cons _ _ (.cons _ _ (.cons _ _ (.cons _ _ (.cons _ _ .nil))))
    have hb8 : ∀ x ∈ [q0, q1, q2, q3, q4], 0 ≤ x ∧ x ≤ 8 := fun x hx => by have := hrb x hx; omega
    have hq0 : ∀ x ∈ [q0, q1, q2, q3, q4], 0 ≤ x := fun x hx => (hrb x hx).1
    have hl6 : [q0, q1, q2, q3, q4].length ≤ 6 := Nat.le_of_ble_eq_true rfl
    have hll := leadC_len [q0, q1, q2, q3, q4] hb8
    have c2 : codes (Str.ofString "  ") = [32, 32] := by decide +kernel
    have c1 : codes (Str.ofString " ") = [32] := by decide +kernel
    have n2 : (Str.ofString "  ").length = 2 := by decide +kernel
    have n1 : (Str.ofString " ").length = 1 := by decide +kernel
    have hRs1 : RsOk ([q0, q1, q2, q3, q4] ++ [0]) := ⟨Nat.le_of_ble_eq_true rfl, fun r hr => by
      rcases List.mem_append.mp hr with hr | hr
      · exact hRs.bnd r hr
      · rw [List.mem_singleton.mp hr]; omega⟩
    k_steps
    rename Fr _ _ _ _ => F1
    rename News _ _ _ _ => N1
    unfold Stop
    refine ws_make3 (RS := [q0, q1, q2, q3, q4] ++ [0]) (TL := 0) ?lAAa ?hAAa hRs1 (by decide) (by decide) K0 F1 kXO N1 T rfl (by ktr_room) (by ktr_units) ?_
    case lAAa => rw [List.length_append]; simp only [codes_tab, List.length_cons, List.length_nil] at *; omega
    case hAAa =>
      have h9 := scan_all (rs := [q0, q1, q2, q3, q4] ++ [0]) (fun r hr => by
        rcases List.mem_append.mp hr with hr | hr
        · exact hq0 r hr
        · rw [List.mem_singleton.mp hr]; exact Int.le_refl _) 0 stops_nil
      rw [leadC_append] at h9
      simpa [leadC, codes_tab] using h9
    rintro xAa dAa tAa cAa uAa rawAa stAa aa1 aa2 aa3 aa4 aa5 aa6 aa7 aa8 aa9 hAa tkAa FAa NAa WAa SAa OAa
    clear F1 N1
    (try k_fold)
    k_steps
    rename Fr _ _ _ _ => F1
    rename News _ _ _ _ => N1
    unfold Stop
    refine ws_make3 (RS := [q0, q1, q2, q3, q4]) (TL := 2) ?lAAb ?hAAb hRs (by decide) (by decide) K0 F1 kXO N1 T rfl (by ktr_room) (by ktr_units) ?_
    case lAAb => rw [List.length_append]; simp only [c2, List.length_cons, List.length_nil] at *; omega
    case hAAb =>
      have h9 := scan_all (rs := [q0, q1, q2, q3, q4]) hq0 2 stops_nil
      rw [c2]; simpa using h9
    rintro xAb dAb tAb cAb uAb rawAb stAb ab1 ab2 ab3 ab4 ab5 ab6 ab7 ab8 ab9 hAb tkAb FAb NAb WAb SAb OAb
    clear F1 N1
    have hLT := less_tab hRs (Nat.le_of_ble_eq_true rfl) SAa SAb
    (try k_fold)
    k_steps
    rename Fr _ _ _ _ => F1
    rename News _ _ _ _ => N1
    unfold Stop
    refine ws_make3 (RS := [q0, q1, q2, q3, q4]) (TL := 0) ?lAAc ?hAAc hRs (by decide) (by decide) K0 F1 kXO N1 T rfl (by ktr_room) (by ktr_units) ?_
    case lAAc => rw [List.length_append]; simp only [codes_nil, List.length_cons, List.length_nil] at *; omega
    case hAAc =>
      have h9 := scan_all (rs := [q0, q1, q2, q3, q4]) hq0 0 stops_nil
      rw [codes_nil]; simpa using h9
    rintro xAc dAc tAc cAc uAc rawAc stAc ac1 ac2 ac3 ac4 ac5 ac6 ac7 ac8 ac9 hAc tkAc FAc NAc WAc SAc OAc
    clear F1 N1
    (try k_fold)
    k_steps
    rename Fr _ _ _ _ => F1
    rename News _ _ _ _ => N1
    unfold Stop
    refine ws_make3 (RS := [q0, q1, q2, q3, q4]) (TL := 1) ?lAAd ?hAAd hRs (by decide) (by decide) K0 F1 kXO N1 T rfl (by ktr_room) (by ktr_units) ?_
    case lAAd => rw [List.length_append]; simp only [c1, List.length_cons, List.length_nil] at *; omega
    case hAAd =>
      have h9 := scan_all (rs := [q0, q1, q2, q3, q4]) hq0 1 stops_nil
      rw [c1]; simpa using h9
    rintro xAd dAd tAd cAd uAd rawAd stAd ad1 ad2 ad3 ad4 ad5 ad6 ad7 ad8 ad9 hAd tkAd FAd NAd WAd SAd OAd
    clear F1 N1
    clear WAa SAa OAa WAb SAb OAb
    (repeat (revert ‹_›))
    exact fun h => h.out
end
/-! V13 -/
section
theorem lines37 : True := by
  k_with_none
  k_with "mine enter" => (
    refine' code_def (by k_asm) (by k_asm) (by k_asm) (by k_asm) (by k_asm) (by exact rfl) (by exact rfl) (by first | exact rfl | assumption) (by k_is) (by k_is) (by ktr_room) (by exact BindsTo.of_eq rfl) (by exact locs rfl) ?_ (by exact rfl) (by exact rfl) (by exact rfl) (by decide)
    k_whole
    intro _ _ _ _ _ _ _ _ _
    (try dsimp only)
    (try k_fold))
  k_with "mine ret0" => (refine' ret0 (by assumption) ?_ (by k_asm) (by first | k_asm | (refine cb_drop (by assumption) ?_; intro _ _; k_extra "mine sub1")))
  k_with "QEnd" => (dsimp only [QEnd])
  k_with "mine hasattr" => (
    refine' ha_line (by k_asm) (by k_asm) ?_
    intro _ _ _
    (try k_sweep))
  k_with "call builtin:hasattr" => (k_here; k_extra "mine hasattr")
  k_with "mine make" => (
    refine' call_cls (by k_asm) (by k_asm) (by k_asm) (by k_is) (by k_is) (by k_is) ?_
    k_whole
    intro _ _ _ _ _ kql kqm
    (try k_lt kql)
    (try k_lt2 kqm)
    (revert kql kqm; intro _ _)
    (try k_sweep)
    k_extra "mine enter")
  k_with "mine sub1" => (
    first
    | assumption
    | exact List.mem_append_left _ (by assumption)
    | exact List.mem_append_right _ (by assumption)
    | (refine List.Mem.tail _ ?_; k_extra "mine sub1")
    | (refine List.mem_append_left _ ?_; k_extra "mine sub1")
    | (refine List.mem_append_right _ ?_; k_extra "mine sub1"))
  k_with "mine sub" => (
    first
    | (refine sub_cons ?_ ?_; (focus (first | exact List.mem_cons.mpr (Or.inl (by rfl)) | k_memK | k_mem)); k_extra "mine sub")
    | exact List.forall_mem_nil _
    | (intro _ _; k_extra "mine sub1"))
  k_with "mine own" => (intro _ _; k_extra "mine sub1")
  k_with "mine ps" => (
    first
    | exact PsAre.nil
    | (refine PsAre.any (by with_unfolding_all rfl) ?_; k_extra "mine ps"))
  k_with "call type:tuple" => (
    k_here
    (with_reducible show wpAny _ _ (call (Value.type _) [Value.ref _]) _ _ _)
    k_dflt (refine' kde_tupleOf (by k_asm) (by k_asm) (by exact News.isList (by k_asm) (by k_mem)) (by (rw [List.size_toArray]; have hL9 := IntsAre.length (by assumption); omega)) (by exact rfl) ?_)
    intro _ _ _ _ kql
    (try k_lt kql)
    (revert kql; intro _)
    (try k_sweep))
  k_with "call ref" => (
    k_here
    (with_reducible show wpAny _ _ (call (Value.ref 42) [Value.int _ _, Value.int _ _]) _ _ _)
    k_dflt (refine' Con0.use (add_con _ _ _ _ _ _ _ _) (by k_asm) (by k_asm) (by k_asm) (by k_asm) (by k_asm) (by first | exact rfl | assumption) (by trivial) (by ktr_room) (by ktr_units) ?_)
    intro _ _ _ _ _
    (try k_sweep)
    (try dsimp only)
    (try k_fold))
  k_with "call ref" => (
    k_here
    (with_reducible show wpAny _ _ (call (Value.ref 56) [Value.int _ _, Value.int _ _]) _ _ _)
    k_dflt (refine' Con0.use (sub_con _ _ _ _ _ _ _ _) (by k_asm) (by k_asm) (by k_asm) (by k_asm) (by k_asm) (by first | exact rfl | assumption) (by trivial) (by ktr_room) (by ktr_units) ?_)
    intro _ _ _ _ _
    (try k_sweep)
    (try dsimp only)
    (try k_fold))
  k_with "call ref" => (
    k_here
    (with_reducible show wpAny _ _ (call (Value.ref 28) [Value.int _ _, Value.int _ _]) _ _ _)
    k_dflt (refine' Con0.use (lt_con _ _ _ _ _ _ _ _) (by k_asm) (by k_asm) (by k_asm) (by k_asm) (by k_asm) (by first | exact rfl | assumption) (by trivial) (by ktr_room) (by ktr_units) ?_)
    intro _ _ _ _ _
    (try k_sweep)
    (try dsimp only)
    (try k_fold))
  k_with "call ref" => (
    k_here
    (with_reducible show wpAny _ _ (call (Value.ref 35) [Value.int _ _, Value.int _ _]) _ _ _)
    k_dflt (refine' Con0.use (le_con _ _ _ _ _ _ _ _) (by k_asm) (by k_asm) (by k_asm) (by k_asm) (by k_asm) (by first | exact rfl | assumption) (by trivial) (by ktr_room) (by ktr_units) ?_)
    intro _ _ _ _ _
    (try k_sweep)
    (try dsimp only)
    (try k_fold))
  k_with "call ref" => (
    k_here
    (with_reducible show wpAny _ _ (call (Value.ref 49) [Value.str _ _, Value.int _ _]) _ _ _)
    k_dflt (refine' Con0.use (mul_con _ _ _ _ _ _ _ _) (by k_asm) (by k_asm) (by k_asm) (by k_asm) (by k_asm) (by first | exact rfl | assumption) (by k_extra "mine mulPre") (by ktr_room) (by ktr_units) ?_)
    intro _ _ _ _ _
    (try k_sweep)
    (try dsimp only)
    (try k_fold))
  k_with "call ref" => (
    k_here
    (with_reducible show wpAny _ _ (call (Value.ref 63) [Value.str _ _, Value.str _ _]) _ _ _)
    k_dflt (refine' Con0.use (concat_con _ _ _ _ _ _ _ _) (by k_asm) (by k_asm) (by k_asm) (by k_asm) (by k_asm) (by first | exact rfl | assumption) (by k_extra "mine catPre") (by ktr_room) (by ktr_units) ?_)
    intro _ _ _ _ _
    (try k_sweep)
    (try dsimp only)
    (try k_fold))
  k_with "mine mulPre" => (exact ⟨rfl, by omega, by omega⟩)
  k_with "mine catPre" => ((try simp only [codes_S, len_S, codes_tab, codes_nil, len_tab, len_nil, List.length_append, List.length_replicate, List.length_cons, List.length_nil]); omega)
  k_with "pyIter ref" => (k_here; refine stop ?_)
  k_with "exec While" => (k_here; refine stop ?_)
  k_with "mine enterC" => (
    refine' code_defC (by k_asm) (by k_asm) (by k_asm) (by k_asm) (by k_asm) (by exact rfl) (by exact rfl) (by first | exact rfl | assumption) (by k_is) (by k_is) (by ktr_room) (by exact BindsTo.of_eq rfl) (by exact rfl) (by decide +kernel) ?_ (by exact rfl) (by exact rfl) (by exact rfl)
    k_whole
    intro _ _ _ _ _ _ _ _ kqY _ _ _ kql
    (try k_lt kql)
    (revert kql; intro _)
    k_cells kqY
    (try (rename News _ _ _ _ => kqN; simp only [List.cons_append, List.nil_append] at kqN; revert kqN; intro _))
    (try dsimp only)
    (try k_fold))
  k_with "eval Name" => (k_here; (with_reducible show wpAny _ _ (eval (Expr.Name _ _) (envOfC _ _ _ _ _)) _ _ _); k_dflt (refine' bootName (by k_asm) (by k_asm) (by k_asm) (by rfl) (by rfl) (by k_is) (by first | boot_by_name | boot_fast | decide +kernel) (by decide) ?_; k_whole))
  k_with "mine mem" => (first | assumption | (refine List.Mem.tail _ ?_; k_extra "mine mem"))
  k_with "eval Name" => (k_here; (with_reducible show wpAny _ _ (eval (Expr.Name _ _) (compEnvC _ _ _ _)) _ _ _); k_dflt (refine' kcf_cell (by k_asm) (by rfl) (by k_extra "mine mem") (by assumption) ?_; k_whole))
  k_with "eval Name" => (k_here; (with_reducible show wpAny _ _ (eval (Expr.Name _ _) (envOfC _ _ _ _ _)) _ _ _); k_dflt (refine' cellName (by rfl) (by rfl) (by k_asm) (by rfl) (by k_extra "mine mem") (by assumption) ?_; k_whole))
  k_with "mine short" => ((try simp only [List.length_append, List.length_take, List.length_drop, List.length_cons, List.length_nil]); omega)
  k_with "mine mem0" => (first | exact List.mem_cons.mpr (Or.inl (by rfl)) | assumption | (refine List.Mem.tail _ ?_; k_extra "mine mem0"))
  k_with "exec For" => (k_here; k_dflt ((rename Fr _ _ _ _ => kqF); (with_unfolding_all refine' For_invVF kqF (by exact rfl) (by exact rfl) ?_; k_whole)))
  k_with "mine memL" => (first | exact List.mem_cons.mpr (Or.inl (by rfl)) | (refine List.Mem.tail _ ?_; k_extra "mine memL"))
  k_with "WPost" => (dsimp only [WPost])
  k_with "mine comp" => (
    k_here
    k_dflt (refine LCg.Assign_ListComp_U (F₀ := by k_asm) (by rfl) (by with_unfolding_all rfl) (by with_unfolding_all rfl) (by decide) (by rfl) (by decide) (by rfl) (by rfl) (by rfl) ?_))
  k_with "exec Assign cons ListComp" => (k_extra "mine comp")
  k_with "CompSrc" => (k_here; refine stop ?_)
  k_with "subscriptTail" => (
    k_here
    (with_reducible show wpAny _ _ (subscriptTail _ _ (Value.ref _) (Value.int _ _)) _ _ _)
    k_dflt (refine' ops_item (by k_asm) (by k_extra "mine memL") (by with_reducible assumption) (by assumption) (by assumption) ?_ (by with_unfolding_all rfl))
    intro _)
  k_with "subscriptTail" => (
    k_here
    (with_reducible show wpAny _ _ (subscriptTail _ _ (Value.ref 130) (Value.str _ _)) _ _ _)
    k_dflt (refine' tab_item (by k_asm) (by k_asm) (by assumption) (by assumption) (by rfl) ?_ (by with_unfolding_all rfl))
    intro _)
  k_with "call ref" => (k_here; (with_reducible show wpAny _ _ (call (Value.ref 144) _) _ _ _); refine stop ?_)
  k_with "call ref" => (
    k_here
    (try dsimp only [List.cons_append, List.nil_append])
    (with_reducible show wpAny _ _ (call (Value.ref 94) [Value.ref _, Value.int _ _]) _ _ _)
    k_dflt (refine' Con0.use (indent_con _ _ _ _ _ _ _ _ _) (by k_asm) (by k_asm) (by k_asm) (by k_asm) (by k_asm) (by first | exact rfl | assumption) (by exact ⟨WsIn.mono (by with_reducible assumption) (by k_extra "mine sub"), by with_reducible assumption, by omega, by omega⟩) (by ktr_room) (by ktr_units) ?_)
    intro _ _ _ _ _
    (try k_sweep)
    (try dsimp only)
    (try k_fold))
  k_with "call builtin:len" => (
    k_here
    (with_reducible show wpAny _ _ (call (Value.builtin "len") [Value.ref _]) _ _ _)
    k_dflt (refine' pile_len (by k_asm) (by k_extra "mine memL") (by with_reducible assumption) (by omega) ?_; k_whole))
  k_with "subscriptTail Name UnaryOp ref int" => (
    k_here
    (with_reducible show wpAny _ _ (subscriptTail _ _ (Value.ref _) (Value.int (-1) _)) _ _ _)
    k_dflt (refine' pile_top (by k_asm) (by k_extra "mine memL") (by (simp only [List.length_reverse]; omega)) ?_ (by with_unfolding_all rfl) (by kmk_pure); k_whole))
  k_with "call builtin:list.pop" => (
    k_here
    (with_reducible show wpAny _ _ (call (Value.builtin _) [Value.ref _]) _ _ _)
    k_dflt (refine' pile_pop (by k_asm) (by k_asm) (by with_reducible assumption) (by (simp only [List.length_reverse]; omega)) ?_)
    intro _ _ _
    (try k_sweep))
  k_with "call ref" => (
    k_here
    (try dsimp only [List.cons_append, List.nil_append])
    (with_reducible show wpAny _ _ (call (Value.ref 115) [Value.ref _, Value.ref _]) _ _ _)
    k_dflt (refine' Con0.use (less_con _ _ _ _ _ _ _ _ _ _) (by k_asm) (by k_asm) (by k_asm) (by k_asm) (by k_asm) (by first | exact rfl | assumption) (by exact ⟨WsIn.mono (by with_reducible assumption) (by k_extra "mine sub"), WsIn.mono (by with_reducible assumption) (by k_extra "mine sub"), by with_reducible assumption, by with_reducible assumption⟩) (by ktr_room) (by ktr_units) ?_)
    intro _ _ _ _ _
    (try k_sweep)
    (try dsimp only)
    (try (rename lessF _ _ = _ => hL'; rw [hL']))
    (try k_fold))
  k_with "call ref" => (
    k_here
    (try dsimp only [List.cons_append, List.nil_append])
    (with_reducible show wpAny _ _ (call (Value.ref 101) [Value.ref _, Value.ref _]) _ _ _)
    k_dflt (refine' Con0.use (equal_con _ _ _ _ _ _ _ _ _ _) (by k_asm) (by k_asm) (by k_asm) (by k_asm) (by k_asm) (by first | exact rfl | assumption) (by exact ⟨WsIn.mono (by with_reducible assumption) (by k_extra "mine sub"), WsIn.mono (by with_reducible assumption) (by k_extra "mine sub"), by with_reducible assumption, by with_reducible assumption⟩) (by ktr_room) (by ktr_units) ?_)
    intro _ _ _ _ _
    (try k_sweep)
    (try dsimp only)
    (try (rename decide _ = _ => hE'; rw [hE']))
    (try k_fold))
  k_with "subscriptTail Name Slice ref ref" => (
    k_here
    (with_reducible show wpAny _ _ (subscriptTail _ (PySem.Expr.Slice _ _ none _) (Value.ref _) (Value.ref _)) _ _ _)
    k_dflt (refine' val_take9 (by k_asm) (by k_asm) (by k_extra "mine memL") (by omega) (by (simp only [List.length_cons, List.length_nil]; omega)) ?_ (by with_unfolding_all rfl) (by kmk_pure))
    intro _ _ _ _ kql
    (try k_lt kql)
    (revert kql; intro _)
    (try k_sweep))
  k_with "call ref" => (
    k_here
    (try dsimp only [List.cons_append, List.nil_append])
    (with_reducible show wpAny _ _ (call (Value.ref 151) [Value.ref _, Value.str _ _]) _ _ _)
    k_dflt (refine' Con0.use (lead_con _ _ _ _ _ _ _ _) (by k_asm) (by k_asm) (by k_asm) (by k_asm) (by k_asm) (by first | exact rfl | assumption) (by exact ⟨_, _, by k_extra "mine memL", by assumption, by assumption, by assumption, by k_extra "mine catPre"⟩) (by ktr_room) (by ktr_units) ?_)
    intro _ _ _ _ _
    (try k_sweep)
    (try dsimp only)
    (try k_fold))
  k_with "call ref" => (k_here; (with_reducible show wpAny _ _ (call (Value.ref 125) _) _ _ _); refine stop ?_)
  k_with "call ref" => (k_here; (try dsimp only [List.cons_append, List.nil_append]); (with_reducible show wpAny _ _ (call (Value.ref 151) _) _ _ _); refine stop ?_)
  trivial
noncomputable def ck14 : Cut ck13.P := by
  apply Cut.mk
  intro hck
  conv => whnf
  focus
    k_fill
    set_option tactic.hygienic false in intros
    w_on
    have hMk := kstMark
    have hLB := less_blank hRs SAc SAd
    have hEB : decide (stAc.count = stAd.count ∧ stAc.b = stAd.b) = false := decide_eq_false fun h => by
      have h1 := h.2; rw [SAc.b, SAd.b] at h1; omega
    have b0 := hrb q0 (.head _)
    have b4 := hrb q4 (.tail _ (.tail _ (.tail _ (.tail _ (.head _)))))
    have hA8 : ∀ x ∈ [q0 + 1, q1, q2, q3, q4], 0 ≤ x ∧ x ≤ 7 := fun x hx => by
      rcases List.mem_cons.mp hx with rfl | hx
      · omega
      · have := hrb x (.tail _ hx); omega
    have hB8 : ∀ x ∈ [q0, q1, q2, q3, q4 + 1], 0 ≤ x ∧ x ≤ 7 := fun x hx => by
      simp only [List.mem_cons, List.not_mem_nil, or_false] at hx
      rcases hx with rfl | rfl | rfl | rfl | rfl
      · omega
      · have := hrb x (.tail _ (.head _)); omega
      · have := hrb x (.tail _ (.tail _ (.head _))); omega
      · have := hrb x (.tail _ (.tail _ (.tail _ (.head _)))); omega
      · omega
    have hAl := leadC_len [q0 + 1, q1, q2, q3, q4] (fun x hx => by have := hA8 x hx; omega)
    have hBl := leadC_len [q0, q1, q2, q3, q4 + 1] (fun x hx => by have := hB8 x hx; omega)
    (try k_fold)
    k_steps
    rename Fr _ _ _ _ => F1
    rename News _ _ _ _ => N1
    unfold Stop
    refine Con0.use (lead_con w _ mg mb _ [q0 + 1, q1, q2, q3, q4] (Str.ofString "") _) K0 F1 kXO N1 T rfl ⟨_, _, List.Mem.head _, IntsAre.cons (q0 + 1) _ (.cons _ _ (.cons _ _ (.cons _ _ (.cons _ _ .nil)))), (fun x hx => by have := hA8 x hx; omega), Nat.le_of_ble_eq_true rfl, by rw [len_nil]; omega⟩ (by ktr_room) (by ktr_units) ?_
    intro tE hE tkE FE NE
    have NE2 := news_sub (nx := (Dq, listOf stk.reverse.toArray np) :: (Dd, listOf us.toArray nd) :: (Dr, listOf [Value.int q0 v0, .int q1 v1, .int q2 v2, .int q3 v3, .int q4 v4].toArray 5) :: (Dp, listOf [Value.int p0 t0, .int p1 t1, .int p2 t2, .int p3 t3, .int p4 t4, .int p5 t5].toArray 0) :: (Do, listOf (strValues lO).toArray 0) :: (s1.heap.objs.size + 1, oO) :: fz) NE (by k_extra "mine sub")
    clear F1 N1 NE
    (try k_fold)
    k_steps
    rename Fr _ _ _ _ => F1
    rename News _ _ _ _ => N1
    unfold Stop
    refine ws_make3 (RS := [q0 + 1, q1, q2, q3, q4]) (TL := 0) ?lAe ?hAe ⟨Nat.le_of_ble_eq_true rfl, hA8⟩ (by decide) (by decide) K0 F1 kXO N1 T rfl (by ktr_room) (by ktr_units) ?_
    case lAe => rw [List.length_append]; simp only [codes_nil, List.length_cons, List.length_nil] at *; omega
    case hAe =>
      have h9 := scan_all (rs := [q0 + 1, q1, q2, q3, q4]) (fun x hx => (hA8 x hx).1) 0 stops_nil
      rw [codes_nil]; simpa using h9
    rintro xAe dAe tAe cAe uAe rawAe stAe ae1 ae2 ae3 ae4 ae5 ae6 ae7 ae8 ae9 hAe tkAe FAe NAe WAe SAe OAe
    clear F1 N1
    (try k_fold)
    k_steps
    rename Fr _ _ _ _ => F1
    rename News _ _ _ _ => N1
    unfold Stop
    refine Con0.use (lead_con w _ mg mb _ [q0, q1, q2, q3, q4 + 1] (Str.ofString "") _) K0 F1 kXO N1 T rfl ⟨_, _, List.Mem.head _, IntsAre.cons q0 _ (.cons _ _ (.cons _ _ (.cons _ _ (.cons (q4 + 1) _ .nil)))), (fun x hx => by have := hB8 x hx; omega), Nat.le_of_ble_eq_true rfl, by rw [len_nil]; omega⟩ (by ktr_room) (by ktr_units) ?_
    intro tE hE tkE FE NE
    have NE2 := news_sub (nx := (xAe, instObj 125 dAe) :: (dAe, wsDict w rawAe stAe tAe ae1 ae2 ae3 ae4 ae5 ae6 ae7 ae8) :: (tAe, tupOf [.ref cAe, .int stAe.b ae9]) :: (cAe, tupOf uAe) :: (Dq, listOf stk.reverse.toArray np) :: (Dd, listOf us.toArray nd) :: (Dr, listOf [Value.int q0 v0, .int q1 v1, .int q2 v2, .int q3 v3, .int q4 v4].toArray 5) :: (Dp, listOf [Value.int p0 t0, .int p1 t1, .int p2 t2, .int p3 t3, .int p4 t4, .int p5 t5].toArray 0) :: (Do, listOf (strValues lO).toArray 0) :: (s1.heap.objs.size + 1, oO) :: fz) NE (by k_extra "mine sub")
    clear F1 N1 NE
    (try k_fold)
    k_steps
    rename Fr _ _ _ _ => F1
    rename News _ _ _ _ => N1
    unfold Stop
    refine ws_make3 (RS := [q0, q1, q2, q3, q4 + 1]) (TL := 0) ?lAf ?hAf ⟨Nat.le_of_ble_eq_true rfl, hB8⟩ (by decide) (by decide) K0 F1 kXO N1 T rfl (by ktr_room) (by ktr_units) ?_
    case lAf => rw [List.length_append]; simp only [codes_nil, List.length_cons, List.length_nil] at *; omega
    case hAf =>
      have h9 := scan_all (rs := [q0, q1, q2, q3, q4 + 1]) (fun x hx => (hB8 x hx).1) 0 stops_nil
      rw [codes_nil]; simpa using h9
    rintro xAf dAf tAf cAf uAf rawAf stAf af1 af2 af3 af4 af5 af6 af7 af8 af9 hAf tkAf FAf NAf WAf SAf OAf
    have hEE := equal_ends b0.1 b4.1 SAe SAf
    clear F1 N1
    (repeat (revert ‹_›))
    exact fun h => h.out
end
/-! V14 -/
section
theorem lines38 : True := by
  k_with_none
  k_with "mine enter" => (
    refine' code_def (by k_asm) (by k_asm) (by k_asm) (by k_asm) (by k_asm) (by exact rfl) (by exact rfl) (by first | exact rfl | assumption) (by k_is) (by k_is) (by ktr_room) (by exact BindsTo.of_eq rfl) (by exact locs rfl) ?_ (by exact rfl) (by exact rfl) (by exact rfl) (by decide)
    k_whole
    intro _ _ _ _ _ _ _ _ _
    (try dsimp only)
    (try k_fold))
  k_with "mine ret0" => (refine' ret0 (by assumption) ?_ (by k_asm) (by first | k_asm | (refine cb_drop (by assumption) ?_; intro _ _; k_extra "mine sub1")))
  k_with "QEnd" => (dsimp only [QEnd])
  k_with "mine hasattr" => (
    refine' ha_line (by k_asm) (by k_asm) ?_
    intro _ _ _
    (try k_sweep))
  k_with "call builtin:hasattr" => (k_here; k_extra "mine hasattr")
  k_with "mine make" => (
    refine' call_cls (by k_asm) (by k_asm) (by k_asm) (by k_is) (by k_is) (by k_is) ?_
    k_whole
    intro _ _ _ _ _ kql kqm
    (try k_lt kql)
    (try k_lt2 kqm)
    (revert kql kqm; intro _ _)
    (try k_sweep)
    k_extra "mine enter")
  k_with "mine sub1" => (
    first
    | assumption
    | exact List.mem_append_left _ (by assumption)
    | exact List.mem_append_right _ (by assumption)
    | (refine List.Mem.tail _ ?_; k_extra "mine sub1")
    | (refine List.mem_append_left _ ?_; k_extra "mine sub1")
    | (refine List.mem_append_right _ ?_; k_extra "mine sub1"))
  k_with "mine sub" => (
    first
    | (refine sub_cons ?_ ?_; (focus (first | exact List.mem_cons.mpr (Or.inl (by rfl)) | k_memK | k_mem)); k_extra "mine sub")
    | exact List.forall_mem_nil _
    | (intro _ _; k_extra "mine sub1"))
  k_with "mine own" => (intro _ _; k_extra "mine sub1")
  k_with "mine ps" => (
    first
    | exact PsAre.nil
    | (refine PsAre.any (by with_unfolding_all rfl) ?_; k_extra "mine ps"))
  k_with "call type:tuple" => (
    k_here
    (with_reducible show wpAny _ _ (call (Value.type _) [Value.ref _]) _ _ _)
    k_dflt (refine' kde_tupleOf (by k_asm) (by k_asm) (by exact News.isList (by k_asm) (by k_mem)) (by (rw [List.size_toArray]; have hL9 := IntsAre.length (by assumption); omega)) (by exact rfl) ?_)
    intro _ _ _ _ kql
    (try k_lt kql)
    (revert kql; intro _)
    (try k_sweep))
  k_with "call ref" => (
    k_here
    (with_reducible show wpAny _ _ (call (Value.ref 42) [Value.int _ _, Value.int _ _]) _ _ _)
    k_dflt (refine' Con0.use (add_con _ _ _ _ _ _ _ _) (by k_asm) (by k_asm) (by k_asm) (by k_asm) (by k_asm) (by first | exact rfl | assumption) (by trivial) (by ktr_room) (by ktr_units) ?_)
    intro _ _ _ _ _
    (try k_sweep)
    (try dsimp only)
    (try k_fold))
  k_with "call ref" => (
    k_here
    (with_reducible show wpAny _ _ (call (Value.ref 56) [Value.int _ _, Value.int _ _]) _ _ _)
    k_dflt (refine' Con0.use (sub_con _ _ _ _ _ _ _ _) (by k_asm) (by k_asm) (by k_asm) (by k_asm) (by k_asm) (by first | exact rfl | assumption) (by trivial) (by ktr_room) (by ktr_units) ?_)
    intro _ _ _ _ _
    (try k_sweep)
    (try dsimp only)
    (try k_fold))
  k_with "call ref" => (
    k_here
    (with_reducible show wpAny _ _ (call (Value.ref 28) [Value.int _ _, Value.int _ _]) _ _ _)
    k_dflt (refine' Con0.use (lt_con _ _ _ _ _ _ _ _) (by k_asm) (by k_asm) (by k_asm) (by k_asm) (by k_asm) (by first | exact rfl | assumption) (by trivial) (by ktr_room) (by ktr_units) ?_)
    intro _ _ _ _ _
    (try k_sweep)
    (try dsimp only)
    (try k_fold))
  k_with "call ref" => (
    k_here
    (with_reducible show wpAny _ _ (call (Value.ref 35) [Value.int _ _, Value.int _ _]) _ _ _)
    k_dflt (refine' Con0.use (le_con _ _ _ _ _ _ _ _) (by k_asm) (by k_asm) (by k_asm) (by k_asm) (by k_asm) (by first | exact rfl | assumption) (by trivial) (by ktr_room) (by ktr_units) ?_)
    intro _ _ _ _ _
    (try k_sweep)
    (try dsimp only)
    (try k_fold))
  k_with "call ref" => (
    k_here
    (with_reducible show wpAny _ _ (call (Value.ref 49) [Value.str _ _, Value.int _ _]) _ _ _)
    k_dflt (refine' Con0.use (mul_con _ _ _ _ _ _ _ _) (by k_asm) (by k_asm) (by k_asm) (by k_asm) (by k_asm) (by first | exact rfl | assumption) (by k_extra "mine mulPre") (by ktr_room) (by ktr_units) ?_)
    intro _ _ _ _ _
    (try k_sweep)
    (try dsimp only)
    (try k_fold))
  k_with "call ref" => (
    k_here
    (with_reducible show wpAny _ _ (call (Value.ref 63) [Value.str _ _, Value.str _ _]) _ _ _)
    k_dflt (refine' Con0.use (concat_con _ _ _ _ _ _ _ _) (by k_asm) (by k_asm) (by k_asm) (by k_asm) (by k_asm) (by first | exact rfl | assumption) (by k_extra "mine catPre") (by ktr_room) (by ktr_units) ?_)
    intro _ _ _ _ _
    (try k_sweep)
    (try dsimp only)
    (try k_fold))
  k_with "mine mulPre" => (exact ⟨rfl, by omega, by omega⟩)
  k_with "mine catPre" => ((try simp only [codes_S, len_S, codes_tab, codes_nil, len_tab, len_nil, List.length_append, List.length_replicate, List.length_cons, List.length_nil]); omega)
  k_with "pyIter ref" => (k_here; refine stop ?_)
  k_with "exec While" => (k_here; refine stop ?_)
  k_with "mine enterC" => (
    refine' code_defC (by k_asm) (by k_asm) (by k_asm) (by k_asm) (by k_asm) (by exact rfl) (by exact rfl) (by first | exact rfl | assumption) (by k_is) (by k_is) (by ktr_room) (by exact BindsTo.of_eq rfl) (by exact rfl) (by decide +kernel) ?_ (by exact rfl) (by exact rfl) (by exact rfl)
    k_whole
    intro _ _ _ _ _ _ _ _ kqY _ _ _ kql
    (try k_lt kql)
    (revert kql; intro _)
    k_cells kqY
    (try (rename News _ _ _ _ => kqN; simp only [List.cons_append, List.nil_append] at kqN; revert kqN; intro _))
    (try dsimp only)
    (try k_fold))
  k_with "eval Name" => (k_here; (with_reducible show wpAny _ _ (eval (Expr.Name _ _) (envOfC _ _ _ _ _)) _ _ _); k_dflt (refine' bootName (by k_asm) (by k_asm) (by k_asm) (by rfl) (by rfl) (by k_is) (by first | boot_by_name | boot_fast | decide +kernel) (by decide) ?_; k_whole))
  k_with "mine mem" => (first | assumption | (refine List.Mem.tail _ ?_; k_extra "mine mem"))
  k_with "eval Name" => (k_here; (with_reducible show wpAny _ _ (eval (Expr.Name _ _) (compEnvC _ _ _ _)) _ _ _); k_dflt (refine' kcf_cell (by k_asm) (by rfl) (by k_extra "mine mem") (by assumption) ?_; k_whole))
  k_with "eval Name" => (k_here; (with_reducible show wpAny _ _ (eval (Expr.Name _ _) (envOfC _ _ _ _ _)) _ _ _); k_dflt (refine' cellName (by rfl) (by rfl) (by k_asm) (by rfl) (by k_extra "mine mem") (by assumption) ?_; k_whole))
  k_with "mine short" => ((try simp only [List.length_append, List.length_take, List.length_drop, List.length_cons, List.length_nil]); omega)
  k_with "mine mem0" => (first | exact List.mem_cons.mpr (Or.inl (by rfl)) | assumption | (refine List.Mem.tail _ ?_; k_extra "mine mem0"))
  k_with "exec For" => (k_here; k_dflt ((rename Fr _ _ _ _ => kqF); (with_unfolding_all refine' For_invVF kqF (by exact rfl) (by exact rfl) ?_; k_whole)))
  k_with "mine memL" => (first | exact List.mem_cons.mpr (Or.inl (by rfl)) | (refine List.Mem.tail _ ?_; k_extra "mine memL"))
  k_with "WPost" => (dsimp only [WPost])
  k_with "mine comp" => (
    k_here
    k_dflt (refine LCg.Assign_ListComp_U (F₀ := by k_asm) (by rfl) (by with_unfolding_all rfl) (by with_unfolding_all rfl) (by decide) (by rfl) (by decide) (by rfl) (by rfl) (by rfl) ?_))
  k_with "exec Assign cons ListComp" => (k_extra "mine comp")
  k_with "CompSrc" => (k_here; refine stop ?_)
  k_with "subscriptTail" => (
    k_here
    (with_reducible show wpAny _ _ (subscriptTail _ _ (Value.ref _) (Value.int _ _)) _ _ _)
    k_dflt (refine' ops_item (by k_asm) (by k_extra "mine memL") (by with_reducible assumption) (by assumption) (by assumption) ?_ (by with_unfolding_all rfl))
    intro _)
  k_with "subscriptTail" => (
    k_here
    (with_reducible show wpAny _ _ (subscriptTail _ _ (Value.ref 130) (Value.str _ _)) _ _ _)
    k_dflt (refine' tab_item (by k_asm) (by k_asm) (by assumption) (by assumption) (by rfl) ?_ (by with_unfolding_all rfl))
    intro _)
  k_with "call ref" => (k_here; (with_reducible show wpAny _ _ (call (Value.ref 144) _) _ _ _); refine stop ?_)
  k_with "call ref" => (
    k_here
    (try dsimp only [List.cons_append, List.nil_append])
    (with_reducible show wpAny _ _ (call (Value.ref 94) [Value.ref _, Value.int _ _]) _ _ _)
    k_dflt (refine' Con0.use (indent_con _ _ _ _ _ _ _ _ _) (by k_asm) (by k_asm) (by k_asm) (by k_asm) (by k_asm) (by first | exact rfl | assumption) (by exact ⟨WsIn.mono (by with_reducible assumption) (by k_extra "mine sub"), by with_reducible assumption, by omega, by omega⟩) (by ktr_room) (by ktr_units) ?_)
    intro _ _ _ _ _
    (try k_sweep)
    (try dsimp only)
    (try k_fold))
  k_with "call builtin:len" => (
    k_here
    (with_reducible show wpAny _ _ (call (Value.builtin "len") [Value.ref _]) _ _ _)
    k_dflt (refine' pile_len (by k_asm) (by k_extra "mine memL") (by with_reducible assumption) (by omega) ?_; k_whole))
  k_with "subscriptTail Name UnaryOp ref int" => (
    k_here
    (with_reducible show wpAny _ _ (subscriptTail _ _ (Value.ref _) (Value.int (-1) _)) _ _ _)
    k_dflt (refine' pile_top (by k_asm) (by k_extra "mine memL") (by (simp only [List.length_reverse]; omega)) ?_ (by with_unfolding_all rfl) (by kmk_pure); k_whole))
  k_with "call builtin:list.pop" => (
    k_here
    (with_reducible show wpAny _ _ (call (Value.builtin _) [Value.ref _]) _ _ _)
    k_dflt (refine' pile_pop (by k_asm) (by k_asm) (by with_reducible assumption) (by (simp only [List.length_reverse]; omega)) ?_)
    intro _ _ _
    (try k_sweep))
  k_with "call ref" => (
    k_here
    (try dsimp only [List.cons_append, List.nil_append])
    (with_reducible show wpAny _ _ (call (Value.ref 115) [Value.ref _, Value.ref _]) _ _ _)
    k_dflt (refine' Con0.use (less_con _ _ _ _ _ _ _ _ _ _) (by k_asm) (by k_asm) (by k_asm) (by k_asm) (by k_asm) (by first | exact rfl | assumption) (by exact ⟨WsIn.mono (by with_reducible assumption) (by k_extra "mine sub"), WsIn.mono (by with_reducible assumption) (by k_extra "mine sub"), by with_reducible assumption, by with_reducible assumption⟩) (by ktr_room) (by ktr_units) ?_)
    intro _ _ _ _ _
    (try k_sweep)
    (try dsimp only)
    (try (rename lessF _ _ = _ => hL'; rw [hL']))
    (try k_fold))
  k_with "call ref" => (
    k_here
    (try dsimp only [List.cons_append, List.nil_append])
    (with_reducible show wpAny _ _ (call (Value.ref 101) [Value.ref _, Value.ref _]) _ _ _)
    k_dflt (refine' Con0.use (equal_con _ _ _ _ _ _ _ _ _ _) (by k_asm) (by k_asm) (by k_asm) (by k_asm) (by k_asm) (by first | exact rfl | assumption) (by exact ⟨WsIn.mono (by with_reducible assumption) (by k_extra "mine sub"), WsIn.mono (by with_reducible assumption) (by k_extra "mine sub"), by with_reducible assumption, by with_reducible assumption⟩) (by ktr_room) (by ktr_units) ?_)
    intro _ _ _ _ _
    (try k_sweep)
    (try dsimp only)
    (try (rename decide _ = _ => hE'; rw [hE']))
    (try k_fold))
  k_with "subscriptTail Name Slice ref ref" => (
    k_here
    (with_reducible show wpAny _ _ (subscriptTail _ (PySem.Expr.Slice _ _ none _) (Value.ref _) (Value.ref _)) _ _ _)
    k_dflt (refine' val_take9 (by k_asm) (by k_asm) (by k_extra "mine memL") (by omega) (by (simp only [List.length_cons, List.length_nil]; omega)) ?_ (by with_unfolding_all rfl) (by kmk_pure))
    intro _ _ _ _ kql
    (try k_lt kql)
    (revert kql; intro _)
    (try k_sweep))
  k_with "call ref" => (
    k_here
    (try dsimp only [List.cons_append, List.nil_append])
    (with_reducible show wpAny _ _ (call (Value.ref 151) [Value.ref _, Value.str _ _]) _ _ _)
    k_dflt (refine' Con0.use (lead_con _ _ _ _ _ _ _ _) (by k_asm) (by k_asm) (by k_asm) (by k_asm) (by k_asm) (by first | exact rfl | assumption) (by exact ⟨_, _, by k_extra "mine memL", by assumption, by assumption, by assumption, by k_extra "mine catPre"⟩) (by ktr_room) (by ktr_units) ?_)
    intro _ _ _ _ _
    (try k_sweep)
    (try dsimp only)
    (try k_fold))
  k_with "call ref" => (k_here; (with_reducible show wpAny _ _ (call (Value.ref 125) _) _ _ _); refine stop ?_)
  k_with "call ref" => (k_here; (try dsimp only [List.cons_append, List.nil_append]); (with_reducible show wpAny _ _ (call (Value.ref 151) _) _ _ _); refine stop ?_)
  k_with "mine comp" => (
    k_here
    k_dflt (refine LCg.Assign_ListComp_U (F₀ := by k_asm) (by rfl) (by with_unfolding_all rfl) (by with_unfolding_all rfl) (by decide) (by rfl) (by decide) (by rfl) (by rfl) (by rfl) ?_))
  k_with "exec Assign cons ListComp" => (k_extra "mine comp")
  k_with "CompSrc" => (k_here; refine stop ?_)
  k_with "call ref" => (k_here; (try dsimp only [List.cons_append, List.nil_append]); (with_reducible show wpAny _ _ (call (Value.ref 156) _) _ _ _); refine stop ?_)
  trivial
section lines
variable {prog : Program} {w : World} {A : Around} {E : Value → Shared → Prop} {s : Shared} {h₀ : Heap} {L : Addr} {news : List (Addr × Obj)} {value slice : PySem.Expr}
theorem lit_item {a : Addr} {vs : List Value} {n : Nat} {k : Int} {u : Tok} {v : Value} {Q : Value → Shared → Prop} (N : News h₀ L s.heap news) (hm : (a, listOf vs.toArray n) ∈ news) (h0 : 0 ≤ k) (h1 : k < 1000) (hx : vs[k.toNat]? = some v) (h : Q v s)
    (hs : subscripted slice false (.ref a) (.int k u) = operate [.ref a, .int k u] (getItem (.ref a) (.int k u))) (hg : ∀ r, letTemporaryGo value (.ref a) r = pure ()) :
    wpAny (model prog w) A (subscriptTail value slice (.ref a) (.int k u)) Q E s := kim_list N hm rfl rfl h0 (by omega) hx h hs hg
end lines
theorem lines39 : True := by
  k_with "subscriptTail Name Constant ref int" => (
    k_here
    (with_reducible show wpAny _ _ (subscriptTail (PySem.Expr.Name _ _) _ (Value.ref _) (Value.int _ _)) _ _ _)
    k_dflt (refine' lit_item (by k_asm) (by k_extra "mine memL") (by decide) (by decide) (by rfl) ?_ (by with_unfolding_all rfl) (by kmk_pure); k_whole))
  trivial
noncomputable def ck15 : Cut ck14.P := by
  apply Cut.mk
  intro hck
  conv => whnf
  focus
    k_fill
    set_option tactic.hygienic false in intros
    w_on
    have hMk := kstMark
    have hEF : decide (stAe.count = stAf.count ∧ stAe.b = stAf.b) = (q0 == q4) := by
      rw [Bool.eq_iff_iff, decide_eq_true_eq, beq_iff_eq]; exact hEE
    (try k_fold)
    k_steps
    rename Fr _ _ _ _ => F3
    rename News _ _ _ _ => N3
    have N4 := news_sub (nx := (Dq, listOf stk.reverse.toArray np) :: (Dd, listOf us.toArray nd) :: (Dr, listOf [Value.int q0 v0, .int q1 v1, .int q2 v2, .int q3 v3, .int q4 v4].toArray 5) :: (Dp, listOf [Value.int p0 t0, .int p1 t1, .int p2 t2, .int p3 t3, .int p4 t4, .int p5 t5].toArray 0) :: (Do, listOf (strValues lO).toArray 0) :: (s1.heap.objs.size + 1, oO) :: fz) N3 (by k_extra "mine sub")
    unfold Stop
    refine LCg.CompSrc.ledger (by rfl) F3 N4 (.tail _ (.tail _ (.tail _ (.head _)))) (Nat.le_of_ble_eq_true rfl) ?_
    clear F3 N3 N4
    intro g8
    refine' rest_ind (n := 6) (fun i zs fz => fz = _ ∧ IntsAre zs ([7 + p0, 7 + p1, 7 + p2, 7 + p3, 7 + p4, 7 + p5].take i)) ⟨rfl, .nil⟩ ?wt ?wf
    case wt =>
      rintro i zs fz v I oI C oC Dd m₂ h tk E' hi ⟨rfl, hz⟩ hv hC hx F N off ne
      obtain ⟨p, t, e1, e2⟩ : ∃ p t, v = .int p t ∧ ([7 + p0, 7 + p1, 7 + p2, 7 + p3, 7 + p4, 7 + p5].take (i + 1) = [7 + p0, 7 + p1, 7 + p2, 7 + p3, 7 + p4, 7 + p5].take i ++ [7 + p]) := by
        obtain rfl | rfl | rfl | rfl | rfl | rfl : i = 0 ∨ i = 1 ∨ i = 2 ∨ i = 3 ∨ i = 4 ∨ i = 5 := by omega
        · exact ⟨p0, _, (Option.some.inj hv).symm, rfl⟩
        · exact ⟨p1, _, (Option.some.inj hv).symm, rfl⟩
        · exact ⟨p2, _, (Option.some.inj hv).symm, rfl⟩
        · exact ⟨p3, _, (Option.some.inj hv).symm, rfl⟩
        · exact ⟨p4, _, (Option.some.inj hv).symm, rfl⟩
        · exact ⟨p5, _, (Option.some.inj hv).symm, rfl⟩
      subst e1
      (try k_fold)
      k_steps
      rename Fr _ _ _ _ => F4
      rename News _ _ _ _ => N4
      (try k_unfold)
      refine LCg.CompEnd.intro F4 N4 _ (fun q hq => by simpa using hq) off ?_ ⟨rfl, ?_⟩
      · exact Or.inr ⟨_, .tail _ (.tail _ (.tail _ (.head _))), rfl, _, rfl⟩
      · rw [e2]
        exact hz.append (.cons _ _ .nil)
    case wf =>
      rintro zs fz9 ⟨rfl, hz⟩
      obtain ⟨a0, a1, a2, a3, a4, a5, u0, u1, u2, u3, u4, u5, rfl, he⟩ := six_of hz rfl
      simp only [List.cons.injEq, and_true, List.take] at he
      obtain ⟨rfl, rfl, rfl, rfl, rfl, rfl⟩ := he
      (try k_fold)
      k_steps
      rename Fr _ _ _ _ => F3
      rename News _ _ _ _ => N3
      unfold Stop
      refine Con.use (least_con w _ mg mb _ _ (7 + p0) (7 + p1) (7 + p2) (7 + p3) (7 + p4) (7 + p5) u0 u1 u2 u3 u4 u5) K0 F3 kXO N3 T rfl (.head _) (by ktr_room) (by ktr_units) ?_
      rintro r tlg h4 tk4 F N hne ⟨tL, rfl⟩
      have N5 := news_sub (nx := (Dq, listOf stk.reverse.toArray np) :: (Dd, listOf us.toArray nd) :: (Dr, listOf [Value.int q0 v0, .int q1 v1, .int q2 v2, .int q3 v3, .int q4 v4].toArray 5) :: (Dp, listOf [Value.int p0 t0, .int p1 t1, .int p2 t2, .int p3 t3, .int p4 t4, .int p5 t5].toArray 0) :: (Do, listOf (strValues lO).toArray 0) :: (s1.heap.objs.size + 1, oO) :: fz) N (by
        intro p hp
        refine List.mem_append_right _ ?_
        exact (show ∀ p ∈ (Dq, listOf stk.reverse.toArray np) :: (Dd, listOf us.toArray nd) :: (Dr, listOf [Value.int q0 v0, .int q1 v1, .int q2 v2, .int q3 v3, .int q4 v4].toArray 5) :: (Dp, listOf [Value.int p0 t0, .int p1 t1, .int p2 t2, .int p3 t3, .int p4 t4, .int p5 t5].toArray 0) :: (Do, listOf (strValues lO).toArray 0) :: (s1.heap.objs.size + 1, oO) :: fz, p ∈ _ from by k_extra "mine sub") p hp)
      obtain ⟨u9, F5⟩ := fr_ps (ps := [(Str.ofString "pile", .ref Dq), (Str.ofString "price", .int price tp), (Str.ofString "depths", .ref Dd), (Str.ofString "tail", .str (S (List.replicate tl.toNat 32)) tkM), (Str.ofString "runs", .ref Dr), (Str.ofString "places", .ref Dp)]) F (by k_extra "mine ps")
      clear F3 N3 F N hne hz
      (repeat (revert ‹_›))
      exact fun h => h.out
end
/-! V15 -/
section
theorem lines40 : True := by
  k_with_none
  k_with "mine enter" => (
    refine' code_def (by k_asm) (by k_asm) (by k_asm) (by k_asm) (by k_asm) (by exact rfl) (by exact rfl) (by first | exact rfl | assumption) (by k_is) (by k_is) (by ktr_room) (by exact BindsTo.of_eq rfl) (by exact locs rfl) ?_ (by exact rfl) (by exact rfl) (by exact rfl) (by decide)
    k_whole
    intro _ _ _ _ _ _ _ _ _
    (try dsimp only)
    (try k_fold))
  k_with "mine ret0" => (refine' ret0 (by assumption) ?_ (by k_asm) (by first | k_asm | (refine cb_drop (by assumption) ?_; intro _ _; k_extra "mine sub1")))
  k_with "QEnd" => (dsimp only [QEnd])
  k_with "mine hasattr" => (
    refine' ha_line (by k_asm) (by k_asm) ?_
    intro _ _ _
    (try k_sweep))
  k_with "call builtin:hasattr" => (k_here; k_extra "mine hasattr")
  k_with "mine make" => (
    refine' call_cls (by k_asm) (by k_asm) (by k_asm) (by k_is) (by k_is) (by k_is) ?_
    k_whole
    intro _ _ _ _ _ kql kqm
    (try k_lt kql)
    (try k_lt2 kqm)
    (revert kql kqm; intro _ _)
    (try k_sweep)
    k_extra "mine enter")
  k_with "mine sub1" => (
    first
    | assumption
    | exact List.mem_append_left _ (by assumption)
    | exact List.mem_append_right _ (by assumption)
    | (refine List.Mem.tail _ ?_; k_extra "mine sub1")
    | (refine List.mem_append_left _ ?_; k_extra "mine sub1")
    | (refine List.mem_append_right _ ?_; k_extra "mine sub1"))
  k_with "mine sub" => (
    first
    | (refine sub_cons ?_ ?_; (focus (first | exact List.mem_cons.mpr (Or.inl (by rfl)) | k_memK | k_mem)); k_extra "mine sub")
    | exact List.forall_mem_nil _
    | (intro _ _; k_extra "mine sub1"))
  k_with "mine own" => (intro _ _; k_extra "mine sub1")
  k_with "mine ps" => (
    first
    | exact PsAre.nil
    | (refine PsAre.any (by with_unfolding_all rfl) ?_; k_extra "mine ps"))
  k_with "call type:tuple" => (
    k_here
    (with_reducible show wpAny _ _ (call (Value.type _) [Value.ref _]) _ _ _)
    k_dflt (refine' kde_tupleOf (by k_asm) (by k_asm) (by exact News.isList (by k_asm) (by k_mem)) (by (rw [List.size_toArray]; have hL9 := IntsAre.length (by assumption); omega)) (by exact rfl) ?_)
    intro _ _ _ _ kql
    (try k_lt kql)
    (revert kql; intro _)
    (try k_sweep))
  k_with "call ref" => (
    k_here
    (with_reducible show wpAny _ _ (call (Value.ref 42) [Value.int _ _, Value.int _ _]) _ _ _)
    k_dflt (refine' Con0.use (add_con _ _ _ _ _ _ _ _) (by k_asm) (by k_asm) (by k_asm) (by k_asm) (by k_asm) (by first | exact rfl | assumption) (by trivial) (by ktr_room) (by ktr_units) ?_)
    intro _ _ _ _ _
    (try k_sweep)
    (try dsimp only)
    (try k_fold))
  k_with "call ref" => (
    k_here
    (with_reducible show wpAny _ _ (call (Value.ref 56) [Value.int _ _, Value.int _ _]) _ _ _)
    k_dflt (refine' Con0.use (sub_con _ _ _ _ _ _ _ _) (by k_asm) (by k_asm) (by k_asm) (by k_asm) (by k_asm) (by first | exact rfl | assumption) (by trivial) (by ktr_room) (by ktr_units) ?_)
    intro _ _ _ _ _
    (try k_sweep)
    (try dsimp only)
    (try k_fold))
  k_with "call ref" => (
    k_here
    (with_reducible show wpAny _ _ (call (Value.ref 28) [Value.int _ _, Value.int _ _]) _ _ _)
    k_dflt (refine' Con0.use (lt_con _ _ _ _ _ _ _ _) (by k_asm) (by k_asm) (by k_asm) (by k_asm) (by k_asm) (by first | exact rfl | assumption) (by trivial) (by ktr_room) (by ktr_units) ?_)
    intro _ _ _ _ _
    (try k_sweep)
    (try dsimp only)
    (try k_fold))
  k_with "call ref" => (
    k_here
    (with_reducible show wpAny _ _ (call (Value.ref 35) [Value.int _ _, Value.int _ _]) _ _ _)
    k_dflt (refine' Con0.use (le_con _ _ _ _ _ _ _ _) (by k_asm) (by k_asm) (by k_asm) (by k_asm) (by k_asm) (by first | exact rfl | assumption) (by trivial) (by ktr_room) (by ktr_units) ?_)
    intro _ _ _ _ _
    (try k_sweep)
    (try dsimp only)
    (try k_fold))
  k_with "call ref" => (
    k_here
    (with_reducible show wpAny _ _ (call (Value.ref 49) [Value.str _ _, Value.int _ _]) _ _ _)
    k_dflt (refine' Con0.use (mul_con _ _ _ _ _ _ _ _) (by k_asm) (by k_asm) (by k_asm) (by k_asm) (by k_asm) (by first | exact rfl | assumption) (by k_extra "mine mulPre") (by ktr_room) (by ktr_units) ?_)
    intro _ _ _ _ _
    (try k_sweep)
    (try dsimp only)
    (try k_fold))
  k_with "call ref" => (
    k_here
    (with_reducible show wpAny _ _ (call (Value.ref 63) [Value.str _ _, Value.str _ _]) _ _ _)
    k_dflt (refine' Con0.use (concat_con _ _ _ _ _ _ _ _) (by k_asm) (by k_asm) (by k_asm) (by k_asm) (by k_asm) (by first | exact rfl | assumption) (by k_extra "mine catPre") (by ktr_room) (by ktr_units) ?_)
    intro _ _ _ _ _
    (try k_sweep)
    (try dsimp only)
    (try k_fold))
  k_with "mine mulPre" => (exact ⟨rfl, by omega, by omega⟩)
  k_with "mine catPre" => ((try simp only [codes_S, len_S, codes_tab, codes_nil, len_tab, len_nil, List.length_append, List.length_replicate, List.length_cons, List.length_nil]); omega)
  k_with "pyIter ref" => (k_here; refine stop ?_)
  k_with "exec While" => (k_here; refine stop ?_)
  k_with "mine enterC" => (
    refine' code_defC (by k_asm) (by k_asm) (by k_asm) (by k_asm) (by k_asm) (by exact rfl) (by exact rfl) (by first | exact rfl | assumption) (by k_is) (by k_is) (by ktr_room) (by exact BindsTo.of_eq rfl) (by exact rfl) (by decide +kernel) ?_ (by exact rfl) (by exact rfl) (by exact rfl)
    k_whole
    intro _ _ _ _ _ _ _ _ kqY _ _ _ kql
    (try k_lt kql)
    (revert kql; intro _)
    k_cells kqY
    (try (rename News _ _ _ _ => kqN; simp only [List.cons_append, List.nil_append] at kqN; revert kqN; intro _))
    (try dsimp only)
    (try k_fold))
  k_with "eval Name" => (k_here; (with_reducible show wpAny _ _ (eval (Expr.Name _ _) (envOfC _ _ _ _ _)) _ _ _); k_dflt (refine' bootName (by k_asm) (by k_asm) (by k_asm) (by rfl) (by rfl) (by k_is) (by first | boot_by_name | boot_fast | decide +kernel) (by decide) ?_; k_whole))
  k_with "mine mem" => (first | assumption | (refine List.Mem.tail _ ?_; k_extra "mine mem"))
  k_with "eval Name" => (k_here; (with_reducible show wpAny _ _ (eval (Expr.Name _ _) (compEnvC _ _ _ _)) _ _ _); k_dflt (refine' kcf_cell (by k_asm) (by rfl) (by k_extra "mine mem") (by assumption) ?_; k_whole))
  k_with "eval Name" => (k_here; (with_reducible show wpAny _ _ (eval (Expr.Name _ _) (envOfC _ _ _ _ _)) _ _ _); k_dflt (refine' cellName (by rfl) (by rfl) (by k_asm) (by rfl) (by k_extra "mine mem") (by assumption) ?_; k_whole))
  k_with "mine short" => ((try simp only [List.length_append, List.length_take, List.length_drop, List.length_cons, List.length_nil]); omega)
  k_with "mine mem0" => (first | exact List.mem_cons.mpr (Or.inl (by rfl)) | assumption | (refine List.Mem.tail _ ?_; k_extra "mine mem0"))
  k_with "exec For" => (k_here; k_dflt ((rename Fr _ _ _ _ => kqF); (with_unfolding_all refine' For_invVF kqF (by exact rfl) (by exact rfl) ?_; k_whole)))
  k_with "mine memL" => (first | exact List.mem_cons.mpr (Or.inl (by rfl)) | (refine List.Mem.tail _ ?_; k_extra "mine memL"))
  k_with "WPost" => (dsimp only [WPost])
  k_with "mine comp" => (
    k_here
    k_dflt (refine LCg.Assign_ListComp_U (F₀ := by k_asm) (by rfl) (by with_unfolding_all rfl) (by with_unfolding_all rfl) (by decide) (by rfl) (by decide) (by rfl) (by rfl) (by rfl) ?_))
  k_with "exec Assign cons ListComp" => (k_extra "mine comp")
  k_with "CompSrc" => (k_here; refine stop ?_)
  k_with "subscriptTail" => (
    k_here
    (with_reducible show wpAny _ _ (subscriptTail _ _ (Value.ref _) (Value.int _ _)) _ _ _)
    k_dflt (refine' ops_item (by k_asm) (by k_extra "mine memL") (by with_reducible assumption) (by assumption) (by assumption) ?_ (by with_unfolding_all rfl))
    intro _)
  k_with "subscriptTail" => (
    k_here
    (with_reducible show wpAny _ _ (subscriptTail _ _ (Value.ref 130) (Value.str _ _)) _ _ _)
    k_dflt (refine' tab_item (by k_asm) (by k_asm) (by assumption) (by assumption) (by rfl) ?_ (by with_unfolding_all rfl))
    intro _)
  k_with "call ref" => (k_here; (with_reducible show wpAny _ _ (call (Value.ref 144) _) _ _ _); refine stop ?_)
  k_with "call ref" => (
    k_here
    (try dsimp only [List.cons_append, List.nil_append])
    (with_reducible show wpAny _ _ (call (Value.ref 94) [Value.ref _, Value.int _ _]) _ _ _)
    k_dflt (refine' Con0.use (indent_con _ _ _ _ _ _ _ _ _) (by k_asm) (by k_asm) (by k_asm) (by k_asm) (by k_asm) (by first | exact rfl | assumption) (by exact ⟨WsIn.mono (by with_reducible assumption) (by k_extra "mine sub"), by with_reducible assumption, by omega, by omega⟩) (by ktr_room) (by ktr_units) ?_)
    intro _ _ _ _ _
    (try k_sweep)
    (try dsimp only)
    (try k_fold))
  k_with "call builtin:len" => (
    k_here
    (with_reducible show wpAny _ _ (call (Value.builtin "len") [Value.ref _]) _ _ _)
    k_dflt (refine' pile_len (by k_asm) (by k_extra "mine memL") (by with_reducible assumption) (by omega) ?_; k_whole))
  k_with "subscriptTail Name UnaryOp ref int" => (
    k_here
    (with_reducible show wpAny _ _ (subscriptTail _ _ (Value.ref _) (Value.int (-1) _)) _ _ _)
    k_dflt (refine' pile_top (by k_asm) (by k_extra "mine memL") (by (simp only [List.length_reverse]; omega)) ?_ (by with_unfolding_all rfl) (by kmk_pure); k_whole))
  k_with "call builtin:list.pop" => (
    k_here
    (with_reducible show wpAny _ _ (call (Value.builtin _) [Value.ref _]) _ _ _)
    k_dflt (refine' pile_pop (by k_asm) (by k_asm) (by with_reducible assumption) (by (simp only [List.length_reverse]; omega)) ?_)
    intro _ _ _
    (try k_sweep))
  k_with "call ref" => (
    k_here
    (try dsimp only [List.cons_append, List.nil_append])
    (with_reducible show wpAny _ _ (call (Value.ref 115) [Value.ref _, Value.ref _]) _ _ _)
    k_dflt (refine' Con0.use (less_con _ _ _ _ _ _ _ _ _ _) (by k_asm) (by k_asm) (by k_asm) (by k_asm) (by k_asm) (by first | exact rfl | assumption) (by exact ⟨WsIn.mono (by with_reducible assumption) (by k_extra "mine sub"), WsIn.mono (by with_reducible assumption) (by k_extra "mine sub"), by with_reducible assumption, by with_reducible assumption⟩) (by ktr_room) (by ktr_units) ?_)
    intro _ _ _ _ _
    (try k_sweep)
    (try dsimp only)
    (try (rename lessF _ _ = _ => hL'; rw [hL']))
    (try k_fold))
  k_with "call ref" => (
    k_here
    (try dsimp only [List.cons_append, List.nil_append])
    (with_reducible show wpAny _ _ (call (Value.ref 101) [Value.ref _, Value.ref _]) _ _ _)
    k_dflt (refine' Con0.use (equal_con _ _ _ _ _ _ _ _ _ _) (by k_asm) (by k_asm) (by k_asm) (by k_asm) (by k_asm) (by first | exact rfl | assumption) (by exact ⟨WsIn.mono (by with_reducible assumption) (by k_extra "mine sub"), WsIn.mono (by with_reducible assumption) (by k_extra "mine sub"), by with_reducible assumption, by with_reducible assumption⟩) (by ktr_room) (by ktr_units) ?_)
    intro _ _ _ _ _
    (try k_sweep)
    (try dsimp only)
    (try (rename decide _ = _ => hE'; rw [hE']))
    (try k_fold))
  k_with "subscriptTail Name Slice ref ref" => (
    k_here
    (with_reducible show wpAny _ _ (subscriptTail _ (PySem.Expr.Slice _ _ none _) (Value.ref _) (Value.ref _)) _ _ _)
    k_dflt (refine' val_take9 (by k_asm) (by k_asm) (by k_extra "mine memL") (by omega) (by (simp only [List.length_cons, List.length_nil]; omega)) ?_ (by with_unfolding_all rfl) (by kmk_pure))
    intro _ _ _ _ kql
    (try k_lt kql)
    (revert kql; intro _)
    (try k_sweep))
  k_with "call ref" => (
    k_here
    (try dsimp only [List.cons_append, List.nil_append])
    (with_reducible show wpAny _ _ (call (Value.ref 151) [Value.ref _, Value.str _ _]) _ _ _)
    k_dflt (refine' Con0.use (lead_con _ _ _ _ _ _ _ _) (by k_asm) (by k_asm) (by k_asm) (by k_asm) (by k_asm) (by first | exact rfl | assumption) (by exact ⟨_, _, by k_extra "mine memL", by assumption, by assumption, by assumption, by k_extra "mine catPre"⟩) (by ktr_room) (by ktr_units) ?_)
    intro _ _ _ _ _
    (try k_sweep)
    (try dsimp only)
    (try k_fold))
  k_with "call ref" => (k_here; (with_reducible show wpAny _ _ (call (Value.ref 125) _) _ _ _); refine stop ?_)
  k_with "call ref" => (k_here; (try dsimp only [List.cons_append, List.nil_append]); (with_reducible show wpAny _ _ (call (Value.ref 151) _) _ _ _); refine stop ?_)
  k_with "mine comp" => (
    k_here
    k_dflt (refine LCg.Assign_ListComp_U (F₀ := by k_asm) (by rfl) (by with_unfolding_all rfl) (by with_unfolding_all rfl) (by decide) (by rfl) (by decide) (by rfl) (by rfl) (by rfl) ?_))
  k_with "exec Assign cons ListComp" => (k_extra "mine comp")
  k_with "CompSrc" => (k_here; refine stop ?_)
  k_with "call ref" => (k_here; (try dsimp only [List.cons_append, List.nil_append]); (with_reducible show wpAny _ _ (call (Value.ref 156) _) _ _ _); refine stop ?_)
  k_with "subscriptTail Name Constant ref int" => (
    k_here
    (with_reducible show wpAny _ _ (subscriptTail (PySem.Expr.Name _ _) _ (Value.ref _) (Value.int _ _)) _ _ _)
    k_dflt (refine' lit_item (by k_asm) (by k_extra "mine memL") (by decide) (by decide) (by rfl) ?_ (by with_unfolding_all rfl) (by kmk_pure); k_whole))
  k_with "call builtin:len" => (k_here; (with_reducible show wpAny _ _ (call (Value.builtin "len") [Value.str _ _]) _ _ _); k_dflt (refine PySem.len_str (by with_reducible assumption) ?_))
  trivial
theorem law15 : ck15.P := by
  conv => whnf
  k_fill
  set_option tactic.hygienic false in intros
  w_on
  have hMk := kstMark
  have hlt : ¬ ((S (List.replicate tl.toNat 32)).length : Int) ≥ 2 ^ 63 := by rw [len_S, List.length_replicate]; omega
  have hlS : ((S (List.replicate tl.toNat 32)).length : Int) = tl := by rw [len_S, List.length_replicate]; omega
  have hcost := cost_eq (tl := tl) hGw (by
    simp only [List.forall_mem_cons] at hpb ⊢
    obtain ⟨b0, b1, b2, b3, b4, b5, _⟩ := hpb
    refine ⟨by omega, by omega, by omega, by omega, by omega, by omega, fun x hx => by cases hx⟩)
  cases e1 with
  | @cons v dT vs ds raw stT hW hS h5 h0 r =>
    cases r
    have hraw := h0 rfl
    subst hraw
    obtain ⟨xT, dTI, tTI, cTI, uT, y1, y2, y3, y4, y5, y6, y7, y8, y9, rfl, m1, m2, m3, m4, hIT⟩ := id hW
    have hk : ([Value.ref xT] : List Value).length = 1 := rfl
    have N6 := news_sub (nx := (Dq, listOf [Value.ref xT].toArray np) :: (xT, instObj 125 dTI) :: (dTI, wsDict w (S (List.replicate tl.toNat 32)) stT tTI y1 y2 y3 y4 y5 y6 y7 y8) :: (Dd, listOf us.toArray nd) :: fz) N5 (by
      have mf : ∀ x ∈ fz, x ∈ (Dq, listOf [Value.ref xT].reverse.toArray np) :: (Dd, listOf us.toArray nd) :: (Dr, listOf [Value.int q0 v0, .int q1 v1, .int q2 v2, .int q3 v3, .int q4 v4].toArray 5) :: (Dp, listOf [Value.int p0 t0, .int p1 t1, .int p2 t2, .int p3 t3, .int p4 t4, .int p5 t5].toArray 0) :: (Do, listOf (strValues lO).toArray 0) :: (s1.heap.objs.size + 1, oO) :: fz := fun x hx => .tail _ (.tail _ (.tail _ (.tail _ (.tail _ (.tail _ hx)))))
      refine allC (.head _) (allC (mf _ m1) (allC (mf _ m2) (allC (.tail _ (.head _)) (fun _ hq => mf _ hq)))))
    clear N5
    (try k_fold)
    k_steps
end
/-! End -/
section
theorem walkAll : hd.P := ck1.ok ⟨ck2.ok ⟨ck3.ok ⟨ck4.ok ⟨ck5.ok ⟨ck7.ok ⟨ck8.ok ⟨ck9.ok ⟨ck10.ok ⟨ck11.ok ⟨law10⟩ ⟨law11⟩⟩⟩⟩⟩⟩ ⟨ck13.ok ⟨ck14.ok ⟨ck15.ok ⟨law15⟩⟩⟩⟩⟩⟩⟩⟩
-- the head again, whole, by the kit's own tactic (async: so it names its twins under Mine.hdK); these names are taken, for the same reason as above
theorem hdK.tw357486453476387696 : True := trivial
theorem hdK.tw6321774806866503416 : True := trivial
theorem hdK.tw15424276030057056673 : True := trivial
theorem hdK.tw13892797558058333351 : True := trivial
theorem hdK.tw15491940137656574463 : True := trivial
theorem hdK.tw7862364952841519529 : True := trivial
theorem hdK.tw17420970808847192428 : True := trivial
theorem hdK.tw443665268216260027 : True := trivial
theorem hdK.tw17142383557950783954 : True := trivial
theorem hdK.tw13106864375027297515 : True := trivial
theorem hdK.tw11306883004491620081 : True := trivial
theorem hdK.tw13923592978146579483 : True := trivial
theorem hdK.tw7946308002856770818 : True := trivial
theorem hdK.tw1767014914295164029 : True := trivial
theorem hdK.tw18345261221490852101 : True := trivial
theorem hdK.tw8054052948662123511 : True := trivial
theorem hdK.tw2437708586128063521 : True := trivial
theorem hdK.tw9710097335409114114 : True := trivial
theorem hdK.tw36168726520019128 : True := trivial
theorem hdK.tw14658697125273021426 : True := trivial
theorem hdK.tw10977402221529392750 : True := trivial
theorem hdK.tw2023681698179201762 : True := trivial
theorem hdK.tw7132053870302930825 : True := trivial
theorem hdK.tw2988072735732552161 : True := trivial
theorem hdK.tw12326694330270216947 : True := trivial
theorem hdK.tw15077972912876182558 : True := trivial
theorem hdK.tw12976948757404941396 : True := trivial
theorem hdK.tw15852569518162819933 : True := trivial
theorem hdK.tw8522298610552429922 : True := trivial
theorem hdK.tw4387007985625190510 : True := trivial
theorem hdK.tw18376978016414696778 : True := trivial
theorem hdK.tw8828334612144560567 : True := trivial
theorem hdK.tw611759389281215715 : True := trivial
theorem hdK.tw17977497482552902499 : True := trivial
theorem hdK.tw5042031506815109302 : True := trivial
theorem hdK.tw3959364476887986654 : True := trivial
theorem hdK.tw11910459030208904922 : True := trivial
theorem hdK.tw17815003343479920079 : True := trivial
theorem hdK.tw4375665840617160411 : True := trivial
theorem hdK.tw11032641358218116679 : True := trivial
theorem hdK.tw16902300095249057059 : True := trivial
theorem hdK.tw13642063935354647951 : True := trivial
theorem hdK.tw2548330713766614510 : True := trivial
theorem hdK.tw9648352789028778280 : True := trivial
theorem hdK.tw349968142895197441 : True := trivial
theorem hdK.tw2091319182430339597 : True := trivial
theorem hdK.tw7942475252775250441 : True := trivial
theorem hdK.tw17918238166427990784 : True := trivial
theorem hdK.tw13819177429979173277 : True := trivial
theorem hdK.tw7175320411622273502 : True := trivial
theorem hdK.tw7044198243951766057 : True := trivial
theorem hdK.tw4040205647570750693 : True := trivial
theorem hdK.tw1707975249741494264 : True := trivial
theorem hdK.tw11074415965926689270 : True := trivial
theorem hdK.tw14733465761575125364 : True := trivial
theorem hdK.tw1086450940743721279 : True := trivial
theorem hdK.tw18289759016424200258 : True := trivial
theorem hdK.tw3848923527631014043 : True := trivial
theorem hdK.tw15195452671860462553 : True := trivial
theorem hdK.tw7478011248842399527 : True := trivial
theorem hdK.tw13532726531496386115 : True := trivial
theorem hdK.tw11095834240938976013 : True := trivial
theorem hdK.tw8200248994000630167 : True := trivial
theorem hdK.tw15734486370417844484 : True := trivial
theorem hdK.tw17282011688782075247 : True := trivial
theorem hdK.tw3636729609554922006 : True := trivial
theorem hdK.tw18162787335276226118 : True := trivial
theorem hdK.tw3925570126660345660 : True := trivial
theorem hdK.tw4758647341085163013 : True := trivial
theorem hdK.tw14777983421925851293 : True := trivial
theorem hdK.tw6406409161588639082 : True := trivial
theorem hdK.tw16594053436516701648 : True := trivial
theorem hdK.tw15586452759505238934 : True := trivial
theorem hdK.tw6560761174576788172 : True := trivial
theorem hdK.tw6568811318938240428 : True := trivial
theorem hdK.tw3496434910290554793 : True := trivial
theorem hdK.tw12534954624893413158 : True := trivial
theorem hdK.tw9704693500063434400 : True := trivial
theorem hdK.tw10666704788132251687 : True := trivial
theorem hdK.tw9004104415691404940 : True := trivial
theorem hdK.tw11271880518199654591 : True := trivial
theorem hdK.tw4947228221821805720 : True := trivial
theorem hdK.tw4126994840786088081 : True := trivial
theorem hdK.tw6471086968696188305 : True := trivial
theorem hdK.tw11732281909649214127 : True := trivial
theorem hdK.tw2566877210853800124 : True := trivial
theorem hdK.tw17011722873359127308 : True := trivial
theorem hdK.tw1734803766756678686 : True := trivial
theorem hdK.tw17322717903617652109 : True := trivial
theorem hdK.tw4454948379273529522 : True := trivial
theorem hdK.tw4879182053018171276 : True := trivial
theorem hdK.tw13588237970727420474 : True := trivial
theorem hdK.tw5730020975681245761 : True := trivial
theorem hdK.tw5287157484208455440 : True := trivial
theorem hdK.tw3438912183135334804 : True := trivial
theorem hdK.tw17366400961238491397 : True := trivial
theorem hdK.tw11325974476168740560 : True := trivial
theorem hdK.tw819227101549519702 : True := trivial
theorem hdK.tw16541301754489100255 : True := trivial
theorem hdK.tw6903930418667374571 : True := trivial
theorem hdK.tw8574867355409170206 : True := trivial
theorem hdK.tw18412625996764363124 : True := trivial
theorem hdK.tw8485993037849875665 : True := trivial
theorem hdK.tw3246849000784759564 : True := trivial
theorem hdK.tw14060584577699862138 : True := trivial
theorem hdK.tw6888859683217489384 : True := trivial
theorem hdK.tw1966864278468123363 : True := trivial
set_option Elab.async true in
theorem hdK : PySem.Challenge.rw_tl0032_01.Holds := by
  w_on
  o_law
  o_head (kHook hd.heap_1 [2, 3, 15, 17, 18, 20, 21, 22, 24, 25, 27, 28, 29, 31, 32, 34, 35, 36, 38, 39, 41, 42, 43, 45, 46, 48, 49, 50, 52, 53, 55, 56, 57, 59, 60, 62, 63, 74, 76, 77, 79, 80, 81, 83, 84, 86, 87, 88, 90, 91, 93, 94, 95, 97, 98, 100, 101, 102, 104, 105, 107, 108, 109, 111, 112, 114, 115, 116, 118, 119, 121, 122, 123, 124, 125, 126, 127, 130, 133, 135, 136, 138, 139, 140, 143, 144, 145, 147, 148, 150, 151, 152, 155, 156, 157, 160, 161] (fun _ => by kernel_rfl))
  case hw => w_witness2
  case hc =>
    have h := walkAll
    (conv at h => whnf)
    exact h
end
end Mine
theorem PySem.Challenge.cw_tl0032_01_holds : PySem.Challenge.rw_tl0032_01.Holds := by
  exact Mine.hdK
