import PyProof.Rows.All
import Wide.All
import OpenK.AllK
import Wide.FinOn
import PySem.Challenge.RW_ax6033_01
open PySem PySem.W PyProof.Rows
set_option Elab.async false
set_option maxRecDepth 100000
set_option maxHeartbeats 8000000
namespace Mine
open_top hd for PySem.Challenge.rw_ax6033_01
end Mine
/-! W1 -/
namespace Mine
example : True := by
  w_top off
  trivial

noncomputable abbrev PG : PySem.Program := PySem.Challenge.rw_ax6033_01.row.prog
abbrev LO : List Str := [Str.ofString "_tuplegetter", Str.ofString "GCB", Str.ofString "BreakResult", Str.ofString "_should_break", Str.ofString "iter_graphemes_reverse"]
noncomputable abbrev VW : PySem.Program := hd.view_39
noncomputable abbrev LW : List Str := looseW VW LO

/-- what the call f(vs, kw) hands back, from any frame of the text's -/
def Has (w : World) (mean : ExcName → Option Value) (mg mb : Str → Option Value) (d u : Nat) (f : Addr) (vs : List Value) (kw : List (Str × Value)) (news : List (Addr × Obj)) (Out : Value → List (Addr × Obj) → Prop) : Prop :=
  ∀ (dp un : Nat) (gd : Option (List Code)) (cn : Str) (cs : Scope) (a : Addr) (ccd : Value) (cl : List (Str × Addr)) (outer : List Env) (A₀ : Around) (base h₀ : Heap) (L : Addr) (m : Str → Option Value) (s : Shared) (Q E : Value → Shared → Prop),
    Below A₀ base outer h₀ → Fr h₀ L s.heap m → (hd.heap_39 w.params).In h₀ → News h₀ L s.heap news → Top VW LW mean mg mb h₀ → cs.kind = .function → dp + d < recursionLimit → un + u < cLine →
    (∀ r tl h' tk', Fr h₀ L h' m → News h₀ L h' (tl ++ news) → Out r tl → Q r { s with heap := h', toks := tk' }) →
    wpAny (model PG w) (ktrTop dp un gd cn cs L a ccd cl outer) (call (.ref f) vs kw) Q E s

example : PySem.Challenge.rw_ax6033_01 = PySem.Challenge.rw_ax6033_01 → hd.heap_39 = hd.heap_39 → True := by
  k_fill
  intros; trivial

/-! tables -/
noncomputable def tupOf : Option Obj → Option (List Value)
  | some ⟨.type t, _, .seq xs _, _⟩ => if t = "tuple" then some xs.toList else none
  | _ => none
theorem tupOf_is {K : Frag} {h : Heap} (X : K.In h) {b : Addr} {l : List Value} (e : tupOf (K.lookup b) = some l) : IsTup h b l.toArray := by
  cases q : K.lookup b with
  | none => rw [q] at e; cases e
  | some o =>
    rw [q] at e
    obtain ⟨c, d, dt, sl⟩ := o
    cases c <;> try (cases e; done)
    cases dt <;> try (cases e; done)
    rename_i t xs n
    simp only [tupOf] at e
    split at e
    · rename_i ht
      cases e
      exact ⟨_, X _ _ q, by rw [ht], n, by simp⟩
    · cases e
noncomputable def pairOf : Option (List Value) → Option (Int × Int)
  | some [.int lo _, .int hi _] => some (lo, hi)
  | _ => none
noncomputable def pairsIn (K : Frag) : List Value → Option (List (Int × Int))
  | [] => some []
  | .ref b :: r => match pairOf (tupOf (K.lookup b)), pairsIn K r with
    | some p, some ps => some (p :: ps)
    | _, _ => none
  | _ => none
noncomputable def tabIn (K : Frag) (a : Addr) : Option (List (Int × Int)) := (tupOf (K.lookup a)).bind (pairsIn K)
def IsPair (h : Heap) (b : Addr) (p : Int × Int) : Prop := ∃ t1 t2, IsTup h b [Value.int p.1 t1, Value.int p.2 t2].toArray
structure IsTab (h : Heap) (a : Addr) (rs : List (Int × Int)) (bs : List Value) : Prop where
  tup : IsTup h a bs.toArray
  len : bs.length = rs.length
  at' : ∀ (i : Nat) (p : Int × Int), rs[i]? = some p → ∃ b : Addr, bs[i]? = some (Value.ref b) ∧ IsPair h b p
theorem IsTab.keeps {h h' : Heap} {a : Addr} {rs : List (Int × Int)} {bs : List Value} (H : IsTab h a rs bs) (k : ∀ b o, h.get? b = some o → h'.get? b = some o) : IsTab h' a rs bs :=
  ⟨H.tup.keeps k, H.len, fun i p e => let ⟨b, e1, t1, t2, q⟩ := H.at' i p e; ⟨b, e1, t1, t2, q.keeps k⟩⟩
theorem pair_of {K : Frag} {h : Heap} (X : K.In h) {b : Addr} {p : Int × Int} (e : pairOf (tupOf (K.lookup b)) = some p) : IsPair h b p := by
  cases q : tupOf (K.lookup b) with
  | none => rw [q] at e; cases e
  | some l =>
    rw [q] at e
    unfold pairOf at e
    split at e
    · rename_i lo t1 hi t2 hx
      cases hx
      cases e
      exact ⟨t1, t2, tupOf_is X q⟩
    · cases e
theorem pairs_of {K : Frag} {h : Heap} (X : K.In h) : ∀ {bs : List Value} {rs : List (Int × Int)}, pairsIn K bs = some rs → bs.length = rs.length ∧ ∀ (i : Nat) (p : Int × Int), rs[i]? = some p → ∃ b : Addr, bs[i]? = some (Value.ref b) ∧ IsPair h b p
  | [], _, e => by cases e; exact ⟨rfl, fun i p e => by simp at e⟩
  | .ref b :: r, rs, e => by
    simp only [pairsIn] at e
    split at e
    · rename_i p ps h1 h2
      cases e
      obtain ⟨l, q⟩ := pairs_of X h2
      refine ⟨by simp [l], fun i p' e' => ?_⟩
      cases i with
      | zero => simp at e'; subst e'; exact ⟨b, rfl, pair_of X h1⟩
      | succ i => simp at e'; simpa using q i p' e'
    · cases e
  | .none :: _, _, e => by cases e
  | .ellipsis :: _, _, e => by cases e
  | .notImplemented :: _, _, e => by cases e
  | .bool _ :: _, _, e => by cases e
  | .int _ _ :: _, _, e => by cases e
  | .float _ _ :: _, _, e => by cases e
  | .str _ _ :: _, _, e => by cases e
  | .bytes _ _ :: _, _, e => by cases e
  | .type _ :: _, _, e => by cases e
  | .builtin _ :: _, _, e => by cases e
theorem tab_of {K : Frag} {h : Heap} (X : K.In h) {a : Addr} {rs : List (Int × Int)} (e : tabIn K a = some rs) : ∃ bs, IsTab h a rs bs := by
  unfold tabIn at e
  cases q : tupOf (K.lookup a) with
  | none => rw [q] at e; cases e
  | some l =>
    rw [q] at e
    obtain ⟨h1, h2⟩ := pairs_of X (show pairsIn K l = some rs from e)
    exact ⟨l, tupOf_is X q, h1, h2⟩

example (w : World) : tabIn (hd.heap_39 w.params) 40 = some [(0, 9), (11, 12), (14, 31), (127, 159), (173, 173), (8203, 8203), (8206, 8207), (8232, 8238), (8288, 8303), (65279, 65279), (917504, 917535)] := by rfl

section
variable {prog : Program} {w : World} {A : Around} {E : Value → Shared → Prop} {s : Shared} {g : Heap} {L : Addr} {m : Str → Option Value} {Q : Value → Shared → Prop} {a b : Addr} {rs : List (Int × Int)} {bs : List Value}
theorem len_tab {news : List (Addr × Obj)} (H : IsTab g a rs bs) (F : Fr g L s.heap m) (N : News g L s.heap news) (hs : rs.length < 1000) (h : ∀ t tk, Q (.int rs.length t) { s with toks := tk }) : wpAny (model prog w) A (call (.builtin "len") [.ref a]) Q E s := by
  have z : bs.toArray.size = rs.length := by rw [List.size_toArray]; exact H.len
  refine len_tuple (H.keeps F.keep).tup (by rw [z]; omega) ?_
  rw [z]
  exact h _ _
theorem item_tab {value slice : Expr} {k : Int} {u : Tok} (H : IsTab g a rs bs) (F : Fr g L s.heap m) (h0 : 0 ≤ k) (h1 : k < rs.length) (hs : rs.length < 1000)
    (h : ∀ b p, rs[k.toNat]? = some p → IsPair g b p → Q (.ref b) s)
    (hs : subscripted slice false (.ref a) (.int k u) = operate [.ref a, .int k u] (getItem (.ref a) (.int k u)) := by with_unfolding_all rfl) :
    wpAny (model prog w) A (subscriptTail value slice (.ref a) (.int k u)) Q E s := by
  have hk : k.toNat < rs.length := by omega
  obtain ⟨b, e1, t1, t2, q⟩ := H.at' k.toNat rs[k.toNat] (by simp [hk])
  refine item_tupleT (j := k.toNat) (H.keeps F.keep).tup (by omega) (by omega) ?_ e1 (h b _ (by simp [hk]) ⟨t1, t2, q⟩) hs
  unfold seqIndex?
  have := H.len
  simp only []
  grind
theorem item_pair0 {value slice : Expr} {u : Tok} {p : Int × Int} (H : IsPair g b p) (F : Fr g L s.heap m) 
    (h : ∀ t, Q (.int p.1 t) s)
    (hs : subscripted slice false (.ref b) (.int 0 u) = operate [.ref b, .int 0 u] (getItem (.ref b) (.int 0 u)) := by with_unfolding_all rfl) :
    wpAny (model prog w) A (subscriptTail value slice (.ref b) (.int 0 u)) Q E s := by
  obtain ⟨t1, t2, q⟩ := H
  exact item_tupleT (j := 0) (q.keeps F.keep) (by omega) (by omega) rfl rfl (h t1) hs
theorem item_pair1 {value slice : Expr} {u : Tok} {p : Int × Int} (H : IsPair g b p) (F : Fr g L s.heap m) 
    (h : ∀ t, Q (.int p.2 t) s)
    (hs : subscripted slice false (.ref b) (.int 1 u) = operate [.ref b, .int 1 u] (getItem (.ref b) (.int 1 u)) := by with_unfolding_all rfl) :
    wpAny (model prog w) A (subscriptTail value slice (.ref b) (.int 1 u)) Q E s := by
  obtain ⟨t1, t2, q⟩ := H
  exact item_tupleT (j := 1) (q.keeps F.keep) (by omega) (by omega) rfl rfl (h t2) hs
end

/-! the frame: maps as lists -/
theorem lookup_kstB (y : Str) : ∀ (l : List (Str × Value)), l.lookup y = kstB (fun _ => none) l y
  | [] => rfl
  | (k, v) :: r => by
    rw [List.lookup_cons]
    show _ = if y = k then some v else kstB (fun _ => none) r y
    by_cases h : y = k
    · subst h; simp
    · rw [if_neg h, ← lookup_kstB y r]
      rw [show (y == k) = false from beq_false_of_ne h]
theorem frLoc {h₀ h : Heap} {L : Addr} {l : List (Str × Value)} (F : Fr h₀ L h (fun y => l.lookup y)) : Fr h₀ L h (kstB (fun _ => none) l) := by
  rw [← funext (fun y => lookup_kstB y l)]; exact F
theorem kst_same {m : Str → Option Value} {ps : List (Str × Value)} (h : ∀ p ∈ ps, m p.1 = some p.2) : kstB m ps = m := funext fun _ => kstB_eq h fun _ => rfl

/-- how a def's body ends: what it hands back, what it made, the rest as it was -/
def Ret (g : Heap) (L : Addr) (news : List (Addr × Obj)) (s₀ : Shared) (Out : Value → List (Addr × Obj) → Prop) (v : Value) (s' : Shared) : Prop :=
  ∃ tl h' tk' m', s' = { s₀ with heap := h', toks := tk' } ∧ Fr g L h' m' ∧ News g L h' (tl ++ news) ∧ Out v tl
def RetF (g : Heap) (L : Addr) (news : List (Addr × Obj)) (s₀ : Shared) (Out : Value → List (Addr × Obj) → Prop) (f : Flow) (s' : Shared) : Prop :=
  Ret g L news s₀ Out (match f with | .ret v => v | _ => .none) s'
theorem ret_end {g h' : Heap} {L : Addr} {news : List (Addr × Obj)} {s₀ : Shared} {Out : Value → List (Addr × Obj) → Prop} {v : Value} {tk' : Nat} {m' : Str → Option Value} (tl : List (Addr × Obj)) (F : Fr g L h' m') (N : News g L h' (tl ++ news)) (o : Out v tl) :
    RetF g L news s₀ Out (.ret v) { s₀ with heap := h', toks := tk' } := ⟨tl, h', tk', m', rfl, F, N, o⟩
theorem ret_none {g h' : Heap} {L : Addr} {news : List (Addr × Obj)} {s₀ : Shared} {Out : Value → List (Addr × Obj) → Prop} {tk' : Nat} {m' : Str → Option Value} (tl : List (Addr × Obj)) (F : Fr g L h' m') (N : News g L h' (tl ++ news)) (o : Out .none tl) :
    RetF g L news s₀ Out .next { s₀ with heap := h', toks := tk' } := ⟨tl, h', tk', m', rfl, F, N, o⟩

def Body (w : World) (mean : ExcName → Option Value) (mg mb : Str → Option Value) (d u : Nat) (qual : Str) (scope : Scope) (f : Addr) (cdv : Value) (body : List Stmt) (ps : List (Str × Value)) (news : List (Addr × Obj)) (Out : Value → List (Addr × Obj) → Prop) : Prop :=
  ∀ (dp un : Nat) (gd : Option (List Code)) (outer : List Env) (A₀ : Around) (base g : Heap) (L : Addr) (s : Shared),
    Below A₀ base outer g → Fr g L s.heap (kstB (fun _ => none) ps) → (hd.heap_39 w.params).In g → News g L s.heap news → (∀ p ∈ news, p.1 < L) → Top VW LW mean mg mb g → dp + d < recursionLimit → un + u < cLine →
    wpAny (model PG w) (ktrTop dp un gd qual scope L f cdv [] outer) (execs body (envX qual scope L f cdv [])) (RetF g L news s Out) (fun _ _ => False) s

theorem has_of_body {w : World} {mean : ExcName → Option Value} {mg mb : Str → Option Value} {d u : Nat} {f : Addr} {vs : List Value} {kw : List (Str × Value)} {news : List (Addr × Obj)} {Out : Value → List (Addr × Obj) → Prop}
    {name qual : Str} {params : Arguments} {body : List Stmt} {scope : Scope} {dV kV doc pm cdv ct oc : Value} {an od : Option Addr} {osl : Array (Option Value)} {binds : List (Str × Value)}
    (ho : (hd.heap_39 w.params).lookup f = some ⟨oc, od, .func (fnOf name qual params body scope dV kV doc pm an cdv ct), osl⟩) (hcd : codeIn (hd.heap_39 w.params) cdv qual = true)
    (hb : ∀ S, peek (hd.heap_39 w.params) S (bindArgs (fnOf name qual params body scope dV kV doc pm an cdv ct) ⟨vs, kw⟩) = some binds)
    (hloc : ∀ y ∈ binds, scope.names.lookup y.1 = some .local) (hcell : ∀ x ∈ scope.names, x.2 ≠ .cell) (hco : scope.isCoroutine = false) (hgen : scope.isGenerator = false) (hk : scope.kind = .function)
    (h : Body w mean mg mb d (u + 3) qual scope f cdv body binds.reverse news Out) : Has w mean mg mb (d + 1) (u + 6) f vs kw news Out := by
  intro dp un gd cn cs a ccd cl outer A₀ base h₀ L m s Q E B F X N T hck hd hu hret
  refine wpAny_call ?_
  refine callX_plain (cl := []) B F N T.nolimit rfl rfl hck ((X.keeps F.keep) _ _ ho) rfl (codeRec_of (X.keeps F.keep) hcd) (by show dp < recursionLimit; omega) (kp_binds (X.keeps F.keep) hb) hloc (fun g L' h₁ FG F' N' B' st lt => ?_) hcell hco hgen hk
  refine wpAny_mono (h (dp + 1) (un + 3) _ _ _ _ g L' { s with heap := h₁, toks := s.toks + binds.length } B' (frLoc F') (X.keeps st) N' lt (T.keeps st) (by omega) (by omega)) (fun fl s' hl => ?_) fun _ _ x => x.elim
  obtain ⟨tl, h', tk', m', rfl, F'', N'', o⟩ := hl
  exact ⟨L', m', _, F'', N'', fun F3 N3 => hret _ tl h' tk' F3 N3 o⟩

/-! while -/
section
variable {prog : Program} {w : World} {A : Around} {E : Value → Shared → Prop} {Q : Flow → Shared → Prop} {s : Shared} {env : Env} {h₀ : Heap} {L : Addr}
def WEnd {σ : Type} (h₀ : Heap) (L : Addr) (s : Shared) (news : List (Addr × Obj)) (ps : σ → List (Str × Value)) (P : σ → Prop) (μ : σ → Nat) (c : σ) (s₂ : Shared) : Prop :=
  ∃ (c' : σ) (h' : Heap) (tk : Nat) (m' : Str → Option Value) (tl : List (Addr × Obj)), s₂ = { s with heap := h', toks := tk } ∧ Fr h₀ L h' m' ∧ News h₀ L h' (tl ++ news) ∧ (∀ p ∈ ps c', m' p.1 = some p.2) ∧ P c' ∧ μ c' < μ c
def WPost {σ : Type} (h₀ : Heap) (L : Addr) (s : Shared) (news : List (Addr × Obj)) (ps : σ → List (Str × Value)) (P : σ → Prop) (μ : σ → Nat) (Q : Flow → Shared → Prop) (c : σ) (f : Flow) (s₂ : Shared) : Prop :=
  match f with
  | .ret v => Q (.ret v) s₂
  | .brk => Q .next s₂
  | _ => WEnd h₀ L s news ps P μ c s₂
theorem w_end {σ : Type} {s : Shared} {news : List (Addr × Obj)} {ps : σ → List (Str × Value)} {m' : Str → Option Value} {P : σ → Prop} {μ : σ → Nat} {c : σ} {h' : Heap} {tk : Nat} (c' : σ) (tl : List (Addr × Obj))
    (F : Fr h₀ L h' m') (N : News h₀ L h' (tl ++ news)) (hk : ∀ p ∈ ps c', m' p.1 = some p.2) (hp : P c') (hm : μ c' < μ c) :
    WEnd h₀ L s news ps P μ c { s with heap := h', toks := tk } := ⟨c', h', tk, m', tl, rfl, F, N, hk, hp, hm⟩
theorem news_tl {h₀ h : Heap} {L : Addr} {tl news : List (Addr × Obj)} (N : News h₀ L h (tl ++ news)) : News h₀ L h news := fun p hp => N p (List.mem_append_right _ hp)
theorem while_ {σ : Type} {test : Expr} {body : List Stmt} {pos : Pos} {m₀ : Str → Option Value} {news : List (Addr × Obj)} (ps : σ → List (Str × Value)) (P : σ → Prop) (μ : σ → Nat) (c₀ : σ)
    (F : Fr h₀ L s.heap m₀) (N : News h₀ L s.heap news) (hk : ∀ p ∈ ps c₀, m₀ p.1 = some p.2) (hp : P c₀) (hE : PassesOwn (model prog w) A env E)
    (turn : ∀ (c : σ) (u : Str → Option Value) h tk, P c → Fr h₀ L h (kstB u (ps c)) → News h₀ L h news →
      wpAny (model prog w) A (isTrue test env (eval test env)) (fun b s₂ =>
        if b = true then wpAny (model prog w) A (execs body env) (WPost h₀ L s news ps P μ Q c) E s₂ else Q .next s₂) E { s with heap := h, toks := tk }) :
    wpAny (model prog w) A (exec (.While test body [] pos) env) Q E s := by
  refine While_inv2 (fun n m nx => ∃ c : σ, nx = news ∧ μ c = n ∧ (∀ p ∈ ps c, m p.1 = some p.2) ∧ P c) F N ⟨c₀, rfl, rfl, hk, hp⟩ ?_ hE
  rintro n m₁ nx h tk F₁ N₁ ⟨c, rfl, hsz, h1, hp'⟩
  rw [← hsz]
  refine wpAny_mono (turn c m₁ h tk hp' (by rw [kst_same h1]; exact F₁) N₁) (fun b s₂ p => ?_) fun _ _ x => x
  cases b with
  | false => simpa using p
  | true =>
    simp only [if_true] at p ⊢
    refine wpAny_mono p (fun f s₃ q => ?_) fun _ _ x => x
    cases f with
    | ret v => exact q
    | brk => exact q
    | next =>
      obtain ⟨c', h', tk', m', tl, rfl, F', N', hk9, hp9, hm9⟩ := q
      exact ⟨h', tk', m', nx, μ c', rfl, F', news_tl N', hm9, c', rfl, rfl, hk9, hp9⟩
    | cont =>
      obtain ⟨c', h', tk', m', tl, rfl, F', N', hk9, hp9, hm9⟩ := q
      exact ⟨h', tk', m', nx, μ c', rfl, F', news_tl N', hm9, c', rfl, rfl, hk9, hp9⟩
end
theorem int_eq {a b : Int} {t : Tok} (h : a = b) : Value.int a t = Value.int b t := by rw [h]

abbrev OInt (v : Int) (r : Value) (tl : List (Addr × Obj)) : Prop := tl = [] ∧ ∃ t, r = Value.int v t
abbrev OBool (v : Bool) (r : Value) (tl : List (Addr × Obj)) : Prop := tl = [] ∧ r = Value.bool v
section
variable {w : World} {mean : ExcName → Option Value} {mg mb : Str → Option Value} {d u : Nat} {f : Addr} {vs : List Value} {kw : List (Str × Value)} {news : List (Addr × Obj)}
  {dp un : Nat} {gd : Option (List Code)} {cn : Str} {cs : Scope} {a : Addr} {ccd : Value} {cl : List (Str × Addr)} {outer : List Env} {A₀ : Around} {base h₀ : Heap} {L : Addr} {m : Str → Option Value} {s : Shared} {Q E : Value → Shared → Prop}
theorem has_use {Out : Value → List (Addr × Obj) → Prop} (C : Has w mean mg mb d u f vs kw news Out) (B : Below A₀ base outer h₀) (F : Fr h₀ L s.heap m) (X : (hd.heap_39 w.params).In h₀) (N : News h₀ L s.heap news) (T : Top VW LW mean mg mb h₀) (hk : cs.kind = .function) (hd : dp + d < recursionLimit) (hu : un + u < cLine)
    (h : ∀ r tl h' tk', Fr h₀ L h' m → News h₀ L h' (tl ++ news) → Out r tl → Q r { s with heap := h', toks := tk' }) :
    wpAny (model PG w) (ktrTop dp un gd cn cs L a ccd cl outer) (call (.ref f) vs kw) Q E s := C _ _ _ _ _ _ _ _ _ _ _ _ _ _ _ _ _ B F X N T hk hd hu h
theorem has_int {v : Int} (C : Has w mean mg mb d u f vs kw news (OInt v)) (B : Below A₀ base outer h₀) (F : Fr h₀ L s.heap m) (X : (hd.heap_39 w.params).In h₀) (N : News h₀ L s.heap news) (T : Top VW LW mean mg mb h₀) (hk : cs.kind = .function) (hd : dp + d < recursionLimit) (hu : un + u < cLine)
    (h : ∀ t h' tk', Fr h₀ L h' m → News h₀ L h' news → Q (.int v t) { s with heap := h', toks := tk' }) :
    wpAny (model PG w) (ktrTop dp un gd cn cs L a ccd cl outer) (call (.ref f) vs kw) Q E s :=
  has_use C B F X N T hk hd hu fun r tl h' tk' F' N' o => by
    obtain ⟨e, t, q⟩ := o
    subst e q
    exact h t h' tk' F' N'
theorem has_bool {v : Bool} (C : Has w mean mg mb d u f vs kw news (OBool v)) (B : Below A₀ base outer h₀) (F : Fr h₀ L s.heap m) (X : (hd.heap_39 w.params).In h₀) (N : News h₀ L s.heap news) (T : Top VW LW mean mg mb h₀) (hk : cs.kind = .function) (hd : dp + d < recursionLimit) (hu : un + u < cLine)
    (h : ∀ h' tk', Fr h₀ L h' m → News h₀ L h' news → Q (.bool v) { s with heap := h', toks := tk' }) :
    wpAny (model PG w) (ktrTop dp un gd cn cs L a ccd cl outer) (call (.ref f) vs kw) Q E s :=
  has_use C B F X N T hk hd hu fun r tl h' tk' F' N' o => by
    obtain ⟨e, q⟩ := o
    subst e q
    exact h h' tk' F' N'
end
end Mine
/-! W2 -/
namespace Mine
example : True := by
  w_top off
  trivial
example : PySem.Challenge.rw_ax6033_01 = PySem.Challenge.rw_ax6033_01 → hd.heap_39 = hd.heap_39 → True := by
  k_fill
  intros; trivial

def inR (rs : List (Int × Int)) (u : Int) : Bool := rs.any fun p => decide (p.1 ≤ u) && decide (u ≤ p.2)
/-- sorted, and each range is one -/
def Sorted (rs : List (Int × Int)) : Prop := rs ≠ [] ∧ (∀ p ∈ rs, p.1 ≤ p.2) ∧ ∀ (i j : Nat) (p q : Int × Int), i < j → rs[i]? = some p → rs[j]? = some q → p.2 < q.1
def BisInv (rs : List (Int × Int)) (u lb ub : Int) : Prop := (∀ (i : Nat) (p : Int × Int), rs[i]? = some p → (i : Int) < lb → p.2 < u) ∧ (∀ (i : Nat) (p : Int × Int), rs[i]? = some p → ub < (i : Int) → u < p.1)
theorem inR_false {rs : List (Int × Int)} {u : Int} (h : ∀ (i : Nat) (p : Int × Int), rs[i]? = some p → u < p.1 ∨ p.2 < u) : inR rs u = false := by
  unfold inR
  rw [List.any_eq_false]
  intro p hp
  obtain ⟨i, hi⟩ := List.getElem?_of_mem hp
  have := h i p hi
  simp only [Bool.and_eq_true, decide_eq_true_eq]
  omega
theorem bis_out1 {rs : List (Int × Int)} {u : Int} {p : Int × Int} (S : Sorted rs) (h : rs[Int.toNat 0]? = some p) (hu : u < p.1) : inR rs u = false := by
  refine inR_false fun i q hq => .inl ?_
  by_cases h0 : i = 0
  · subst h0
    have : p = q := Option.some.inj (h.symm.trans hq)
    rw [← this]; exact hu
  · have := S.2.2 0 i p q (by omega) h hq
    have := S.2.1 p (List.mem_of_getElem? h)
    omega
theorem bis_out2 {rs : List (Int × Int)} {u : Int} {p : Int × Int} (S : Sorted rs) (h : rs[((rs.length : Int) - 1).toNat]? = some p) (hu : p.2 < u) : inR rs u = false := by
  refine inR_false fun i q hq => .inr ?_
  have hi : i < rs.length := (List.getElem?_eq_some_iff.mp hq).1
  have e : ((rs.length : Int) - 1).toNat = rs.length - 1 := by omega
  rw [e] at h
  by_cases h0 : i = rs.length - 1
  · subst h0
    have : p = q := Option.some.inj (h.symm.trans hq)
    rw [← this]; exact hu
  · have := S.2.2 i (rs.length - 1) q p (by omega) hq h
    have := S.2.1 p (List.mem_of_getElem? h)
    omega
theorem bis_hit {rs : List (Int × Int)} {u : Int} {p : Int × Int} {k : Nat} (h : rs[k]? = some p) (h1 : ¬ p.2 < u) (h2 : ¬ u < p.1) : inR rs u = true := by
  unfold inR
  rw [List.any_eq_true]
  refine ⟨p, List.mem_of_getElem? h, ?_⟩
  simp only [Bool.and_eq_true, decide_eq_true_eq]
  omega
theorem bis_hit2 {rs : List (Int × Int)} {u : Int} {p p' : Int × Int} {k : Nat} (h1 : ¬ p.2 < u) (h2 : ¬ u < p'.1) (h : rs[k]? = some p) (h' : rs[k]? = some p') : inR rs u = true := by
  have : p = p' := Option.some.inj (h.symm.trans h')
  subst this
  exact bis_hit h h1 h2
theorem bis_none {rs : List (Int × Int)} {u lb ub : Int} (I : BisInv rs u lb ub) (h : ub < lb) : inR rs u = false := by
  refine inR_false fun i q hq => ?_
  by_cases hi : (i : Int) < lb
  · exact .inr (I.1 i q hq hi)
  · exact .inl (I.2 i q hq (by omega))
theorem bis_up {rs : List (Int × Int)} {u lb ub k : Int} {p : Int × Int} (S : Sorted rs) (I : BisInv rs u lb ub) (h : rs[k.toNat]? = some p) (h0 : 0 ≤ k) (hp : p.2 < u) : BisInv rs u (k + 1) ub := by
  refine ⟨fun i q hq hi => ?_, I.2⟩
  by_cases e : i = k.toNat
  · subst e
    have : p = q := Option.some.inj (h.symm.trans hq)
    rw [← this]; exact hp
  · have := S.2.2 i k.toNat q p (by omega) hq h
    have := S.2.1 p (List.mem_of_getElem? h)
    omega
theorem bis_down {rs : List (Int × Int)} {u lb ub k : Int} {p : Int × Int} (S : Sorted rs) (I : BisInv rs u lb ub) (h : rs[k.toNat]? = some p) (h0 : 0 ≤ k) (hp : u < p.1) : BisInv rs u lb (k - 1) := by
  refine ⟨I.1, fun i q hq hi => ?_⟩
  by_cases e : i = k.toNat
  · subst e
    have : p = q := Option.some.inj (h.symm.trans hq)
    rw [← this]; exact hp
  · have := S.2.2 k.toNat i p q (by omega) h hq
    have := S.2.1 p (List.mem_of_getElem? h)
    omega
theorem bis_start {rs : List (Int × Int)} {u : Int} : BisInv rs u 0 ((rs.length : Int) - 1) := by
  refine ⟨fun i q hq hi => by omega, fun i q hq hi => ?_⟩
  have : i < rs.length := (List.getElem?_eq_some_iff.mp hq).1
  omega

local macro_rules | `(tactic| walk_at "M steps") => `(tactic| repeat' ((fail_if_success (with_reducible show wpAny _ _ (exec (Stmt.While _ _ _ _) _) _ _ _)); first | (k_unfold; (try dsimp only)) | (k_end; wrow_close) | walk1 | (dsimp only; walk1) | (leave1; walk_say "STEP leave1"; try dsimp only)))
local macro_rules | `(tactic| walk_at "call builtin:len") => `(tactic| (k_here; (with_reducible show wpAny _ _ (call (Value.builtin "len") [Value.ref _]) _ _ _); (refine len_tab (by assumption) (by assumption) (by assumption) (by assumption) ?_); intro _ _))
local macro_rules | `(tactic| walk_at "subscriptTail") => `(tactic| (k_here; (with_reducible show wpAny _ _ (subscriptTail _ _ (Value.ref _) (Value.int _ _)) _ _ _); (refine item_tab (by assumption) (by assumption) ?h0 ?h1 (by assumption) ?_; (case h0 => omega); (case h1 => omega)); intro _ _ hb9 hp9))
local macro_rules | `(tactic| walk_at "M fdiv") => `(tactic| (rw [Int.fdiv_eq_ediv_of_nonneg _ (by decide : (0:Int) ≤ 2)]))
local macro_rules | `(tactic| walk_at "subscriptTail") => `(tactic| (k_here; (with_reducible show wpAny _ _ (subscriptTail _ _ (Value.ref _) (Value.int (Int.fdiv _ 2) _)) _ _ _); (refine item_tab (by assumption) (by assumption) ?h0 ?h1 (by assumption) ?_; (case h0 => (walk_at "M fdiv"; omega)); (case h1 => (walk_at "M fdiv"; omega))); intro _ _ hb9 hp9))
local macro_rules | `(tactic| walk_at "subscriptTail") => `(tactic| (k_here; (with_reducible show wpAny _ _ (subscriptTail _ _ (Value.ref _) (Value.int 0 _)) _ _ _); (refine item_pair0 (by assumption) (by assumption) ?_); intro _))
local macro_rules | `(tactic| walk_at "subscriptTail") => `(tactic| (k_here; (with_reducible show wpAny _ _ (subscriptTail _ _ (Value.ref _) (Value.int 1 _)) _ _ _); (refine item_pair1 (by assumption) (by assumption) ?_); intro _))

theorem bis (w : World) (mean : ExcName → Option Value) (mg mb : Str → Option Value) (u : Int) (t : Tok) (ta : Addr) (rs : List (Int × Int)) (hrs : tabIn (hd.heap_39 w.params) ta = some rs) (hlen : rs.length < 1000) (hsort : Sorted rs) (news : List (Addr × Obj)) : Has w mean mg mb 1 6 28 [.int u t, .ref ta] [] news (fun r tl => tl = [] ∧ ∃ t, r = .int (if inR rs u then 1 else 0) t) := by
  refine has_of_body (binds := [(Str.ofString "ucs", .int u t), (Str.ofString "table", .ref ta)]) rfl rfl (fun _ => rfl) (locs rfl) (by decide) rfl rfl rfl ?_
  intro dp un gd outer A₀ base g L s B F X N lt T hd hu
  obtain ⟨bs, HT⟩ := tab_of X hrs
  have hpos : 0 < rs.length := List.length_pos_iff.mpr hsort.1
  walk_at "M steps"
  · exact ret_end [] (by assumption) (by assumption) ⟨rfl, _, int_eq (by rw [bis_out1 hsort (by assumption) (by assumption)]; rfl)⟩
  · exact ret_end [] (by assumption) (by assumption) ⟨rfl, _, int_eq (by rw [bis_out2 hsort (by assumption) (by assumption)]; rfl)⟩
  rename Fr _ _ _ _ => F9
  rename News _ _ _ _ => N9
  with_unfolding_all refine' while_ (σ := Int × Tok × Int × Tok) (fun c => [(Str.ofString "lbound", .int c.1 c.2.1), (Str.ofString "ubound", .int c.2.2.1 c.2.2.2), (Str.ofString "ucs", .int u t), (Str.ofString "table", .ref ta)]) (fun c => 0 ≤ c.1 ∧ c.2.2.1 < (rs.length : Int) ∧ c.1 ≤ c.2.2.1 + 1 ∧ BisInv rs u c.1 c.2.2.1) (fun c => (c.2.2.1 + 1 - c.1).toNat) ⟨_, _, _, _⟩ F9 N9 ?k1 ?k2 ?k3 ?_
  case k1 => kst_all
  case k2 => exact ⟨by omega, by dsimp only; omega, by dsimp only; omega, bis_start⟩
  case k3 => first | passes_own | with_unfolding_all passes_own
  clear F9 N9
  rintro ⟨lb, t1, ub, t2⟩ v h9 tk9 ⟨p1, p2, p3, p4⟩ F9 N9
  dsimp only at p1 p2 p3 p4 F9
  walk_at "M steps"
  · refine w_end ⟨_, _, _, _⟩ [] (by assumption) (by assumption) (by kst_all) ?_ ?_
    · dsimp only
      have hm := Int.fdiv_eq_ediv_of_nonneg (lb + ub) (by decide : (0:Int) ≤ 2)
      exact ⟨by omega, by omega, by omega, bis_up hsort p4 (by assumption) (by omega) (by assumption)⟩
    · dsimp only
      have hm := Int.fdiv_eq_ediv_of_nonneg (lb + ub) (by decide : (0:Int) ≤ 2)
      omega
  · refine w_end ⟨_, _, _, _⟩ [] (by assumption) (by assumption) (by kst_all) ?_ ?_
    · dsimp only
      have hm := Int.fdiv_eq_ediv_of_nonneg (lb + ub) (by decide : (0:Int) ≤ 2)
      exact ⟨by omega, by omega, by omega, bis_down hsort p4 (by assumption) (by omega) (by assumption)⟩
    · dsimp only
      have hm := Int.fdiv_eq_ediv_of_nonneg (lb + ub) (by decide : (0:Int) ≤ 2)
      omega
  · exact ret_end [] (by assumption) (by assumption) ⟨rfl, _, int_eq (by rw [bis_hit2 (by assumption) (by assumption) (by assumption) (by assumption)]; rfl)⟩
  · exact ret_end [] (by assumption) (by assumption) ⟨rfl, _, int_eq (by rw [bis_none p4 (by omega)]; rfl)⟩

/-! the tables, by their addresses -/
noncomputable def rsOf (w : World) (a : Addr) : List (Int × Int) := (tabIn (hd.heap_39 w.params) a).getD []
noncomputable def sortedB : List (Int × Int) → Bool
  | [] => true
  | [p] => decide (p.1 ≤ p.2)
  | p :: q :: r => decide (p.1 ≤ p.2) && decide (p.2 < q.1) && sortedB (q :: r)
theorem sortedB_le : ∀ {rs : List (Int × Int)}, sortedB rs = true → ∀ p ∈ rs, p.1 ≤ p.2
  | [p], h, q, hq => by
    rw [List.mem_singleton.mp hq]
    exact of_decide_eq_true h
  | p :: p' :: r, h, q, hq => by
    simp only [sortedB, Bool.and_eq_true, decide_eq_true_eq] at h
    rcases List.mem_cons.mp hq with rfl | hq
    · exact h.1.1
    · exact sortedB_le h.2 q hq
theorem sortedB_lt : ∀ {rs : List (Int × Int)}, sortedB rs = true → ∀ (i j : Nat) (p q : Int × Int), i < j → rs[i]? = some p → rs[j]? = some q → p.2 < q.1
  | [], _, i, j, p, q, _, h1, _ => by simp at h1
  | [x], _, i, j, p, q, hij, h1, h2 => by
    have := (List.getElem?_eq_some_iff.mp h2).1
    simp at this
    omega
  | x :: y :: r, h, i, j, p, q, hij, h1, h2 => by
    simp only [sortedB, Bool.and_eq_true, decide_eq_true_eq] at h
    cases j with
    | zero => omega
    | succ j =>
      rw [List.getElem?_cons_succ] at h2
      cases i with
      | succ i =>
        rw [List.getElem?_cons_succ] at h1
        exact sortedB_lt h.2 i j p q (by omega) h1 h2
      | zero =>
        simp at h1
        subst h1
        cases j with
        | zero => simp at h2; subst h2; exact h.1.2
        | succ j =>
          have h3 := sortedB_lt h.2 0 (j + 1) y q (by omega) rfl h2
          have h4 := sortedB_le h.2 y (.head _)
          omega
theorem sorted_of {rs : List (Int × Int)} (h : (!rs.isEmpty && sortedB rs) = true) : Sorted rs := by
  rw [Bool.and_eq_true] at h
  exact ⟨fun e => by rw [e] at h; simp at h, sortedB_le h.2, sortedB_lt h.2⟩
noncomputable def tabGood (w : World) (a : Addr) : Bool := (tabIn (hd.heap_39 w.params) a).any fun rs => !rs.isEmpty && sortedB rs && Nat.blt rs.length 1000
noncomputable def inT (w : World) (a : Addr) (u : Int) : Bool := inR (rsOf w a) u
theorem bisT (w : World) (mean : ExcName → Option Value) (mg mb : Str → Option Value) (u : Int) (t : Tok) (ta : Addr) (h : tabGood w ta = true) (news : List (Addr × Obj)) : Has w mean mg mb 1 6 28 [.int u t, .ref ta] [] news (OInt (if inT w ta u then 1 else 0)) := by
  unfold tabGood at h
  cases e : tabIn (hd.heap_39 w.params) ta with
  | none => rw [e] at h; cases h
  | some rs =>
    rw [e] at h
    have h' : (!rs.isEmpty && sortedB rs && Nat.blt rs.length 1000) = true := h
    rw [Bool.and_eq_true] at h'
    have : rsOf w ta = rs := by unfold rsOf; rw [e]; rfl
    unfold inT
    rw [this]
    exact bis w mean mg mb u t ta rs e (Nat.le_of_ble_eq_true h'.2) (sorted_of h'.1) news
theorem tg40 (w : World) : tabGood w 40 = true := rfl
theorem tg73 (w : World) : tabGood w 73 = true := rfl
theorem tg75 (w : World) : tabGood w 75 = true := rfl
theorem tg81 (w : World) : tabGood w 81 = true := rfl
theorem tg92 (w : World) : tabGood w 92 = true := rfl
theorem tg95 (w : World) : tabGood w 95 = true := rfl
theorem tg100 (w : World) : tabGood w 100 = true := rfl
theorem tg103 (w : World) : tabGood w 103 = true := rfl
theorem tg108 (w : World) : tabGood w 108 = true := rfl
theorem tg113 (w : World) : tabGood w 113 = true := rfl
theorem tg142 (w : World) : tabGood w 142 = true := rfl
theorem tg147 (w : World) : tabGood w 147 = true := rfl
theorem tg154 (w : World) : tabGood w 154 = true := rfl
theorem tg183 (w : World) : tabGood w 183 = true := rfl
end Mine
/-! W3 -/
namespace Mine
example : True := by
  w_top off
  trivial
example : PySem.Challenge.rw_ax6033_01 = PySem.Challenge.rw_ax6033_01 → hd.heap_39 = hd.heap_39 → True := by
  k_fill
  intros; trivial

local macro_rules | `(tactic| walk_at "M steps") => `(tactic| repeat' ((fail_if_success (with_reducible show wpAny _ _ (exec (Stmt.While _ _ _ _) _) _ _ _)); first | (k_unfold; (try dsimp only)) | (k_end; wrow_close) | walk1 | (dsimp only; walk1) | (leave1; walk_say "STEP leave1"; try dsimp only)))
local macro_rules | `(tactic| walk_at "M has") => `(tactic| ((case hB => k_asm); (case hF => k_asm); (case hX => k_asm); (case hN => k_asm); (case hT => k_asm); (case hK => exact rfl); (case hd => omega); (case hu => omega)))
local macro_rules | `(tactic| walk_at "call ref") => `(tactic| (k_here; (with_reducible show wpAny _ _ (call (Value.ref _) [Value.int _ _, Value.ref _] _) _ _ _); (refine' has_int (bisT _ _ _ _ _ _ _ ?hG _) ?hB ?hF ?hX ?hN ?hT ?hK ?hd ?hu ?_); (case hG => exact rfl); walk_at "M has"; intro _ _ _ _ _; (try k_sweep)))

noncomputable def gcbS (w : World) (u : Int) : Int :=
  if u = 13 then 1 else if u = 10 then 2 else if u = 8205 then 5 else if inT w 40 u then 3 else if inT w 73 u then 4 else if inT w 75 u then 6 else if inT w 81 u then 7 else if inT w 92 u then 8
  else if inT w 95 u then 9 else if inT w 100 u then 10 else if inT w 103 u then 11 else if inT w 108 u then 12 else if inT w 113 u then 13 else 0


theorem bool_eq {a b : Bool} (h : a = b) : Value.bool a = Value.bool b := by rw [h]
theorem nz (b : Bool) : ((if b = true then (1 : Int) else 0) != 0) = b := by cases b <;> rfl
theorem is_ext (w : World) (mean : ExcName → Option Value) (mg mb : Str → Option Value) (u : Int) (t : Tok) (news : List (Addr × Obj)) : Has w mean mg mb 2 12 254 [.int u t] [] news (OBool (inT w 142 u)) := by
  refine has_of_body (binds := [(Str.ofString "ucs", .int u t)]) rfl rfl (fun _ => rfl) (locs rfl) (by decide) rfl rfl rfl ?_
  intro dp un gd outer A₀ base g L s B F X N lt T hd hu
  walk_at "M steps"
  exact ret_end [] (by assumption) (by assumption) ⟨rfl, bool_eq (nz _)⟩
theorem is_link (w : World) (mean : ExcName → Option Value) (mg mb : Str → Option Value) (u : Int) (t : Tok) (news : List (Addr × Obj)) : Has w mean mg mb 2 12 261 [.int u t] [] news (OBool (inT w 147 u)) := by
  refine has_of_body (binds := [(Str.ofString "ucs", .int u t)]) rfl rfl (fun _ => rfl) (locs rfl) (by decide) rfl rfl rfl ?_
  intro dp un gd outer A₀ base g L s B F X N lt T hd hu
  walk_at "M steps"
  exact ret_end [] (by assumption) (by assumption) ⟨rfl, bool_eq (nz _)⟩
theorem is_cons (w : World) (mean : ExcName → Option Value) (mg mb : Str → Option Value) (u : Int) (t : Tok) (news : List (Addr × Obj)) : Has w mean mg mb 2 12 268 [.int u t] [] news (OBool (inT w 154 u)) := by
  refine has_of_body (binds := [(Str.ofString "ucs", .int u t)]) rfl rfl (fun _ => rfl) (locs rfl) (by decide) rfl rfl rfl ?_
  intro dp un gd outer A₀ base g L s B F X N lt T hd hu
  walk_at "M steps"
  exact ret_end [] (by assumption) (by assumption) ⟨rfl, bool_eq (nz _)⟩
theorem is_iext (w : World) (mean : ExcName → Option Value) (mg mb : Str → Option Value) (u : Int) (t : Tok) (news : List (Addr × Obj)) : Has w mean mg mb 2 12 275 [.int u t] [] news (OBool (inT w 183 u)) := by
  refine has_of_body (binds := [(Str.ofString "ucs", .int u t)]) rfl rfl (fun _ => rfl) (locs rfl) (by decide) rfl rfl rfl ?_
  intro dp un gd outer A₀ base g L s B F X N lt T hd hu
  walk_at "M steps"
  exact ret_end [] (by assumption) (by assumption) ⟨rfl, bool_eq (nz _)⟩
theorem gcb (w : World) (mean : ExcName → Option Value) (mg mb : Str → Option Value) (u : Int) (t : Tok) (news : List (Addr × Obj)) : Has w mean mg mb 2 12 247 [.int u t] [] news (OInt (gcbS w u)) := by
  refine has_of_body (binds := [(Str.ofString "ucs", .int u t)]) rfl rfl (fun _ => rfl) (locs rfl) (by decide) rfl rfl rfl ?_
  intro dp un gd outer A₀ base g L s B F X N lt T hd hu
  walk_at "M steps"
  all_goals (dsimp only; exact ret_end [] (by assumption) (by assumption) ⟨rfl, _, int_eq (by unfold gcbS; grind (splits := 30))⟩)
end Mine
/-! W4 -/
namespace Mine
example : True := by
  w_top off
  trivial
noncomputable abbrev KK (w : World) : Frag := hd.heap_39 w.params
section
variable {w : World} {M : Model} {h : Heap}
theorem br_made (X : (KK w).In h) : Looks M h (Bind.madeBy (.ref 343)) none := Looks.of_peek X (by kernel_rfl)
theorem br_base (X : (KK w).In h) : Looks M h (Bind.staticBase (.ref 343)) (.type "tuple") := Looks.of_peek X (by kernel_rfl)
theorem br_sub (X : (KK w).In h) : Looks M h (isSubtype (.ref 343) (.type "tuple")) true := looks_subIn X rfl
theorem br_self (X : (KK w).In h) : Looks M h (isSubtype (.ref 343) (.ref 343)) true := looks_subIn X rfl
theorem br_isT (X : (KK w).In h) : Looks M h (isType (.ref 343)) true := Looks.of_peek X rfl
theorem br_init (X : (KK w).In h) : Looks M h (typeLookup (.ref 343) "__init__") (some (.builtin "object.__init__")) := looks_findIn X rfl
theorem br_here (X : (KK w).In h) : Looks M h (Bind.madeHere "tuple.__new__" (.ref 343)) () := Looks.of_peek X (by kernel_rfl)
theorem br_check (X : (KK w).In h) (l : Addr) : Looks M h (checkBuiltinCall "tuple.__new__" ⟨[.ref 343, .ref l], []⟩) () := Looks.of_peek X (by kernel_rfl)
end

abbrev brObj (dx : Addr) (vs : List Value) : Obj := { cls := .ref 343, dict := some dx, data := .seq vs.toArray }
section
variable {w : World} {A : Around} {g : Heap} {L : Addr} {m : Str → Option Value} {news : List (Addr × Obj)} {s : Shared} {R : Result → Shared → Prop} {l : Addr} {vs : List Value}
theorem fr_keep {h h' : Heap} (F : Fr g L h m) (k : ∀ b o, h.get? b = some o → h'.get? b = some o) : Fr g L h' m := by
  obtain ⟨oL, a1, a2, hL, a3⟩ := F.ns
  exact ⟨⟨oL, a1, a2, k _ _ hL, a3⟩, fun b o' e => k _ _ (F.keep b o' e), F.above⟩
theorem news_keep {h h' : Heap} (N : News g L h news) (k : ∀ b o, h.get? b = some o → h'.get? b = some o) : News g L h' news := fun p hp => ⟨k _ _ (N p hp).1, (N p hp).2⟩
theorem tuple_new_br (F : Fr g L s.heap m) (N : News g L s.heap news) (X : (KK w).In s.heap) (T : IsTup s.heap l vs.toArray) (hv : vs.length ≤ 100)
    (h : ∀ x dx h', Fr g L h' m → News g L h' ((x, brObj dx vs) :: (dx, emptyDict) :: news) → R (.ok (.ret (.ref x))) { s with heap := h' }) :
    codeAny (model PG w) A (.call (.builtin "tuple.__new__") ⟨[.ref 343, .ref l], []⟩) R s := by
  refine codeAny_call_builtin_code (Code.quiet_builtin _ (by decide +kernel)) ?_
  refine (br_check X l).here ?_
  refine codeAny_builtin PySem.F.entry_tuple_new ?_
  have h1 := br_isT (M := model PG w) X
  have h2 := br_sub (M := model PG w) X
  have h3 := br_here (M := model PG w) X
  have h4 := br_init (M := model PG w) X
  obtain ⟨h0, g0, d, tk, os⟩ := s
  unfold Builtin.«tuple.__new__»
  obtain ⟨ol, ho, hc, n, hdd⟩ := T
  repeat (first | (with_reducible refine PySem.wpAny_collect_seq l (.inr rfl) ho hc hdd ?_ (by rw [List.size_toArray, sizeLine_eq]; omega)) | lk)
  intro h' hk
  have hC := hk _ _ (X 343 _ rfl)
  show wpAny _ _ (alloc emptyDict >>= _) _ _ _
  refine wpAny_bind (wpAny_alloc (wpAny_bind ?_))
  unfold newObj
  dsimp only
  rw [if_neg (by rw [sizeLine_eq]; simp; omega)]
  unfold newObjAsIs classHasDel
  refine wpAny_bind (wpAny_alloc (wpAny_bind (wpAny_bind (wpAny_load (Heap.get?_push_of_some _ (Heap.get?_push_of_some _ hC)) (wpAny_pure ?_)))))
  dsimp only
  refine wpAny_pure (wpAny_pure ?_)
  have N' := ((news_keep N hk).push (fr_keep F hk) emptyDict).push ((fr_keep F hk).push _) (brObj h'.objs.size vs)
  rw [Heap.size_push] at N' ⊢
  exact h _ _ _ (((fr_keep F hk).push _).push _) N'
end
end Mine
/-! W5 -/
namespace Mine
example : True := by
  w_top off
  trivial
example : PySem.Challenge.rw_ax6033_01 = PySem.Challenge.rw_ax6033_01 → hd.heap_39 = hd.heap_39 → True := by
  k_fill
  intros; trivial
local macro_rules | `(tactic| walk_at "M steps") => `(tactic| repeat' ((fail_if_success (with_reducible show wpAny _ _ (exec (Stmt.While _ _ _ _) _) _ _ _)); first | (k_unfold; (try dsimp only)) | (k_end; wrow_close) | walk1 | (dsimp only; walk1) | (leave1; walk_say "STEP leave1"; try dsimp only)))

section
variable {w : World} {M : Model} {h : Heap}
theorem meta_tuple : typeOf (.type "tuple") = pure (.type "type") := by kernel_rfl
theorem tn_found (w : World) : findCls (KK w) (.type "tuple") (.type "type") (Str.ofString "__new__") = some (.val (.builtin "tuple.__new__")) := by kernel_rfl
local macro_rules | `(tactic| walk_at "getMethod type:tuple") => `(tactic| (k_here; (refine method_type (v := Value.builtin "tuple.__new__") (by k_asm) (by k_asm) meta_tuple (by decide +kernel) (tn_found _) (by first | (simp only [handedIn]; done) | decide +kernel) ?_)))
theorem br_new (w : World) (mean : ExcName → Option Value) (mg mb : Str → Option Value) (b : Bool) (n : Int) (t : Tok) (news : List (Addr × Obj)) :
    Has w mean mg mb 1 12 293 [.ref 343] [(Str.ofString "should_break", .bool b), (Str.ofString "ri_count", .int n t)] news (fun r tl => ∃ x dx, r = .ref x ∧ tl = [(x, brObj dx [.bool b, .int n t]), (dx, emptyDict)]) := by
  refine has_of_body (binds := [(Str.ofString "_cls", .ref 343), (Str.ofString "should_break", .bool b), (Str.ofString "ri_count", .int n t)]) rfl rfl (fun _ => rfl) (locs rfl) (by decide) rfl rfl rfl ?_
  intro dp un gd outer A₀ base g L s B F X N lt T hd hu
  walk_at "M steps"
  rename Fr _ _ _ _ => F9
  rename News _ _ _ _ => N9
  refine wpAny_call (tuple_new_br F9 (fun p hp => N9 p (.tail _ hp)) (X.keeps F9.keep) (l := _) (vs := [Value.bool b, Value.int n t]) (News.isTup N9 (.head _)) (by simp) fun x dx h' F' N' => ?_)
  exact ret_end [(x, brObj dx [.bool b, .int n t]), (dx, emptyDict)] F' N' ⟨x, dx, rfl, rfl⟩
theorem br_call (X : (KK w).In h) : Looks M h (specialOf (.ref 343) "__call__") (some (.builtin "type.__call__")) := looks_specialIn X rfl
theorem br_typ (X : (KK w).In h) : Looks M h (isInstance (.ref 343) (.type "type")) true := looks_instIn X rfl
theorem br_mro (X : (KK w).In h) : Looks M h (mroOf (.ref 343)) [.ref 343, .type "tuple", .type "object"] := Looks.of_peek X (by kernel_rfl)
theorem br_tcheck (X : (KK w).In h) (b : Bool) (n : Int) (t : Tok) : Looks M h (checkBuiltinCall "type.__call__" ⟨[.ref 343], [(Str.ofString "should_break", .bool b), (Str.ofString "ri_count", .int n t)]⟩) () := Looks.of_peek X (by kernel_rfl)
theorem br_clsm (w : World) : findCls (KK w) (.ref 343) (.type "type") (Str.ofString "__new__") = some (.get (.builtin "staticmethod.__get__") (.ref 344) .none (.ref 343)) := by kernel_rfl
theorem oi_check2 (a : Value) (b : Bool) (n : Int) (t : Tok) : argsOk "object.__init__" ⟨[a], [(Str.ofString "should_break", .bool b), (Str.ofString "ri_count", .int n t)]⟩ := by unfold argsOk; kernel_rfl
theorem br_tuple_obj (X : (KK w).In h) : Looks M h (isSubtype (.ref 343) (.type "object")) true := looks_subIn X rfl

theorem br_make (w : World) (mean : ExcName → Option Value) (mg mb : Str → Option Value) (b : Bool) (n : Int) (t : Tok) (news : List (Addr × Obj)) :
    Has w mean mg mb 3 20 343 [] [(Str.ofString "should_break", .bool b), (Str.ofString "ri_count", .int n t)] news (fun r tl => ∃ x dx, r = .ref x ∧ tl = [(x, brObj dx [.bool b, .int n t]), (dx, emptyDict)]) := by
  intro dp un gd cn cs a ccd cl outer A₀ base h₀ L m s Q E B F X N T hck hd hu hret
  refine wpAny_call ?_
  have X' := X.keeps F.keep
  have call := br_call (M := model PG w) X'
  have typ := br_typ (M := model PG w) X'
  have mro := br_mro (M := model PG w) X'
  have chk := br_tcheck (M := model PG w) X' b n t
  have made := br_made (M := model PG w) X'
  obtain ⟨hh, g0, d, tk, os⟩ := s
  refine codeAny_of_tree ?_
  show wpAny _ _ (callAny (.ref 343) _) _ _ _
  refine nd_load (X' 343 _ rfl) ?_
  show wpAny _ _ (callAny.viaDunder (.ref 343) _) _ _ _
  unfold callAny.viaDunder
  refine wpAny_bind (call.at ?_)
  dsimp only
  rw [tc_bind]
  refine wpAny_bind (wpAny_pure (wpAny_bind (wpAny_pure ?_)))
  refine wpAny_pure (a := Fin.again (.call (.builtin "type.__call__") ⟨[.ref 343], _⟩)) (And.intro rfl ?_)
  refine codeAny_call_builtin_code (Code.quiet_builtin _ (by decide +kernel)) (chk.at (codeAny_builtin entry_typeCall ?_))
  unfold Builtin.«type.__call__»
  have c1 : typeIn (KK w) (.ref 343) = some (.type "type") := rfl
  have c2 : readsIn (KK w) 343 (.type "type") = true := rfl
  have c3 := br_clsm w
  have c4 : recIn (KK w) 344 "staticmethod" = some [.ref 293] := rfl
  have c5 : handedIn (.ref 293) = true := by decide +kernel
  repeat ((fail_if_success (with_reducible show wpAny _ _ (PySem.call _ _ _) _ _ _)); first | ((with_reducible show wpAny _ _ (getAttr _ _ _) _ _ _); refine cls_sm (K := KK w) F X c1 c2 c3 c4 c5 ?_) | lk)
  refine has_use (gd := gd) (dp := dp + 1) (un := un + 1) (br_new w mean mg mb b n t news) B F X N T hck (by omega) (by omega) ?_
  rintro r tl h' tk' F' N' ⟨x, dx, rfl, rfl⟩
  have X'' := X.keeps F'.keep
  have i1 := br_self (M := model PG w) X''
  have i2 := br_init (M := model PG w) X''
  have i3 : Looks (model PG w) h' (typeOf (.ref x)) (.ref 343) := (Looks.ld (N' (x, _) (.head _)).1).andThen .now
  have i4 := br_made (M := model PG w) X''
  have i5 : Looks (model PG w) h' (isInstance (.ref x) (.type "object")) true := i3.andThen (br_tuple_obj X'')
  dsimp only
  unfold isInstance callSpecial? specialOf
  repeat ((fail_if_success (with_reducible show wpAny _ _ (bindSpecial _ _) _ _ _)); lk)
  rw [oi_bind]
  repeat ((fail_if_success (with_reducible show wpAny _ _ (PySem.call _ _ _) _ _ _)); lk)
  refine wpAny_call ?_
  refine codeAny_call_builtin oi_plain entry_oi (@check_slot (model PG w) _ _ _ "object.__init__" "object" "__init__" (.ref x) [] _ _ oi_kind oi_split i5 (oi_check2 (.ref x) b n t) ?_)
  unfold Builtin.«object.__init__»
  repeat lk
  exact hret _ _ _ _ F' N' ⟨x, dx, rfl, rfl⟩
end
end Mine
/-! W6 -/
namespace Mine
example : True := by
  w_top off
  trivial
example : PySem.Challenge.rw_ax6033_01 = PySem.Challenge.rw_ax6033_01 → hd.heap_39 = hd.heap_39 → True := by
  k_fill
  intros; trivial
local macro_rules | `(tactic| walk_at "M steps") => `(tactic| repeat' ((fail_if_success (with_reducible show wpAny _ _ (exec (Stmt.While _ _ _ _) _) _ _ _)); first | (k_unfold; (try dsimp only)) | (k_end; wrow_close) | walk1 | (dsimp only; walk1) | (leave1; walk_say "STEP leave1"; try dsimp only)))

theorem ti_found (w : World) : findCls (KK w) (.type "tuple") (.type "type") (Str.ofString "__getitem__") = some (.val (.builtin "tuple.__getitem__")) := by kernel_rfl
section
variable {w : World} {A : Around} {E : Value → Shared → Prop} {Q : Value → Shared → Prop} {g : Heap} {L : Addr} {m : Str → Option Value} {news : List (Addr × Obj)} {s : Shared} {R : Result → Shared → Prop} {x dx : Addr} {vs : List Value}
theorem br_type (N : News g L s.heap news) (hm : (x, brObj dx vs) ∈ news) (h : Q (.ref 343) s) : wpAny (model PG w) A (call (.type "type") [.ref x]) Q E s := by
  obtain ⟨hh, g0, d, t, os⟩ := s
  exact call_type_obj (N _ hm).1 rfl h
theorem br_issub (X : (KK w).In s.heap) (h : Q (.bool true) s) : wpAny (model PG w) A (call (.builtin "issubclass") [.ref 343, .type "tuple"]) Q E s := by
  refine call_issubclass (S := fun A R s => (KK w).In s.heap ∧ R (.ok (.ret (.bool true))) s) ?_ ⟨X, h⟩
  intro prog w' A R s h
  refine issubclass_outer ?_
  have := Looks.of_peek (M := model prog w') h.1 (t := Builtin.«issubclass.nested» ⟨[.ref 343, .type "tuple", rawInt 0], []⟩) (r := .done (.ret (.bool true))) (by kernel_rfl)
  exact this.here h.2
theorem ti_args (x : Addr) (k : Int) (t : Tok) : argsOk "tuple.__getitem__" ⟨[.ref x, .int k t], []⟩ := by unfold argsOk; kernel_rfl
theorem ti_kind : builtinKind "tuple.__getitem__" = some .slot := by decide +kernel
theorem ti_split : splitId "tuple.__getitem__" = some ("tuple", "__getitem__") := by decide +kernel
theorem br_item {k : Nat} {t : Tok} {v : Value} (X : (KK w).In s.heap) (N : News g L s.heap news) (hm : (x, brObj dx vs) ∈ news) (hk : k < 100) (hv : vs[k]? = some v) (h : Q v s) : wpAny (model PG w) A (call (.builtin "tuple.__getitem__") [.ref x, .int k t]) Q E s := by
  have hx := (N _ hm).1
  obtain ⟨hh, g0, d, tk, os⟩ := s
  have i3 : Looks (model PG w) hh (typeOf (.ref x)) (.ref 343) := (Looks.ld hx).andThen .now
  have i5 : Looks (model PG w) hh (isInstance (.ref x) (.type "tuple")) true := i3.andThen (br_sub X)
  refine wpAny_call ?_
  refine codeAny_call_builtin slot_tuple_getitem.plain entry_tuple_getitem (@check_slot (model PG w) _ _ _ "tuple.__getitem__" "tuple" "__getitem__" (.ref x) [.int k t] [] _ ti_kind ti_split i5 (ti_args x k t) ?_)
  unfold Builtin.«tuple.__getitem__» Builtin.Tuple.tupleItemsOf
  repeat lk
  rw [if_neg (by simp only [Bool.or_eq_true, decide_eq_true_eq]; omega)]
  have hl : k < vs.length := (List.getElem?_eq_some_iff.mp hv).1
  have e : ((seqIndex? (k : Int) vs.toArray.size).bind fun x => vs.toArray[x]?) = some v := by
    unfold seqIndex?
    simp only [List.size_toArray]
    grind
  rw [e]
  exact wpAny_pure h
end
local macro_rules | `(tactic| walk_at "call type:type") => `(tactic| (k_here; (with_reducible show wpAny _ _ (call (Value.type "type") [Value.ref _]) _ _ _); refine br_type (by k_asm) (by assumption) ?_))
local macro_rules | `(tactic| walk_at "call builtin:issubclass") => `(tactic| (k_here; refine br_issub (Frag.In.keeps (by k_asm) (Fr.keep (by k_asm))) ?_))
local macro_rules | `(tactic| walk_at "getMethod type:tuple") => `(tactic| (k_here; (refine method_type (v := Value.builtin "tuple.__getitem__") (by k_asm) (by k_asm) meta_tuple (by decide +kernel) (ti_found _) (by first | (simp only [handedIn]; done) | decide +kernel) ?_)))

local macro_rules | `(tactic| walk_at "call builtin:tuple.__getitem__") => `(tactic| (k_here; refine br_item (k := 1) (Frag.In.keeps (by k_asm) (Fr.keep (by k_asm))) (by k_asm) (by assumption) (by omega) rfl ?_))
local macro_rules | `(tactic| walk_at "call builtin:tuple.__getitem__") => `(tactic| (k_here; refine br_item (k := 0) (Frag.In.keeps (by k_asm) (Fr.keep (by k_asm))) (by k_asm) (by assumption) (by omega) rfl ?_))
theorem tg_get1 (w : World) (mean : ExcName → Option Value) (mg mb : Str → Option Value) (x dx : Addr) (v0 v1 : Value) (news : List (Addr × Obj)) (hm : (x, brObj dx [v0, v1]) ∈ news) :
    Has w mean mg mb 1 12 205 [.ref 338, .ref x, .ref 343] [] news (fun r tl => r = v1 ∧ tl = []) := by
  refine has_of_body (binds := [(Str.ofString "self", .ref 338), (Str.ofString "obj", .ref x), (Str.ofString "objtype", .ref 343)]) rfl rfl (fun _ => rfl) (locs rfl) (by decide) rfl rfl rfl ?_
  intro dp un gd outer A₀ base g L s B F X N lt T hd hu
  walk_at "M steps"
  exact ret_end [] (by assumption) (by assumption) ⟨rfl, rfl⟩
theorem tg_get0 (w : World) (mean : ExcName → Option Value) (mg mb : Str → Option Value) (x dx : Addr) (v0 v1 : Value) (news : List (Addr × Obj)) (hm : (x, brObj dx [v0, v1]) ∈ news) :
    Has w mean mg mb 1 12 205 [.ref 335, .ref x, .ref 343] [] news (fun r tl => r = v0 ∧ tl = []) := by
  refine has_of_body (binds := [(Str.ofString "self", .ref 335), (Str.ofString "obj", .ref x), (Str.ofString "objtype", .ref 343)]) rfl rfl (fun _ => rfl) (locs rfl) (by decide) rfl rfl rfl ?_
  intro dp un gd outer A₀ base g L s B F X N lt T hd hu
  walk_at "M steps"
  exact ret_end [] (by assumption) (by assumption) ⟨rfl, rfl⟩

section
variable {w : World} {mean : ExcName → Option Value} {mg mb : Str → Option Value}
  {dp un : Nat} {gd : Option (List Code)} {cn : Str} {cs : Scope} {a : Addr} {ccd : Value} {cl : List (Str × Addr)} {outer : List Env} {A₀ : Around} {base h₀ : Heap} {L : Addr} {m : Str → Option Value} {s : Shared} {Q E : Value → Shared → Prop} {news : List (Addr × Obj)} {x dx : Addr} {v0 v1 : Value} {expr : Bool}
theorem br_inst (N : News h₀ L s.heap news) (hm : (x, brObj dx [v0, v1]) ∈ news) (hm2 : (dx, emptyDict) ∈ news) : InstAt s.heap x (brObj dx [v0, v1]) 343 (some emptyDict) := ⟨(N _ hm).1, rfl, rfl, (N _ hm2).1⟩
theorem br_f1 (w : World) : findObj (KK w) 343 (some emptyDict) (Str.ofString "ri_count") = some (.bind (.ref 205) (.ref 338)) := by kernel_rfl
theorem br_f0 (w : World) : findObj (KK w) 343 (some emptyDict) (Str.ofString "should_break") = some (.bind (.ref 205) (.ref 335)) := by kernel_rfl
theorem tga_entry : entryFor table "tuple.__getattribute__" = some Builtin.«object.__getattribute__» := entryFor_alias (id' := "object.__getattribute__") (by kernel_rfl) (by first | rfl | decide +kernel) (by decide +kernel) (by kernel_rfl)
theorem tga_bind (self : Value) : bindSpecial (.builtin "tuple.__getattribute__") self = pure (.builtin "tuple.__getattribute__", [self]) := by kernel_rfl
theorem tga_kind : builtinKind "tuple.__getattribute__" = some .slot := by decide +kernel
theorem tga_plain : plainId "tuple.__getattribute__" = true := by decide +kernel
theorem tga_split : splitId "tuple.__getattribute__" = some ("tuple", "__getattribute__") := by decide +kernel
theorem tga_args (x : Addr) (k : Str) (t : Tok) : argsOk "tuple.__getattribute__" ⟨[.ref x, .str k t], []⟩ := by unfold argsOk; kernel_rfl
theorem br_hook {M : Model} {h : Heap} (X : (KK w).In h) : Looks M h (hookBefore (.ref 343)) none := Looks.of_peek X (by kernel_rfl)
theorem br_get {A : Around} {name : Str} {g b : Value} {od : Option Obj} {ox : Obj} (X : (KK w).In s.heap) (I : InstAt s.heap x ox 343 od) (hf : findObj (KK w) 343 od name = some (.bind g b))
    (h : wpAny (model PG w) A.in1 (call g [b, .ref x, .ref 343]) (fun v s' => wpAny (model PG w) A (handedOut v) Q E s') (fun _ _ => False) { s with toks := s.toks + 1 }) :
    wpAny (model PG w) A (getAttr (.ref x) name expr) Q E s := by
  obtain ⟨hh, g0, d, t, os⟩ := s
  have L0 := I.type (M := model PG w)
  have L1 : Looks (model PG w) hh (typeLookup (.ref 343) "__getattribute__") (some (Value.builtin "tuple.__getattribute__")) := looks_findIn X (by kernel_rfl)
  have L2 := br_hook (M := model PG w) X
  have L3 := looks_find (M := model PG w) X I hf
  have i5 : Looks (model PG w) hh (isInstance (.ref x) (.type "tuple")) true := L0.andThen (br_sub X)
  unfold getAttr getAttrBy
  refine wpAny_bind (wpAny_mkText (wpAny_holding (wpAny_bind (L0.at (wpAny_bind (L1.at ?_))))))
  dsimp only
  rw [if_neg (by decide +kernel)]
  unfold getAttrByItsOwn
  refine wpAny_bind (L2.at (wpAny_bind (wpAny_attempt (wpAny_holding ?_))))
  unfold callGetattribute
  rw [if_neg (by simp [onTheHeap])]
  unfold boundAndCalled
  rw [tga_bind]
  refine wpAny_bind (wpAny_pure ?_)
  show wpAny _ _ (call (.builtin "tuple.__getattribute__") [.ref x, .str name t]) _ _ _
  refine wpAny_call ?_
  refine codeAny_call_builtin tga_plain tga_entry (@check_slot (model PG w) _ _ ⟨hh, g0, d, t + 1, os⟩ "tuple.__getattribute__" "tuple" "__getattribute__" (.ref x) [.str name t] [] _ tga_kind tga_split i5 (tga_args x name t) ?_)
  unfold Builtin.«object.__getattribute__»
  repeat ((fail_if_success (with_reducible show wpAny _ _ (PySem.call _ _) _ _ _)); lk)
  exact wpAny_mono h (fun v s' z => wpAny_pure z) fun _ _ z => z.elim
theorem br_attr1 (hm : (x, brObj dx [v0, v1]) ∈ news) (hm2 : (dx, emptyDict) ∈ news) (hv : handedIn v1 = true) (B : Below A₀ base outer h₀) (F : Fr h₀ L s.heap m) (X : (hd.heap_39 w.params).In h₀) (N : News h₀ L s.heap news) (T : Top VW LW mean mg mb h₀) (hk : cs.kind = .function) (hd : dp + 3 < recursionLimit) (hu : un + 20 < cLine)
    (h : ∀ h' tk', Fr h₀ L h' m → News h₀ L h' news → Q v1 { s with heap := h', toks := tk' }) :
    wpAny (model PG w) (ktrTop dp un gd cn cs L a ccd cl outer) (getAttr (.ref x) (Str.ofString "ri_count") expr) Q E s := by
  refine br_get (X.keeps F.keep) (br_inst N hm hm2) (br_f1 w) ?_
  refine has_use (gd := gd) (dp := dp) (un := un + 1) (s := { s with toks := s.toks + 1 }) (tg_get1 w mean mg mb x dx v0 v1 news hm) B F X N T hk (by omega) (by omega) ?_
  rintro r tl h' tk' F' N' ⟨rfl, rfl⟩
  dsimp only
  rw [handedOut_of hv]
  exact wpAny_pure (h h' tk' F' N')
theorem br_attr0 (hm : (x, brObj dx [v0, v1]) ∈ news) (hm2 : (dx, emptyDict) ∈ news) (hv : handedIn v0 = true) (B : Below A₀ base outer h₀) (F : Fr h₀ L s.heap m) (X : (hd.heap_39 w.params).In h₀) (N : News h₀ L s.heap news) (T : Top VW LW mean mg mb h₀) (hk : cs.kind = .function) (hd : dp + 3 < recursionLimit) (hu : un + 20 < cLine)
    (h : ∀ h' tk', Fr h₀ L h' m → News h₀ L h' news → Q v0 { s with heap := h', toks := tk' }) :
    wpAny (model PG w) (ktrTop dp un gd cn cs L a ccd cl outer) (getAttr (.ref x) (Str.ofString "should_break") expr) Q E s := by
  refine br_get (X.keeps F.keep) (br_inst N hm hm2) (br_f0 w) ?_
  refine has_use (gd := gd) (dp := dp) (un := un + 1) (s := { s with toks := s.toks + 1 }) (tg_get0 w mean mg mb x dx v0 v1 news hm) B F X N T hk (by omega) (by omega) ?_
  rintro r tl h' tk' F' N' ⟨rfl, rfl⟩
  dsimp only
  rw [handedOut_of hv]
  exact wpAny_pure (h h' tk' F' N')
end
end Mine
/-! W7 -/
namespace Mine
example : True := by
  w_top off
  trivial
local macro_rules | `(tactic| walk_at "M pad") => `(tactic| skip)
local macro_rules | `(tactic| walk_at "M pad") => `(tactic| skip)
example : PySem.Challenge.rw_ax6033_01 = PySem.Challenge.rw_ax6033_01 → hd.heap_39 = hd.heap_39 → True := by
  k_fill
  intros; trivial
local macro_rules | `(tactic| walk_at "M steps") => `(tactic| repeat' ((fail_if_success (with_reducible show wpAny _ _ (exec (Stmt.While _ _ _ _) _) _ _ _)); first | (k_unfold; (try dsimp only)) | (k_end; wrow_close) | walk1 | (dsimp only; walk1) | (leave1; walk_say "STEP leave1"; try dsimp only)))
local macro_rules | `(tactic| walk_at "M has") => `(tactic| ((case hB => k_asm); (case hF => k_asm); (case hX => k_asm); (case hN => k_asm); (case hT => k_asm); (case hK => exact rfl); (case hd => omega); (case hu => omega)))
section
variable {w : World} {mean : ExcName → Option Value} {mg mb : Str → Option Value}
  {dp un : Nat} {gd : Option (List Code)} {cn : Str} {cs : Scope} {a : Addr} {ccd : Value} {cl : List (Str × Addr)} {outer : List Env} {A₀ : Around} {base h₀ : Heap} {L : Addr} {m : Str → Option Value} {s : Shared} {Q E : Value → Shared → Prop} {news : List (Addr × Obj)}
theorem br_use {b : Bool} {n : Int} {t : Tok} (B : Below A₀ base outer h₀) (F : Fr h₀ L s.heap m) (X : (hd.heap_39 w.params).In h₀) (N : News h₀ L s.heap news) (T : Top VW LW mean mg mb h₀) (hk : cs.kind = .function) (hd : dp + 3 < recursionLimit) (hu : un + 20 < cLine)
    (h : ∀ x dx h' tk', Fr h₀ L h' m → News h₀ L h' ((x, brObj dx [.bool b, .int n t]) :: (dx, emptyDict) :: news) → Q (.ref x) { s with heap := h', toks := tk' }) :
    wpAny (model PG w) (ktrTop dp un gd cn cs L a ccd cl outer) (call (.ref 343) [] [(Str.ofString "should_break", .bool b), (Str.ofString "ri_count", .int n t)]) Q E s :=
  has_use (br_make w mean mg mb b n t news) B F X N T hk hd hu fun r tl h' tk' F' N' o => by
    obtain ⟨x, dx, e1, e2⟩ := o
    subst e1 e2
    exact h x dx h' tk' F' N'
end
def OBr (res : Option (Bool × Int)) (r : Value) (tl : List (Addr × Obj)) : Prop := match res with
  | none => r = .none ∧ tl = []
  | some (b, n) => ∃ x dx t, r = .ref x ∧ tl = [(x, brObj dx [.bool b, .int n t]), (dx, emptyDict)]
def simpleS (p c : Int) : Option (Bool × Int) :=
  if p = 1 ∧ c = 2 then some (false, 0)
  else if p = 3 ∨ p = 1 ∨ p = 2 then some (true, if c = 6 then 1 else 0)
  else if c = 3 ∨ c = 1 ∨ c = 2 then some (true, 0)
  else if p = 9 ∧ (c = 9 ∨ c = 10 ∨ c = 12 ∨ c = 13) then some (false, 0)
  else if (p = 12 ∨ p = 10) ∧ (c = 10 ∨ c = 11) then some (false, 0)
  else if (p = 13 ∨ p = 11) ∧ c = 11 then some (false, 0)
  else if c = 4 then some (false, 0)
  else if c = 8 then some (false, 0)
  else if p = 7 then some (false, if c = 6 then 1 else 0)
  else none
section
variable {prog : Program} {w : World} {A : Around} {E : Value → Shared → Prop} {Q : Flow → Shared → Prop} {s : Shared} {env : Env} {g : Heap} {L : Addr} {m : Str → Option Value} {news : List (Addr × Obj)}
def Cut (g : Heap) (L : Addr) (m : Str → Option Value) (news : List (Addr × Obj)) (s : Shared) (C : Prop) (b : Bool) (s' : Shared) : Prop :=
  (b = true ↔ C) ∧ ∃ h' tk', s' = { s with heap := h', toks := tk' } ∧ Fr g L h' m ∧ News g L h' news
/-- an if whose test is walked apart: its ways meet -/
theorem if_cut {test : Expr} {body orelse : List Stmt} {pos : Pos} (_F : Fr g L s.heap m) (_N : News g L s.heap news) (C : Prop)
    (h1 : wpAny (model prog w) A (isTrue test env (eval test env)) (Cut g L m news s C) E s)
    (h2 : C → ∀ h' tk', Fr g L h' m → News g L h' news → wpAny (model prog w) A (execs body env) Q E { s with heap := h', toks := tk' })
    (h3 : ¬ C → ∀ h' tk', Fr g L h' m → News g L h' news → wpAny (model prog w) A (execs orelse env) Q E { s with heap := h', toks := tk' }) :
    wpAny (model prog w) A (exec (.If test body orelse pos) env) Q E s := by
  refine wpAny_If (wpAny_mono h1 (fun b s' c => ?_) fun _ _ x => x)
  obtain ⟨hb, h', tk', rfl, F, N⟩ := c
  cases b with
  | true => rw [if_pos rfl]; exact h2 (hb.mp rfl) h' tk' F N
  | false => rw [if_neg Bool.false_ne_true]; exact h3 (fun c => Bool.false_ne_true (hb.mpr c)) h' tk' F N
theorem cut_end {C : Prop} {b : Bool} {h' : Heap} {tk' : Nat} {tl : List (Addr × Obj)} (F : Fr g L h' m) (N : News g L h' tl) (hs : ∀ p ∈ news, p ∈ tl) (hb : b = true ↔ C) : Cut g L m news s C b { s with heap := h', toks := tk' } :=
  ⟨hb, h', tk', rfl, F, fun p hp => N p (hs p hp)⟩
end
local macro_rules | `(tactic| walk_at "call ref") => `(tactic| (k_here; (refine' br_use ?hB ?hF ?hX ?hN ?hT ?hK ?hd ?hu ?_); walk_at "M has"; intro _ _ _ _ _ _; (try k_sweep)))

local macro_rules | `(tactic| walk_at "callWith ref") => `(tactic| (k_here; k_dflt (refine callWith_KW0 (K := KK _) (by k_in) (by exact rfl) (by exact rfl) ?_)))
local macro_rules | `(tactic| walk_at "M if") => `(tactic| repeat' ((fail_if_success (with_reducible show wpAny _ _ (exec (Stmt.While _ _ _ _) _) _ _ _)); (fail_if_success (with_reducible show wpAny _ _ (exec (Stmt.If _ _ _ _) _) _ _ _)); first | (k_unfold; (try dsimp only)) | (k_end; wrow_close) | walk1 | (dsimp only; walk1) | (leave1; walk_say "STEP leave1"; try dsimp only)))
local macro_rules | `(tactic| walk_at "M cut") => `(tactic| (walk_at "M steps"; (all_goals (refine cut_end (by assumption) (by assumption) (by first | exact fun _ h => h | exact fun _ h => .tail _ h | exact fun _ h => .tail _ (.tail _ h)) ?_)); (all_goals (first | (simp; done) | (simp [*]; done) | (simp_all; done) | grind))))
section
variable {g h' : Heap} {L : Addr} {news : List (Addr × Obj)} {s₀ : Shared} {tk' : Nat} {m' : Str → Option Value} {x dx : Addr} {b : Bool} {n : Int} {t : Tok} {res : Option (Bool × Int)}
theorem br_ret (F : Fr g L h' m') (N : News g L h' ((x, brObj dx [.bool b, .int n t]) :: (dx, emptyDict) :: news)) (e : res = some (b, n)) : RetF g L news s₀ (OBr res) (.ret (.ref x)) { s₀ with heap := h', toks := tk' } := by
  subst e
  exact ret_end [(x, brObj dx [.bool b, .int n t]), (dx, emptyDict)] F N ⟨x, dx, t, rfl, rfl⟩
end
theorem simple (w : World) (mean : ExcName → Option Value) (mg mb : Str → Option Value) (p c : Int) (t u : Tok) (news : List (Addr × Obj)) : Has w mean mg mb 4 30 353 [.int p t, .int c u] [] news (OBr (simpleS p c)) := by
  refine has_of_body (binds := [(Str.ofString "prev_gcb", .int p t), (Str.ofString "curr_gcb", .int c u)]) rfl rfl (fun _ => rfl) (locs rfl) (by decide) rfl rfl rfl ?_
  intro dp un gd outer A₀ base g L s B F X N lt T hd hu
  walk_at "M if"
  refine if_cut (by k_asm) (by k_asm) (p = 1 ∧ c = 2) ?_ ?_ ?_
  · walk_at "M cut"
  · intro h0 h9 tk9 F9 N9
    walk_at "M steps"
    all_goals exact br_ret (by assumption) (by assumption) (by unfold simpleS; simp [*])
  intro h0 h9 tk9 F9 N9
  (try k_sweep)
  walk_at "M if"
  refine if_cut (by k_asm) (by k_asm) (p = 3 ∨ p = 1 ∨ p = 2) ?_ ?_ ?_
  · walk_at "M cut"
  · intro h1 h9 tk9 F9 N9
    walk_at "M steps"
    all_goals exact br_ret (by assumption) (by assumption) (by unfold simpleS; simp [*])
  intro h1 h9 tk9 F9 N9
  (try k_sweep)
  walk_at "M if"
  refine if_cut (by k_asm) (by k_asm) (c = 3 ∨ c = 1 ∨ c = 2) ?_ ?_ ?_
  · walk_at "M cut"
  · intro h2 h9 tk9 F9 N9
    walk_at "M steps"
    all_goals exact br_ret (by assumption) (by assumption) (by unfold simpleS; simp [*])
  intro h2 h9 tk9 F9 N9
  (try k_sweep)
  walk_at "M if"
  refine if_cut (by k_asm) (by k_asm) (p = 9 ∧ (c = 9 ∨ c = 10 ∨ c = 12 ∨ c = 13)) ?_ ?_ ?_
  · walk_at "M cut"
  · intro h3 h9 tk9 F9 N9
    walk_at "M steps"
    all_goals exact br_ret (by assumption) (by assumption) (by unfold simpleS; simp [*])
  intro h3 h9 tk9 F9 N9
  (try k_sweep)
  walk_at "M if"
  refine if_cut (by k_asm) (by k_asm) ((p = 12 ∨ p = 10) ∧ (c = 10 ∨ c = 11)) ?_ ?_ ?_
  · walk_at "M cut"
  · intro h4 h9 tk9 F9 N9
    walk_at "M steps"
    all_goals exact br_ret (by assumption) (by assumption) (by unfold simpleS; simp [*])
  intro h4 h9 tk9 F9 N9
  (try k_sweep)
  walk_at "M if"
  refine if_cut (by k_asm) (by k_asm) ((p = 13 ∨ p = 11) ∧ c = 11) ?_ ?_ ?_
  · walk_at "M cut"
  · intro h5 h9 tk9 F9 N9
    walk_at "M steps"
    all_goals exact br_ret (by assumption) (by assumption) (by unfold simpleS; simp [*])
  intro h5 h9 tk9 F9 N9
  (try k_sweep)
  walk_at "M if"
  refine if_cut (by k_asm) (by k_asm) (c = 4) ?_ ?_ ?_
  · walk_at "M cut"
  · intro h6 h9 tk9 F9 N9
    walk_at "M steps"
    all_goals exact br_ret (by assumption) (by assumption) (by unfold simpleS; simp [*])
  intro h6 h9 tk9 F9 N9
  (try k_sweep)
  walk_at "M if"
  refine if_cut (by k_asm) (by k_asm) (c = 8) ?_ ?_ ?_
  · walk_at "M cut"
  · intro h7 h9 tk9 F9 N9
    walk_at "M steps"
    all_goals exact br_ret (by assumption) (by assumption) (by unfold simpleS; simp [*])
  intro h7 h9 tk9 F9 N9
  (try k_sweep)
  walk_at "M if"
  refine if_cut (by k_asm) (by k_asm) (p = 7) ?_ ?_ ?_
  · walk_at "M cut"
  · intro h8 h9 tk9 F9 N9
    walk_at "M steps"
    all_goals exact br_ret (by assumption) (by assumption) (by unfold simpleS; simp [*])
  intro h8 h9 tk9 F9 N9
  (try k_sweep)
  walk_at "M if"
  · exact ret_end [] (by assumption) (by assumption) (by unfold simpleS; simp [*, OBr])
end Mine
/-! W8 -/
namespace Mine
example : True := by
  w_top off
  trivial
example : PySem.Challenge.rw_ax6033_01 = PySem.Challenge.rw_ax6033_01 → hd.heap_39 = hd.heap_39 → True := by
  k_fill
  intros; trivial
/-! texts as lists of numbers -/
def txt (l : List Nat) : Str := ⟨l.toArray⟩
def cp (l : List Nat) (i : Int) : Nat := l.getD i.toNat 0
/-- what stands ahead of place k, the nearest first -/
def rv (l : List Nat) (k : Nat) : List Nat := (l.take k).reverse
theorem rv_zero (l : List Nat) : rv l 0 = [] := rfl
theorem rv_succ {l : List Nat} {k : Nat} (h : k < l.length) : rv l (k + 1) = l.getD k 0 :: rv l k := by
  unfold rv
  rw [List.take_add_one, List.reverse_append]
  simp [h]
theorem txt_length (l : List Nat) : (txt l).length = l.length := by simp [txt, Str.length]
section
variable {prog : Program} {w : World} {A : Around} {E : Value → Shared → Prop} {s : Shared} {value slice : Expr} {l : List Nat} {t u : Tok} {Q : Value → Shared → Prop}
theorem item_ch {i : Int} (h0 : 0 ≤ i) (h1 : i < l.length) (hl : l.length ≤ 1000)
    (h : ∀ t' tk', Q (.str ⟨#[cp l i]⟩ t') { s with toks := tk' })
    (hs : subscripted slice false (.str (txt l) t) (.int i u) = operate [.str (txt l) t, .int i u] (getItem (.str (txt l) t) (.int i u)) := by with_unfolding_all rfl)
    (ht : ∀ r, letTemporaryGo value (.str (txt l) t) r = pure () := by intro _; with_unfolding_all rfl) :
    wpAny (model prog w) A (subscriptTail value slice (.str (txt l) t) (.int i u)) Q E s := by
  have hn : (txt l).cps[i.toNat]? = some (cp l i) := by
    have : i.toNat < l.length := by omega
    simp [txt, cp, this]
  refine item_str (fitsSsize_of (N := 9223372036854775808) (by omega) (by omega) (Int.le_refl _)) (by rw [txt_length]; omega) (by rw [txt_length]; omega) (fun _ => ?_) hs ht
  rw [item_meets h0 hn]
  exact h _ _
end

section
variable {prog : Program} {w : World} {A : Around} {E : Value → Shared → Prop} {Q : Flow → Shared → Prop} {s : Shared} {env : Env} {g : Heap} {L : Addr} {m : Str → Option Value} {news : List (Addr × Obj)}
/-- how a statement ends: it goes on in a frame that bears ps and C holds, or it leaves -/
def SCut (g : Heap) (L : Addr) (news : List (Addr × Obj)) (s : Shared) (ps : List (Str × Value)) (C : Prop) (Q : Flow → Shared → Prop) (f : Flow) (s' : Shared) : Prop := match f with
  | .next => C ∧ ∃ h' tk' m', s' = { s with heap := h', toks := tk' } ∧ Fr g L h' m' ∧ News g L h' news ∧ ∀ p ∈ ps, m' p.1 = some p.2
  | f => Q f s'
theorem scut_next {ps : List (Str × Value)} {C : Prop} {h' : Heap} {tk' : Nat} {tl : List (Addr × Obj)} {m' : Str → Option Value} (F : Fr g L h' m') (N : News g L h' tl) (hs : ∀ p ∈ news, p ∈ tl) (hk : ∀ p ∈ ps, m' p.1 = some p.2) (hC : C) : SCut g L news s ps C Q .next { s with heap := h', toks := tk' } :=
  ⟨hC, h', tk', m', rfl, F, fun p hp => N p (hs p hp), hk⟩
theorem scut_ret {ps : List (Str × Value)} {C : Prop} {v : Value} {s' : Shared} (h : Q (.ret v) s') : SCut g L news s ps C Q (.ret v) s' := h
theorem stmt_cut {st : Stmt} (ps : List (Str × Value)) (C : Prop) (_F : Fr g L s.heap m) (_N : News g L s.heap news) (_hk : ∀ p ∈ ps, m p.1 = some p.2)
    (h1 : wpAny (model prog w) A (exec st env) (SCut g L news s ps C Q) E s)
    (h2 : C → ∀ u h' tk', Fr g L h' (kstB u ps) → News g L h' news → Q .next { s with heap := h', toks := tk' }) :
    wpAny (model prog w) A (exec st env) Q E s := by
  refine wpAny_mono h1 (fun f s' c => ?_) fun _ _ x => x
  cases f with
  | next =>
    obtain ⟨hC, h', tk', m', rfl, F, N, hk⟩ := c
    exact h2 hC m' h' tk' (by rw [kst_same hk]; exact F) N
  | ret v => exact c
  | brk => exact c
  | cont => exact c
def WOut {σ : Type} (g : Heap) (L : Addr) (s : Shared) (news : List (Addr × Obj)) (ps : σ → List (Str × Value)) (R : σ → Prop) (c : σ) (s' : Shared) : Prop :=
  ∃ h' tk' m', s' = { s with heap := h', toks := tk' } ∧ Fr g L h' m' ∧ News g L h' news ∧ (∀ p ∈ ps c, m' p.1 = some p.2) ∧ R c
theorem w_out {σ : Type} {ps : σ → List (Str × Value)} {R : σ → Prop} {c : σ} {h' : Heap} {tk' : Nat} {tl : List (Addr × Obj)} {m' : Str → Option Value} (F : Fr g L h' m') (N : News g L h' tl) (hs : ∀ p ∈ news, p ∈ tl) (hk : ∀ p ∈ ps c, m' p.1 = some p.2) (hr : R c) :
    WOut g L s news ps R c { s with heap := h', toks := tk' } := ⟨h', tk', m', rfl, F, fun p hp => N p (hs p hp), hk, hr⟩
/-- what holds when the loop is left by its test or by break -/
def WPostC {σ : Type} (g : Heap) (L : Addr) (s : Shared) (news : List (Addr × Obj)) (ps : σ → List (Str × Value)) (P R : σ → Prop) (μ : σ → Nat) (Q : Flow → Shared → Prop) (c : σ) (f : Flow) (s₂ : Shared) : Prop :=
  match f with
  | .ret v => Q (.ret v) s₂
  | .brk => ∃ c', WOut g L s news ps R c' s₂
  | _ => WEnd g L s news ps P μ c s₂
theorem while_cut {σ : Type} {test : Expr} {body : List Stmt} {pos : Pos} {m₀ : Str → Option Value} (ps : σ → List (Str × Value)) (P R : σ → Prop) (μ : σ → Nat) (c₀ : σ)
    (F : Fr g L s.heap m₀) (N : News g L s.heap news) (hk : ∀ p ∈ ps c₀, m₀ p.1 = some p.2) (hp : P c₀) (hE : PassesOwn (model prog w) A env E)
    (turn : ∀ (c : σ) (u : Str → Option Value) h tk, P c → Fr g L h (kstB u (ps c)) → News g L h news →
      wpAny (model prog w) A (isTrue test env (eval test env)) (fun b s₂ =>
        if b = true then wpAny (model prog w) A (execs body env) (WPostC g L s news ps P R μ Q c) E s₂ else WOut g L s news ps R c s₂) E { s with heap := h, toks := tk })
    (done : ∀ (c : σ) (u : Str → Option Value) h tk, R c → Fr g L h (kstB u (ps c)) → News g L h news → Q .next { s with heap := h, toks := tk }) :
    wpAny (model prog w) A (exec (.While test body [] pos) env) Q E s := by
  have out : ∀ c s₂, WOut g L s news ps R c s₂ → Q .next s₂ := by
    rintro c s₂ ⟨h', tk', m', rfl, F', N', hk', hr⟩
    exact done c m' h' tk' hr (by rw [kst_same hk']; exact F') N'
  refine while_ ps P μ c₀ F N hk hp hE fun c u h tk hp F N => wpAny_mono (turn c u h tk hp F N) (fun b s₂ q => ?_) fun _ _ x => x
  cases b with
  | false =>
    rw [if_neg Bool.false_ne_true] at q ⊢
    exact out c s₂ q
  | true =>
    rw [if_pos rfl] at q ⊢
    refine wpAny_mono q (fun f s₃ r => ?_) fun _ _ x => x
    cases f with
    | ret v => exact r
    | brk => obtain ⟨c', r⟩ := r; exact out c' s₃ r
    | next => exact r
    | cont => exact r
end
noncomputable def linkR (w : World) : List Nat → Bool
  | [] => false
  | c :: r => if inT w 183 c then linkR w r else inT w 147 c
noncomputable def pictR (w : World) : List Nat → Bool
  | [] => false
  | c :: r => if gcbS w c = 4 then pictR w r else inT w 142 c
section
variable {w : World} {l : List Nat} {k : Int}
theorem rv_at (h0 : 0 ≤ k) (h1 : k < l.length) : rv l (k + 1).toNat = cp l k :: rv l k.toNat := by
  have : (k + 1).toNat = k.toNat + 1 := by omega
  rw [this, rv_succ (by omega)]; rfl
theorem link_go (h0 : 0 ≤ k) (h1 : k < l.length) (h : inT w 183 (cp l k) = true) : linkR w (rv l (k + 1).toNat) = linkR w (rv l k.toNat) := by
  rw [rv_at h0 h1, linkR, if_pos h]
theorem link_stop (h0 : 0 ≤ k) (h1 : k < l.length) (h : inT w 183 (cp l k) = false) : linkR w (rv l (k + 1).toNat) = inT w 147 (cp l k) := by
  rw [rv_at h0 h1, linkR, if_neg (by rw [h]; decide)]
theorem pict_go (h0 : 0 ≤ k) (h1 : k < l.length) (h : gcbS w (cp l k) = 4) : pictR w (rv l (k + 1).toNat) = pictR w (rv l k.toNat) := by
  rw [rv_at h0 h1, pictR, if_pos h]
theorem pict_stop (h0 : 0 ≤ k) (h1 : k < l.length) (h : ¬ gcbS w (cp l k) = 4) : pictR w (rv l (k + 1).toNat) = inT w 142 (cp l k) := by
  rw [rv_at h0 h1, pictR, if_neg h]
theorem rv_tail (h0 : 1 ≤ k) (h1 : k < l.length) : (rv l k.toNat).tail = rv l (k - 1).toNat := by
  have : k.toNat = (k - 1).toNat + 1 := by omega
  rw [this, rv_succ (by omega)]; rfl
end
noncomputable def shouldR (w : World) (p c : Int) (r : List Nat) (cu : Nat) (ri : Int) : Bool × Int :=
  match simpleS p c with
  | some v => v
  | none =>
    if c = 5 then (false, 0)
    else if inT w 154 cu = true ∧ linkR w r = true then (false, 0)
    else if p = 5 ∧ inT w 142 cu = true ∧ pictR w r.tail = true then (false, 0)
    else if p = 6 ∧ c = 6 then (if Int.fmod ri 2 = 1 then (false, ri + 1) else (true, 1))
    else (true, if c = 6 then 1 else 0)

local macro_rules | `(tactic| walk_at "M steps") => `(tactic| repeat' ((fail_if_success (with_reducible show wpAny _ _ (exec (Stmt.While _ _ _ _) _) _ _ _)); first | (k_unfold; (try dsimp only)) | (k_end; wrow_close) | walk1 | (dsimp only; walk1) | (leave1; walk_say "STEP leave1"; try dsimp only)))
local macro_rules | `(tactic| walk_at "M if") => `(tactic| repeat' ((fail_if_success (with_reducible show wpAny _ _ (exec (Stmt.While _ _ _ _) _) _ _ _)); (fail_if_success (with_reducible show wpAny _ _ (exec (Stmt.If _ _ _ _) _) _ _ _)); first | (k_unfold; (try dsimp only)) | (k_end; wrow_close) | walk1 | (dsimp only; walk1) | (leave1; walk_say "STEP leave1"; try dsimp only)))
local macro_rules | `(tactic| walk_at "M has") => `(tactic| ((case hB => k_asm); (case hF => k_asm); (case hX => k_asm); (case hN => k_asm); (case hT => k_asm); (case hK => exact rfl); (case hd => omega); (case hu => omega)))
local macro_rules | `(tactic| walk_at "M item") => `(tactic| (k_here; (with_reducible show wpAny _ _ (subscriptTail _ _ (Value.str (txt _) _) (Value.int _ _)) _ _ _); k_dflt (refine item_ch (by omega) (by omega) (by assumption) ?_); intro _ _))
local macro_rules | `(tactic| walk_at "subscriptTail Name Name str int") => `(tactic| walk_at "M item")
local macro_rules | `(tactic| walk_at "subscriptTail Name BinOp str int") => `(tactic| walk_at "M item")
local macro_rules | `(tactic| walk_at "call builtin:ord") => `(tactic| (k_here; (with_reducible show wpAny _ _ (call (Value.builtin "ord") [Value.str (Str.mk _) _]) _ _ _); refine P.ord_of_char ?_))
section
variable {w : World} {p c ri : Int} {r : List Nat} {cu : Nat}
theorem sR0 {v : Bool × Int} (h : simpleS p c = some v) : some (shouldR w p c r cu ri) = some v := by unfold shouldR; rw [h]
theorem sR1 (h : simpleS p c = none) (h1 : c = 5) : some (shouldR w p c r cu ri) = some (false, 0) := by unfold shouldR; rw [h]; simp [h1]
theorem sR2 (h : simpleS p c = none) (h1 : ¬ c = 5) (h2 : inT w 154 cu = true ∧ linkR w r = true) : some (shouldR w p c r cu ri) = some (false, 0) := by unfold shouldR; rw [h]; simp [h1, h2]
theorem sR3 (h : simpleS p c = none) (h1 : ¬ c = 5) (h2 : ¬ (inT w 154 cu = true ∧ linkR w r = true)) (h3 : p = 5 ∧ inT w 142 cu = true ∧ pictR w r.tail = true) : some (shouldR w p c r cu ri) = some (false, 0) := by
  unfold shouldR; rw [h]; dsimp only; rw [if_neg h1, if_neg h2, if_pos h3]
theorem sR4 (h : simpleS p c = none) (h1 : ¬ c = 5) (h2 : ¬ (inT w 154 cu = true ∧ linkR w r = true)) (h3 : ¬ (p = 5 ∧ inT w 142 cu = true ∧ pictR w r.tail = true)) (h4 : p = 6 ∧ c = 6) (h5 : Int.fmod ri 2 = 1) : some (shouldR w p c r cu ri) = some (false, ri + 1) := by
  unfold shouldR; rw [h]; dsimp only; rw [if_neg h1, if_neg h2, if_neg h3, if_pos h4, if_pos h5]
theorem sR5 (h : simpleS p c = none) (h1 : ¬ c = 5) (h2 : ¬ (inT w 154 cu = true ∧ linkR w r = true)) (h3 : ¬ (p = 5 ∧ inT w 142 cu = true ∧ pictR w r.tail = true)) (h4 : p = 6 ∧ c = 6) (h5 : ¬ Int.fmod ri 2 = 1) : some (shouldR w p c r cu ri) = some (true, 1) := by
  unfold shouldR; rw [h]; dsimp only; rw [if_neg h1, if_neg h2, if_neg h3, if_pos h4, if_neg h5]
theorem sR6 (h : simpleS p c = none) (h1 : ¬ c = 5) (h2 : ¬ (inT w 154 cu = true ∧ linkR w r = true)) (h3 : ¬ (p = 5 ∧ inT w 142 cu = true ∧ pictR w r.tail = true)) (h4 : ¬ (p = 6 ∧ c = 6)) : some (shouldR w p c r cu ri) = some (true, if c = 6 then 1 else 0) := by
  unfold shouldR; rw [h]; dsimp only; rw [if_neg h1, if_neg h2, if_neg h3, if_neg h4]
end

section
variable {w : World} {mean : ExcName → Option Value} {mg mb : Str → Option Value}
  {dp un : Nat} {gd : Option (List Code)} {cn : Str} {cs : Scope} {a : Addr} {ccd : Value} {cl : List (Str × Addr)} {outer : List Env} {A₀ : Around} {base h₀ : Heap} {L : Addr} {m : Str → Option Value} {s : Shared} {Q E : Value → Shared → Prop} {news : List (Addr × Obj)}
theorem simple_use {p c : Int} {t u : Tok} (B : Below A₀ base outer h₀) (F : Fr h₀ L s.heap m) (X : (hd.heap_39 w.params).In h₀) (N : News h₀ L s.heap news) (T : Top VW LW mean mg mb h₀) (hk : cs.kind = .function) (hd : dp + 4 < recursionLimit) (hu : un + 30 < cLine)
    (h1 : ∀ b n t' x dx h' tk', simpleS p c = some (b, n) → Fr h₀ L h' m → News h₀ L h' ((x, brObj dx [.bool b, .int n t']) :: (dx, emptyDict) :: news) → Q (.ref x) { s with heap := h', toks := tk' })
    (h0 : ∀ h' tk', simpleS p c = none → Fr h₀ L h' m → News h₀ L h' news → Q .none { s with heap := h', toks := tk' }) :
    wpAny (model PG w) (ktrTop dp un gd cn cs L a ccd cl outer) (call (.ref 353) [.int p t, .int c u]) Q E s :=
  has_use (simple w mean mg mb p c t u news) B F X N T hk hd hu fun r tl h' tk' F' N' o => by
    cases hS : simpleS p c with
    | none =>
      rw [hS] at o
      obtain ⟨e1, e2⟩ := o
      subst e1 e2
      exact h0 h' tk' hS F' N'
    | some v =>
      obtain ⟨b, n⟩ := v
      rw [hS] at o
      obtain ⟨x, dx, t', e1, e2⟩ := o
      subst e1 e2
      exact h1 b n t' x dx h' tk' hS F' N'
end
local macro_rules | `(tactic| walk_at "call ref") => `(tactic| (k_here; (with_reducible show wpAny _ _ (call (Value.ref _) [Value.int _ _, Value.int _ _] []) _ _ _); (refine' simple_use ?hB ?hF ?hX ?hN ?hT ?hK ?hd ?hu ?_ ?_); walk_at "M has"; (all_goals (intros; (try k_sweep)))))
local macro_rules | `(tactic| walk_at "call ref") => `(tactic| (k_here; (with_reducible show wpAny _ _ (call (Value.ref _) [Value.int _ _] []) _ _ _); (first | refine' has_bool (is_ext _ _ _ _ _ _ _) ?hB ?hF ?hX ?hN ?hT ?hK ?hd ?hu ?_ | refine' has_bool (is_link _ _ _ _ _ _ _) ?hB ?hF ?hX ?hN ?hT ?hK ?hd ?hu ?_ | refine' has_bool (is_cons _ _ _ _ _ _ _) ?hB ?hF ?hX ?hN ?hT ?hK ?hd ?hu ?_ | refine' has_bool (is_iext _ _ _ _ _ _ _) ?hB ?hF ?hX ?hN ?hT ?hK ?hd ?hu ?_ | refine' has_int (gcb _ _ _ _ _ _ _) ?hB ?hF ?hX ?hN ?hT ?hK ?hd ?hu ?_); walk_at "M has"; intros; (try k_sweep)))

local macro_rules | `(tactic| walk_at "M cut") => `(tactic| (walk_at "M steps"; (all_goals (refine cut_end (by assumption) (by assumption) (by first | exact fun _ h => h | exact fun _ h => .tail _ h | exact fun _ h => .tail _ (.tail _ h)) ?_)); (all_goals (first | (simp; done) | (simp [*]; done) | (simp_all; done) | grind))))
local macro_rules | `(tactic| walk_at "callWith ref") => `(tactic| (k_here; k_dflt (refine callWith_KW0 (K := KK _) (by k_in) (by exact rfl) (by exact rfl) ?_)))
local macro_rules | `(tactic| walk_at "call ref") => `(tactic| (k_here; (with_reducible show wpAny _ _ (call (Value.ref _) [] _) _ _ _); (refine' br_use ?hB ?hF ?hX ?hN ?hT ?hK ?hd ?hu ?_); walk_at "M has"; intro _ _ _ _ _ _; (try k_sweep)))
local macro_rules | `(tactic| walk_at "M while") => `(tactic| repeat' ((fail_if_success (with_reducible show wpAny _ _ (exec (Stmt.While _ _ _ _) _) _ _ _)); first | (k_unfold; (try dsimp only)) | (k_end; wrow_close) | walk1 | (dsimp only; walk1) | (leave1; walk_say "STEP leave1"; try dsimp only)))
theorem should (w : World) (mean : ExcName → Option Value) (mg mb : Str → Option Value) (p c : Int) (l : List Nat) (i ri : Int) (t1 t2 t3 t4 t5 : Tok) (h1 : 1 ≤ i) (h2 : i < l.length) (hl : l.length ≤ 1000) (news : List (Addr × Obj)) :
    Has w mean mg mb 5 40 361 [.int p t1, .int c t2, .str (txt l) t3, .int i t4, .int ri t5] [] news (OBr (some (shouldR w p c (rv l i.toNat) (cp l i) ri))) := by
  refine has_of_body (binds := [(Str.ofString "prev_gcb", .int p t1), (Str.ofString "curr_gcb", .int c t2), (Str.ofString "text", .str (txt l) t3), (Str.ofString "curr_idx", .int i t4), (Str.ofString "ri_count", .int ri t5), (Str.ofString "start", .int 0 _)]) rfl rfl (fun _ => rfl) (locs rfl) (by decide) rfl rfl rfl ?_
  intro dp un gd outer A₀ base g L s B F X N lt T hd hu
  walk_at "M if"
  · walk_at "M steps"
    exact br_ret (by assumption) (by assumption) (sR0 (by assumption))
  · rename simpleS p c = none => hS
    walk_at "M if"
    refine if_cut (by k_asm) (by k_asm) False ?_ ?_ ?_
    · walk_at "M cut"
    · exact fun h => h.elim
    intro _ h9 tk9 F9 N9
    (try k_sweep)
    walk_at "M if"
    refine if_cut (by k_asm) (by k_asm) (c = 5) ?_ ?_ ?_
    · walk_at "M cut"
    · intro h0 h9 tk9 F9 N9
      walk_at "M steps"
      exact br_ret (by assumption) (by assumption) (sR1 hS h0)
    intro h0 h9 tk9 F9 N9
    (try k_sweep)
    walk_at "M if"
    rename Fr _ _ _ _ => F9
    rename News _ _ _ _ => N9
    with_unfolding_all refine' stmt_cut [(Str.ofString "prev_gcb", .int p _), (Str.ofString "curr_gcb", .int c _), (Str.ofString "text", .str (txt l) _), (Str.ofString "curr_idx", .int i _), (Str.ofString "ri_count", .int ri _), (Str.ofString "start", .int 0 _), (Str.ofString "curr_ucs", .int (cp l i) _)] (¬ (inT w 154 (cp l i) = true ∧ linkR w (rv l i.toNat) = true)) F9 N9 ?hk0 ?_ ?_
    case hk0 => kst_all
    · walk_at "M while"
      · (try k_sweep)
        rename Fr _ _ _ _ => F9
        rename News _ _ _ _ => N9
        with_unfolding_all refine' while_cut (σ := Int × Tok) (fun k => [(Str.ofString "i", .int k.1 k.2), (Str.ofString "prev_gcb", .int p t1), (Str.ofString "curr_gcb", .int c t2), (Str.ofString "text", .str (txt l) t3), (Str.ofString "curr_idx", .int i t4), (Str.ofString "ri_count", .int ri t5), (Str.ofString "start", .int 0 779), (Str.ofString "curr_ucs", .int (cp l i) _)]) (fun k => -1 ≤ k.1 ∧ k.1 < i ∧ linkR w (rv l (k.1 + 1).toNat) = linkR w (rv l i.toNat)) (fun k => -1 ≤ k.1 ∧ k.1 < i ∧ linkR w (rv l i.toNat) = decide (0 ≤ k.1 ∧ inT w 147 (cp l k.1) = true)) (fun k => (k.1 + 1).toNat) ⟨_, _⟩ F9 N9 ?k1 ?k2 ?k3 ?_ ?_
        case k1 => kst_all
        case k2 => exact ⟨by dsimp only; omega, by dsimp only; omega, by dsimp only; rw [Int.sub_add_cancel]⟩
        case k3 => first | passes_own | with_unfolding_all passes_own
        · clear F9 N9
          rintro ⟨k, tk0⟩ v h9 tk9 ⟨p1, p2, p3⟩ F9 N9
          dsimp only at p1 p2 p3 F9
          walk_at "M steps"
          · refine w_end ⟨_, _⟩ [] (by assumption) (by assumption) (by kst_all) ?_ ?_
            · dsimp only
              exact ⟨by omega, by omega, by rw [Int.sub_add_cancel, ← link_go (by omega) (by omega) (by assumption)]; exact p3⟩
            · dsimp only
              omega
          · refine w_out (by assumption) (by assumption) (fun _ h => h) (by kst_all) ?_
            dsimp only
            refine ⟨by omega, by omega, ?_⟩
            rw [← p3, link_stop (by omega) (by omega) (by assumption)]
            simp [show (0:Int) ≤ k by omega]
          · refine w_out (by assumption) (by assumption) (fun _ h => h) (by kst_all) ?_
            dsimp only
            refine ⟨by omega, by omega, ?_⟩
            have hk1 : k = -1 := by omega
            subst hk1
            rw [← p3]
            simp [rv, linkR]
        · clear F9 N9
          rintro ⟨k, tk0⟩ v h9 tk9 ⟨p1, p2, p3⟩ F9 N9
          dsimp only at p1 p2 p3 F9
          walk_at "M steps"
          · refine scut_ret (br_ret (by assumption) (by assumption) (sR2 hS h0 ⟨by assumption, ?_⟩))
            rw [p3]
            exact decide_eq_true ⟨by omega, by assumption⟩
          · refine scut_next (by assumption) (by assumption) (fun _ h => h) (by kst_all) fun h => ?_
            have h := h.2
            rw [p3] at h
            have h := of_decide_eq_true h
            have q : inT w 147 (cp l k) = false := by assumption
            rw [q] at h
            exact Bool.false_ne_true h.2
          · refine scut_next (by assumption) (by assumption) (fun _ h => h) (by kst_all) fun h => ?_
            have h := h.2
            rw [p3] at h
            have h := of_decide_eq_true h
            omega
      · exact scut_next (by assumption) (by assumption) (fun _ h => h) (by kst_all) (by simp [*])
    clear F9 N9
    intro h2' v h9 tk9 F9 N9
    (try k_sweep)
    walk_at "M if"
    rename Fr _ _ _ _ => F9
    rename News _ _ _ _ => N9
    with_unfolding_all refine' stmt_cut [(Str.ofString "prev_gcb", .int p t1), (Str.ofString "curr_gcb", .int c t2), (Str.ofString "text", .str (txt l) t3), (Str.ofString "curr_idx", .int i t4), (Str.ofString "ri_count", .int ri t5), (Str.ofString "start", .int 0 779), (Str.ofString "curr_ucs", .int (cp l i) _)] (¬ (p = 5 ∧ inT w 142 (cp l i) = true ∧ pictR w (rv l i.toNat).tail = true)) F9 N9 ?hk0 ?_ ?_
    case hk0 => kst_all
    · walk_at "M while"
      · (try k_sweep)
        rename Fr _ _ _ _ => F9
        rename News _ _ _ _ => N9
        with_unfolding_all refine' while_cut (σ := Int × Tok) (fun k => [(Str.ofString "i", .int k.1 k.2), (Str.ofString "prev_gcb", .int p t1), (Str.ofString "curr_gcb", .int c t2), (Str.ofString "text", .str (txt l) t3), (Str.ofString "curr_idx", .int i t4), (Str.ofString "ri_count", .int ri t5), (Str.ofString "start", .int 0 779), (Str.ofString "curr_ucs", .int (cp l i) _)]) (fun k => -1 ≤ k.1 ∧ k.1 < i - 1 ∧ pictR w (rv l (k.1 + 1).toNat) = pictR w (rv l (i - 1).toNat)) (fun k => pictR w (rv l (i - 1).toNat) = false) (fun k => (k.1 + 1).toNat) ⟨_, _⟩ F9 N9 ?k1 ?k2 ?k3 ?_ ?_
        case k1 => kst_all
        case k2 => exact ⟨by dsimp only; omega, by dsimp only; omega, by dsimp only; rw [show i - 2 + 1 = i - 1 by omega]⟩
        case k3 => first | passes_own | with_unfolding_all passes_own
        · clear F9 N9
          rintro ⟨k, tk0⟩ v h9 tk9 ⟨p1, p2, p3⟩ F9 N9
          dsimp only at p1 p2 p3 F9
          walk_at "M steps"
          · refine w_end ⟨_, _⟩ [] (by assumption) (by assumption) (by kst_all) ?_ ?_
            · dsimp only
              exact ⟨by omega, by omega, by rw [Int.sub_add_cancel, ← pict_go (by omega) (by omega) (by assumption)]; exact p3⟩
            · dsimp only
              omega
          · refine br_ret (by assumption) (by assumption) (sR3 hS h0 h2' ⟨by assumption, by assumption, ?_⟩)
            rw [rv_tail h1 h2, ← p3, pict_stop (by omega) (by omega) (by assumption)]
            assumption
          · refine ⟨(k, tk0), w_out (by assumption) (by assumption) (fun _ h => h) (by kst_all) ?_⟩
            rw [← p3, pict_stop (by omega) (by omega) (by assumption)]
            assumption
          · refine w_out (by assumption) (by assumption) (fun _ h => h) (by kst_all) ?_
            have hk1 : k = -1 := by omega
            subst hk1
            rw [← p3]
            simp [rv, pictR]
        · clear F9 N9
          rintro ⟨k, tk0⟩ v h9 tk9 p3 F9 N9
          dsimp only at p3 F9
          walk_at "M steps"
          refine scut_next (by assumption) (by assumption) (fun _ h => h) (by kst_all) fun h => ?_
          have h := h.2.2
          rw [rv_tail h1 h2, p3] at h
          exact Bool.false_ne_true h
      · exact scut_next (by assumption) (by assumption) (fun _ h => h) (by kst_all) (by simp [*])
      · exact scut_next (by assumption) (by assumption) (fun _ h => h) (by kst_all) (by simp [*])
    clear F9 N9
    intro h3' v h9 tk9 F9 N9
    (try k_sweep)
    walk_at "M if"
    refine if_cut (by k_asm) (by k_asm) (p = 6 ∧ c = 6) ?_ ?_ ?_
    · walk_at "M cut"
    · intro h4 h9 tk9 F9 N9
      walk_at "M if"
      refine if_cut (by k_asm) (by k_asm) (Int.fmod ri 2 = 1) ?_ ?_ ?_
      · walk_at "M cut"
      · intro h5 h9 tk9 F9 N9
        walk_at "M steps"
        exact br_ret (by assumption) (by assumption) (sR4 hS h0 h2' h3' h4 h5)
      · intro h5 h9 tk9 F9 N9
        walk_at "M steps"
        exact br_ret (by assumption) (by assumption) (sR5 hS h0 h2' h3' h4 h5)
    intro h4 h9 tk9 F9 N9
    (try k_sweep)
    walk_at "M steps"
    all_goals exact br_ret (by assumption) (by assumption) (by rw [sR6 hS h0 h2' h3' h4]; simp [*])
end Mine
/-! W9 -/
namespace Mine
example : True := by
  w_top off
  trivial
example : PySem.Challenge.rw_ax6033_01 = PySem.Challenge.rw_ax6033_01 → hd.heap_39 = hd.heap_39 → True := by
  k_fill
  intros; trivial
/-! a for over a range, cut -/
section
variable {prog : Program} {w : World} {A : Around} {E : Value → Shared → Prop} {s : Shared} {env : Env} {h₀ : Heap} {x : Str} {body : List Stmt} {Q : Flow → Shared → Prop}
def RStep {σ : Type} (h₀ : Heap) (L : Addr) (s : Shared) (news : List (Addr × Obj)) (ps : σ → List (Str × Value)) (P : σ → Prop) (s₂ : Shared) : Prop :=
  ∃ (c' : σ) (h' : Heap) (tk : Nat) (m' : Str → Option Value) (tl : List (Addr × Obj)), s₂ = { s with heap := h', toks := tk } ∧ Fr h₀ L h' m' ∧ News h₀ L h' tl ∧ (∀ p ∈ news, p ∈ tl) ∧ (∀ p ∈ ps c', m' p.1 = some p.2) ∧ P c'
def RPost {σ : Type} (h₀ : Heap) (L : Addr) (s : Shared) (news : List (Addr × Obj)) (ps : σ → List (Str × Value)) (P : σ → Prop) (Q : Flow → Shared → Prop) (f : Flow) (s₂ : Shared) : Prop :=
  match f with
  | .ret v => Q (.ret v) s₂
  | .brk => Q .next s₂
  | _ => RStep h₀ L s news ps P s₂
theorem r_end {σ : Type} {L : Addr} {s : Shared} {news tl : List (Addr × Obj)} {ps : σ → List (Str × Value)} {m' : Str → Option Value} {P : σ → Prop} {h' : Heap} {tk : Nat} (c' : σ)
    (F : Fr h₀ L h' m') (N : News h₀ L h' tl) (hs : ∀ p ∈ news, p ∈ tl) (hk : ∀ p ∈ ps c', m' p.1 = some p.2) (hp : P c') :
    RStep h₀ L s news ps P { s with heap := h', toks := tk } := ⟨c', h', tk, m', tl, rfl, F, N, hs, hk, hp⟩
theorem range_cut {σ : Type} {r : Addr} {a₀ b₀ : Int} {t₀ u₀ v₀ : Tok} {n : Nat} {m₀ : Str → Option Value} {news : List (Addr × Obj)} (ps : σ → List (Str × Value)) (P : Nat → σ → Prop) (c₀ : σ)
    (hh : A.handled = none) (hr : IsRange s.heap r a₀ b₀ 1 t₀ u₀ v₀) (hsmall : Builtin.Range.small a₀ b₀ 1 = true) (hn : Builtin.Range.rangeSize a₀ b₀ 1 = (n : Int)) (F : Fr h₀ env.locals s.heap m₀) (N : News h₀ env.locals s.heap news) (hk : ∀ p ∈ ps c₀, m₀ p.1 = some p.2) (hp : P 0 c₀)
    (turn : ∀ (i : Nat) (c : σ) t (u : Str → Option Value) h tk own, i < n → P i c →
      Fr h₀ env.locals h (kstB u ((x, .int (a₀ + (i : Int)) t) :: ps c)) → News h₀ env.locals h (news ++ own) →
      wpAny (model prog w) A (execs body env) (RPost h₀ env.locals { s with heap := h, toks := tk } (news ++ own) ps (P (i + 1)) Q) E { s with heap := h, toks := tk })
    (done : ∀ (c : σ) (u : Str → Option Value) h tk, P n c → Fr h₀ env.locals h (kstB u (ps c)) → News h₀ env.locals h news → Q .next { s with heap := h, toks := tk }) :
    wpAny (model prog w) A (pyIter (.ref r)) (fun it s₂ => LoopAtV prog w A h₀ env x body Q E it s₂) E s := by
  refine wpAny_pyIter_range hr hsmall ?_
  have W : Walks prog w A s.heap.objs.size [s.heap.objs.size] [s.heap.objs.size] n (fun i v => i < n ∧ ∃ t, v = .int (a₀ + i * 1) t)
      (fun i h => IsRangeIter h s.heap.objs.size (a₀ + (i : Nat) * 1) ((n : Int) - (i : Nat)) 1) := (Walks.range hh _ a₀ 1 n).bound
  refine loop_invN (fun i m nx => nx = news ∧ ∃ c : σ, (∀ p ∈ ps c, m p.1 = some p.2) ∧ P i c) W ?_ ?_ ?_ ?_ (by show IsRangeIter _ _ _ _ _; rw [hn]; simpa using Heap.get?_push_size _ rfl) (F.push _) (fun p hp => ⟨Heap.get?_push_of_some _ (N p hp).1, (N p hp).2⟩) ⟨rfl, c₀, hk, hp⟩ ?_ ?_
  · intro hm
    exact absurd F.ns.lt ((List.mem_singleton.mp hm) ▸ Nat.lt_irrefl _)
  · intro b hb
    rw [List.mem_singleton.mp hb]
    exact next_is_new F
  · intro p hp hI
    exact absurd (Heap.lt_size (N p hp).1) ((List.mem_singleton.mp hI) ▸ Nat.lt_irrefl _)
  · intro p hp hI
    exact absurd (Heap.lt_size (N p hp).1) ((List.mem_singleton.mp hI) ▸ Nat.lt_irrefl _)
  · rintro i v m₁ nx h tk own hi ⟨_, t, rfl⟩ _ hoff ⟨rfl, c, h1, hp'⟩ F₁ N₁
    have e1 : a₀ + (i : Int) * 1 = a₀ + (i : Int) := by omega
    rw [e1] at F₁
    refine wpAny_mono (turn i c t m₁ h tk own hi hp' ?_ N₁) (fun f s₃ q => ?_) fun _ _ x => x
    · show Fr _ _ _ (fun z => if z = x then some (.int (a₀ + (i : Int)) t) else kstB m₁ (ps c) z)
      rw [kst_same h1]
      exact F₁
    · have up : RStep h₀ env.locals { s with heap := h, toks := tk } (nx ++ own) ps (P (i + 1)) s₃ → InvEndN h₀ env.locals (fun m ny => ny = nx ∧ ∃ c : σ, (∀ p ∈ ps c, m p.1 = some p.2) ∧ P (i + 1) c) own (nx.map (·.1)) { s with heap := h, toks := tk } s₃ := by
        rintro ⟨c', h', tk', m', tl, rfl, F', N', hs, hk', hp''⟩
        exact InvEndN.intro F' N' ⟨rfl, c', hk', hp''⟩ rfl (fun p hp => hs p (List.mem_append_left _ hp)) (fun p hp => hs p (List.mem_append_right _ hp))
      cases f with
      | ret v => exact q
      | brk => exact q
      | next => exact up q
      | cont => exact up q
  · rintro m₁ nx h tk ⟨rfl, c, h1, hp'⟩ F₁ N₁
    exact done c m₁ h tk hp' (by rw [kst_same h1]; exact F₁) N₁
end

noncomputable def backS (w : World) (l : List Nat) : Nat → Nat
  | 0 => 0
  | k + 1 => if (32 ≤ l.getD (k + 1) 0 ∧ l.getD (k + 1) 0 < 128) ∨ gcbS w (l.getD (k + 1) 0) = 3 then k + 1 else backS w l k
noncomputable def runS (w : World) (l : List Nat) (k : Int) : Nat → Int × Int × Int
  | 0 => (k, gcbS w (cp l k), if gcbS w (cp l k) = 6 then 1 else 0)
  | j + 1 =>
    let r := runS w l k j
    let i : Int := k + 1 + (j : Int)
    let q := shouldR w r.2.1 (gcbS w (cp l i)) (rv l i.toNat) (cp l i) r.2.2
    (if q.1 = true then i else r.1, gcbS w (cp l i), q.2)
noncomputable def fcs0 (w : World) (l : List Nat) (p : Int) : Int :=
  if cp l (p - 1) = 10 ∧ 2 ≤ p ∧ cp l (p - 2) = 13 then p - 2
  else if cp l (p - 1) < 128 then p - 1
  else (runS w l (backS w l (p - 1).toNat) ((p - 1).toNat - backS w l (p - 1).toNat)).1
def preC (w : World) (l : List Nat) (p : Int) : Prop := cp l (p - 1) < 128 ∧ 2 ≤ p ∧ 32 ≤ cp l (p - 1) ∧ 128 ≤ cp l (p - 2) ∧ gcbS w (cp l (p - 2)) = 7
open Classical in
noncomputable def fcs (w : World) (l : List Nat) (p : Int) : Int := if preC w l p then fcs0 w l (p - 1) else fcs0 w l p

local macro_rules | `(tactic| walk_at "M steps") => `(tactic| repeat' ((fail_if_success (with_reducible show wpAny _ _ (exec (Stmt.While _ _ _ _) _) _ _ _)); (fail_if_success (with_reducible show wpAny _ _ (exec (Stmt.For _ _ _ _ _) _) _ _ _)); first | (k_unfold; (try dsimp only)) | (k_end; wrow_close) | walk1 | (dsimp only; walk1) | (leave1; walk_say "STEP leave1"; try dsimp only)))
local macro_rules | `(tactic| walk_at "M if") => `(tactic| repeat' ((fail_if_success (with_reducible show wpAny _ _ (exec (Stmt.While _ _ _ _) _) _ _ _)); (fail_if_success (with_reducible show wpAny _ _ (exec (Stmt.For _ _ _ _ _) _) _ _ _)); (fail_if_success (with_reducible show wpAny _ _ (exec (Stmt.If _ _ _ _) _) _ _ _)); first | (k_unfold; (try dsimp only)) | (k_end; wrow_close) | walk1 | (dsimp only; walk1) | (leave1; walk_say "STEP leave1"; try dsimp only)))
local macro_rules | `(tactic| walk_at "M has") => `(tactic| ((case hB => k_asm); (case hF => k_asm); (case hX => k_asm); (case hN => k_asm); (case hT => k_asm); (case hK => exact rfl); (case hd => omega); (case hu => omega)))
local macro_rules | `(tactic| walk_at "M item") => `(tactic| (k_here; (with_reducible show wpAny _ _ (subscriptTail _ _ (Value.str (txt _) _) (Value.int _ _)) _ _ _); k_dflt (refine item_ch (by omega) (by omega) (by assumption) ?_); intro _ _))
local macro_rules | `(tactic| walk_at "subscriptTail Name Name str int") => `(tactic| walk_at "M item")
local macro_rules | `(tactic| walk_at "subscriptTail Name BinOp str int") => `(tactic| walk_at "M item")
local macro_rules | `(tactic| walk_at "call builtin:ord") => `(tactic| (k_here; (with_reducible show wpAny _ _ (call (Value.builtin "ord") [Value.str (Str.mk _) _]) _ _ _); refine P.ord_of_char ?_))
local macro_rules | `(tactic| walk_at "call ref") => `(tactic| (k_here; (with_reducible show wpAny _ _ (call (Value.ref _) [Value.int _ _, Value.int _ _] []) _ _ _); (refine' simple_use ?hB ?hF ?hX ?hN ?hT ?hK ?hd ?hu ?_ ?_); walk_at "M has"; (all_goals (intros; (try k_sweep)))))
local macro_rules | `(tactic| walk_at "call ref") => `(tactic| (k_here; (with_reducible show wpAny _ _ (call (Value.ref _) [Value.int _ _] []) _ _ _); (first | refine' has_bool (is_ext _ _ _ _ _ _ _) ?hB ?hF ?hX ?hN ?hT ?hK ?hd ?hu ?_ | refine' has_bool (is_link _ _ _ _ _ _ _) ?hB ?hF ?hX ?hN ?hT ?hK ?hd ?hu ?_ | refine' has_bool (is_cons _ _ _ _ _ _ _) ?hB ?hF ?hX ?hN ?hT ?hK ?hd ?hu ?_ | refine' has_bool (is_iext _ _ _ _ _ _ _) ?hB ?hF ?hX ?hN ?hT ?hK ?hd ?hu ?_ | refine' has_int (gcb _ _ _ _ _ _ _) ?hB ?hF ?hX ?hN ?hT ?hK ?hd ?hu ?_); walk_at "M has"; intros; (try k_sweep)))
local macro_rules | `(tactic| walk_at "M cut") => `(tactic| (walk_at "M steps"; (all_goals (refine cut_end (by assumption) (by assumption) (by first | exact fun _ h => h | exact fun _ h => .tail _ h | exact fun _ h => .tail _ (.tail _ h)) ?_)); (all_goals (first | (simp; done) | (simp [*]; done) | (simp_all; done) | grind))))
local macro_rules | `(tactic| walk_at "M while") => `(tactic| repeat' ((fail_if_success (with_reducible show wpAny _ _ (exec (Stmt.While _ _ _ _) _) _ _ _)); (fail_if_success (with_reducible show wpAny _ _ (exec (Stmt.For _ _ _ _ _) _) _ _ _)); first | (k_unfold; (try dsimp only)) | (k_end; wrow_close) | walk1 | (dsimp only; walk1) | (leave1; walk_say "STEP leave1"; try dsimp only)))


theorem cr_eq (n : Nat) : ((⟨#[n]⟩ : Str) == Str.ofString "\r") = decide (n = 13) := by
  rw [show Str.ofString "\r" = ⟨#[13]⟩ by rfl]
  by_cases h : n = 13
  · subst h; decide
  · rw [decide_eq_false h]
    apply beq_false_of_ne
    intro e
    injection e with e
    injection e with e
    injection e with e
    exact h e
theorem back_stop {w : World} {l : List Nat} {k : Int} (h0 : 0 < k) (h : (32 ≤ cp l k ∧ cp l k < 128) ∨ gcbS w (cp l k) = 3) : (k : Int) = backS w l k.toNat := by
  have e : k.toNat = (k - 1).toNat + 1 := by omega
  unfold cp at h
  rw [e] at h ⊢
  rw [backS, if_pos h]
  omega
theorem back_go {w : World} {l : List Nat} {k : Int} (h0 : 0 < k) (h1 : ¬ (32 ≤ cp l k ∧ cp l k < 128)) (h2 : ¬ gcbS w (cp l k) = 3) : backS w l k.toNat = backS w l (k - 1).toNat := by
  have e : k.toNat = (k - 1).toNat + 1 := by omega
  unfold cp at h1 h2
  rw [e] at h1 h2 ⊢
  rw [backS, if_neg (by rintro (h | h); exact h1 h; exact h2 h)]
theorem back_le (w : World) (l : List Nat) : ∀ k, backS w l k ≤ k
  | 0 => Nat.le_refl _
  | k + 1 => by
    rw [backS]
    split
    · exact Nat.le_refl _
    · exact Nat.le_succ_of_le (back_le w l k)
section
variable {w : World} {mean : ExcName → Option Value} {mg mb : Str → Option Value} {d u : Nat} {l : List Nat} {p : Int} {news : List (Addr × Obj)}
  {dp un : Nat} {gd : Option (List Code)} {cn : Str} {cs : Scope} {a : Addr} {ccd : Value} {cl : List (Str × Addr)} {outer : List Env} {A₀ : Around} {base h₀ : Heap} {L : Addr} {m : Str → Option Value} {s : Shared} {Q E : Value → Shared → Prop}
def RecOK (w : World) (mean : ExcName → Option Value) (mg mb : Str → Option Value) (d u : Nat) (l : List Nat) (p : Int) (news : List (Addr × Obj)) : Prop :=
  ∀ t t', preC w l p → Has w mean mg mb d u 368 [.str (txt l) t, .int (p - 1) t'] [] news (OInt (fcs0 w l (p - 1)))
theorem rec_use {t t' : Tok} (R : RecOK w mean mg mb d u l p news) (hc : preC w l p) (B : Below A₀ base outer h₀) (F : Fr h₀ L s.heap m) (X : (hd.heap_39 w.params).In h₀) (N : News h₀ L s.heap news) (T : Top VW LW mean mg mb h₀) (hk : cs.kind = .function) (hd : dp + d < recursionLimit) (hu : un + u < cLine)
    (h : ∀ t h' tk', Fr h₀ L h' m → News h₀ L h' news → Q (.int (fcs0 w l (p - 1)) t) { s with heap := h', toks := tk' }) :
    wpAny (model PG w) (ktrTop dp un gd cn cs L a ccd cl outer) (call (.ref 368) [.str (txt l) t, .int (p - 1) t']) Q E s := has_int (R _ _ hc) B F X N T hk hd hu h
theorem should_use {p c ri : Int} {i : Int} {t1 t2 t3 t4 t5 : Tok} (h1 : 1 ≤ i) (h2 : i < l.length) (hl : l.length ≤ 1000) (B : Below A₀ base outer h₀) (F : Fr h₀ L s.heap m) (X : (hd.heap_39 w.params).In h₀) (N : News h₀ L s.heap news) (T : Top VW LW mean mg mb h₀) (hk : cs.kind = .function) (hd : dp + 5 < recursionLimit) (hu : un + 40 < cLine)
    (h : ∀ t' x dx h' tk', Fr h₀ L h' m → News h₀ L h' ((x, brObj dx [.bool (shouldR w p c (rv l i.toNat) (cp l i) ri).1, .int (shouldR w p c (rv l i.toNat) (cp l i) ri).2 t']) :: (dx, emptyDict) :: news) → Q (.ref x) { s with heap := h', toks := tk' }) :
    wpAny (model PG w) (ktrTop dp un gd cn cs L a ccd cl outer) (call (.ref 361) [.int p t1, .int c t2, .str (txt l) t3, .int i t4, .int ri t5]) Q E s :=
  has_use (should w mean mg mb p c l i ri t1 t2 t3 t4 t5 h1 h2 hl news) B F X N T hk hd hu fun r tl h' tk' F' N' o => by
    obtain ⟨x, dx, t', e1, e2⟩ := o
    subst e1 e2
    exact h t' x dx h' tk' F' N'
end
local macro_rules | `(tactic| walk_at "call ref") => `(tactic| (k_here; (with_reducible show wpAny _ _ (call (Value.ref _) [Value.str _ _, Value.int _ _] []) _ _ _); (refine' rec_use (by assumption) ?hG ?hB ?hF ?hX ?hN ?hT ?hK ?hd ?hu ?_); (case hG => (unfold preC; (refine ⟨?_, ?_, ?_, ?_, ?_⟩) <;> first | assumption | omega)); walk_at "M has"; intros; (try k_sweep)))
local macro_rules | `(tactic| walk_at "call ref") => `(tactic| (k_here; (with_reducible show wpAny _ _ (call (Value.ref _) [Value.int _ _, Value.int _ _, Value.str _ _, Value.int _ _, Value.int _ _] []) _ _ _); (refine' should_use (by omega) (by omega) (by omega) ?hB ?hF ?hX ?hN ?hT ?hK ?hd ?hu ?_); walk_at "M has"; intro _ _ _ _ _ _ _; (try k_sweep)))
local macro_rules | `(tactic| walk_at "M cut") => `(tactic| (walk_at "M steps"; (all_goals (refine cut_end (by assumption) (by assumption) (by first | exact fun _ h => h | exact fun _ h => .tail _ h | exact fun _ h => .tail _ (.tail _ h)) ?_)); (all_goals (first | (simp; done) | (simp [*]; done) | (simp_all; done) | (simp_all [cr_eq]; done) | (simp_all [cr_eq]; omega) | grind))))
local macro_rules | `(tactic| walk_at "M attr") => `(tactic| (walk_at "M has"; (case hm => exact .head _); (case hm2 => exact .tail _ (.head _)); (case hv => exact rfl); intros; (try k_sweep)))
local macro_rules | `(tactic| walk_at "getAttr ref") => `(tactic| (k_here; (with_reducible show wpAny _ _ (getAttr (Value.ref _) (Str.ofString "ri_count") _) _ _ _); (refine' br_attr1 ?hm ?hm2 ?hv ?hB ?hF ?hX ?hN ?hT ?hK ?hd ?hu ?_); walk_at "M attr"))
local macro_rules | `(tactic| walk_at "getAttr ref") => `(tactic| (k_here; (with_reducible show wpAny _ _ (getAttr (Value.ref _) (Str.ofString "should_break") _) _ _ _); (refine' br_attr0 ?hm ?hm2 ?hv ?hB ?hF ?hX ?hN ?hT ?hK ?hd ?hu ?_); walk_at "M attr"))
section
variable {w : World} {l : List Nat} {p : Int}
theorem fcs_a (h : cp l (p - 1) = 10 ∧ 2 ≤ p ∧ cp l (p - 2) = 13) : p - 2 = fcs w l p := by
  unfold fcs
  rw [if_neg (by unfold preC; omega), fcs0, if_pos h]
theorem fcs_b (h : ¬ (cp l (p - 1) = 10 ∧ 2 ≤ p ∧ cp l (p - 2) = 13)) (h2 : cp l (p - 1) < 128) (hn : ¬ preC w l p) : p - 1 = fcs w l p := by
  unfold fcs
  rw [if_neg hn, fcs0, if_neg h, if_pos h2]
theorem fcs_c (h : preC w l p) : fcs0 w l (p - 1) = fcs w l p := by
  unfold fcs
  rw [if_pos h]
theorem fcs_d (h : ¬ (cp l (p - 1) = 10 ∧ 2 ≤ p ∧ cp l (p - 2) = 13)) (h2 : ¬ cp l (p - 1) < 128) : (runS w l (backS w l (p - 1).toNat) ((p - 1).toNat - backS w l (p - 1).toNat)).1 = fcs w l p := by
  unfold fcs
  rw [if_neg (by unfold preC; exact fun q => h2 q.1), fcs0, if_neg h, if_neg h2]
end

section
variable {w : World} {l : List Nat} {p k c1 c2 c3 : Int} {i : Nat}
theorem run_t (hr : (c1, c2, c3) = runS w l k i) (hb : (shouldR w c2 (gcbS w (cp l (k + 1 + (i : Int)))) (rv l (k + 1 + (i : Int)).toNat) (cp l (k + 1 + (i : Int))) c3).1 = true) :
    (k + 1 + (i : Int), gcbS w (cp l (k + 1 + (i : Int))), (shouldR w c2 (gcbS w (cp l (k + 1 + (i : Int)))) (rv l (k + 1 + (i : Int)).toNat) (cp l (k + 1 + (i : Int))) c3).2) = runS w l k (i + 1) := by
  rw [runS, ← hr]; dsimp only; rw [if_pos hb]
theorem run_f (hr : (c1, c2, c3) = runS w l k i) (hb : (shouldR w c2 (gcbS w (cp l (k + 1 + (i : Int)))) (rv l (k + 1 + (i : Int)).toNat) (cp l (k + 1 + (i : Int))) c3).1 = false) :
    (c1, gcbS w (cp l (k + 1 + (i : Int))), (shouldR w c2 (gcbS w (cp l (k + 1 + (i : Int)))) (rv l (k + 1 + (i : Int)).toNat) (cp l (k + 1 + (i : Int))) c3).2) = runS w l k (i + 1) := by
  rw [runS, ← hr]; dsimp only; rw [if_neg (by rw [hb]; decide)]
theorem fcs_e (h : ¬ (cp l (p - 1) = 10 ∧ 2 ≤ p ∧ cp l (p - 2) = 13)) (h2 : ¬ cp l (p - 1) < 128) (hk : k = backS w l (p - 1).toNat) (hk2 : k ≤ p - 1) (hr : (c1, c2, c3) = runS w l k (p - (k + 1)).toNat) : c1 = fcs w l p := by
  rw [← fcs_d h h2, ← hk]
  have e : (p - 1).toNat - backS w l (p - 1).toNat = (p - (k + 1)).toNat := by omega
  rw [e, ← hr]
end
local macro_rules | `(tactic| walk_at "M iter") => `(tactic| repeat' ((fail_if_success (with_reducible show wpAny _ _ (pyIter _) _ _ _)); first | (k_unfold; (try dsimp only)) | (k_end; wrow_close) | walk1 | (dsimp only; walk1) | (leave1; walk_say "STEP leave1"; try dsimp only)))
theorem fcs_step (w : World) (mean : ExcName → Option Value) (mg mb : Str → Option Value) (d u : Nat) (hd5 : 6 ≤ d) (hu5 : 60 ≤ u) (l : List Nat) (p : Int) (hp1 : 1 ≤ p) (hp2 : p ≤ l.length) (hl : l.length ≤ 15) (t1 t2 : Tok) (news : List (Addr × Obj))
    (hrec : RecOK w mean mg mb d u l p news) :
    Has w mean mg mb (d + 1) (u + 6) 368 [.str (txt l) t1, .int p t2] [] news (OInt (fcs w l p)) := by
  refine has_of_body (binds := [(Str.ofString "text", .str (txt l) t1), (Str.ofString "pos", .int p t2)]) rfl rfl (fun _ => rfl) (locs rfl) (by decide) rfl rfl rfl ?_
  intro dp un gd outer A₀ base g L s B F X N lt T hd hu
  have hl' : l.length ≤ 1000 := by omega
  walk_at "M if"
  refine if_cut (by k_asm) (by k_asm) (cp l (p - 1) = 10 ∧ 2 ≤ p ∧ cp l (p - 2) = 13) ?_ ?_ ?_
  · walk_at "M cut"
  · intro h1 h9 tk9 F9 N9
    walk_at "M steps"
    exact ret_end [] F9 N9 ⟨rfl, _, int_eq (fcs_a h1)⟩
  intro h1 h9 tk9 F9 N9
  (try k_sweep)
  walk_at "M if"
  refine if_cut (by k_asm) (by k_asm) (cp l (p - 1) < 128) ?_ ?_ ?_
  · walk_at "M cut"
  · intro h2 h9 tk9 F9 N9
    walk_at "M steps"
    · exact ret_end [] (by assumption) (by assumption) ⟨rfl, _, int_eq (fcs_c (by unfold preC; (refine ⟨?_, ?_, ?_, ?_, ?_⟩) <;> first | assumption | omega))⟩
    all_goals exact ret_end [] (by assumption) (by assumption) ⟨rfl, _, int_eq (fcs_b h1 h2 (by unfold preC; simp_all; try omega))⟩
  intro h2 h9 tk9 F9 N9
  (try k_sweep)
  walk_at "M while"
  (try k_sweep)
  rename Fr _ _ _ _ => F9
  rename News _ _ _ _ => N9
  with_unfolding_all refine' while_cut (σ := Int × Tok) (fun k => [(Str.ofString "safe_start", .int k.1 k.2), (Str.ofString "text", .str (txt l) t1), (Str.ofString "pos", .int p t2)]) (fun k => 0 ≤ k.1 ∧ k.1 ≤ p - 1 ∧ backS w l k.1.toNat = backS w l (p - 1).toNat) (fun k => k.1 = backS w l (p - 1).toNat) (fun k => k.1.toNat) ⟨_, _⟩ F9 N9 ?k1 ?k2 ?k3 ?_ ?_
  case k1 => kst_all
  case k2 => exact ⟨by dsimp only; omega, by dsimp only; omega, rfl⟩
  case k3 => first | passes_own | with_unfolding_all passes_own
  · clear F9 N9
    rintro ⟨k, tk0⟩ v h9 tk9 ⟨p1, p2, p3⟩ F9 N9
    dsimp only at p1 p2 p3 F9
    walk_at "M steps"
    · refine ⟨(k, tk0), w_out (by assumption) (by assumption) (fun _ h => h) (by kst_all) ?_⟩
      show k = _
      rw [← p3]
      exact back_stop (by omega) (.inl (by omega))
    · refine ⟨(k, tk0), w_out (by assumption) (by assumption) (fun _ h => h) (by kst_all) ?_⟩
      show k = _
      rw [← p3]
      exact back_stop (by omega) (.inr (by assumption))
    · refine w_end ⟨_, _⟩ [] (by assumption) (by assumption) (by kst_all) ?_ ?_
      · dsimp only
        exact ⟨by omega, by omega, by rw [← p3, ← back_go (by omega) (by omega) (by assumption)]⟩
      · dsimp only
        omega
    · refine ⟨(k, tk0), w_out (by assumption) (by assumption) (fun _ h => h) (by kst_all) ?_⟩
      show k = _
      rw [← p3]
      exact back_stop (by omega) (.inr (by assumption))
    · refine w_end ⟨_, _⟩ [] (by assumption) (by assumption) (by kst_all) ?_ ?_
      · dsimp only
        exact ⟨by omega, by omega, by rw [← p3, ← back_go (by omega) (by omega) (by assumption)]⟩
      · dsimp only
        omega
    · refine w_out (by assumption) (by assumption) (fun _ h => h) (by kst_all) ?_
      show k = _
      have hk1 : k = 0 := by omega
      subst hk1
      rw [← p3]
      rfl
  · clear F9 N9
    rintro ⟨k, tk0⟩ v h9 tk9 p3 F9 N9
    dsimp only at p3 F9
    have q1 : 0 ≤ k := by omega
    have q2 : k ≤ p - 1 := by have := back_le w l (p - 1).toNat; omega
    walk_at "M while"
    all_goals
      (try k_sweep)
      rename Fr _ _ _ _ => F9
      rename News _ _ _ _ => N9
      with_unfolding_all refine' For_invVF F9 ?k1 ?k2 ?_
      case k1 => exact rfl
      case k2 => exact rfl
      walk_at "M iter"
      (try k_sweep)
      (try clear F9 N9)
      rename Fr _ _ _ _ => F9
      rename News _ _ _ _ => N9
      rename IsRange _ _ _ _ _ _ _ _ => R9
      with_unfolding_all refine' range_cut (σ := (Int × Int × Int) × Tok × Tok × Tok) (n := (p - (k + 1)).toNat) (fun c => [(Str.ofString "cluster_start", .int c.1.1 c.2.1), (Str.ofString "left_gcb", .int c.1.2.1 c.2.2.1), (Str.ofString "ri_count", .int c.1.2.2 c.2.2.2), (Str.ofString "text", .str (txt l) t1), (Str.ofString "pos", .int p t2)]) (fun i c => c.1 = runS w l k i) ⟨⟨_, _, _⟩, _, _, _⟩ rfl R9 ?k1 ?k2 F9 N9 ?k3 ?k4 ?_ ?_
      case k1 => exact small_one (by omega) (by omega) (by omega) (by omega)
      case k2 => exact rangeSize_nat _ _
      case k3 => kst_all
      case k4 => first | (rw [runS, if_pos (by assumption)]) | (rw [runS, if_neg (by assumption)])
      · clear F9 N9 R9
        rintro i ⟨⟨c1, c2, c3⟩, tk1, tk2, tk3⟩ tt v h9 tk9 own hi hr F9 N9
        dsimp only at hr F9
        walk_at "M steps"
        · refine r_end ⟨⟨_, _, _⟩, _, _, _⟩ (by assumption) (by assumption) (fun p h => .tail _ (.tail _ h)) (by kst_all) ?_
          exact run_t hr (by assumption)
        · refine r_end ⟨⟨_, _, _⟩, _, _, _⟩ (by assumption) (by assumption) (fun p h => .tail _ (.tail _ h)) (by kst_all) ?_
          exact run_f hr (by assumption)
      · clear F9 N9 R9
        rintro ⟨⟨c1, c2, c3⟩, tk1, tk2, tk3⟩ v h9 tk9 hr F9 N9
        dsimp only at hr F9
        walk_at "M steps"
        exact ret_end [] F9 N9 ⟨rfl, _, int_eq (fcs_e h1 h2 p3 q2 hr)⟩
/-- the contract: seven calls deep at most -/
theorem fcsC (w : World) (mean : ExcName → Option Value) (mg mb : Str → Option Value) (l : List Nat) (p : Int) (hp1 : 1 ≤ p) (hp2 : p ≤ l.length) (hl : l.length ≤ 15) (t1 t2 : Tok) (news : List (Addr × Obj)) :
    Has w mean mg mb 8 72 368 [.str (txt l) t1, .int p t2] [] news (OInt (fcs w l p)) := by
  refine fcs_step w mean mg mb 7 66 (by omega) (by omega) l p hp1 hp2 hl t1 t2 news fun t t' hc => ?_
  have h2 := hc.2.1
  have hn : ¬ preC w l (p - 1) := by
    intro q
    have q1 := q.1
    have q2 := hc.2.2.2.1
    rw [show p - 1 - 1 = p - 2 by omega] at q1
    omega
  have e : fcs0 w l (p - 1) = fcs w l (p - 1) := by unfold fcs; rw [if_neg hn]
  rw [e]
  exact fcs_step w mean mg mb 6 60 (by omega) (by omega) l (p - 1) (by omega) (by omega) hl t t' news fun _ _ hq => (hn hq).elim
end Mine
/-! W10 -/
namespace Mine
example : True := by
  w_top off
  trivial
example : PySem.Challenge.rw_ax6033_01 = PySem.Challenge.rw_ax6033_01 → hd.heap_39 = hd.heap_39 → True := by
  k_fill
  intros; trivial
local macro_rules | `(tactic| walk_at "M steps") => `(tactic| repeat' ((fail_if_success (with_reducible show wpAny _ _ (exec (Stmt.While _ _ _ _) _) _ _ _)); (fail_if_success (with_reducible show wpAny _ _ (exec (Stmt.For _ _ _ _ _) _) _ _ _)); first | (k_unfold; (try dsimp only)) | (k_end; wrow_close) | walk1 | (dsimp only; walk1) | (leave1; walk_say "STEP leave1"; try dsimp only)))
local macro_rules | `(tactic| walk_at "M if") => `(tactic| repeat' ((fail_if_success (with_reducible show wpAny _ _ (exec (Stmt.While _ _ _ _) _) _ _ _)); (fail_if_success (with_reducible show wpAny _ _ (exec (Stmt.For _ _ _ _ _) _) _ _ _)); (fail_if_success (with_reducible show wpAny _ _ (exec (Stmt.If _ _ _ _) _) _ _ _)); first | (k_unfold; (try dsimp only)) | (k_end; wrow_close) | walk1 | (dsimp only; walk1) | (leave1; walk_say "STEP leave1"; try dsimp only)))
local macro_rules | `(tactic| walk_at "M has") => `(tactic| ((case hB => k_asm); (case hF => k_asm); (case hX => k_asm); (case hN => k_asm); (case hT => k_asm); (case hK => exact rfl); (case hd => omega); (case hu => omega)))
local macro_rules | `(tactic| walk_at "call ref") => `(tactic| (k_here; (with_reducible show wpAny _ _ (call (Value.ref _) [Value.int _ _, Value.int _ _] []) _ _ _); (refine' simple_use ?hB ?hF ?hX ?hN ?hT ?hK ?hd ?hu ?_ ?_); walk_at "M has"; (all_goals (intros; (try k_sweep)))))
local macro_rules | `(tactic| walk_at "call ref") => `(tactic| (k_here; (with_reducible show wpAny _ _ (call (Value.ref _) [Value.int _ _] []) _ _ _); (first | refine' has_bool (is_ext _ _ _ _ _ _ _) ?hB ?hF ?hX ?hN ?hT ?hK ?hd ?hu ?_ | refine' has_bool (is_link _ _ _ _ _ _ _) ?hB ?hF ?hX ?hN ?hT ?hK ?hd ?hu ?_ | refine' has_bool (is_cons _ _ _ _ _ _ _) ?hB ?hF ?hX ?hN ?hT ?hK ?hd ?hu ?_ | refine' has_bool (is_iext _ _ _ _ _ _ _) ?hB ?hF ?hX ?hN ?hT ?hK ?hd ?hu ?_ | refine' has_int (gcb _ _ _ _ _ _ _) ?hB ?hF ?hX ?hN ?hT ?hK ?hd ?hu ?_); walk_at "M has"; intros; (try k_sweep)))
local macro_rules | `(tactic| walk_at "M cut") => `(tactic| (walk_at "M steps"; (all_goals (refine cut_end (by assumption) (by assumption) (by first | exact fun _ h => h | exact fun _ h => .tail _ h | exact fun _ h => .tail _ (.tail _ h)) ?_)); (all_goals (first | (simp; done) | (simp [*]; done) | (simp_all; done) | grind))))
local macro_rules | `(tactic| walk_at "M while") => `(tactic| repeat' ((fail_if_success (with_reducible show wpAny _ _ (exec (Stmt.While _ _ _ _) _) _ _ _)); (fail_if_success (with_reducible show wpAny _ _ (exec (Stmt.For _ _ _ _ _) _) _ _ _)); first | (k_unfold; (try dsimp only)) | (k_end; wrow_close) | walk1 | (dsimp only; walk1) | (leave1; walk_say "STEP leave1"; try dsimp only)))
local macro_rules | `(tactic| walk_at "call ref") => `(tactic| (k_here; (with_reducible show wpAny _ _ (call (Value.ref _) [Value.str _ _, Value.int _ _] []) _ _ _); (refine' rec_use (by assumption) ?hG ?hB ?hF ?hX ?hN ?hT ?hK ?hd ?hu ?_); (case hG => (unfold preC; (refine ⟨?_, ?_, ?_, ?_, ?_⟩) <;> first | assumption | omega)); walk_at "M has"; intros; (try k_sweep)))
local macro_rules | `(tactic| walk_at "call ref") => `(tactic| (k_here; (with_reducible show wpAny _ _ (call (Value.ref _) [Value.int _ _, Value.int _ _, Value.str _ _, Value.int _ _, Value.int _ _] []) _ _ _); (refine' should_use (by omega) (by omega) (by omega) ?hB ?hF ?hX ?hN ?hT ?hK ?hd ?hu ?_); walk_at "M has"; intro _ _ _ _ _ _ _; (try k_sweep)))
local macro_rules | `(tactic| walk_at "M cut") => `(tactic| (walk_at "M steps"; (all_goals (refine cut_end (by assumption) (by assumption) (by first | exact fun _ h => h | exact fun _ h => .tail _ h | exact fun _ h => .tail _ (.tail _ h)) ?_)); (all_goals (first | (simp; done) | (simp [*]; done) | (simp_all; done) | (simp_all [cr_eq]; done) | (simp_all [cr_eq]; omega) | grind))))
local macro_rules | `(tactic| walk_at "M attr") => `(tactic| (walk_at "M has"; (case hm => exact .head _); (case hm2 => exact .tail _ (.head _)); (case hv => exact rfl); intros; (try k_sweep)))
local macro_rules | `(tactic| walk_at "M iter") => `(tactic| repeat' ((fail_if_success (with_reducible show wpAny _ _ (pyIter _) _ _ _)); first | (k_unfold; (try dsimp only)) | (k_end; wrow_close) | walk1 | (dsimp only; walk1) | (leave1; walk_say "STEP leave1"; try dsimp only)))
section
variable {w : World} {mean : ExcName → Option Value} {mg mb : Str → Option Value} {l : List Nat} {p : Int} {news : List (Addr × Obj)}
  {dp un : Nat} {gd : Option (List Code)} {cn : Str} {cs : Scope} {a : Addr} {ccd : Value} {cl : List (Str × Addr)} {outer : List Env} {A₀ : Around} {base h₀ : Heap} {L : Addr} {m : Str → Option Value} {s : Shared} {Q E : Value → Shared → Prop}
theorem fcs_use {t t' : Tok} (hp1 : 1 ≤ p) (hp2 : p ≤ l.length) (hl : l.length ≤ 15) (B : Below A₀ base outer h₀) (F : Fr h₀ L s.heap m) (X : (hd.heap_39 w.params).In h₀) (N : News h₀ L s.heap news) (T : Top VW LW mean mg mb h₀) (hk : cs.kind = .function) (hd : dp + 8 < recursionLimit) (hu : un + 72 < cLine)
    (h : ∀ t h' tk', Fr h₀ L h' m → News h₀ L h' news → Q (.int (fcs w l p) t) { s with heap := h', toks := tk' }) :
    wpAny (model PG w) (ktrTop dp un gd cn cs L a ccd cl outer) (call (.ref 368) [.str (txt l) t, .int p t']) Q E s := has_int (fcsC w mean mg mb l p hp1 hp2 hl t t' news) B F X N T hk hd hu h
end
local macro_rules | `(tactic| walk_at "call ref") => `(tactic| (k_here; (with_reducible show wpAny _ _ (call (Value.ref _) [Value.str _ _, Value.int _ _] []) _ _ _); (refine' fcs_use (by omega) (by omega) (by omega) ?hB ?hF ?hX ?hN ?hT ?hK ?hd ?hu ?_); walk_at "M has"; intros; (try k_sweep)))
section
variable {prog : Program} {w : World} {A : Around} {E : Value → Shared → Prop} {s : Shared} {l : List Nat} {t : Tok}
theorem truthy_txt {Q : Bool → Shared → Prop} (h0 : 1 ≤ l.length) (hl : l.length ≤ 1000) (h : ∀ tk, Q true { s with toks := tk }) : wpAny (model prog w) A (truthy (.str (txt l) t)) Q E s := by
  refine P.truthy_str (by rw [txt_length]; omega) ?_
  have e : (((txt l).length : Int) != 0) = true := by
    rw [txt_length]
    exact bne_iff_ne.mpr (by omega)
  rw [e]
  exact h _
theorem len_txt {Q : Value → Shared → Prop} (hl : l.length ≤ 1000) (h : ∀ t tk, Q (.int l.length t) { s with toks := tk }) : wpAny (model prog w) A (call (.builtin "len") [.str (txt l) t]) Q E s := by
  refine P.len_str (by rw [txt_length]; omega) ?_
  rw [txt_length]
  exact h _ _
end
local macro_rules | `(tactic| walk_at "truthy str") => `(tactic| (k_here; (with_reducible show wpAny _ _ (truthy (Value.str (txt _) _)) _ _ _); refine truthy_txt (by omega) (by omega) (fun _ => ?_)))
local macro_rules | `(tactic| walk_at "call builtin:len") => `(tactic| (k_here; (with_reducible show wpAny _ _ (call (Value.builtin "len") [Value.str (txt _) _]) _ _ _); refine len_txt (by omega) (fun _ _ => ?_)))
theorem gbb (w : World) (mean : ExcName → Option Value) (mg mb : Str → Option Value) (l : List Nat) (p : Int) (hp1 : 1 ≤ p) (hp2 : p ≤ l.length) (hl : l.length ≤ 15) (t1 t2 : Tok) (news : List (Addr × Obj)) :
    Has w mean mg mb 9 80 375 [.str (txt l) t1, .int p t2] [] news (OInt (fcs w l p)) := by
  refine has_of_body (binds := [(Str.ofString "unistr", .str (txt l) t1), (Str.ofString "pos", .int p t2)]) rfl rfl (fun _ => rfl) (locs rfl) (by decide) rfl rfl rfl ?_
  intro dp un gd outer A₀ base g L s B F X N lt T hd hu
  walk_at "M steps"
  exact ret_end [] (by assumption) (by assumption) ⟨rfl, _, int_eq (by rw [if_neg (by omega)])⟩
end Mine
/-! W11 -/
namespace Mine
example : True := by
  w_top off
  trivial
example : PySem.Challenge.rw_ax6033_01 = PySem.Challenge.rw_ax6033_01 → hd.heap_39 = hd.heap_39 → True := by
  k_fill
  intros; trivial

/-! a generator function, drained -/
section
variable {prog : Program} {w : World} {A : Around} {E : Value → Shared → Prop} {s : Shared}
theorem pyNext_genQ {a : Addr} {g n : Nat} {gs : GenState} {P : Nat → Shared → Shared → Prop} {Y : Protocol} {Q : Option Value → Shared → Prop} (hh : A.handled = none)
    (hl : s.heap.NoLimit) (hroom : A.depth < recursionLimit)
    (hg : s.heap.IsGen a g) (hgs : s.gens[g]? = some gs)
    (hgo : gs.Goes (model prog w) A.in1 (fun n s₀ r s₁ => r = .ok (.ret .none) ∧ P n s₀ s₁) Y n (.send .none) (s.setGen g .running))
    (hY : ∀ v s₁ gs', gs'.bare = true → Y (n - 1) (s.setGen g .running) v s₁ (fun r' s'' => match n with
        | 0 => False
        | m + 1 => gs'.Goes (model prog w) A.in1 (fun n s₀ r s₁ => r = .ok (.ret .none) ∧ P n s₀ s₁) Y m r' s'') → Q (some v) (s₁.setGen g gs'))
    (hP : ∀ s₁, P n (s.setGen g .running) s₁ → ∀ h', (∀ b o, s₁.heap.get? b = some o → h'.get? b = some o) → Q none { s₁.setGen g .finished with heap := h' }) :
    wpAny (model prog w) A (pyNext (.ref a)) Q E s := by
  unfold pyNext
  refine wpAny_bind (wpAny_attempt (wpAny_callSpecial?_slot (name := Str.ofString "__next__") hg.typeIs slot_gen_next
    (wpAny_call_entry slot_gen_next hg.typeIs entry_gen_next ?_ (args_gen_next _))))
  show wpAny _ _ (Builtin.Generator.genWake (.ref a) (.send .none)) _ _ s
  unfold Builtin.Generator.genWake
  refine wpAny_bind (wpAny_holding (wpAny_genNumber hg (wpAny_bind (wpAny_genState hgs ?_))))
  cases gs with
  | running => exact hgo.elim
  | finished => exact hgo.elim
  | _ =>
    refine wpAny_bind (wpAny_roomToWake hl hroom ?_)
    show wpAny _ _ (.resume g (.send .none) [] _) _ _ s
    refine wpAny_resumeQ hgs hgo (fun x s₁ hx => ?_) (fun v s₁ gs' hb hv => ?_)
    · obtain ⟨rfl, hp⟩ := hx
      show wpAny _ _ (newExc (.type "StopIteration") [] >>= _) _ _ _
      refine wpAny_bind ?_
      simp only [newExc, newTuple]
      refine wpAny_bind (wpAny_newObj_type ?_ (by size_fits))
      refine wpAny_bind (m := firstArgMember _ _) (wpAny_of_eq (a := Value.none) (by first | rfl | (simp only [firstArgMember]; rfl)) ?_)
      refine wpAny_newObj_type ?_ (by size_fits)
      simp only [raiseNew]
      refine wpAny_bind (wpAny_bind (wpAny_handled ?_))
      rw [show A.in1.handled = none from hh]
      refine wpAny_throw ?_
      refine wpAny_bind (wpAny_isInstance (T := "StopIteration") (b := true) ⟨_, Heap.get?_push_size _ rfl, rfl⟩ isSubtype_stop ?_)
      exact wpAny_pure (hP s₁ hp _ fun b o hb => Heap.get?_push_of_some _ (Heap.get?_push_of_some _ hb))
    · exact wpAny_pure ⟨v, rfl, wpAny_pure (hY v s₁ gs' hb hv)⟩
end

section
variable {α : Type} {prog : Program} {w : World} {A : Around} {C : Addr} {all : List α} {F : α → Value → Prop}
def itProto (C : Addr) (all : List α) (F : α → Value → Prop) : Protocol := fun m s₀ v s kap =>
  (∃ it, all[all.length - 1 - m]? = some it ∧ F it v) ∧ GenSince C [] s₀ s ∧
    ∀ s'' : Shared, (∀ b, b ≤ C → ∀ o, s.heap.get? b = some o → s''.heap.get? b = some o) → kap (.send .none) s''
def itR (C : Addr) : GenEnd := fun n s₀ r s₁ => r = .ok (.ret .none) ∧ (n = 0 ∧ GenSince C [] s₀ s₁)
def GenAtH (prog : Program) (w : World) (A : Around) (a : Addr) (g : Nat) (C : Addr) (all : List α) (F : α → Value → Prop) (j : Nat) (h : Heap) (gens : Array GenState) : Prop :=
  h.IsGen a g ∧ h.NoLimit ∧ ∃ gs, gens[g]? = some gs ∧ ∀ s'' : Shared, (∀ b, b ≤ C → ∀ o, h.get? b = some o → s''.heap.get? b = some o) →
    gs.Goes (model prog w) A.in1 (itR C) (itProto C all F) (all.length - j) (.send .none) s''
theorem walks_items (hh : A.handled = none) (a : Addr) (g : Nat) (haC : C < a) (hroom : A.depth < recursionLimit) (hcs : cStatics < C) :
    WalksS prog w A a (a :: List.range (C + 1)) [C] (GenOnlyQ g) all.length (fun j y => ∃ it, all[j]? = some it ∧ F it y) (fun j s => GenAtH prog w A a g C all F j s.heap s.gens) where
  sub := fun b hb => by
    rw [List.mem_singleton.mp hb]
    exact List.mem_cons_of_mem _ (List.mem_range.mpr (Nat.lt_succ_self _))
  grefl := fun _ => .inl rfl
  gtrans := fun _ _ _ x y => x.trans y
  frame := fun j s h' tk st _ hk =>
    ⟨let ⟨o, nm, qn, ho, r⟩ := st.1; ⟨o, nm, qn, hk a (List.mem_cons_self ..) o ho, r⟩,
     (let ⟨mc, hns, hnn⟩ := st.2.1; ⟨mc, hns.at' fun o e => hk cStatics (List.mem_cons_of_mem _ (List.mem_range.mpr (Nat.lt_succ_of_lt hcs))) o e, hnn⟩),
     let ⟨gs, hgs, hgo⟩ := st.2.2; ⟨gs, hgs, fun s'' hal => hgo s'' fun b hb o e => hal b hb o (hk b (List.mem_cons_of_mem _ (List.mem_range.mpr (Nat.lt_succ_of_le hb))) o e)⟩⟩
  item := fun j s Q E hj st hQ => by
    obtain ⟨hg, hl, gs, hgs, hgo⟩ := st
    obtain ⟨m, hm⟩ : ∃ m, all.length - j = m + 1 := ⟨all.length - j - 1, by omega⟩
    rw [hm] at hgo
    refine wpAny_with_toks (Nat.le_refl s.toks) ?_
    refine pyNext_genQ (P := fun n s₀ s₁ => n = 0 ∧ GenSince C [] s₀ s₁) hh hl hroom hg hgs (hgo _ fun _ _ _ e => e) (fun v s₁ gs' hb hv => ?_) (fun s₁ hp h' hk => ?_)
    · obtain ⟨⟨it, hi, hF⟩, ⟨h₁, tk₁, rfl, hk₁⟩, hkap⟩ := hv
      have hidx : all.length - 1 - (m + 1 - 1) = j := by omega
      rw [hidx] at hi
      intro htk
      refine hQ v _ ⟨it, hi, hF⟩ ⟨let ⟨o, nm, qn, ho, r⟩ := hg; ⟨o, nm, qn, hk₁ a o (Nat.ne_of_gt haC) List.not_mem_nil ho, r⟩, (let ⟨mc, hns, hnn⟩ := hl; ⟨mc, hns.at' fun o e => hk₁ cStatics o (Nat.ne_of_lt hcs) List.not_mem_nil e, hnn⟩), gs', setGen_self (gs := .running) (setGen_self hgs), fun s'' hal => ?_⟩
        ⟨fun b o hb e => hk₁ b o (fun h => hb (h ▸ List.mem_cons_self ..)) List.not_mem_nil e, .of ((GenOnly.setGen s g .running).trans (GenOnly.setGen _ g gs')) (setGen_self (gs := .running) (setGen_self hgs)) hb, rfl, rfl, htk⟩
      have e : all.length - (j + 1) = m := by omega
      rw [e]
      exact hkap s'' hal
    · exact absurd hp.1 (Nat.succ_ne_zero m)
  done := fun s Q E st hQ => by
    obtain ⟨hg, hl, gs, hgs, hgo⟩ := st
    rw [Nat.sub_self] at hgo
    refine wpAny_with_toks (Nat.le_refl s.toks) ?_
    refine pyNext_genQ (P := fun n s₀ s₁ => n = 0 ∧ GenSince C [] s₀ s₁) hh hl hroom hg hgs (hgo _ fun _ _ _ e => e) (fun v s₁ gs' hb hv => ?_) (fun s₁ hp h' hk => ?_)
    · obtain ⟨_, _, hkap⟩ := hv
      exact False.elim (hkap s₁ fun _ _ _ e => e)
    · obtain ⟨_, h₁, tk₁, rfl, hk₁⟩ := hp
      intro htk
      exact hQ _ ⟨fun b o hb e => hk b o (hk₁ b o (fun h => hb (h ▸ List.mem_cons_self ..)) List.not_mem_nil e), .of ((GenOnly.setGen s g .running).trans (GenOnly.setGen _ g .finished)) (setGen_self (gs := .running) (setGen_self hgs)) rfl, rfl, rfl, htk⟩
  self := fun _ _ _ _ st hQ => wpAny_pyIter_gen st.1 hQ

theorem GenSince.tr {s₀ s s' : Shared} (x : GenSince C [] s₀ s) (y : GenSince C [] s s') : GenSince C [] s₀ s' := by
  obtain ⟨h', tk, rfl, k⟩ := y
  exact x.step k
def GFin (C : Addr) (its : List α) (s s₁ : Shared) : Prop := its = [] ∧ GenSince C [] s s₁
def GNext (C : Addr) (J : List α → Shared → Prop) (r : List α) (s₅ : Shared) (f : Flow) (s₆ : Shared) : Prop := f = .next ∧ GenSince C [] s₅ s₆ ∧ J r s₆
def GYield (prog : Program) (w : World) (A' : Around) (b4 : Stmt) (env : Env) (C : Addr) (F : α → Value → Prop) (J : List α → Shared → Prop) (it : α) (r : List α) (s : Shared) (v : Value) (s₄ : Shared) : Prop :=
  GenSince C [] s s₄ ∧ F it v ∧ ∀ s₅ : Shared, (∀ b, b ≤ C → ∀ o, s₄.heap.get? b = some o → s₅.heap.get? b = some o) → wpAny (model prog w) A' (exec b4 env) (GNext C J r s₅) (fun _ _ => False) s₅
def GGo (prog : Program) (w : World) (A' : Around) (e : Expr) (b4 : Stmt) (env : Env) (C : Addr) (F : α → Value → Prop) (J : List α → Shared → Prop) (its : List α) (s s₃ : Shared) : Prop :=
  ∃ it r, its = it :: r ∧ wpAny (model prog w) A' (eval e env) (GYield prog w A' b4 env C F J it r s) (fun _ _ => False) s₃
theorem seg_items {test e : Expr} {b1 b2 b4 : Stmt} {yp ep : Pos} {env : Env} {fs : List Frame} {J : List α → Shared → Prop} {A' : Around}
    (hA : A.over (.whileLoop test [b1, b2, .Expr (.Yield (some e) yp) ep, b4] [] env) fs = A') (hfs : splitAtGen fs = none) (hfg : fs.any Frame.guarded = false) (hco : env.scope.isCoroutine = false) (hi : interactive env = false)
    (turn : ∀ its s, J its s → wpAny (model prog w) A' (isTrue test env (eval test env)) (fun b s₁ => if b = true then
        wpAny (model prog w) A' (exec b1 env) (fun f s₂ => match f with
          | .next => wpAny (model prog w) A' (exec b2 env) (fun f s₃ => match f with
            | .next => GGo prog w A' e b4 env C F J its s s₃
            | .brk => GFin C its s s₃
            | _ => False) (fun _ _ => False) s₂
          | _ => False) (fun _ _ => False) s₁
      else GFin C its s s₁) (fun _ _ => False) s)
    (fin : ∀ s₀ s, GenSince C [] s₀ s → Seg (model prog w) A (itR C) (itProto C all F) 0 s₀ (.whileLoop test [b1, b2, .Expr (.Yield (some e) yp) ep, b4] [] env) (.pure (.done .next)) fs s) :
    ∀ (its : List α) (s₀ s : Shared), (∃ d, all = d ++ its) → J its s → GenSince C [] s₀ s →
      Seg (model prog w) A (itR C) (itProto C all F) its.length s₀ (.whileLoop test [b1, b2, .Expr (.Yield (some e) yp) ep, b4] [] env) ((model prog w).den (.whileLoop test [b1, b2, .Expr (.Yield (some e) yp) ep, b4] [] env)) fs s := by
  subst hA
  intro its
  induction its with
  | nil =>
    intro s₀ s _ hJ hs
    refine seg_whileLoop (wpAny_mono (turn _ s hJ) (fun b s₁ q => ?_) fun _ _ x => x.elim)
    cases b with
    | false =>
      rw [if_neg Bool.false_ne_true] at q ⊢
      exact seg_execs_nil (fin s₀ s₁ (GenSince.tr hs q.2))
    | true =>
      rw [if_pos rfl] at q ⊢
      refine seg_execs_cons (seg_wrap (wpAny_mono q (fun f s₂ q => ?_) fun _ _ x => x.elim))
      cases f with
      | ret v => exact q.elim
      | brk => exact q.elim
      | cont => exact q.elim
      | next =>
        refine seg_execs_cons (seg_wrap (wpAny_mono q (fun f s₃ q => ?_) fun _ _ x => x.elim))
        cases f with
        | ret v => exact q.elim
        | cont => exact q.elim
        | brk => exact fin s₀ s₃ (GenSince.tr hs q.2)
        | next =>
          obtain ⟨it, r, e, _⟩ := q
          cases e
  | cons it r ih =>
    intro s₀ s hd hJ hs
    refine seg_whileLoop (wpAny_mono (turn _ s hJ) (fun b s₁ q => ?_) fun _ _ x => x.elim)
    cases b with
    | false =>
      rw [if_neg Bool.false_ne_true] at q
      cases q.1
    | true =>
      rw [if_pos rfl] at q ⊢
      refine seg_execs_cons (seg_wrap (wpAny_mono q (fun f s₂ q => ?_) fun _ _ x => x.elim))
      cases f with
      | ret v => exact q.elim
      | brk => exact q.elim
      | cont => exact q.elim
      | next =>
        refine seg_execs_cons (seg_wrap (wpAny_mono q (fun f s₃ q => ?_) fun _ _ x => x.elim))
        cases f with
        | ret v => exact q.elim
        | cont => exact q.elim
        | brk => cases q.1
        | next =>
          obtain ⟨it', r', e, q⟩ := q
          cases e
          refine seg_execs_cons (seg_Expr_Yield hfs rfl hfg (wpAny_mono q (fun v s₄ q => fun kap hk => ?_) fun _ _ x => x.elim) hco hi)
          obtain ⟨h1, h2, h3⟩ := q
          obtain ⟨d, hd⟩ := hd
          refine ⟨⟨it, ?_, h2⟩, GenSince.tr hs h1, fun s₅ hk5 => hk .none s₅ ?_⟩
          · have : all.length - 1 - r.length = d.length := by rw [hd]; simp
            rw [this, hd]; simp
          · refine seg_execs_cons (seg_wrap (wpAny_mono (h3 s₅ hk5) (fun f s₆ q => ?_) fun _ _ x => x.elim))
            obtain ⟨rfl, q1, q2⟩ := q
            exact seg_again rfl (ih s₅ s₆ ⟨d ++ [it], by rw [hd]; simp⟩ q2 q1)
end
end Mine
/-! W12 -/
namespace Mine
example : True := by
  w_top off
  trivial
example : PySem.Challenge.rw_ax6033_01 = PySem.Challenge.rw_ax6033_01 → hd.heap_39 = hd.heap_39 → True := by
  k_fill
  intros; trivial
local macro_rules | `(tactic| walk_at "M steps") => `(tactic| repeat' ((fail_if_success (with_reducible show wpAny _ _ (exec (Stmt.While _ _ _ _) _) _ _ _)); (fail_if_success (with_reducible show wpAny _ _ (exec (Stmt.For _ _ _ _ _) _) _ _ _)); first | (k_unfold; (try dsimp only)) | (k_end; wrow_close) | walk1 | (dsimp only; walk1) | (leave1; walk_say "STEP leave1"; try dsimp only)))
local macro_rules | `(tactic| walk_at "M if") => `(tactic| repeat' ((fail_if_success (with_reducible show wpAny _ _ (exec (Stmt.While _ _ _ _) _) _ _ _)); (fail_if_success (with_reducible show wpAny _ _ (exec (Stmt.For _ _ _ _ _) _) _ _ _)); (fail_if_success (with_reducible show wpAny _ _ (exec (Stmt.If _ _ _ _) _) _ _ _)); first | (k_unfold; (try dsimp only)) | (k_end; wrow_close) | walk1 | (dsimp only; walk1) | (leave1; walk_say "STEP leave1"; try dsimp only)))
local macro_rules | `(tactic| walk_at "M has") => `(tactic| ((case hB => k_asm); (case hF => k_asm); (case hX => k_asm); (case hN => k_asm); (case hT => k_asm); (case hK => exact rfl); (case hd => omega); (case hu => omega)))
local macro_rules | `(tactic| walk_at "call ref") => `(tactic| (k_here; (with_reducible show wpAny _ _ (call (Value.ref _) [Value.int _ _, Value.int _ _] []) _ _ _); (refine' simple_use ?hB ?hF ?hX ?hN ?hT ?hK ?hd ?hu ?_ ?_); walk_at "M has"; (all_goals (intros; (try k_sweep)))))
local macro_rules | `(tactic| walk_at "call ref") => `(tactic| (k_here; (with_reducible show wpAny _ _ (call (Value.ref _) [Value.int _ _] []) _ _ _); (first | refine' has_bool (is_ext _ _ _ _ _ _ _) ?hB ?hF ?hX ?hN ?hT ?hK ?hd ?hu ?_ | refine' has_bool (is_link _ _ _ _ _ _ _) ?hB ?hF ?hX ?hN ?hT ?hK ?hd ?hu ?_ | refine' has_bool (is_cons _ _ _ _ _ _ _) ?hB ?hF ?hX ?hN ?hT ?hK ?hd ?hu ?_ | refine' has_bool (is_iext _ _ _ _ _ _ _) ?hB ?hF ?hX ?hN ?hT ?hK ?hd ?hu ?_ | refine' has_int (gcb _ _ _ _ _ _ _) ?hB ?hF ?hX ?hN ?hT ?hK ?hd ?hu ?_); walk_at "M has"; intros; (try k_sweep)))
local macro_rules | `(tactic| walk_at "M cut") => `(tactic| (walk_at "M steps"; (all_goals (refine cut_end (by assumption) (by assumption) (by first | exact fun _ h => h | exact fun _ h => .tail _ h | exact fun _ h => .tail _ (.tail _ h)) ?_)); (all_goals (first | (simp; done) | (simp [*]; done) | (simp_all; done) | grind))))
local macro_rules | `(tactic| walk_at "M while") => `(tactic| repeat' ((fail_if_success (with_reducible show wpAny _ _ (exec (Stmt.While _ _ _ _) _) _ _ _)); (fail_if_success (with_reducible show wpAny _ _ (exec (Stmt.For _ _ _ _ _) _) _ _ _)); first | (k_unfold; (try dsimp only)) | (k_end; wrow_close) | walk1 | (dsimp only; walk1) | (leave1; walk_say "STEP leave1"; try dsimp only)))
local macro_rules | `(tactic| walk_at "call ref") => `(tactic| (k_here; (with_reducible show wpAny _ _ (call (Value.ref _) [Value.str _ _, Value.int _ _] []) _ _ _); (refine' rec_use (by assumption) ?hG ?hB ?hF ?hX ?hN ?hT ?hK ?hd ?hu ?_); (case hG => (unfold preC; (refine ⟨?_, ?_, ?_, ?_, ?_⟩) <;> first | assumption | omega)); walk_at "M has"; intros; (try k_sweep)))
local macro_rules | `(tactic| walk_at "call ref") => `(tactic| (k_here; (with_reducible show wpAny _ _ (call (Value.ref _) [Value.int _ _, Value.int _ _, Value.str _ _, Value.int _ _, Value.int _ _] []) _ _ _); (refine' should_use (by omega) (by omega) (by omega) ?hB ?hF ?hX ?hN ?hT ?hK ?hd ?hu ?_); walk_at "M has"; intro _ _ _ _ _ _ _; (try k_sweep)))
local macro_rules | `(tactic| walk_at "M cut") => `(tactic| (walk_at "M steps"; (all_goals (refine cut_end (by assumption) (by assumption) (by first | exact fun _ h => h | exact fun _ h => .tail _ h | exact fun _ h => .tail _ (.tail _ h)) ?_)); (all_goals (first | (simp; done) | (simp [*]; done) | (simp_all; done) | (simp_all [cr_eq]; done) | (simp_all [cr_eq]; omega) | grind))))
local macro_rules | `(tactic| walk_at "M attr") => `(tactic| (walk_at "M has"; (case hm => exact .head _); (case hm2 => exact .tail _ (.head _)); (case hv => exact rfl); intros; (try k_sweep)))
local macro_rules | `(tactic| walk_at "M iter") => `(tactic| repeat' ((fail_if_success (with_reducible show wpAny _ _ (pyIter _) _ _ _)); first | (k_unfold; (try dsimp only)) | (k_end; wrow_close) | walk1 | (dsimp only; walk1) | (leave1; walk_say "STEP leave1"; try dsimp only)))
local macro_rules | `(tactic| walk_at "call ref") => `(tactic| (k_here; (with_reducible show wpAny _ _ (call (Value.ref _) [Value.str _ _, Value.int _ _] []) _ _ _); (refine' fcs_use (by omega) (by omega) (by omega) ?hB ?hF ?hX ?hN ?hT ?hK ?hd ?hu ?_); walk_at "M has"; intros; (try k_sweep)))
local macro_rules | `(tactic| walk_at "truthy str") => `(tactic| (k_here; (with_reducible show wpAny _ _ (truthy (Value.str (txt _) _)) _ _ _); refine truthy_txt (by omega) (by omega) (fun _ => ?_)))
local macro_rules | `(tactic| walk_at "call builtin:len") => `(tactic| (k_here; (with_reducible show wpAny _ _ (call (Value.builtin "len") [Value.str (txt _) _]) _ _ _); refine len_txt (by omega) (fun _ _ => ?_)))
/-- the pieces that iter_graphemes_reverse gives from pos down -/
inductive GL (w : World) (l : List Nat) (start : Int) : Int → List (Int × Int) → Prop
  | stop {pos : Int} (h : ¬ start < pos) : GL w l start pos []
  | brk {pos : Int} (h : start < pos) (h2 : fcs w l pos < start) : GL w l start pos []
  | step {pos : Int} {r : List (Int × Int)} (h : start < pos) (h2 : ¬ fcs w l pos < start) (t : GL w l start (fcs w l pos) r) : GL w l start pos ((fcs w l pos, pos) :: r)
def sl (l : List Nat) (a b : Int) : List Nat := (l.drop a.toNat).take (b - a).toNat
def IsPiece (l : List Nat) (it : Int × Int) (v : Value) : Prop := ∃ t, v = .str (txt (sl l it.1 it.2)) t
theorem run_bd (w : World) (l : List Nat) (k : Int) : ∀ j, k ≤ (runS w l k j).1 ∧ (runS w l k j).1 ≤ k + j
  | 0 => ⟨Int.le_refl _, by simp [runS]⟩
  | j + 1 => by
    have ih := run_bd w l k j
    rw [runS]
    dsimp only
    split <;> omega
theorem fcs_bd (w : World) (l : List Nat) (p : Int) (h : 1 ≤ p) : 0 ≤ fcs w l p ∧ fcs w l p ≤ p - 1 := by
  have b0 : ∀ q, 1 ≤ q → 0 ≤ fcs0 w l q ∧ fcs0 w l q ≤ q - 1 := by
    intro q hq
    unfold fcs0
    split
    · omega
    · split
      · omega
      · have h1 := run_bd w l (backS w l (q - 1).toNat) ((q - 1).toNat - backS w l (q - 1).toNat)
        have h2 := back_le w l (q - 1).toNat
        omega
  unfold fcs
  split
  · rename_i hc
    have := b0 (p - 1) (by have := hc.2.1; omega)
    omega
  · exact b0 p h

def newsOf (g : Heap) (C : Addr) (h : Heap) : List (Addr × Obj) :=
  (List.range h.objs.size).filterMap fun b => if b = C then none else match g.get? b with
    | some _ => none
    | none => (h.get? b).map fun o => (b, o)
theorem newsOf_news {g h : Heap} {C : Addr} : News g C h (newsOf g C h) := by
  intro p hp
  unfold newsOf at hp
  rw [List.mem_filterMap] at hp
  obtain ⟨b, _, e⟩ := hp
  by_cases hb : b = C
  · rw [if_pos hb] at e; cases e
  · rw [if_neg hb] at e
    cases q : g.get? b with
    | some o => rw [q] at e; cases e
    | none =>
      rw [q] at e
      dsimp only at e
      cases q2 : h.get? b with
      | none => rw [q2] at e; cases e
      | some o => rw [q2] at e; cases e; exact ⟨q2, hb, q⟩
theorem newsOf_mem {g h : Heap} {C b : Addr} {o : Obj} (hb : b ≠ C) (hg : g.get? b = none) (hh : h.get? b = some o) : (b, o) ∈ newsOf g C h := by
  unfold newsOf
  rw [List.mem_filterMap]
  exact ⟨b, List.mem_range.mpr (Heap.lt_size hh), by rw [if_neg hb, hg, hh]; rfl⟩
theorem keeps_of {g h h' : Heap} {C : Addr} {m m' : Str → Option Value} (F : Fr g C h m) (F' : Fr g C h' m') (N' : News g C h' (newsOf g C h)) : ∀ b o, b ≠ C → b ∉ ([] : List Addr) → h.get? b = some o → h'.get? b = some o := by
  intro b o hb _ e
  cases q : g.get? b with
  | none => exact (N' _ (newsOf_mem hb q e)).1
  | some o' =>
    have e1 := F.keep b o' q
    rw [e1] at e
    cases e
    exact F'.keep b _ q

section
variable {w : World} {mean : ExcName → Option Value} {mg mb : Str → Option Value} {news : List (Addr × Obj)}
  {dp un : Nat} {gd : Option (List Code)} {cn : Str} {cs : Scope} {ca : Addr} {ccd : Value} {cl : List (Str × Addr)} {outer : List Env} {A₀ : Around} {base h₀ : Heap} {L : Addr} {m : Str → Option Value} {s : Shared} {Q E : Value → Shared → Prop}
  {name qual : Str} {params : Arguments} {body : List Stmt} {scope : Scope} {dV kV doc pm cdv ct oc : Value} {an od : Option Addr} {osl : Array (Option Value)} {f : Addr} {vs : List Value} {kw binds : List (Str × Value)}
theorem callG (F : Fr h₀ L s.heap m) (X : (hd.heap_39 w.params).In h₀) (T : Top VW LW mean mg mb h₀)
    (ho : (hd.heap_39 w.params).lookup f = some ⟨oc, od, .func (fnOf name qual params body scope dV kV doc pm an cdv ct), osl⟩) (hcd : codeIn (hd.heap_39 w.params) cdv qual = true)
    (hb : ∀ S, peek (hd.heap_39 w.params) S (bindArgs (fnOf name qual params body scope dV kV doc pm an cdv ct) ⟨vs, kw⟩) = some binds)
    (hloc : ∀ y ∈ binds, scope.names.lookup y.1 = some .local) (hcell : ∀ x ∈ scope.names, x.2 ≠ .cell) (hco : scope.isCoroutine = false) (hgen : scope.isGenerator = true) (hk : scope.kind = .function) (hroom : dp < recursionLimit)
    (h : ∀ h₁ tk a, s.heap.objs.size < a → Fr s.heap s.heap.objs.size h₁ (kstB (fun _ => none) binds.reverse) → h₁.IsGen a s.gens.size → h₁.NoLimit →
      Q (.ref a) { s with heap := h₁, toks := tk, gens := s.gens.push (.fresh (.func body (envX qual scope s.heap.objs.size f cdv []))) }) :
    wpAny (model PG w) (ktrTop dp un gd cn cs L ca ccd cl outer) (call (.ref f) vs kw) Q E s := by
  have X' := X.keeps F.keep
  refine wpAny_call (codeAny_call_generator hroom (X' _ _ ho) rfl hco hgen rfl (codeRec_of X' hcd) ?_)
  refine kp_binds X' hb _ _ _ _ ?_
  refine wpAny_newFunctionEnv hcell hloc (fun h' hns hsb => ?_) hk
  have nl : h'.NoLimit := (T.nolimit.keeps F.keep).fresh _ hsb
  refine ⟨nl, ?_⟩
  have hlt : s.heap.objs.size < h'.objs.size := hns.lt
  refine h _ _ h'.objs.size hlt ?_ ⟨_, _, _, Heap.get?_push_size _ rfl, rfl, rfl, rfl⟩ (nl.push _)
  have F' : Fr s.heap s.heap.objs.size h' (fun y => binds.reverse.lookup y) := ⟨hns, fun b o e => hsb.extBut b o (Nat.ne_of_lt (Heap.lt_size e)) (Heap.get?_push_of_some _ e), Nat.le_refl _⟩
  exact fr_keep (frLoc F') fun b o e => Heap.get?_push_of_some _ e
end
section
variable {M : Model} {A : Around} {R : GenEnd} {Y : Protocol} {n : Nat} {s₀ : Shared} {c : Code} {fs : List Frame} {s : Shared} {env : Env}
  {K : Flow → Sem Fin} {H : Value → Sem Fin} {gd : Bool → Bool} {lv : List Value → List Value}
theorem seg_stmt {A' : Around} {st : Stmt} {rest : List Stmt} (hA : A.over c fs = A')
    (h : wpAny M A' (exec st env) (fun f s' => Seg M A R Y n s₀ c (match f with | .next => (execs rest env).wrap K H gd lv | f => K f) fs s') (fun _ _ => False) s) :
    Seg M A R Y n s₀ c ((execs (st :: rest) env).wrap K H gd lv) fs s := by
  subst hA
  exact seg_execs_cons (seg_wrap (wpAny_mono h (fun _ _ q => q) fun _ _ x => x.elim))
end
local macro_rules | `(tactic| walk_at "M seg") => `(tactic| repeat' ((fail_if_success (with_reducible show Seg _ _ _ _ _ _ _ _ _ _)); first | (k_unfold; (try dsimp only)) | (k_end; wrow_close) | walk1 | (dsimp only; walk1) | (leave1; walk_say "STEP leave1"; try dsimp only)))
def GCut {σ : Type} (g : Heap) (L : Addr) (news : List (Addr × Obj)) (s : Shared) (ps : σ → List (Str × Value)) (f : Flow) (s' : Shared) : Prop :=
  f = .next ∧ ∃ c h' tk' m', s' = { s with heap := h', toks := tk' } ∧ Fr g L h' m' ∧ News g L h' news ∧ ∀ p ∈ ps c, m' p.1 = some p.2
theorem g_cut {σ : Type} {g : Heap} {L : Addr} {news tl : List (Addr × Obj)} {s : Shared} {ps : σ → List (Str × Value)} {h' : Heap} {tk' : Nat} {m' : Str → Option Value} (c : σ) (F : Fr g L h' m') (N : News g L h' tl) (hs : ∀ p ∈ news, p ∈ tl) (hk : ∀ p ∈ ps c, m' p.1 = some p.2) : GCut g L news s ps .next { s with heap := h', toks := tk' } :=
  ⟨rfl, c, h', tk', m', rfl, F, fun p hp => N p (hs p hp), hk⟩
theorem seg_cut {σ : Type} {prog : Program} {w : World} {A : Around} {R : GenEnd} {Y : Protocol} {n : Nat} {s₀ : Shared} {c : Code} {fs : List Frame} {s : Shared} {env : Env}
  {K : Flow → Sem Fin} {H : Value → Sem Fin} {gd : Bool → Bool} {lv : List Value → List Value} {A' : Around} {st : Stmt} {rest : List Stmt} {g : Heap} {L : Addr} {m : Str → Option Value} {news : List (Addr × Obj)} (ps : σ → List (Str × Value)) (hA : A.over c fs = A')
    (_F : Fr g L s.heap m) (_N : News g L s.heap news)
    (h1 : wpAny (model prog w) A' (exec st env) (GCut g L news s ps) (fun _ _ => False) s)
    (h2 : ∀ c' u h' tk', Fr g L h' (kstB u (ps c')) → News g L h' news → Seg (model prog w) A R Y n s₀ c ((execs rest env).wrap K H gd lv) fs { s with heap := h', toks := tk' }) :
    Seg (model prog w) A R Y n s₀ c ((execs (st :: rest) env).wrap K H gd lv) fs s := by
  refine seg_stmt hA (wpAny_mono h1 (fun f s' q => ?_) fun _ _ x => x)
  obtain ⟨rfl, c', h', tk', m', rfl, F, N, hk⟩ := q
  exact h2 c' m' h' tk' (by rw [kst_same hk]; exact F) N
def GJ {σ α : Type} (g : Heap) (C : Addr) (ps : σ → List (Str × Value)) (P : α → σ → Prop) (its : α) (s : Shared) : Prop := ∃ c m', Fr g C s.heap m' ∧ (∀ p ∈ ps c, m' p.1 = some p.2) ∧ P its c
theorem slice_txt {l : List Nat} {i j : Int} (h0 : 0 ≤ i) (h1 : i ≤ j) (h2 : j ≤ l.length) : Txt.slice (txt l) (some i) (some j) = txt (sl l i j) :=
  eq_of_beq (slice_closesL h0 h1 (by rw [txt_length]; exact h2))
section
variable {prog : Program} {w : World} {A : Around} {E : Value → Shared → Prop} {s : Shared} {value slice : Expr} {l : List Nat} {t : Tok} {h₀ : Heap} {L : Addr} {m : Str → Option Value} {news : List (Addr × Obj)} {Q : Value → Shared → Prop}
theorem slice_use {i j : Int} {ui uj : Tok} (h0 : 0 ≤ i) (h1 : i ≤ j) (h2 : j ≤ l.length) (hl : l.length ≤ 1000) (hF : Fr h₀ L s.heap m) (hN : News h₀ L s.heap news) (h : ∀ h' t' k, Fr h₀ L h' m → News h₀ L h' news → Q (.str (txt (sl l i j)) t') { s with heap := h', toks := k })
    (hs : subscripted slice false (.str (txt l) t) (.ref s.heap.objs.size) = operate [.ref s.heap.objs.size, .str (txt l) t] (getItem (.str (txt l) t) (.ref s.heap.objs.size)) := by with_unfolding_all rfl)
    (ht : ∀ r, letTemporaryGo value (.str (txt l) t) r = pure () := by intro _; with_unfolding_all rfl) :
    wpAny (model prog w) A (subscriptTail value slice (.str (txt l) t) (.ref s.heap.objs.size)) Q E { s with heap := s.heap.push { cls := .type "slice", data := .fields #[.int i ui, .int j uj, .none] } } :=
  slice_strN_ss hF hN (fun h' t' k F N => by rw [slice_txt h0 h1 h2]; exact h h' t' k F N) hs ht (by rw [txt_length]; exact Nat.le_trans hl (by decide))
end
local macro_rules | `(tactic| walk_at "subscriptTail Name Slice str ref") => `(tactic| (k_here; (with_reducible show wpAny _ _ (subscriptTail _ (Expr.Slice (some _) (some _) none _) (Value.str (txt _) _) (Value.ref _)) _ _ _); (with_reducible rename Fr _ _ _ _ => F'); (with_reducible rename News _ _ _ _ => N'); (refine slice_use (s := ⟨_, _, _, _, _⟩) (by omega) (by omega) (by omega) (by omega) F' N' ?_); intro _ _ _ _ _))
theorem fr_le {g h h' : Heap} {C : Addr} {m : Str → Option Value} (F : Fr g C h m) (hg : g.objs.size = C) (hk : ∀ b, b ≤ C → ∀ o, h.get? b = some o → h'.get? b = some o) : Fr g C h' m :=
  ⟨F.ns.at' fun o e => hk _ (Nat.le_refl _) o e, fun b o e => hk b (Nat.le_of_lt (hg ▸ Heap.lt_size e)) o (F.keep b o e), F.above⟩
noncomputable def tk0 (w : World) : Tok := match tupOf ((hd.heap_39 w.params).lookup 376) with
  | some (.int _ t :: _) => t
  | _ => 0
theorem iter_new (w : World) (mean : ExcName → Option Value) (mg mb : Str → Option Value) {dp un : Nat} {gd : Option (List Code)} {cn : Str} {cs : Scope} {ca : Addr} {ccd : Value} {cl : List (Str × Addr)} {outer : List Env} {A₀ : Around} {base h₀ : Heap} {L : Addr} {m : Str → Option Value} {s : Shared} {Q E : Value → Shared → Prop}
    (B : Below A₀ base outer h₀) (F : Fr h₀ L s.heap m) (X : (hd.heap_39 w.params).In h₀) (T : Top VW LW mean mg mb h₀) (hkc : cs.kind = .function) (hdp : dp + 12 < recursionLimit) (hun : un + 100 < cLine)
    {l : List Nat} {st bd : Int} {ev : Value} {t1 t2 : Tok} {vs : List Value} (hl0 : 1 ≤ l.length) (hl : l.length ≤ 15) (all : List (Int × Int))
    (hv : (vs = [.str (txt l) t1] ∧ st = 0 ∧ t2 = tk0 w ∧ ev = .none) ∨ vs = [.str (txt l) t1, .int st t2, ev])
    (he : (ev = .none ∧ bd = l.length) ∨ ∃ e t3, ev = .int e t3 ∧ bd = if (l.length : Int) < e then (l.length : Int) else e)
    (hall : GL w l (if st < 0 then 0 else st) bd all)
    (h : ∀ h₁ tk a C gens, s.heap.objs.size ≤ C → C < a → (∀ b o, s.heap.get? b = some o → h₁.get? b = some o) → cStatics < C → (AllBare s.gens → AllBare gens) →
      GenAtH PG w (ktrTop dp un gd cn cs L ca ccd cl outer).in4 a s.gens.size C all (IsPiece l) 0 h₁ gens → Q (.ref a) { s with heap := h₁, toks := tk, gens := gens }) :
    wpAny (model PG w) (ktrTop dp un gd cn cs L ca ccd cl outer) (call (.ref 383) vs) Q E s := by
  refine callG (binds := [(Str.ofString "unistr", .str (txt l) t1), (Str.ofString "start", .int st t2), (Str.ofString "end", ev)]) F X T rfl rfl ?hb (locs rfl) (by decide) rfl rfl rfl (by omega) ?_
  case hb =>
    rcases hv with ⟨rfl, rfl, rfl, rfl⟩ | rfl
    · exact fun _ => rfl
    · exact fun _ => rfl
  intro h₁ tk a hCa FC hg nl
  have X' := X.keeps F.keep
  have T' : Top VW LW mean mg mb s.heap := T.keeps F.keep
  have B' : Below (ktrTop dp un gd cn cs L ca ccd cl outer) base (envX cn cs L ca ccd cl :: outer) s.heap :=
    have b := pushX (env := envX cn cs L ca ccd cl) B F rfl hkc
    ⟨rfl, b.stays, b.frames⟩
  refine h h₁ tk a s.heap.objs.size _ (Nat.le_refl _) hCa FC.keep ?_ (fun G => G.push rfl) ⟨hg, nl, GenState.fresh (.func _ _), Array.getElem?_push_size, fun s'' hal => ⟨rfl, seg_func ?_⟩⟩
  · obtain ⟨mc, hns, _⟩ := T.nolimit.keeps F.keep
    exact hns.lt
  have F0 : Fr s.heap s.heap.objs.size s''.heap (kstB (fun _ => none) [(Str.ofString "end", ev), (Str.ofString "start", .int st t2), (Str.ofString "unistr", .str (txt l) t1)]) :=
    ⟨FC.ns.at' fun o e => hal _ (Nat.le_refl _) o e, fun b o e => hal b (Nat.le_of_lt (Heap.lt_size e)) o (FC.keep b o e), Nat.le_refl _⟩
  have N0 : News s.heap s.heap.objs.size s''.heap (newsOf s.heap s.heap.objs.size s''.heap) := newsOf_news
  have K0 := fun (h' : Heap) m' => keeps_of (h' := h') (m' := m') F0
  generalize newsOf s.heap s.heap.objs.size s''.heap = n0 at N0 K0
  clear hal FC hg nl
  generalize hC : s.heap.objs.size = C at *
  generalize hg0 : s.heap = g0 at *
  refine seg_stmt (A' := ktrTop (dp + 1) (un + 8) gd (Str.ofString "iter_graphemes_reverse") _ C 383 _ [] (envX cn cs L ca ccd cl :: outer)) rfl ?_
  walk_at "M seg"
  refine seg_stmt (A' := ktrTop (dp + 1) (un + 8) gd (Str.ofString "iter_graphemes_reverse") _ C 383 _ [] (envX cn cs L ca ccd cl :: outer)) rfl ?_
  walk_at "M seg"
  refine seg_stmt (A' := ktrTop (dp + 1) (un + 8) gd (Str.ofString "iter_graphemes_reverse") _ C 383 _ [] (envX cn cs L ca ccd cl :: outer)) rfl ?_
  walk_at "M seg"
  rename Fr _ _ _ _ => F9
  rename News _ _ _ _ => N9
  refine seg_cut (σ := Tok × Tok) (fun q => [(Str.ofString "end", .int bd q.1), (Str.ofString "length", .int l.length q.2), (Str.ofString "start", .int st t2), (Str.ofString "unistr", .str (txt l) t1)]) (A' := ktrTop (dp + 1) (un + 8) gd (Str.ofString "iter_graphemes_reverse") _ C 383 _ [] (envX cn cs L ca ccd cl :: outer)) rfl F9 N9 ?_ ?_
  · rcases he with ⟨rfl, rfl⟩ | ⟨e, t3, rfl, rfl⟩
    · walk_at "M seg"
      all_goals exact g_cut ⟨_, _⟩ (by assumption) (by assumption) (fun _ h => h) (by kst_all)
    · walk_at "M seg"
      all_goals exact g_cut ⟨_, _⟩ (by assumption) (by assumption) (fun _ h => h) (by kst_all)
  clear F9 N9
  rintro ⟨tk1, tk2⟩ u h9 tk9 F9 N9
  dsimp only at F9
  (try k_sweep)
  refine seg_cut (σ := Tok) (fun q => [(Str.ofString "start", .int (if st < 0 then 0 else st) q), (Str.ofString "end", .int bd tk1), (Str.ofString "length", .int l.length tk2), (Str.ofString "unistr", .str (txt l) t1)]) (A' := ktrTop (dp + 1) (un + 8) gd (Str.ofString "iter_graphemes_reverse") _ C 383 _ [] (envX cn cs L ca ccd cl :: outer)) rfl F9 N9 ?_ ?_
  · walk_at "M seg"
    all_goals exact g_cut _ (by assumption) (by assumption) (fun _ h => h) (by kst_all)
  clear F9 N9
  intro tk0 u h9 tk9 F9 N9
  (try k_sweep)
  have hst : 0 ≤ (if st < 0 then 0 else st) := by split <;> omega
  have hbd : bd ≤ l.length := by
    rcases he with ⟨_, e⟩ | ⟨e, t3, _, q⟩
    · omega
    · rw [q]; split <;> omega
  generalize (if st < 0 then 0 else st) = st' at hst hall F9
  refine seg_stmt (A' := ktrTop (dp + 1) (un + 8) gd (Str.ofString "iter_graphemes_reverse") _ C 383 _ [] (envX cn cs L ca ccd cl :: outer)) rfl ?_
  walk_at "M seg"
  · dsimp only
    show Seg _ _ _ _ _ _ _ (leafOf (.ok (.ret .none))) _ _
    refine seg_end (R := itR C) (.ok (.ret .none)) ?_
    exact ⟨rfl, by cases hall <;> first | rfl | omega, _, _, rfl, K0 _ _ (by assumption) (by assumption)⟩
  refine seg_stmt (A' := ktrTop (dp + 1) (un + 8) gd (Str.ofString "iter_graphemes_reverse") _ C 383 _ [] (envX cn cs L ca ccd cl :: outer)) rfl ?_
  walk_at "M seg"
  refine seg_execs_cons (seg_While fun p => ?_)
  rename Fr _ _ _ _ => F9
  rename News _ _ _ _ => N9
  refine seg_items (J := GJ g0 C (fun (q : Int × Tok) => [(Str.ofString "pos", .int q.1 q.2), (Str.ofString "start", .int st' tk0), (Str.ofString "unistr", .str (txt l) t1)]) (fun its q => GL w l st' q.1 its ∧ q.1 ≤ l.length)) (A' := ktrTop (dp + 1) (un + 8) gd (Str.ofString "iter_graphemes_reverse") _ C 383 _ [] (envX cn cs L ca ccd cl :: outer)) rfl rfl rfl rfl rfl ?_ ?_ all s'' _ ⟨[], rfl⟩ ?_ ⟨_, _, rfl, K0 _ _ F9 N9⟩
  · clear K0 F9 N9
    rintro its s ⟨⟨pos, tp⟩, u, F9, hk9, hg, hpos⟩
    rw [← kst_same hk9] at F9
    have N9 : News g0 C s.heap (newsOf g0 C s.heap) := newsOf_news
    have K9 := fun (h' : Heap) m' => keeps_of (h' := h') (m' := m') F9
    generalize newsOf g0 C s.heap = n1 at N9 K9
    dsimp only at hg hpos F9
    walk_at "M seg"
    · exact ⟨by cases hg <;> first | rfl | (exfalso; omega), _, _, rfl, K9 _ _ (by assumption) (by assumption)⟩
    · cases hg with
      | stop h => exfalso; omega
      | brk h h2 => exfalso; omega
      | step h h2 ht =>
        have hfb := fcs_bd w l pos (by omega)
        refine ⟨_, _, rfl, ?_⟩
        walk_at "M seg"
        rename Fr _ _ _ _ => F8
        rename News _ _ _ _ => N8
        refine ⟨⟨_, _, rfl, K9 _ _ F8 N8⟩, ⟨_, rfl⟩, fun s₅ hk5 => ?_⟩
        have F5 := fr_le F8 hC hk5
        clear F8 N8 K9 hk5 hk9
        have N5 : News g0 C s₅.heap (newsOf g0 C s₅.heap) := newsOf_news
        have K5 := fun (h' : Heap) m' => keeps_of (h' := h') (m' := m') F5
        generalize newsOf g0 C s₅.heap = n5 at N5 K5
        walk_at "M seg"
        rename Fr _ _ _ _ => F8
        rename News _ _ _ _ => N8
        exact ⟨rfl, ⟨_, _, rfl, K5 _ _ F8 N8⟩, ⟨fcs w l pos, _⟩, _, F8, by kst_all, ht, by dsimp only; omega⟩
    · exact ⟨by cases hg <;> first | rfl | (exfalso; omega), _, _, rfl, K9 _ _ (by assumption) (by assumption)⟩
  · intro s₀ s hs
    exact seg_leaf (.ok .next) (seg_end (R := itR C) (.ok (.ret .none)) ⟨rfl, rfl, hs⟩)
  · exact ⟨⟨bd, _⟩, _, F9, by kst_all, hall, hbd⟩
end Mine
/-! W13 -/
namespace Mine
example : True := by
  w_top off
  trivial
example : PySem.Challenge.rw_ax6033_01 = PySem.Challenge.rw_ax6033_01 → hd.heap_39 = hd.heap_39 → True := by
  k_fill
  intros; trivial
local macro_rules | `(tactic| walk_at "M steps") => `(tactic| repeat' ((fail_if_success (with_reducible show wpAny _ _ (exec (Stmt.While _ _ _ _) _) _ _ _)); (fail_if_success (with_reducible show wpAny _ _ (exec (Stmt.For _ _ _ _ _) _) _ _ _)); first | (k_unfold; (try dsimp only)) | (k_end; wrow_close) | walk1 | (dsimp only; walk1) | (leave1; walk_say "STEP leave1"; try dsimp only)))
local macro_rules | `(tactic| walk_at "M if") => `(tactic| repeat' ((fail_if_success (with_reducible show wpAny _ _ (exec (Stmt.While _ _ _ _) _) _ _ _)); (fail_if_success (with_reducible show wpAny _ _ (exec (Stmt.For _ _ _ _ _) _) _ _ _)); (fail_if_success (with_reducible show wpAny _ _ (exec (Stmt.If _ _ _ _) _) _ _ _)); first | (k_unfold; (try dsimp only)) | (k_end; wrow_close) | walk1 | (dsimp only; walk1) | (leave1; walk_say "STEP leave1"; try dsimp only)))
local macro_rules | `(tactic| walk_at "M has") => `(tactic| ((case hB => k_asm); (case hF => k_asm); (case hX => k_asm); (case hN => k_asm); (case hT => k_asm); (case hK => exact rfl); (case hd => omega); (case hu => omega)))
local macro_rules | `(tactic| walk_at "call ref") => `(tactic| (k_here; (with_reducible show wpAny _ _ (call (Value.ref _) [Value.int _ _, Value.int _ _] []) _ _ _); (refine' simple_use ?hB ?hF ?hX ?hN ?hT ?hK ?hd ?hu ?_ ?_); walk_at "M has"; (all_goals (intros; (try k_sweep)))))
local macro_rules | `(tactic| walk_at "call ref") => `(tactic| (k_here; (with_reducible show wpAny _ _ (call (Value.ref _) [Value.int _ _] []) _ _ _); (first | refine' has_bool (is_ext _ _ _ _ _ _ _) ?hB ?hF ?hX ?hN ?hT ?hK ?hd ?hu ?_ | refine' has_bool (is_link _ _ _ _ _ _ _) ?hB ?hF ?hX ?hN ?hT ?hK ?hd ?hu ?_ | refine' has_bool (is_cons _ _ _ _ _ _ _) ?hB ?hF ?hX ?hN ?hT ?hK ?hd ?hu ?_ | refine' has_bool (is_iext _ _ _ _ _ _ _) ?hB ?hF ?hX ?hN ?hT ?hK ?hd ?hu ?_ | refine' has_int (gcb _ _ _ _ _ _ _) ?hB ?hF ?hX ?hN ?hT ?hK ?hd ?hu ?_); walk_at "M has"; intros; (try k_sweep)))
local macro_rules | `(tactic| walk_at "M cut") => `(tactic| (walk_at "M steps"; (all_goals (refine cut_end (by assumption) (by assumption) (by first | exact fun _ h => h | exact fun _ h => .tail _ h | exact fun _ h => .tail _ (.tail _ h)) ?_)); (all_goals (first | (simp; done) | (simp [*]; done) | (simp_all; done) | grind))))
local macro_rules | `(tactic| walk_at "M while") => `(tactic| repeat' ((fail_if_success (with_reducible show wpAny _ _ (exec (Stmt.While _ _ _ _) _) _ _ _)); (fail_if_success (with_reducible show wpAny _ _ (exec (Stmt.For _ _ _ _ _) _) _ _ _)); first | (k_unfold; (try dsimp only)) | (k_end; wrow_close) | walk1 | (dsimp only; walk1) | (leave1; walk_say "STEP leave1"; try dsimp only)))
local macro_rules | `(tactic| walk_at "call ref") => `(tactic| (k_here; (with_reducible show wpAny _ _ (call (Value.ref _) [Value.str _ _, Value.int _ _] []) _ _ _); (refine' rec_use (by assumption) ?hG ?hB ?hF ?hX ?hN ?hT ?hK ?hd ?hu ?_); (case hG => (unfold preC; (refine ⟨?_, ?_, ?_, ?_, ?_⟩) <;> first | assumption | omega)); walk_at "M has"; intros; (try k_sweep)))
local macro_rules | `(tactic| walk_at "call ref") => `(tactic| (k_here; (with_reducible show wpAny _ _ (call (Value.ref _) [Value.int _ _, Value.int _ _, Value.str _ _, Value.int _ _, Value.int _ _] []) _ _ _); (refine' should_use (by omega) (by omega) (by omega) ?hB ?hF ?hX ?hN ?hT ?hK ?hd ?hu ?_); walk_at "M has"; intro _ _ _ _ _ _ _; (try k_sweep)))
local macro_rules | `(tactic| walk_at "M cut") => `(tactic| (walk_at "M steps"; (all_goals (refine cut_end (by assumption) (by assumption) (by first | exact fun _ h => h | exact fun _ h => .tail _ h | exact fun _ h => .tail _ (.tail _ h)) ?_)); (all_goals (first | (simp; done) | (simp [*]; done) | (simp_all; done) | (simp_all [cr_eq]; done) | (simp_all [cr_eq]; omega) | grind))))
local macro_rules | `(tactic| walk_at "M attr") => `(tactic| (walk_at "M has"; (case hm => exact .head _); (case hm2 => exact .tail _ (.head _)); (case hv => exact rfl); intros; (try k_sweep)))
local macro_rules | `(tactic| walk_at "M iter") => `(tactic| repeat' ((fail_if_success (with_reducible show wpAny _ _ (pyIter _) _ _ _)); first | (k_unfold; (try dsimp only)) | (k_end; wrow_close) | walk1 | (dsimp only; walk1) | (leave1; walk_say "STEP leave1"; try dsimp only)))
local macro_rules | `(tactic| walk_at "call ref") => `(tactic| (k_here; (with_reducible show wpAny _ _ (call (Value.ref _) [Value.str _ _, Value.int _ _] []) _ _ _); (refine' fcs_use (by omega) (by omega) (by omega) ?hB ?hF ?hX ?hN ?hT ?hK ?hd ?hu ?_); walk_at "M has"; intros; (try k_sweep)))
/-! contracts that change what stands in the ledger -/
def HasM (w : World) (mean : ExcName → Option Value) (mg mb : Str → Option Value) (P : Heap → Prop) (d u : Nat) (f : Addr) (vs : List Value) (news : List (Addr × Obj)) (Out : Value → List (Addr × Obj) → Prop) : Prop :=
  ∀ (dp un : Nat) (gd : Option (List Code)) (cn : Str) (cs : Scope) (a : Addr) (ccd : Value) (cl : List (Str × Addr)) (outer : List Env) (A₀ : Around) (base h₀ : Heap) (L : Addr) (m : Str → Option Value) (s : Shared) (Q E : Value → Shared → Prop),
    Below A₀ base outer h₀ → Fr h₀ L s.heap m → (hd.heap_39 w.params).In h₀ → News h₀ L s.heap news → Top VW LW mean mg mb h₀ → P h₀ → cs.kind = .function → dp + d < recursionLimit → un + u < cLine →
    (∀ r nw h' tk', Fr h₀ L h' m → News h₀ L h' nw → Out r nw → Q r { s with heap := h', toks := tk' }) →
    wpAny (model PG w) (ktrTop dp un gd cn cs L a ccd cl outer) (call (.ref f) vs) Q E s
def RetM (g : Heap) (L : Addr) (s₀ : Shared) (Out : Value → List (Addr × Obj) → Prop) (f : Flow) (s' : Shared) : Prop :=
  ∃ nw h' tk' m', s' = { s₀ with heap := h', toks := tk' } ∧ Fr g L h' m' ∧ News g L h' nw ∧ Out (match f with | .ret v => v | _ => .none) nw
theorem retm_end {g h' : Heap} {L : Addr} {s₀ : Shared} {Out : Value → List (Addr × Obj) → Prop} {v : Value} {tk' : Nat} {m' : Str → Option Value} {nw : List (Addr × Obj)} (F : Fr g L h' m') (N : News g L h' nw) (o : Out v nw) :
    RetM g L s₀ Out (.ret v) { s₀ with heap := h', toks := tk' } := ⟨nw, h', tk', m', rfl, F, N, o⟩
def BodyM (w : World) (mean : ExcName → Option Value) (mg mb : Str → Option Value) (P : Heap → Prop) (d u : Nat) (qual : Str) (scope : Scope) (f : Addr) (cdv : Value) (body : List Stmt) (ps : List (Str × Value)) (news : List (Addr × Obj)) (Out : Value → List (Addr × Obj) → Prop) : Prop :=
  ∀ (dp un : Nat) (gd : Option (List Code)) (outer : List Env) (A₀ : Around) (base g : Heap) (L : Addr) (s : Shared),
    Below A₀ base outer g → Fr g L s.heap (kstB (fun _ => none) ps) → (hd.heap_39 w.params).In g → News g L s.heap news → (∀ p ∈ news, p.1 < L) → Top VW LW mean mg mb g → P g → dp + d < recursionLimit → un + u < cLine →
    wpAny (model PG w) (ktrTop dp un gd qual scope L f cdv [] outer) (execs body (envX qual scope L f cdv [])) (RetM g L s Out) (fun _ _ => False) s
theorem hasm_of_body {w : World} {mean : ExcName → Option Value} {mg mb : Str → Option Value} {P : Heap → Prop} {d u : Nat} {f : Addr} {vs : List Value} {news : List (Addr × Obj)} {Out : Value → List (Addr × Obj) → Prop}
    {name qual : Str} {params : Arguments} {body : List Stmt} {scope : Scope} {dV kV doc pm cdv ct oc : Value} {an od : Option Addr} {osl : Array (Option Value)} {binds : List (Str × Value)}
    (hP : ∀ h h' : Heap, (∀ b o, h.get? b = some o → h'.get? b = some o) → P h → P h')
    (ho : (hd.heap_39 w.params).lookup f = some ⟨oc, od, .func (fnOf name qual params body scope dV kV doc pm an cdv ct), osl⟩) (hcd : codeIn (hd.heap_39 w.params) cdv qual = true)
    (hb : ∀ S, peek (hd.heap_39 w.params) S (bindArgs (fnOf name qual params body scope dV kV doc pm an cdv ct) ⟨vs, []⟩) = some binds)
    (hloc : ∀ y ∈ binds, scope.names.lookup y.1 = some .local) (hcell : ∀ x ∈ scope.names, x.2 ≠ .cell) (hco : scope.isCoroutine = false) (hgen : scope.isGenerator = false) (hk : scope.kind = .function)
    (h : BodyM w mean mg mb P d (u + 3) qual scope f cdv body binds.reverse news Out) : HasM w mean mg mb P (d + 1) (u + 6) f vs news Out := by
  intro dp un gd cn cs a ccd cl outer A₀ base h₀ L m s Q E B F X N T hp hck hd hu hret
  refine wpAny_call ?_
  refine callX_plain (cl := []) B F N T.nolimit rfl rfl hck ((X.keeps F.keep) _ _ ho) rfl (codeRec_of (X.keeps F.keep) hcd) (by show dp < recursionLimit; omega) (kp_binds (X.keeps F.keep) hb) hloc (fun g L' h₁ FG F' N' B' st lt => ?_) hcell hco hgen hk
  refine wpAny_mono (h (dp + 1) (un + 3) _ _ _ _ g L' { s with heap := h₁, toks := s.toks + binds.length } B' (frLoc F') (X.keeps st) N' lt (T.keeps st) (hP _ _ st hp) (by omega) (by omega)) (fun fl s' hl => ?_) fun _ _ x => x.elim
  obtain ⟨nw, h', tk', m', rfl, F'', N'', o⟩ := hl
  exact ⟨L', m', _, F'', N'', fun F3 N3 => hret _ nw h' tk' F3 N3 o⟩
/-! lists compared -/
section
variable {prog : Program} {w : World} {A : Around} {E : Value → Shared → Prop} {s : Shared} {Q : Value → Shared → Prop} {a b : Addr}
theorem ne_nil {vs : List Value} (hl : s.heap.IsList a vs.toArray) (hb : s.heap.IsList b #[]) (hu : A.units < cLine) (h : Q (.bool (decide (vs ≠ []))) s) : wpAny (model prog w) A (compareOp .NotEq (.ref a) (.ref b)) Q E s := by
  cases vs with
  | nil => exact EqBoolInt.of_rcne (SeqAt.RcNeAt.lists (e := fun _ => true) hl hb rfl hu (fun j h1 => absurd h1 (Nat.not_lt_zero _))) (by simpa using h)
  | cons v vs => exact EqBoolInt.of_rcne (SeqAt.RcNeAt.lists_lengths hl hb (by simp) hu) (by simpa using h)
theorem eq_nil {vs : List Value} (hl : s.heap.IsList a vs.toArray) (hb : s.heap.IsList b #[]) (hu : A.units < cLine) (h : Q (.bool (decide (vs = []))) s) : wpAny (model prog w) A (compareOp .Eq (.ref a) (.ref b)) Q E s := by
  cases vs with
  | nil => exact EqBoolInt.of_rc (SeqAt.RcAt.lists (e := fun _ => true) hl hb rfl hu (fun j h1 => absurd h1 (Nat.not_lt_zero _))) (by simpa using h)
  | cons v vs => exact EqBoolInt.of_rc (SeqAt.RcAt.lists_lengths hl hb (by simp) hu) (by simpa using h)
def IsTxts (vs : List Value) (ls : List (List Nat)) : Prop := vs.length = ls.length ∧ ∀ j (h1 : j < vs.length) (h2 : j < ls.length), ∃ t, vs[j] = .str (txt ls[j]) t
theorem txt_beq (l k : List Nat) : (txt l == txt k) = decide (l = k) := by
  by_cases h : l = k
  · subst h; simp
  · rw [decide_eq_false h]
    apply beq_false_of_ne
    intro e
    injection e with e
    exact h (by simpa using e)
theorem ne_txts {vs us : List Value} {ls ks : List (List Nat)} (hl : s.heap.IsList a vs.toArray) (hb : s.heap.IsList b us.toArray) (hv : IsTxts vs ls) (hk : IsTxts us ks) (hu : A.units < cLine) (h : Q (.bool (decide (ls ≠ ks))) s) : wpAny (model prog w) A (compareOp .NotEq (.ref a) (.ref b)) Q E s := by
  by_cases hn : ls.length = ks.length
  · refine EqBoolInt.of_rcne (SeqAt.RcNeAt.lists (e := fun j => decide (ls[j]? = ks[j]?)) hl hb (by simp [hv.1, hk.1, hn]) hu (fun j h1 h2 => ?_)) ?_
    · have h1' : j < vs.length := by simpa using h1
      have h2' : j < us.length := by simpa using h2
      obtain ⟨t, e1⟩ := hv.2 j h1' (by rw [← hv.1]; exact h1')
      obtain ⟨u, e2⟩ := hk.2 j h2' (by rw [← hk.1]; exact h2')
      have x := (eqGives_str (txt (ls[j]'(by rw [← hv.1]; exact h1'))) (txt (ks[j]'(by rw [← hk.1]; exact h2'))) t u).at A.in1 s
      rw [txt_beq] at x
      simp only [List.getElem_toArray]
      rw [e1, e2]
      have y : decide (ls[j]? = ks[j]?) = decide (ls[j]'(by rw [← hv.1]; exact h1') = ks[j]'(by rw [← hk.1]; exact h2')) := by
        rw [List.getElem?_eq_getElem (by rw [← hv.1]; exact h1'), List.getElem?_eq_getElem (by rw [← hk.1]; exact h2')]
        simp
      rw [y]
      exact x
    · have z : (!(List.range vs.toArray.size).all fun j => decide (ls[j]? = ks[j]?)) = decide (ls ≠ ks) := by
        rw [Bool.eq_iff_iff]
        simp only [Bool.not_eq_true', List.all_eq_false, List.mem_range, List.size_toArray, decide_eq_true_eq, hv.1]
        constructor
        · rintro ⟨j, hj, he⟩ rfl
          exact he rfl
        · intro hne
          apply Classical.byContradiction
          intro hc
          apply hne
          apply List.ext_getElem? 
          intro j
          by_cases hj : j < ls.length
          · apply Classical.byContradiction
            intro hx
            exact hc ⟨j, hj, hx⟩
          · rw [List.getElem?_eq_none (by omega), List.getElem?_eq_none (by omega)]
      rw [z]
      exact h
  · refine EqBoolInt.of_rcne (SeqAt.RcNeAt.lists_lengths hl hb (by simp [hv.1, hk.1, hn]) hu) ?_
    have : decide (ls ≠ ks) = true := by
      simp only [decide_eq_true_eq]
      rintro rfl
      exact hn rfl
    rw [this] at h
    exact h
end
local macro_rules | `(tactic| walk_at "compareOp NotEq ref ref") => `(tactic| (k_here; (with_reducible show wpAny _ _ (compareOp CmpOp.NotEq (Value.ref _) (Value.ref _)) _ _ _); (refine' ne_nil (News.isList ?hN ?hm) (News.isList ?hN2 ?hm2) ?hu ?_); (case hN => k_asm); (case hm => k_mem); (case hN2 => k_asm); (case hm2 => exact .head _); (case hu => (first | omega | (dsimp only; omega)))))
abbrev dObj (D1 : Addr) (seed : Int) (t : Tok) (k : Nat) : Obj := { cls := .type "list", data := .seq #[.ref D1, .int seed t] k }
abbrev iObj (vs : List Value) (k : Nat) : Obj := { cls := .type "list", data := .seq vs.toArray k }
/-- what _law_take hands back -/
def OTake (D D1 : Addr) (many : Int) (rest : List (Addr × Obj)) (r : Value) (nw : List (Addr × Obj)) : Prop :=
  ∃ v t seed t' k vs ns k', r = .int v t ∧ 0 ≤ v ∧ v < many ∧ IntsAre vs ns ∧ ns.length ≤ 40 ∧ nw = (D, dObj D1 seed t' k) :: (D1, iObj vs k') :: rest
section
variable {prog : Program} {w : World} {A : Around} {E : Value → Shared → Prop} {s : Shared} {h₀ : Heap} {L D D1 : Addr} {m : Str → Option Value} {rest pre : List (Addr × Obj)}
def Apart (D D1 : Addr) (rest : List (Addr × Obj)) : Prop := D ≠ D1 ∧ ∀ p ∈ rest, p.1 ≠ D ∧ p.1 ≠ D1
theorem set1 {seed : Int} {t t1 : Tok} {k : Nat} {o1 : Obj} {v : Value} {Q : Unit → Shared → Prop} {p : Addr × Obj} (ha : Apart D D1 rest) (F : Fr h₀ L s.heap m) (N : News h₀ L s.heap (p :: (D, dObj D1 seed t k) :: (D1, o1) :: rest))
    (h : ∀ h', Fr h₀ L h' m → News h₀ L h' ((D, ({ cls := .type "list", data := .seq #[.ref D1, v] k } : Obj)) :: (D1, o1) :: rest) → Q () { s with heap := h' }) : wpAny (model prog w) A (setItem (.ref D) (.int 1 t1) v) Q E s :=
  ki_set (its := #[.ref D1, .int seed t]) (q := [.ref D1, v]) (k := 1) (news := (D, dObj D1 seed t k) :: (D1, o1) :: rest) (news' := (D, ({ cls := .type "list", data := .seq #[.ref D1, v] k } : Obj)) :: (D1, o1) :: rest) F (fun p hp => N p (.tail _ hp)) (by omega) (by omega) rfl
    (.head (fun p hp => by
      rcases List.mem_cons.mp hp with rfl | hp
      · exact fun e => ha.1 e.symm
      · exact (ha.2 p hp).1)) h
theorem pop0 {oD : Obj} {v : Value} {vs : List Value} {k : Nat} {u : Tok} {Q : Value → Shared → Prop} {p : Addr × Obj} (ha : Apart D D1 rest) (hl : vs.length ≤ 1000) (F : Fr h₀ L s.heap m) (N : News h₀ L s.heap (p :: (D, oD) :: (D1, iObj (v :: vs) k) :: rest))
    (h : ∀ h', Fr h₀ L h' m → News h₀ L h' ((D, oD) :: (D1, iObj vs (k + 1)) :: rest) → Q v { s with heap := h' }) : wpAny (model prog w) A (call (.builtin "list.pop") [.ref D1, .int 0 u]) Q E s :=
  kl_popAt (its := (v :: vs).toArray) (n := k) (p := []) (q := vs) (k := 0) (news := (D, oD) :: (D1, iObj (v :: vs) k) :: rest) (news' := (D, oD) :: (D1, iObj vs (k + 1)) :: rest) F (fun p hp => N p (.tail _ hp)) rfl (by unfold seqIndex?; simp) rfl
    (.tail ha.1 (.head fun p hp => (ha.2 p hp).2)) (by simp only [List.length_cons]; exact Nat.le_trans (Nat.succ_le_succ hl) (by decide)) h
end
local macro_rules | `(tactic| walk_at "setItem ref int") => `(tactic| (k_here; (with_reducible show wpAny _ _ (setItem (Value.ref _) (Value.int 1 _) _) _ _ _); (refine set1 (by assumption) (by k_asm) (by k_asm) ?_); intro _ _ _; (try k_sweep)))
local macro_rules | `(tactic| walk_at "call builtin:list.pop") => `(tactic| (k_here; (with_reducible show wpAny _ _ (call (Value.builtin _) [Value.ref _, Value.int 0 _]) _ _ _); (refine pop0 (by assumption) (by assumption) (by k_asm) (by k_asm) ?_); intro _ _ _; (try k_sweep)))
theorem takeC (w : World) (mean : ExcName → Option Value) (mg mb : Str → Option Value) (D D1 : Addr) (seed many : Int) (t tm : Tok) (k k' : Nat) (vs : List Value) (ns : List Int) (hi : IntsAre vs ns) (hl : ns.length ≤ 40) (hm : 1 ≤ many) (rest : List (Addr × Obj)) (ha : Apart D D1 rest) :
    HasM w mean mg mb (fun _ => True) 2 20 396 [.ref D, .int many tm] ((D, dObj D1 seed t k) :: (D1, iObj vs k') :: rest) (OTake D D1 many rest) := by
  refine hasm_of_body (binds := [(Str.ofString "draw", .ref D), (Str.ofString "many", .int many tm)]) (fun _ _ _ h => h) rfl rfl (fun _ => rfl) (locs rfl) (by decide) rfl rfl rfl ?_
  intro dp un gd outer A₀ base g L s B F X N lt T _ hd hu
  cases hi with
  | nil =>
    walk_at "M steps"
    exact retm_end (Out := OTake D D1 many rest) (by assumption) (by assumption) ⟨_, _, _, _, _, [], [], _, rfl, Int.fmod_nonneg_of_pos _ (by omega), Int.fmod_lt_of_pos _ (by omega), .nil, Nat.zero_le _, rfl⟩
  | cons x u hi =>
    rename_i vs' ns'
    have hl1000 : vs'.length ≤ 1000 := by
      have := hi.length
      simp only [List.length_cons] at hl
      omega
    walk_at "M steps"
    all_goals first
      | exact retm_end (Out := OTake D D1 many rest) (by assumption) (by assumption) ⟨_, _, _, _, _, vs', ns', _, rfl, Int.fmod_nonneg_of_pos _ (by omega), Int.fmod_lt_of_pos _ (by omega), hi, Nat.le_of_succ_le hl, rfl⟩
      | exact absurd (List.cons_ne_nil _ _) ‹¬ (Value.int x u :: vs' ≠ [])›
end Mine
/-! W14 -/
namespace Mine
example : True := by
  w_top off
  trivial
local macro_rules | `(tactic| walk_at "M pad") => `(tactic| skip)
local macro_rules | `(tactic| walk_at "M pad") => `(tactic| skip)
local macro_rules | `(tactic| walk_at "M pad") => `(tactic| skip)
example : PySem.Challenge.rw_ax6033_01 = PySem.Challenge.rw_ax6033_01 → hd.heap_39 = hd.heap_39 → True := by
  k_fill
  intros; trivial
local macro_rules | `(tactic| walk_at "M steps") => `(tactic| repeat' ((fail_if_success (with_reducible show wpAny _ _ (exec (Stmt.While _ _ _ _) _) _ _ _)); (fail_if_success (with_reducible show wpAny _ _ (exec (Stmt.For _ _ _ _ _) _) _ _ _)); first | (k_unfold; (try dsimp only)) | (k_end; wrow_close) | walk1 | (dsimp only; walk1) | (leave1; walk_say "STEP leave1"; try dsimp only)))
local macro_rules | `(tactic| walk_at "M if") => `(tactic| repeat' ((fail_if_success (with_reducible show wpAny _ _ (exec (Stmt.While _ _ _ _) _) _ _ _)); (fail_if_success (with_reducible show wpAny _ _ (exec (Stmt.For _ _ _ _ _) _) _ _ _)); (fail_if_success (with_reducible show wpAny _ _ (exec (Stmt.If _ _ _ _) _) _ _ _)); first | (k_unfold; (try dsimp only)) | (k_end; wrow_close) | walk1 | (dsimp only; walk1) | (leave1; walk_say "STEP leave1"; try dsimp only)))
local macro_rules | `(tactic| walk_at "M has") => `(tactic| ((case hB => k_asm); (case hF => k_asm); (case hX => k_asm); (case hN => k_asm); (case hT => k_asm); (case hK => exact rfl); (case hd => omega); (case hu => omega)))
local macro_rules | `(tactic| walk_at "call ref") => `(tactic| (k_here; (with_reducible show wpAny _ _ (call (Value.ref _) [Value.int _ _, Value.int _ _] []) _ _ _); (refine' simple_use ?hB ?hF ?hX ?hN ?hT ?hK ?hd ?hu ?_ ?_); walk_at "M has"; (all_goals (intros; (try k_sweep)))))
local macro_rules | `(tactic| walk_at "call ref") => `(tactic| (k_here; (with_reducible show wpAny _ _ (call (Value.ref _) [Value.int _ _] []) _ _ _); (first | refine' has_bool (is_ext _ _ _ _ _ _ _) ?hB ?hF ?hX ?hN ?hT ?hK ?hd ?hu ?_ | refine' has_bool (is_link _ _ _ _ _ _ _) ?hB ?hF ?hX ?hN ?hT ?hK ?hd ?hu ?_ | refine' has_bool (is_cons _ _ _ _ _ _ _) ?hB ?hF ?hX ?hN ?hT ?hK ?hd ?hu ?_ | refine' has_bool (is_iext _ _ _ _ _ _ _) ?hB ?hF ?hX ?hN ?hT ?hK ?hd ?hu ?_ | refine' has_int (gcb _ _ _ _ _ _ _) ?hB ?hF ?hX ?hN ?hT ?hK ?hd ?hu ?_); walk_at "M has"; intros; (try k_sweep)))
local macro_rules | `(tactic| walk_at "M cut") => `(tactic| (walk_at "M steps"; (all_goals (refine cut_end (by assumption) (by assumption) (by first | exact fun _ h => h | exact fun _ h => .tail _ h | exact fun _ h => .tail _ (.tail _ h)) ?_)); (all_goals (first | (simp; done) | (simp [*]; done) | (simp_all; done) | grind))))
local macro_rules | `(tactic| walk_at "M while") => `(tactic| repeat' ((fail_if_success (with_reducible show wpAny _ _ (exec (Stmt.While _ _ _ _) _) _ _ _)); (fail_if_success (with_reducible show wpAny _ _ (exec (Stmt.For _ _ _ _ _) _) _ _ _)); first | (k_unfold; (try dsimp only)) | (k_end; wrow_close) | walk1 | (dsimp only; walk1) | (leave1; walk_say "STEP leave1"; try dsimp only)))
local macro_rules | `(tactic| walk_at "call ref") => `(tactic| (k_here; (with_reducible show wpAny _ _ (call (Value.ref _) [Value.str _ _, Value.int _ _] []) _ _ _); (refine' rec_use (by assumption) ?hG ?hB ?hF ?hX ?hN ?hT ?hK ?hd ?hu ?_); (case hG => (unfold preC; (refine ⟨?_, ?_, ?_, ?_, ?_⟩) <;> first | assumption | omega)); walk_at "M has"; intros; (try k_sweep)))
local macro_rules | `(tactic| walk_at "call ref") => `(tactic| (k_here; (with_reducible show wpAny _ _ (call (Value.ref _) [Value.int _ _, Value.int _ _, Value.str _ _, Value.int _ _, Value.int _ _] []) _ _ _); (refine' should_use (by omega) (by omega) (by omega) ?hB ?hF ?hX ?hN ?hT ?hK ?hd ?hu ?_); walk_at "M has"; intro _ _ _ _ _ _ _; (try k_sweep)))
local macro_rules | `(tactic| walk_at "M cut") => `(tactic| (walk_at "M steps"; (all_goals (refine cut_end (by assumption) (by assumption) (by first | exact fun _ h => h | exact fun _ h => .tail _ h | exact fun _ h => .tail _ (.tail _ h)) ?_)); (all_goals (first | (simp; done) | (simp [*]; done) | (simp_all; done) | (simp_all [cr_eq]; done) | (simp_all [cr_eq]; omega) | grind))))
local macro_rules | `(tactic| walk_at "M attr") => `(tactic| (walk_at "M has"; (case hm => exact .head _); (case hm2 => exact .tail _ (.head _)); (case hv => exact rfl); intros; (try k_sweep)))
local macro_rules | `(tactic| walk_at "M iter") => `(tactic| repeat' ((fail_if_success (with_reducible show wpAny _ _ (pyIter _) _ _ _)); first | (k_unfold; (try dsimp only)) | (k_end; wrow_close) | walk1 | (dsimp only; walk1) | (leave1; walk_say "STEP leave1"; try dsimp only)))
local macro_rules | `(tactic| walk_at "call ref") => `(tactic| (k_here; (with_reducible show wpAny _ _ (call (Value.ref _) [Value.str _ _, Value.int _ _] []) _ _ _); (refine' fcs_use (by omega) (by omega) (by omega) ?hB ?hF ?hX ?hN ?hT ?hK ?hd ?hu ?_); walk_at "M has"; intros; (try k_sweep)))
section
variable {prog : Program} {w : World} {A : Around} {E : Value → Shared → Prop} {s : Shared} {env : Env} {h₀ : Heap} {x : Str} {body : List Stmt} {Q : Flow → Shared → Prop}
theorem list_cut {σ : Type} {l : Addr} {vs : List Value} {ns : List Int} {m₀ : Str → Option Value} {news : List (Addr × Obj)} (ps : σ → List (Str × Value)) (P : Nat → σ → Prop) (c₀ : σ)
    (hh : A.handled = none) (hl : h₀.IsList l vs.toArray) (hi : IntsAre vs ns) (F : Fr h₀ env.locals s.heap m₀) (N : News h₀ env.locals s.heap news) (hk : ∀ p ∈ ps c₀, m₀ p.1 = some p.2) (hp : P 0 c₀)
    (turn : ∀ (i : Nat) (c : σ) n t (u : Str → Option Value) h tk own, ns[i]? = some n → P i c →
      Fr h₀ env.locals h (kstB u ((x, .int n t) :: ps c)) → News h₀ env.locals h (news ++ own) →
      wpAny (model prog w) A (execs body env) (RPost h₀ env.locals { s with heap := h, toks := tk } (news ++ own) ps (P (i + 1)) Q) E { s with heap := h, toks := tk })
    (done : ∀ (c : σ) (u : Str → Option Value) h tk, P ns.length c → Fr h₀ env.locals h (kstB u (ps c)) → News h₀ env.locals h news → Q .next { s with heap := h, toks := tk }) :
    wpAny (model prog w) A (pyIter (.ref l)) (fun it s₂ => LoopAtV prog w A h₀ env x body Q E it s₂) E s := by
  refine iter_invN (fun i m nx => nx = news ∧ ∃ c : σ, (∀ p ∈ ps c, m p.1 = some p.2) ∧ P i c) hh hl hi F N ⟨rfl, c₀, hk, hp⟩ ?_ ?_
  · rintro i n t m₁ nx h tk own hn _ hoff ⟨rfl, c, h1, hp'⟩ F₁ N₁
    refine wpAny_mono (turn i c n t m₁ h tk own hn hp' ?_ N₁) (fun f s₃ q => ?_) fun _ _ x => x
    · show Fr _ _ _ (fun z => if z = x then some (.int n t) else kstB m₁ (ps c) z)
      rw [kst_same h1]
      exact F₁
    · have up : RStep h₀ env.locals { s with heap := h, toks := tk } (nx ++ own) ps (P (i + 1)) s₃ → InvEndN h₀ env.locals (fun m ny => ny = nx ∧ ∃ c : σ, (∀ p ∈ ps c, m p.1 = some p.2) ∧ P (i + 1) c) own (nx.map (·.1)) { s with heap := h, toks := tk } s₃ := by
        rintro ⟨c', h', tk', m', tl, rfl, F', N', hs, hk', hp''⟩
        exact InvEndN.intro F' N' ⟨rfl, c', hk', hp''⟩ rfl (fun p hp => hs p (List.mem_append_left _ hp)) (fun p hp => hs p (List.mem_append_right _ hp))
      cases f with
      | ret v => exact q
      | brk => exact q
      | next => exact up q
      | cont => exact up q
  · rintro m₁ nx h tk ⟨rfl, c, h1, hp'⟩ F₁ N₁
    exact done c m₁ h tk hp' (by rw [kst_same h1]; exact F₁) N₁
end
local macro_rules | `(tactic| walk_at "M all") => `(tactic| repeat' (first | (k_unfold; (try dsimp only)) | (k_end; wrow_close) | walk1 | (dsimp only; walk1) | (leave1; walk_say "STEP leave1"; try dsimp only)))
def ODraw (news : List (Addr × Obj)) (r : Value) (nw : List (Addr × Obj)) : Prop :=
  ∃ D D1 seed t k vs ns k', r = .ref D ∧ IntsAre vs ns ∧ ns.length ≤ 40 ∧ Apart D D1 news ∧ nw = (D, dObj D1 seed t k) :: (D1, iObj vs k') :: news
local macro_rules | `(tactic| walk_at "M comp") => `(tactic| repeat' ((fail_if_success (with_reducible show wpAny _ _ (exec (Stmt.For _ _ _ _ _) _) _ _ _)); (fail_if_success (with_reducible show wpAny _ _ (eval (Expr.ListComp _ _ _ _) _) _ _ _)); first | (k_unfold; (try dsimp only)) | (k_end; wrow_close) | walk1 | (dsimp only; walk1) | (leave1; walk_say "STEP leave1"; try dsimp only)))
local macro_rules | `(tactic| walk_at "execs nil") => `(tactic| ((with_reducible show wpAny _ _ (execs [] _) _ _ _); refine wpAny_execs_nil ?_))
theorem allLt_mem {b : Addr} : ∀ {l : List (Addr × Obj)}, AllLt b l → ∀ p ∈ l, p.1 < b
  | [], _, _, h => nomatch h
  | _ :: _, x, p, h => by
    rcases List.mem_cons.mp h with rfl | h
    · exact x.1
    · exact allLt_mem x.2 p h
theorem drawC (w : World) (mean : ExcName → Option Value) (mg mb : Str → Option Value) (sc : Addr) (vs : List Value) (ns : List Int) (hi : IntsAre vs ns) (hl : ns.length ≤ 63) (news : List (Addr × Obj)) :
    HasM w mean mg mb (fun h => h.IsList sc vs.toArray) 2 20 389 [.ref sc] news (ODraw news) := by
  refine hasm_of_body (binds := [(Str.ofString "script", .ref sc)]) (fun _ _ hk h => let ⟨o, e, r⟩ := h; ⟨o, hk _ _ e, r⟩) rfl rfl (fun _ => rfl) (locs rfl) (by decide) rfl rfl rfl ?_
  intro dp un gd outer A₀ base g L s B F X N lt T hP hd hu
  have hls : vs.length ≤ 63 := by rw [hi.length]; exact hl
  walk_at "M comp"
  (try k_sweep)
  rename Fr _ _ _ _ => F9
  rename News _ _ _ _ => N9
  with_unfolding_all refine' For_invVF F9 ?k1 ?k2 ?_
  case k1 => exact rfl
  case k2 => exact rfl
  walk_at "M iter"
  with_unfolding_all refine' list_cut (σ := Int × Tok) (fun c => [(Str.ofString "seed", .int c.1 c.2), (Str.ofString "script", .ref sc)]) (fun _ _ => True) ⟨_, _⟩ rfl hP hi F9 N9 ?k3 trivial ?_ ?_
  case k3 => kst_all
  · clear F9 N9
    rintro i ⟨c1, tk1⟩ n t v h9 tk9 own hn - F9 N9
    dsimp only at F9
    walk_at "M comp"
    refine r_end ⟨_, _⟩ (by assumption) (by assumption) (fun p h => h) (by kst_all) trivial
  · clear F9 N9
    rintro ⟨c1, tk1⟩ v h9 tk9 - F9 N9
    dsimp only at F9
    walk_at "M comp"
    rename Fr _ _ _ _ => F8
    rename News _ _ _ _ => N8
    refine LCg.ListComp_U F8 (by rfl) (by decide) (by rfl) (by decide) (by rfl) ?_
    walk1
    refine LCg.CompSrc.base rfl F8 N8 hP (by rw [List.size_toArray]; exact Nat.le_trans hls (by decide)) (fun g' => kcf_list (fun n => (n.natAbs : Int)) hi ?_ ?_)
    · intro n t I oI C oC D m2 ys h tk E' hn hC hx F N off ne _
      walk_at "M comp"
      exact kcf_el (by split <;> omega) rfl rfl
    · show ∀ ys, _
      intro ys hys
      unfold LCg.FinE
      intro D h tk F N off
      walk_at "M comp"
      rename IntsAre _ (List.take 40 _) => hI
      rename Fr _ _ _ _ => F7
      rename News _ _ _ _ => N7
      rename _ ∧ _ ∧ AllLt _ news => l7
      rename _ ∧ AllLt _ news => l6
      refine retm_end F7 (nw := _ :: _ :: news) (fun p hp => N7 p ?_) ⟨_, _, c1, tk1, 0, _, _, 0, rfl, hI, ?_, ⟨Nat.ne_of_gt l7.1, fun p hp => ⟨Nat.ne_of_lt (allLt_mem l7.2.2 p hp), Nat.ne_of_lt (allLt_mem l6.2 p hp)⟩⟩, rfl⟩
      · rcases List.mem_cons.mp hp with rfl | hp
        · exact .head _
        · rcases List.mem_cons.mp hp with rfl | hp
          · exact .tail _ (.head _)
          · exact .tail _ (.tail _ (.tail _ hp))
      · rw [List.length_take]; exact Nat.min_le_left _ _
end Mine
/-! P1 -/
namespace Mine
example : True := by
  w_top off
  trivial
/-! the plain law: which pieces the eleven signs fall into -/
noncomputable def chars : List Nat := [97, 13, 10, 101, 0x301, 0x4E2D, 0xFE0F, 0x915, 0x94D, 0x1F1E6, 0x1F1E7, 0x2764, 0x200D, 0x1100, 0x1160, 0x600, 1]
noncomputable def clsN (c : Nat) : Int := ((chars.zip [0, 1, 2, 0, 4, 0, 4, 0, 4, 6, 6, 0, 5, 9, 10, 7, 3]).lookup c).getD 0
noncomputable def pictB (c : Nat) : Bool := [0x2764].contains c
noncomputable def linkB (c : Nat) : Bool := [0x94D].contains c
noncomputable def consB (c : Nat) : Bool := [0x915].contains c
noncomputable def extB (c : Nat) : Bool := [0x301, 0xFE0F, 0x200D].contains c
theorem cls_eq (w : World) : ∀ c ∈ chars, gcbS w (c : Int) = clsN c :=
  List.map_inj_left.mp (show (chars.map fun (c : Nat) => gcbS w (c : Int)) = chars.map clsN by kernel_rfl)
theorem pictB_eq (w : World) : ∀ c ∈ chars, inT w 142 (c : Int) = pictB c :=
  List.map_inj_left.mp (show (chars.map fun (c : Nat) => inT w 142 (c : Int)) = chars.map pictB by kernel_rfl)
theorem linkB_eq (w : World) : ∀ c ∈ chars, inT w 147 (c : Int) = linkB c :=
  List.map_inj_left.mp (show (chars.map fun (c : Nat) => inT w 147 (c : Int)) = chars.map linkB by kernel_rfl)
theorem consB_eq (w : World) : ∀ c ∈ chars, inT w 154 (c : Int) = consB c :=
  List.map_inj_left.mp (show (chars.map fun (c : Nat) => inT w 154 (c : Int)) = chars.map consB by kernel_rfl)
theorem extB_eq (w : World) : ∀ c ∈ chars, inT w 183 (c : Int) = extB c :=
  List.map_inj_left.mp (show (chars.map fun (c : Nat) => inT w 183 (c : Int)) = chars.map extB by kernel_rfl)
noncomputable def linkN : List Nat → Bool
  | [] => false
  | c :: r => if extB c then linkN r else linkB c
noncomputable def pictN : List Nat → Bool
  | [] => false
  | c :: r => if clsN c = 4 then pictN r else pictB c
noncomputable def shouldN (p c : Int) (r : List Nat) (cu : Nat) (ri : Int) : Bool × Int :=
  match simpleS p c with
  | some v => v
  | none =>
    if c = 5 then (false, 0)
    else if consB cu = true ∧ linkN r = true then (false, 0)
    else if p = 5 ∧ pictB cu = true ∧ pictN r.tail = true then (false, 0)
    else if p = 6 ∧ c = 6 then (if Int.fmod ri 2 = 1 then (false, ri + 1) else (true, 1))
    else (true, if c = 6 then 1 else 0)
theorem link_eq (w : World) : ∀ r : List Nat, (∀ c ∈ r, c ∈ chars) → linkR w r = linkN r
  | [], _ => rfl
  | c :: r, h => by
    rw [linkR, linkN, extB_eq w c (h c (.head _)), linkB_eq w c (h c (.head _)), link_eq w r fun c hc => h c (.tail _ hc)]
theorem pict_eq (w : World) : ∀ r : List Nat, (∀ c ∈ r, c ∈ chars) → pictR w r = pictN r
  | [], _ => rfl
  | c :: r, h => by
    rw [pictR, pictN, cls_eq w c (h c (.head _)), pictB_eq w c (h c (.head _)), pict_eq w r fun c hc => h c (.tail _ hc)]
theorem should_eq (w : World) (p c : Int) (r : List Nat) (cu : Nat) (ri : Int) (hr : ∀ c ∈ r, c ∈ chars) (hc : cu ∈ chars) : shouldR w p c r cu ri = shouldN p c r cu ri := by
  unfold shouldR shouldN
  rw [consB_eq w cu hc, pictB_eq w cu hc, link_eq w r hr, pict_eq w r.tail fun c h => hr c (List.mem_of_mem_tail h)]
  all_goals (cases simpleS p c <;> rfl)
noncomputable def sg : Nat → List Nat
  | 0 => [97]
  | 1 => [13, 10]
  | 2 => [101, 0x301]
  | 3 => [0x4E2D, 0x301, 0xFE0F]
  | 4 => [0x915, 0x94D, 0x915]
  | 5 => [0x1F1E6, 0x1F1E7]
  | 6 => [0x2764, 0x200D, 0x2764]
  | 7 => [0x1100, 0x1160]
  | 8 => [0x600, 97]
  | 9 => [10]
  | 10 => [1]
  | _ => [97]
noncomputable def riE (q o : Nat) : Int := if q = 5 then (if o = 0 then 1 else 2) else 0
theorem lt11 {q : Nat} (h : q < 11) : q = 0 ∨ q = 1 ∨ q = 2 ∨ q = 3 ∨ q = 4 ∨ q = 5 ∨ q = 6 ∨ q = 7 ∨ q = 8 ∨ q = 9 ∨ q = 10 := by omega
theorem sg_len {q : Nat} (h : q < 11) : 1 ≤ (sg q).length ∧ (sg q).length ≤ 3 := by
  rcases lt11 h with rfl | rfl | rfl | rfl | rfl | rfl | rfl | rfl | rfl | rfl | rfl <;> decide
theorem sg_chars {q : Nat} (h : q < 11) : ∀ c ∈ sg q, c ∈ chars := by
  rcases lt11 h with rfl | rfl | rfl | rfl | rfl | rfl | rfl | rfl | rfl | rfl | rfl <;> decide
theorem in_step {q o : Nat} (h : q < 11) (ho : o + 1 < (sg q).length) (R : List Nat) :
    shouldN (clsN ((sg q).getD o 0)) (clsN ((sg q).getD (o + 1) 0)) (((sg q).take (o + 1)).reverse ++ R) ((sg q).getD (o + 1) 0) (riE q o) = (false, riE q (o + 1)) := by
  have ho3 : o = 0 ∨ o = 1 := by have := (sg_len h).2; omega
  rcases lt11 h with rfl | rfl | rfl | rfl | rfl | rfl | rfl | rfl | rfl | rfl | rfl <;> rcases ho3 with rfl | rfl <;> first | rfl | exact absurd ho (by decide)
theorem pair_step {q q' : Nat} (h : q < 11) (h' : q' < 11) (R : List Nat) :
    shouldN (clsN ((sg q).getD ((sg q).length - 1) 0)) (clsN ((sg q').getD 0 0)) ((sg q).reverse ++ R) ((sg q').getD 0 0) (riE q ((sg q).length - 1)) = (true, riE q' 0) := by
  rcases lt11 h with rfl | rfl | rfl | rfl | rfl | rfl | rfl | rfl | rfl | rfl | rfl <;> rcases lt11 h' with rfl | rfl | rfl | rfl | rfl | rfl | rfl | rfl | rfl | rfl | rfl <;> rfl

/-! places -/
noncomputable def flat (qs : List Nat) : List Nat := (qs.map sg).flatten
theorem flat_app (a b : List Nat) : flat (a ++ b) = flat a ++ flat b := by simp [flat]
theorem flat_cons (q : Nat) (b : List Nat) : flat (q :: b) = sg q ++ flat b := by simp [flat]
theorem flat_chars : ∀ {qs : List Nat}, (∀ q ∈ qs, q < 11) → ∀ c ∈ flat qs, c ∈ chars
  | [], _, c, h => by simp [flat] at h
  | q :: qs, hq, c, h => by
    rw [flat_cons] at h
    rcases List.mem_append.mp h with h | h
    · exact sg_chars (hq q (.head _)) c h
    · exact flat_chars (fun x hx => hq x (.tail _ hx)) c h
theorem place : ∀ {qs : List Nat} {i : Nat}, i < (flat qs).length → ∃ a q b o, qs = a ++ q :: b ∧ i = (flat a).length + o ∧ o < (sg q).length
  | [], i, h => by simp [flat] at h
  | q :: qs, i, h => by
    by_cases hi : i < (sg q).length
    · exact ⟨[], q, qs, i, rfl, by simp [flat], hi⟩
    · rw [flat_cons, List.length_append] at h
      obtain ⟨a, q', b, o, e1, e2, e3⟩ := place (qs := qs) (i := i - (sg q).length) (by omega)
      exact ⟨q :: a, q', b, o, by rw [e1]; rfl, by rw [flat_cons, List.length_append]; omega, e3⟩
section
variable {qs a b : List Nat} {q o : Nat}
theorem flat_at (e : qs = a ++ q :: b) (ho : o < (sg q).length) : (flat qs).getD ((flat a).length + o) 0 = (sg q).getD o 0 := by
  rw [e, flat_app, flat_cons]
  simp only [List.getD_eq_getElem?_getD]
  rw [List.getElem?_append_right (Nat.le_add_right _ _), Nat.add_sub_cancel_left, List.getElem?_append_left ho]
theorem flat_rv (e : qs = a ++ q :: b) (ho : o ≤ (sg q).length) : rv (flat qs) ((flat a).length + o) = ((sg q).take o).reverse ++ (flat a).reverse := by
  unfold rv
  rw [e, flat_app, flat_cons, List.take_length_add_append, List.take_append_of_le_length ho, List.reverse_append]
theorem flat_len (e : qs = a ++ q :: b) : (flat qs).length = (flat a).length + (sg q).length + (flat b).length := by
  rw [e, flat_app, flat_cons, List.length_append, List.length_append]; omega
theorem rv_chars (hq : ∀ q ∈ qs, q < 11) (k : Nat) : ∀ c ∈ rv (flat qs) k, c ∈ chars := by
  intro c h
  unfold rv at h
  rw [List.mem_reverse] at h
  exact flat_chars hq c (List.mem_of_mem_take h)
theorem mem_q (e : qs = a ++ q :: b) (hq : ∀ q ∈ qs, q < 11) : q < 11 := hq q (by rw [e]; exact List.mem_append_right _ (.head _))
theorem getD_mem (ho : o < (sg q).length) (h : q < 11) : (sg q).getD o 0 ∈ chars := by
  rw [List.getD_eq_getElem?_getD, List.getElem?_eq_getElem ho]
  exact sg_chars h _ (List.getElem_mem ho)
end
theorem cp_nat (l : List Nat) (i : Nat) : cp l (i : Int) = l.getD i 0 := by unfold cp; rw [Int.toNat_natCast]
theorem snoc_of {a : List Nat} (h : 0 < (flat a).length) : ∃ a' q', a = a' ++ [q'] := by
  rcases List.eq_nil_or_concat a with rfl | ⟨a', q', e⟩
  · simp [flat] at h
  · exact ⟨a', q', by rw [e]; simp⟩
theorem run_inv (w : World) {qs : List Nat} (hq : ∀ q ∈ qs, q < 11) (k : Nat)
    (hk : ∀ a q b o, qs = a ++ q :: b → k = (flat a).length + o → o < (sg q).length → o = 0 ∨ clsN ((sg q).getD o 0) ≠ 6) :
    ∀ j a q b o, qs = a ++ q :: b → k + j = (flat a).length + o → o < (sg q).length →
      runS w (flat qs) k j = (((Nat.max (flat a).length k : Nat) : Int), clsN ((sg q).getD o 0), riE q o) := by
  intro j
  induction j with
  | zero =>
    intro a q b o e hi ho
    have h11 := mem_q e hq
    rw [runS, cp_nat, show k = (flat a).length + o by omega, flat_at e ho, cls_eq w _ (getD_mem ho h11)]
    have hm : Nat.max (flat a).length ((flat a).length + o) = (flat a).length + o := Nat.max_eq_right (Nat.le_add_right _ _)
    rw [hm]
    have hr : (if clsN ((sg q).getD o 0) = 6 then (1 : Int) else 0) = riE q o := by
      rcases hk a q b o e (by omega) ho with rfl | h6
      · rcases lt11 h11 with rfl | rfl | rfl | rfl | rfl | rfl | rfl | rfl | rfl | rfl | rfl <;> rfl
      · rw [if_neg h6]
        have : ¬ q = 5 := by
          rintro rfl
          have ho2 : o = 0 ∨ o = 1 := by have : (sg 5).length = 2 := rfl; omega
          rcases ho2 with rfl | rfl <;> exact h6 (by rfl)
        rw [riE, if_neg this]
    rw [hr]
  | succ j ih =>
    intro a q b o e hi ho
    have h11 := mem_q e hq
    have ei : (k : Int) + 1 + (j : Int) = (((flat a).length + o : Nat) : Int) := by omega
    rw [runS]
    (try dsimp only)
    rw [ei, cp_nat, flat_at e ho, cls_eq w _ (getD_mem ho h11), Int.toNat_natCast, flat_rv e (Nat.le_of_lt ho)]
    have hsr : ∀ c ∈ ((sg q).take o).reverse ++ (flat a).reverse, c ∈ chars := by
      rw [← flat_rv e (Nat.le_of_lt ho)]; exact rv_chars hq _
    cases o with
    | succ o =>
      rw [ih a q b o e (by omega) (by omega)]
      dsimp only
      rw [should_eq w _ _ _ _ _ hsr (getD_mem ho h11), in_step h11 ho]
      simp
    | zero =>
      have hpos : 0 < (flat a).length := by omega
      obtain ⟨a', q', ea⟩ := snoc_of hpos
      have e' : qs = a' ++ q' :: (q :: b) := by rw [e, ea]; simp
      have h11' := mem_q e' hq
      have hl' := sg_len h11'
      have hla : (flat a).length = (flat a').length + (sg q').length := by rw [ea, flat_app, List.length_append]; simp [flat]
      have er : ((sg q).take 0).reverse ++ (flat a).reverse = (sg q').reverse ++ (flat a').reverse := by rw [ea, flat_app]; simp [flat]
      rw [ih a' q' (q :: b) ((sg q').length - 1) e' (by omega) (by omega)]
      dsimp only
      rw [should_eq w _ _ _ _ _ hsr (getD_mem ho h11), er, pair_step h11' h11]
      simp only [if_true]
      have hm : Nat.max (flat a).length k = (flat a).length := Nat.max_eq_left (by omega)
      rw [hm]
      simp

abbrev stopC (c : Nat) : Prop := (32 ≤ c ∧ c < 128) ∨ clsN c = 3
theorem stop_eq (w : World) {l : List Nat} {k : Nat} (h : l.getD k 0 ∈ chars) : ((32 ≤ l.getD k 0 ∧ l.getD k 0 < 128) ∨ gcbS w (l.getD k 0) = 3) ↔ stopC (l.getD k 0) := by
  rw [cls_eq w _ h]
theorem back_is (w : World) (l : List Nat) (hl : ∀ k, k < l.length → l.getD k 0 ∈ chars) : ∀ n, n < l.length → backS w l n = 0 ∨ stopC (l.getD (backS w l n) 0)
  | 0, _ => .inl rfl
  | n + 1, h => by
    rw [backS]
    split
    · rename_i hs
      exact .inr ((stop_eq w (hl _ h)).mp hs)
    · exact back_is w l hl n (by omega)
theorem back_skip (w : World) (l : List Nat) (hl : ∀ k, k < l.length → l.getD k 0 ∈ chars) (A : Nat) : ∀ o, A + o < l.length → (∀ o', 1 ≤ o' → o' ≤ o → ¬ stopC (l.getD (A + o') 0)) → backS w l (A + o) ≤ A
  | 0, _, _ => back_le w l A
  | o + 1, h, hs => by
    rw [← Nat.add_assoc, backS, if_neg]
    · exact back_skip w l hl A o (by omega) fun o' h1 h2 => hs o' h1 (by omega)
    · intro q
      exact hs (o + 1) (by omega) (Nat.le_refl _) ((stop_eq w (hl _ h)).mp q)
section
variable {qs : List Nat}
theorem flat_getD (hq : ∀ q ∈ qs, q < 11) : ∀ k, k < (flat qs).length → (flat qs).getD k 0 ∈ chars := by
  intro k h
  rw [List.getD_eq_getElem?_getD, List.getElem?_eq_getElem h]
  exact flat_chars hq _ (List.getElem_mem h)
theorem loop_start (w : World) (hq : ∀ q ∈ qs, q < 11) {a b : List Nat} {q o : Nat} (e : qs = a ++ q :: b) (ho : o < (sg q).length)
    (hs : ∀ o', 1 ≤ o' → o' ≤ o → ¬ stopC ((sg q).getD o' 0)) :
    (runS w (flat qs) (backS w (flat qs) ((flat a).length + o) : Nat) ((flat a).length + o - backS w (flat qs) ((flat a).length + o))).1 = ((flat a).length : Int) := by
  have hlen := flat_len e
  have hl := flat_getD hq
  have b1 := back_le w (flat qs) ((flat a).length + o)
  have b2 := back_skip w (flat qs) hl (flat a).length o (by omega) fun o' h1 h2 => by rw [flat_at e (by omega)]; exact hs o' h1 h2
  have b3 := back_is w (flat qs) hl ((flat a).length + o) (by omega)
  rw [run_inv w hq (backS w (flat qs) ((flat a).length + o)) (fun a' q' b' o' e' hk ho' => ?_) _ a q b o e (by omega) ho]
  · have hm : Nat.max (flat a).length (backS w (flat qs) ((flat a).length + o)) = (flat a).length := Nat.max_eq_left b2
    rw [hm]
  · rcases b3 with b3 | b3
    · exact .inl (by omega)
    · refine .inr ?_
      rw [hk, flat_at e' ho'] at b3
      have hc := getD_mem ho' (mem_q e' hq)
      generalize (sg q').getD o' 0 = c at b3 hc
      have all : ∀ c ∈ chars, stopC c → clsN c ≠ 6 := by decide
      exact all c hc b3
/-- in the middle of a sign, or at its end, the start told is the sign's -/
theorem prev_last (hq : ∀ q ∈ qs, q < 11) {a b : List Nat} {q : Nat} (e : qs = a ++ q :: b) (h : 0 < (flat a).length) : ∃ q', q' < 11 ∧ (flat qs).getD ((flat a).length - 1) 0 = (sg q').getD ((sg q').length - 1) 0 := by
  obtain ⟨a', q', ea⟩ := snoc_of h
  have e' : qs = a' ++ q' :: (q :: b) := by rw [e, ea]; simp
  have h11' := mem_q e' hq
  have hl' := sg_len h11'
  have hla : (flat a).length = (flat a').length + (sg q').length := by rw [ea, flat_app, List.length_append]; simp [flat]
  refine ⟨q', h11', ?_⟩
  rw [show (flat a).length - 1 = (flat a').length + ((sg q').length - 1) by omega]
  exact flat_at e' (by omega)
theorem last_facts : ∀ q, q < 11 → (sg q).getD ((sg q).length - 1) 0 ≠ 13 ∧ clsN ((sg q).getD ((sg q).length - 1) 0) ≠ 7 := by decide
theorem fcs0_hi (w : World) (hq : ∀ q ∈ qs, q < 11) {a b : List Nat} {q o : Nat} (e : qs = a ++ q :: b) (ho : o < (sg q).length) (hc : 128 ≤ (sg q).getD o 0)
    (hs : ∀ o', 1 ≤ o' → o' ≤ o → ¬ stopC ((sg q).getD o' 0)) : fcs0 w (flat qs) (((flat a).length + o : Nat) + 1 : Int) = ((flat a).length : Int) := by
  have hp : (((flat a).length + o : Nat) + 1 : Int) - 1 = ((flat a).length + o : Nat) := by omega
  unfold fcs0
  rw [hp, cp_nat, flat_at e ho, if_neg (by omega), if_neg (by omega), Int.toNat_natCast]
  exact loop_start w hq e ho hs
theorem fcs_sign (w : World) (hq : ∀ q ∈ qs, q < 11) {a b : List Nat} {q o : Nat} (e : qs = a ++ q :: b) (ho : o < (sg q).length) : fcs w (flat qs) (((flat a).length + o : Nat) + 1 : Int) = ((flat a).length : Int) := by
  have h11 := mem_q e hq
  have hlen := flat_len e
  have hp : (((flat a).length + o : Nat) + 1 : Int) - 1 = ((flat a).length + o : Nat) := by omega
  have hc := flat_at e ho
  have hl := flat_getD hq
  by_cases hi : 128 ≤ (sg q).getD o 0
  · have hn : ¬ preC w (flat qs) (((flat a).length + o : Nat) + 1 : Int) := by
      unfold preC
      rw [hp, cp_nat, hc]
      omega
    unfold fcs
    rw [if_neg hn]
    refine fcs0_hi w hq e ho hi fun o' h1 h2 => ?_
    have ho3 : o' = 1 ∨ o' = 2 := by have := (sg_len h11).2; omega
    have hoo : o = 1 ∨ o = 2 := by have := (sg_len h11).2; omega
    rcases lt11 h11 with rfl | rfl | rfl | rfl | rfl | rfl | rfl | rfl | rfl | rfl | rfl <;> rcases ho3 with rfl | rfl <;> rcases hoo with rfl | rfl <;> first | decide | (exact absurd h2 (by decide)) | (exact absurd ho (by decide)) | (exact absurd hi (by decide))
  · have ho0 : o = 0 ∨ o = 1 ∨ o = 2 := by have := (sg_len h11).2; omega
    have low : (o = 0 ∧ (q = 0 ∨ q = 1 ∨ q = 2 ∨ q = 9 ∨ q = 10)) ∨ (q = 1 ∧ o = 1) ∨ (q = 8 ∧ o = 1) := by
      rcases lt11 h11 with rfl | rfl | rfl | rfl | rfl | rfl | rfl | rfl | rfl | rfl | rfl <;> rcases ho0 with rfl | rfl | rfl <;> first | (exact absurd (by decide) hi) | (exact absurd ho (by decide)) | simp
    rcases low with ⟨rfl, hq5⟩ | ⟨rfl, rfl⟩ | ⟨rfl, rfl⟩
    · -- the first character, below 128
      have hpv : 2 ≤ (((flat a).length + 0 : Nat) + 1 : Int) → ∃ q', q' < 11 ∧ cp (flat qs) ((((flat a).length + 0 : Nat) + 1 : Int) - 2) = (sg q').getD ((sg q').length - 1) 0 := by
        intro h2
        obtain ⟨q', h1, h3⟩ := prev_last hq e (by omega)
        refine ⟨q', h1, ?_⟩
        rw [show (((flat a).length + 0 : Nat) + 1 : Int) - 2 = (((flat a).length - 1 : Nat) : Int) by omega, cp_nat]
        exact h3
      have hn : ¬ preC w (flat qs) (((flat a).length + 0 : Nat) + 1 : Int) := by
        rintro ⟨_, h2, _, _, h5⟩
        obtain ⟨q', h1, h3⟩ := hpv h2
        rw [h3, cls_eq w _ (getD_mem (by have := sg_len h1; omega) h1)] at h5
        exact (last_facts q' h1).2 h5
      unfold fcs
      rw [if_neg hn]
      unfold fcs0
      rw [hp, cp_nat, hc, if_neg, if_pos]
      · omega
      · rcases hq5 with rfl | rfl | rfl | rfl | rfl <;> decide
      · rintro ⟨_, h2, h13⟩
        obtain ⟨q', h1, h3⟩ := hpv h2
        rw [h3] at h13
        exact (last_facts q' h1).1 h13
    · -- CR LF
      have hn : ¬ preC w (flat qs) (((flat a).length + 1 : Nat) + 1 : Int) := by
        rintro ⟨_, _, h3, _⟩
        rw [hp, cp_nat, hc] at h3
        exact absurd h3 (by decide)
      have hm : (((flat a).length + 1 : Nat) + 1 : Int) - 2 = ((flat a).length + 0 : Nat) := by omega
      unfold fcs
      rw [if_neg hn]
      unfold fcs0
      rw [hp, hm, cp_nat, cp_nat, hc, flat_at e (by decide), if_pos]
      · omega
      · exact ⟨rfl, by omega, rfl⟩
    · -- a letter behind the sign put ahead of it
      have hm : (((flat a).length + 1 : Nat) + 1 : Int) - 2 = ((flat a).length + 0 : Nat) := by omega
      have h0 := flat_at e (o := 0) (by decide)
      have hy : preC w (flat qs) (((flat a).length + 1 : Nat) + 1 : Int) := by
        unfold preC
        rw [hp, hm, cp_nat, cp_nat, hc, h0]
        exact ⟨by decide, by omega, by decide, by decide, by rw [cls_eq w _ (getD_mem (by decide) h11)]; rfl⟩
      unfold fcs
      rw [if_pos hy, hp]
      have := fcs0_hi w hq e (o := 0) (by decide) (by decide) (fun o' h1 h2 => by omega)
      rw [← this]
      congr 1
end

/-! what is due -/
noncomputable def mn (x y : Int) : Int := if y < x then y else x
noncomputable def dueP (st bd : Int) : List Nat → Int → List (Int × Int) → List (Int × Int)
  | [], _, acc => acc
  | q :: r, x, acc => dueP st bd r (x + (sg q).length) (if st ≤ x ∧ x < bd then (x, mn (x + (sg q).length) bd) :: acc else acc)
theorem gl_nil {w : World} {l : List Nat} {st p : Int} {r : List (Int × Int)} (h : GL w l st p r) (hp : ¬ st < p) : r = [] := by
  cases h with
  | stop _ => rfl
  | brk h _ => exact absurd h hp
  | step h _ _ => exact absurd h hp
theorem due_gl (w : World) {qs : List Nat} (hq : ∀ q ∈ qs, q < 11) {st bd : Int} (h0 : 0 ≤ bd) : ∀ (r a : List Nat) (x : Int) (acc : List (Int × Int)), qs = a ++ r → x = (flat a).length → GL w (flat qs) st (mn x bd) acc →
    GL w (flat qs) st (mn (flat qs).length bd) (dueP st bd r x acc)
  | [], a, x, acc, e, hx, g => by
    rw [List.append_nil] at e
    rw [dueP, e, ← hx]
    rw [e] at g
    exact g
  | q :: r, a, x, acc, e, hx, g => by
    rw [dueP]
    have h11 := mem_q e hq
    have hl := sg_len h11
    refine due_gl w hq h0 r (a ++ [q]) _ _ (by rw [e]; simp) (by rw [flat_app, List.length_append, hx]; simp [flat]) ?_
    by_cases hb : x < bd
    · have m0 : mn x bd = x := by unfold mn; rw [if_neg (by omega)]
      rw [m0] at g
      obtain ⟨o, ho, hm⟩ : ∃ o : Nat, o < (sg q).length ∧ mn (x + (sg q).length) bd = (((flat a).length + o : Nat) + 1 : Int) := by
        unfold mn
        split
        · exact ⟨(bd - x - 1).toNat, by omega, by omega⟩
        · exact ⟨(sg q).length - 1, by omega, by omega⟩
      have hf := fcs_sign w hq e ho
      rw [← hm, ← hx] at hf
      by_cases hs : st ≤ x
      · rw [if_pos ⟨hs, hb⟩]
        have g' := g
        rw [← hf] at g'
        have z := GL.step (w := w) (l := flat qs) (start := st) (pos := mn (x + (sg q).length) bd) (by rw [hm]; omega) (by rw [hf]; omega) g'
        rw [hf] at z
        exact z
      · rw [if_neg (by omega)]
        have e0 := gl_nil g (by omega)
        subst e0
        by_cases hp : st < mn (x + (sg q).length) bd
        · exact GL.brk hp (by rw [hf]; omega)
        · exact GL.stop hp
    · have m0 : mn x bd = bd := by
        unfold mn
        split <;> omega
      have m1 : mn (x + (sg q).length) bd = bd := by
        unfold mn
        split <;> omega
      rw [if_neg (by omega), m1, ← m0]
      exact g
/-- the pieces that begin within the stretch -/
theorem due_all (w : World) {qs : List Nat} (hq : ∀ q ∈ qs, q < 11) {st bd : Int} (hs : 0 ≤ st) (h0 : 0 ≤ bd) (h1 : bd ≤ (flat qs).length) : GL w (flat qs) st bd (dueP st bd qs 0 []) := by
  have m : mn (flat qs).length bd = bd := by
    unfold mn
    split <;> omega
  rw [← m]
  have m0 : mn 0 bd = 0 := by
    unfold mn
    split <;> omega
  have z := due_gl w hq (st := st) h0 qs [] 0 [] rfl rfl (by rw [m0]; exact .stop (by omega))
  rw [m] at z ⊢
  exact z
theorem sl_sign {qs a b : List Nat} {q : Nat} (e : qs = a ++ q :: b) : sl (flat qs) ((flat a).length : Int) ((flat a).length + (sg q).length) = sg q := by
  unfold sl
  rw [e, flat_app, flat_cons, Int.toNat_natCast, show (((flat a).length : Int) + (sg q).length - (flat a).length).toNat = (sg q).length by omega, List.drop_left, List.take_left]
/-- all the text: the signs, the last first -/
theorem due_whole {qs : List Nat} (hq : ∀ q ∈ qs, q < 11) : ∀ (r a : List Nat) (x : Int) (acc : List (Int × Int)), qs = a ++ r → x = (flat a).length →
    (dueP 0 (flat qs).length r x acc).map (fun it => sl (flat qs) it.1 it.2) = (r.map sg).reverse ++ acc.map fun it => sl (flat qs) it.1 it.2
  | [], a, x, acc, e, hx => by simp [dueP]
  | q :: r, a, x, acc, e, hx => by
    have h11 := mem_q e hq
    have hl := sg_len h11
    have hlen := flat_len e
    rw [dueP, if_pos (by omega), due_whole hq r (a ++ [q]) _ _ (by rw [e]; simp) (by rw [flat_app, List.length_append, hx]; simp [flat])]
    have m : mn (x + (sg q).length) (flat qs).length = x + (sg q).length := by
      unfold mn
      split <;> omega
    rw [m, hx, List.map_cons]
    dsimp only
    rw [sl_sign e]
    simp
theorem gl_head {w : World} {l : List Nat} {st p : Int} {it : Int × Int} {r : List (Int × Int)} (h : GL w l st p (it :: r)) : st < p ∧ it = (fcs w l p, p) := by
  cases h with
  | step h _ _ => exact ⟨h, rfl⟩
theorem flat_len_le : ∀ {qs : List Nat}, (∀ q ∈ qs, q < 11) → (flat qs).length ≤ 3 * qs.length ∧ (1 ≤ qs.length → 1 ≤ (flat qs).length)
  | [], _ => ⟨by simp [flat], by simp⟩
  | q :: qs, h => by
    have := sg_len (h q (.head _))
    have ih := flat_len_le (qs := qs) fun x hx => h x (.tail _ hx)
    rw [flat_cons, List.length_append, List.length_cons]
    omega
end Mine
/-! W15 -/
namespace Mine
example : True := by
  w_top off
  trivial
example : PySem.Challenge.rw_ax6033_01 = PySem.Challenge.rw_ax6033_01 → hd.heap_39 = hd.heap_39 → True := by
  k_fill
  intros; trivial
local macro_rules | `(tactic| walk_at "M steps") => `(tactic| repeat' ((fail_if_success (with_reducible show wpAny _ _ (exec (Stmt.While _ _ _ _) _) _ _ _)); (fail_if_success (with_reducible show wpAny _ _ (exec (Stmt.For _ _ _ _ _) _) _ _ _)); first | (k_unfold; (try dsimp only)) | (k_end; wrow_close) | walk1 | (dsimp only; walk1) | (leave1; walk_say "STEP leave1"; try dsimp only)))
local macro_rules | `(tactic| walk_at "M if") => `(tactic| repeat' ((fail_if_success (with_reducible show wpAny _ _ (exec (Stmt.While _ _ _ _) _) _ _ _)); (fail_if_success (with_reducible show wpAny _ _ (exec (Stmt.For _ _ _ _ _) _) _ _ _)); (fail_if_success (with_reducible show wpAny _ _ (exec (Stmt.If _ _ _ _) _) _ _ _)); first | (k_unfold; (try dsimp only)) | (k_end; wrow_close) | walk1 | (dsimp only; walk1) | (leave1; walk_say "STEP leave1"; try dsimp only)))
local macro_rules | `(tactic| walk_at "M has") => `(tactic| ((case hB => k_asm); (case hF => k_asm); (case hX => k_asm); (case hN => k_asm); (case hT => k_asm); (case hK => exact rfl); (case hd => omega); (case hu => omega)))
local macro_rules | `(tactic| walk_at "call ref") => `(tactic| (k_here; (with_reducible show wpAny _ _ (call (Value.ref _) [Value.int _ _, Value.int _ _] []) _ _ _); (refine' simple_use ?hB ?hF ?hX ?hN ?hT ?hK ?hd ?hu ?_ ?_); walk_at "M has"; (all_goals (intros; (try k_sweep)))))
local macro_rules | `(tactic| walk_at "call ref") => `(tactic| (k_here; (with_reducible show wpAny _ _ (call (Value.ref _) [Value.int _ _] []) _ _ _); (first | refine' has_bool (is_ext _ _ _ _ _ _ _) ?hB ?hF ?hX ?hN ?hT ?hK ?hd ?hu ?_ | refine' has_bool (is_link _ _ _ _ _ _ _) ?hB ?hF ?hX ?hN ?hT ?hK ?hd ?hu ?_ | refine' has_bool (is_cons _ _ _ _ _ _ _) ?hB ?hF ?hX ?hN ?hT ?hK ?hd ?hu ?_ | refine' has_bool (is_iext _ _ _ _ _ _ _) ?hB ?hF ?hX ?hN ?hT ?hK ?hd ?hu ?_ | refine' has_int (gcb _ _ _ _ _ _ _) ?hB ?hF ?hX ?hN ?hT ?hK ?hd ?hu ?_); walk_at "M has"; intros; (try k_sweep)))
local macro_rules | `(tactic| walk_at "M cut") => `(tactic| (walk_at "M steps"; (all_goals (refine cut_end (by assumption) (by assumption) (by first | exact fun _ h => h | exact fun _ h => .tail _ h | exact fun _ h => .tail _ (.tail _ h)) ?_)); (all_goals (first | (simp; done) | (simp [*]; done) | (simp_all; done) | grind))))
local macro_rules | `(tactic| walk_at "M while") => `(tactic| repeat' ((fail_if_success (with_reducible show wpAny _ _ (exec (Stmt.While _ _ _ _) _) _ _ _)); (fail_if_success (with_reducible show wpAny _ _ (exec (Stmt.For _ _ _ _ _) _) _ _ _)); first | (k_unfold; (try dsimp only)) | (k_end; wrow_close) | walk1 | (dsimp only; walk1) | (leave1; walk_say "STEP leave1"; try dsimp only)))
local macro_rules | `(tactic| walk_at "call ref") => `(tactic| (k_here; (with_reducible show wpAny _ _ (call (Value.ref _) [Value.str _ _, Value.int _ _] []) _ _ _); (refine' rec_use (by assumption) ?hG ?hB ?hF ?hX ?hN ?hT ?hK ?hd ?hu ?_); (case hG => (unfold preC; (refine ⟨?_, ?_, ?_, ?_, ?_⟩) <;> first | assumption | omega)); walk_at "M has"; intros; (try k_sweep)))
local macro_rules | `(tactic| walk_at "call ref") => `(tactic| (k_here; (with_reducible show wpAny _ _ (call (Value.ref _) [Value.int _ _, Value.int _ _, Value.str _ _, Value.int _ _, Value.int _ _] []) _ _ _); (refine' should_use (by omega) (by omega) (by omega) ?hB ?hF ?hX ?hN ?hT ?hK ?hd ?hu ?_); walk_at "M has"; intro _ _ _ _ _ _ _; (try k_sweep)))
local macro_rules | `(tactic| walk_at "M cut") => `(tactic| (walk_at "M steps"; (all_goals (refine cut_end (by assumption) (by assumption) (by first | exact fun _ h => h | exact fun _ h => .tail _ h | exact fun _ h => .tail _ (.tail _ h)) ?_)); (all_goals (first | (simp; done) | (simp [*]; done) | (simp_all; done) | (simp_all [cr_eq]; done) | (simp_all [cr_eq]; omega) | grind))))
local macro_rules | `(tactic| walk_at "M attr") => `(tactic| (walk_at "M has"; (case hm => exact .head _); (case hm2 => exact .tail _ (.head _)); (case hv => exact rfl); intros; (try k_sweep)))
local macro_rules | `(tactic| walk_at "M iter") => `(tactic| repeat' ((fail_if_success (with_reducible show wpAny _ _ (pyIter _) _ _ _)); first | (k_unfold; (try dsimp only)) | (k_end; wrow_close) | walk1 | (dsimp only; walk1) | (leave1; walk_say "STEP leave1"; try dsimp only)))
local macro_rules | `(tactic| walk_at "call ref") => `(tactic| (k_here; (with_reducible show wpAny _ _ (call (Value.ref _) [Value.str _ _, Value.int _ _] []) _ _ _); (refine' fcs_use (by omega) (by omega) (by omega) ?hB ?hF ?hX ?hN ?hT ?hK ?hd ?hu ?_); walk_at "M has"; intros; (try k_sweep)))

section
variable {w : World} {mean : ExcName → Option Value} {mg mb : Str → Option Value} {news keep : List (Addr × Obj)}
  {dp un : Nat} {gd : Option (List Code)} {cn : Str} {cs : Scope} {a : Addr} {ccd : Value} {cl : List (Str × Addr)} {outer : List Env} {A₀ : Around} {base h₀ : Heap} {L : Addr} {m : Str → Option Value} {s : Shared} {Q E : Value → Shared → Prop}
theorem draw_use {sc : Addr} {vs : List Value} {ns : List Int} (hP : h₀.IsList sc vs.toArray) (hi : IntsAre vs ns) (hl : ns.length ≤ 63) (B : Below A₀ base outer h₀) (F : Fr h₀ L s.heap m) (X : (hd.heap_39 w.params).In h₀) (N : News h₀ L s.heap news) (T : Top VW LW mean mg mb h₀) (hk : cs.kind = .function) (hd : dp + 2 < recursionLimit) (hu : un + 20 < cLine)
    (h : ∀ D D1 seed t k us ms k' h' tk', IntsAre us ms → ms.length ≤ 40 → Apart D D1 news → Fr h₀ L h' m → News h₀ L h' ((D, dObj D1 seed t k) :: (D1, iObj us k') :: news) → Q (.ref D) { s with heap := h', toks := tk' }) :
    wpAny (model PG w) (ktrTop dp un gd cn cs L a ccd cl outer) (call (.ref 389) [.ref sc]) Q E s :=
  drawC w mean mg mb sc vs ns hi hl news _ _ _ _ _ _ _ _ _ _ _ _ _ _ _ _ _ B F X N T hP hk hd hu fun r nw h' tk' F' N' o => by
    obtain ⟨D, D1, seed, t, k, us, ms, k', rfl, h1, h2, h3, rfl⟩ := o
    exact h D D1 seed t k us ms k' h' tk' h1 h2 h3 F' N'
theorem take_use {D D1 : Addr} {seed many : Int} {t tm : Tok} {k k' : Nat} {us : List Value} {ms : List Int} (keep : List (Addr × Obj)) (ha : Apart D D1 keep) (hi : IntsAre us ms) (hl : ms.length ≤ 40) (hm : 1 ≤ many) (hD : (D, dObj D1 seed t k) ∈ news) (hD1 : (D1, iObj us k') ∈ news) (hs : ∀ p ∈ keep, p ∈ news)
    (B : Below A₀ base outer h₀) (F : Fr h₀ L s.heap m) (X : (hd.heap_39 w.params).In h₀) (N : News h₀ L s.heap news) (T : Top VW LW mean mg mb h₀) (hk : cs.kind = .function) (hd : dp + 2 < recursionLimit) (hu : un + 20 < cLine)
    (h : ∀ v t' seed' t'' k us' ms' k' h' tk', 0 ≤ v → v < many → IntsAre us' ms' → ms'.length ≤ 40 → Fr h₀ L h' m → News h₀ L h' ((D, dObj D1 seed' t'' k) :: (D1, iObj us' k') :: keep) → Q (.int v t') { s with heap := h', toks := tk' }) :
    wpAny (model PG w) (ktrTop dp un gd cn cs L a ccd cl outer) (call (.ref 396) [.ref D, .int many tm]) Q E s :=
  takeC w mean mg mb D D1 seed many t tm k k' us ms hi hl hm keep ha _ _ _ _ _ _ _ _ _ _ _ _ _ _ _ _ _ B F X (fun p hp => N p (by
    rcases List.mem_cons.mp hp with rfl | hp
    · exact hD
    · rcases List.mem_cons.mp hp with rfl | hp
      · exact hD1
      · exact hs p hp)) T trivial hk hd hu fun r nw h' tk' F' N' o => by
    obtain ⟨v, t', seed', t'', k, us', ms', k', rfl, h1, h2, h3, h4, rfl⟩ := o
    exact h v t' seed' t'' k us' ms' k' h' tk' h1 h2 h3 h4 F' N'
end
local macro_rules | `(tactic| walk_at "M all") => `(tactic| repeat' (first | (k_unfold; (try dsimp only)) | (k_end; wrow_close) | walk1 | (dsimp only; walk1) | (leave1; walk_say "STEP leave1"; try dsimp only)))
local macro_rules | `(tactic| walk_at "M comp") => `(tactic| repeat' ((fail_if_success (with_reducible show wpAny _ _ (exec (Stmt.For _ _ _ _ _) _) _ _ _)); (fail_if_success (with_reducible show wpAny _ _ (eval (Expr.ListComp _ _ _ _) _) _ _ _)); (fail_if_success (with_reducible show wpAny _ _ (exec (Stmt.Assign [Expr.Name _ _] (Expr.ListComp _ _ _ _) _) _) _ _ _)); first | (k_unfold; (try dsimp only)) | (k_end; wrow_close) | walk1 | (dsimp only; walk1) | (leave1; walk_say "STEP leave1"; try dsimp only)))
local macro_rules | `(tactic| walk_at "call ref") => `(tactic| (k_here; (with_reducible show wpAny _ _ (call (Value.ref _) [Value.ref _] []) _ _ _); (refine' draw_use (by assumption) (by assumption) (by assumption) ?hB ?hF ?hX ?hN ?hT ?hK ?hd ?hu ?_); walk_at "M has"; intros; (try k_sweep)))
theorem len63 {vs : List Value} {ns : List Int} (_h : IntsAre vs ns) (hc : ¬ ((63 : Nat) : Int) < (ns.length : Int)) : ns.length ≤ 63 := by omega
theorem below_of {h₀ h : Heap} {L : Addr} {m : Str → Option Value} (_F : Fr h₀ L h m) : Below callerA h₀ [] h₀ := below_caller h₀
theorem room9 : 2 + claimMargin + 50 < recursionLimit := by decide
theorem unit9 : 7 + 400 < cLine := by decide
section
variable {M : Model} {A : Around} {E : Value → Shared → Prop} {s : Shared} {h₀ : Heap} {L a c : Addr} {m : Str → Option Value} {cn : Str} {cs : Scope} {ccd : Value} {cl : List (Str × Addr)} {x : Str} {v : Value} {Q : Unit → Shared → Prop} {news : List (Addr × Obj)} {o : Obj} {v₀ : Option Value}
theorem store_cell (F : Fr h₀ L s.heap m) (N : News h₀ L s.heap news) (hm : (c, o) ∈ news) (ho : o.data = .cell v₀) (keep : List (Addr × Obj)) (hkp : ∀ p ∈ keep, p ∈ news ∧ p.1 ≠ c)
    (h : ∀ h' o', Fr h₀ L h' m → News h₀ L h' ((c, o') :: keep) → o'.data = .cell (some v) → Q () { s with heap := h' })
    (hc : cl.lookup x = some c) (hk : cs.kind = .function) (hx : (envX cn cs L a ccd cl).kindOf x = some .cell) : wpAny M A (storeName (envX cn cs L a ccd cl) x v) Q E s :=
  storeX_C (news := (c, o) :: keep) (g := fun o' => (c, o') :: keep) F (fun p hp => N p (by
    rcases List.mem_cons.mp hp with rfl | hp
    · exact hm
    · exact (hkp p hp).1)) hc (.head fun p hp => (hkp p hp).2) ho h hk hx
end
theorem store_draw {M : Model} {A : Around} {E : Value → Shared → Prop} {s : Shared} {h₀ : Heap} {L a c D D1 : Addr} {m : Str → Option Value} {cn : Str} {cs : Scope} {ccd : Value} {cl : List (Str × Addr)} {x : Str} {v : Value} {Q : Unit → Shared → Prop} {o oD o1 : Obj} {v₀ : Option Value}
    (F : Fr h₀ L s.heap m) (N : News h₀ L s.heap [(D, oD), (D1, o1), (c, o)]) (hap : Apart D D1 [(c, o)]) (ho : o.data = .cell v₀)
    (h : ∀ h' o', Fr h₀ L h' m → News h₀ L h' [(c, o'), (D, oD), (D1, o1)] → o'.data = .cell (some v) → (∀ o, Apart D D1 [(c, o)]) → Q () { s with heap := h' })
    (hc : cl.lookup x = some c) (hk : cs.kind = .function) (hx : (envX cn cs L a ccd cl).kindOf x = some .cell) : wpAny M A (storeName (envX cn cs L a ccd cl) x v) Q E s :=
  store_cell F N (.tail _ (.tail _ (.head _))) ho [(D, oD), (D1, o1)] (fun p hp => by
    have h1 := hap.2 (c, o) (.head _)
    rcases List.mem_cons.mp hp with rfl | hp
    · exact ⟨.head _, Ne.symm h1.1⟩
    · rcases List.mem_cons.mp hp with rfl | hp
      · exact ⟨.tail _ (.head _), Ne.symm h1.2⟩
      · cases hp) (fun h' o' F' N' e => h h' o' F' N' e fun o2 => ⟨hap.1, fun p hp => by
    rcases List.mem_cons.mp hp with rfl | hp
    · exact hap.2 (c, o) (.head _)
    · cases hp⟩) hc hk hx
local macro_rules | `(tactic| walk_at "M law") => `(tactic| repeat' ((fail_if_success (with_reducible show wpAny _ _ (exec (Stmt.For _ _ _ _ _) _) _ _ _)); (fail_if_success (with_reducible show wpAny _ _ (eval (Expr.ListComp _ _ _ _) _) _ _ _)); (fail_if_success (with_reducible show wpAny _ _ (exec (Stmt.Assign [Expr.Name _ _] (Expr.ListComp _ _ _ _) _) _) _ _ _)); (fail_if_success (with_reducible show wpAny _ _ (call (Value.ref 396) _ _) _ _ _)); (fail_if_success (with_reducible show LCg.CompSrc _ _ _ _ _ _ _ _ _ _ _ _ _ _)); (fail_if_success (with_reducible show LCg.CompEnd _ _ _ _ _ _ _ _ _ _ _ _ _ _)); first | (k_unfold; (try dsimp only)) | (k_end; wrow_close) | walk1 | (dsimp only; walk1) | (leave1; walk_say "STEP leave1"; try dsimp only)))
theorem comp_rest {prog : Program} {w : World} {A : Around} {h₀ : Heap} {L : Addr} {m : Str → Option Value} {env : Env} {elt : Expr} {x : Str} {scope : Scope} {cl : List (Str × Addr)} {s : Shared} {S : List (Addr × Obj) → Prop} {P : Nat → Value → Prop} {Fin : List Value → List (Addr × Obj) → Prop} {news : List (Addr × Obj)} {n : Nat}
    (Inv : Nat → List Value → List (Addr × Obj) → Prop) (h0 : Inv 0 [] news)
    (turn : ∀ i ys nw v I oI C oC D m₂ h tk (E' : Value → Shared → Prop), i < n → Inv i ys nw → P i v → LCg.NsObj oC m₂ → m₂ x = some v → Fr h₀ L h m → News h₀ L h ((I, oI) :: (C, oC) :: (D, LCg.lst ys) :: nw) → LCg.Off3 I C D nw → ((@Ne Nat I C) ∧ (@Ne Nat I D) ∧ (@Ne Nat C D)) →
      wpAny (model prog w) A (eval elt (compEnvC scope cl C env)) (LCg.CompEnd h₀ L m { s with heap := h, toks := tk } I oI C oC D (LCg.lst ys) S (fun y nw' => Inv (i + 1) (ys ++ [y]) nw')) E' { s with heap := h, toks := tk })
    (fin : ∀ ys nw, Inv n ys nw → Fin ys nw) : LCg.CompRest prog w A h₀ L m env elt x scope cl s S P Fin n 0 [] news := by
  have key : ∀ (j i : Nat) (ys : List Value) (nw : List (Addr × Obj)), i + j = n → Inv i ys nw → LCg.CompRest prog w A h₀ L m env elt x scope cl s S P Fin j i ys nw := by
    intro j
    induction j with
    | zero =>
      intro i ys nw hi hy
      have e : i = n := by omega
      subst e
      exact LCg.CompRest.zero (fin ys nw hy)
    | succ j ih =>
      intro i ys nw hi hy
      refine LCg.CompRest.succ ?_
      intro v I oI C oC D m₂ h tk E' hv hC hx F N off ne
      refine wpAny_mono (turn i ys nw v I oI C oC D m₂ h tk E' (by omega) hy hv hC hx F N off ne) (fun y s₂ hq => ?_) fun _ _ e => e
      obtain ⟨h', tk', nw', e, F', N', off', hS, hn⟩ := hq
      exact ⟨h', tk', nw', e, F', N', off', hS, ih (i + 1) _ nw' (by omega) hn⟩
  exact key n 0 [] news (by omega) h0
theorem txts_snoc {ys : List Value} {ls : List (List Nat)} {l : List Nat} {t : Tok} (h : IsTxts ys ls) : IsTxts (ys ++ [.str (txt l) t]) (ls ++ [l]) := by
  refine ⟨by simp [h.1], fun j h1 h2 => ?_⟩
  by_cases hj : j < ys.length
  · obtain ⟨t', e⟩ := h.2 j hj (by rw [← h.1]; exact hj)
    exact ⟨t', by rw [List.getElem_append_left hj, List.getElem_append_left (by rw [← h.1]; exact hj)]; exact e⟩
  · have hj2 : j = ys.length := by simp at h1; omega
    subst hj2
    refine ⟨t, ?_⟩
    rw [List.getElem_append_right (Nat.le_refl _), List.getElem_append_right (by rw [h.1]; exact Nat.le_refl _)]
    simp [h.1]
theorem strs_of {vs : List Value} : ∀ {ls : List (List Nat)}, IsTxts vs ls → StrsAre vs (ls.map txt) := by
  induction vs with
  | nil =>
    intro ls h
    cases ls with
    | nil => exact .nil
    | cons l ls => exact absurd h.1 (by simp)
  | cons v vs ih =>
    intro ls h
    cases ls with
    | nil => exact absurd h.1 (by simp)
    | cons l ls =>
      obtain ⟨t, e⟩ := h.2 0 (by simp) (by simp)
      simp only [List.getElem_cons_zero] at e
      rw [e]
      refine .cons _ _ (ih ⟨by simpa using h.1, fun j h1 h2 => ?_⟩)
      obtain ⟨t', e'⟩ := h.2 (j + 1) (by simpa using h1) (by simpa using h2)
      exact ⟨t', by simpa using e'⟩
theorem txt_app (a b : List Nat) : txt a ++ txt b = txt (a ++ b) := by
  show (⟨a.toArray ++ b.toArray⟩ : Str) = ⟨(a ++ b).toArray⟩
  simp
theorem join_txt : ∀ ls : List (List Nat), Str.join (Str.ofString "") (ls.map txt) = txt ls.flatten
  | [] => rfl
  | [l] => by simp [Str.join]
  | a :: b :: r => by
    show Str.join (Str.ofString "") (txt a :: txt b :: r.map txt) = _
    have e : Str.join (Str.ofString "") (txt a :: txt b :: r.map txt) = txt a ++ Str.ofString "" ++ Str.join (Str.ofString "") (txt b :: r.map txt) := rfl
    have ih := join_txt (b :: r)
    rw [List.map_cons] at ih
    rw [e, ih, show Str.ofString "" = txt [] by rfl, txt_app, txt_app]
    simp
theorem join_use {w : World} {A : Around} {E : Value → Shared → Prop} {s : Shared} {Q : Value → Shared → Prop} {ys : List Value} {qs : List Nat} {D : Addr} {t : Tok} {h₀ : Heap} {L : Addr} {m : Str → Option Value} {news : List (Addr × Obj)} (_F : Fr h₀ L s.heap m) (N : News h₀ L s.heap news) (hm : (D, LCg.lst ys) ∈ news) (hy : IsTxts ys (qs.map sg)) (hl : (flat qs).length + qs.length ≤ 1000)
    (h : ∀ t' tk', Q (.str (txt (flat qs)) t') { s with toks := tk' }) : wpAny (model PG w) A (call (.builtin "str.join") [.str (Str.ofString "") t, .ref D]) Q E s := by
  have hs := strs_of hy
  have hsum : ∀ ls : List (List Nat), ((ls.map txt).map (·.length)).sum = ls.flatten.length := by
    intro ls
    induction ls with
    | nil => rfl
    | cons a r ih => rw [List.map_cons, List.map_cons, List.sum_cons, ih, List.flatten_cons, List.length_append, txt_length]
  refine join_listW (ys := (qs.map sg).map txt) (News.isList N hm) hs (by decide) ?_ ?_
  · have : ((qs.map sg).flatten).length = (flat qs).length := rfl
    rw [hsum, List.length_map, List.length_map]; omega
  · intro t' k
    have e : Txt.join (Str.ofString "") ((qs.map sg).map txt) = txt (flat qs) := by
      show Builtin.Str.glued (Str.ofString "") ((qs.map sg).map txt) = txt ((qs.map sg).flatten)
      rw [StrLaws.glued_eq_join, join_txt]
    rw [e]
    exact h t' k
/-- a statement cut: what the frame and the ledger bear behind it hangs on a state -/
def GCutS {σ : Type} (g : Heap) (L : Addr) (s : Shared) (ps : σ → List (Str × Value)) (led : σ → List (Addr × Obj)) (P : σ → Prop) (f : Flow) (s' : Shared) : Prop :=
  f = .next ∧ ∃ c h' tk' m', s' = { s with heap := h', toks := tk' } ∧ Fr g L h' m' ∧ News g L h' (led c) ∧ (∀ p ∈ ps c, m' p.1 = some p.2) ∧ P c
theorem gs_cut {σ : Type} {g : Heap} {L : Addr} {tl : List (Addr × Obj)} {s : Shared} {ps : σ → List (Str × Value)} {led : σ → List (Addr × Obj)} {P : σ → Prop} {h' : Heap} {tk' : Nat} {m' : Str → Option Value} (c : σ) (F : Fr g L h' m') (N : News g L h' tl) (hs : ∀ p ∈ led c, p ∈ tl) (hk : ∀ p ∈ ps c, m' p.1 = some p.2) (hp : P c) : GCutS g L s ps led P .next { s with heap := h', toks := tk' } :=
  ⟨rfl, c, h', tk', m', rfl, F, fun p hp => N p (hs p hp), hk, hp⟩
theorem stmt_cutS {σ : Type} {prog : Program} {w : World} {A : Around} {E : Value → Shared → Prop} {Q : Flow → Shared → Prop} {s : Shared} {env : Env} {g : Heap} {L : Addr} {m : Str → Option Value} {news : List (Addr × Obj)} {st : Stmt} (ps : σ → List (Str × Value)) (led : σ → List (Addr × Obj)) (P : σ → Prop) (_F : Fr g L s.heap m) (_N : News g L s.heap news)
    (h1 : wpAny (model prog w) A (exec st env) (GCutS g L s ps led P) E s)
    (h2 : ∀ c u h' tk', P c → Fr g L h' (kstB u (ps c)) → News g L h' (led c) → Q .next { s with heap := h', toks := tk' }) :
    wpAny (model prog w) A (exec st env) Q E s := by
  refine wpAny_mono h1 (fun f s' q => ?_) fun _ _ x => x
  obtain ⟨rfl, c, h', tk', m', rfl, F, N, hk, hp⟩ := q
  exact h2 c m' h' tk' hp (by rw [kst_same hk]; exact F) N
local macro_rules | `(tactic| walk_at "call builtin:str.join") => `(tactic| (k_here; (with_reducible show wpAny _ _ (call (Value.builtin "str.join") [Value.str _ _, Value.ref _]) _ _ _); (refine' join_use ?jF ?jN ?jm (by assumption) ?jl ?_); (case jF => k_asm); (case jN => k_asm); (case jm => k_mem); (case jl => assumption); intro _ _))
local macro_rules | `(tactic| walk_at "call builtin:len") => `(tactic| (k_here; (with_reducible show wpAny _ _ (call (Value.builtin "len") [Value.str (txt _) _]) _ _ _); refine len_txt (by omega) (fun _ _ => ?_)))
noncomputable def signsL (w : World) : List Value := (tupOf ((hd.heap_39 w.params).lookup 384)).getD []
theorem signs_tup (w : World) : tupOf ((hd.heap_39 w.params).lookup 384) = some (signsL w) := by rfl
theorem signs_at (w : World) {q : Nat} (h : q < 11) : ∃ t, (signsL w)[q]? = some (.str (txt (sg q)) t) := by
  rcases lt11 h with rfl | rfl | rfl | rfl | rfl | rfl | rfl | rfl | rfl | rfl | rfl <;> exact ⟨_, rfl⟩
theorem signs_len (w : World) : (signsL w).length = 11 := by rfl
theorem item_sign {w : World} {A : Around} {E : Value → Shared → Prop} {s : Shared} {value slice : Expr} {v : Int} {u : Tok} {Q : Value → Shared → Prop} {h₀ : Heap} {L : Addr} {m : Str → Option Value} (F : Fr h₀ L s.heap m) (X : (hd.heap_39 w.params).In h₀) (h0 : 0 ≤ v) (h1 : v < 11)
    (h : ∀ t, Q (.str (txt (sg v.toNat)) t) s)
    (hs : subscripted slice false (.ref 384) (.int v u) = operate [.ref 384, .int v u] (getItem (.ref 384) (.int v u)) := by with_unfolding_all rfl) :
    wpAny (model PG w) A (subscriptTail value slice (.ref 384) (.int v u)) Q E s := by
  obtain ⟨t, e⟩ := signs_at w (q := v.toNat) (by omega)
  refine item_tupleT (j := v.toNat) (tupOf_is (X.keeps F.keep) (signs_tup w)) (by omega) (by omega) ?_ e (h t) hs
  unfold seqIndex?
  have := signs_len w
  simp only [this]
  grind
def InvS (D D1 c : Addr) (o : Obj) (i : Nat) (ys : List Value) (nw : List (Addr × Obj)) : Prop :=
  ∃ (seed : Int) (t : Tok) (k : Nat) (us : List Value) (ms : List Int) (k' : Nat) (qs : List Nat), nw = [(D, dObj D1 seed t k), (D1, iObj us k'), (c, o)] ∧ IntsAre us ms ∧ ms.length ≤ 40 ∧ qs.length = i ∧ (∀ q ∈ qs, q < 11) ∧ IsTxts ys (qs.map sg)
local macro_rules | `(tactic| walk_at "subscriptTail") => `(tactic| (k_here; (with_reducible show wpAny _ _ (subscriptTail _ _ (Value.ref 384) (Value.int _ _)) _ _ _); (refine item_sign (by k_asm) (by k_asm) (by omega) (by omega) ?_); intro _))
local macro_rules | `(tactic| walk_at "M st") => `(tactic| repeat' ((fail_if_success (with_reducible show wpAny _ _ (execs _ _) _ _ _)); (fail_if_success (with_reducible show wpAny _ _ (exec (Stmt.For _ _ _ _ _) _) _ _ _)); (fail_if_success (with_reducible show wpAny _ _ (call (Value.ref 396) _ _) _ _ _)); first | (k_unfold; (try dsimp only)) | (k_end; wrow_close) | walk1 | (dsimp only; walk1) | (leave1; walk_say "STEP leave1"; try dsimp only)))
def bodyOf : Option Obj → List Stmt
  | some ⟨_, _, .func fd, _⟩ => match fd.body with
    | .stmts b => b
    | _ => []
  | _ => []
def scopeOf : Option Obj → Scope
  | some ⟨_, _, .func fd, _⟩ => fd.scope
  | _ => { kind := .function, names := [], isGenerator := false, isCoroutine := false }
theorem law_of {w : World} {dp un : Nat} {gd : Option (List Code)} {L f : Addr} {cdv0 : Value} {cl : List (Str × Addr)} {outer : List Env} {s : Shared} {Q : Flow → Shared → Prop} {E : Value → Shared → Prop}
    {name qual : Str} {params : Arguments} {body : List Stmt} {scope : Scope} {dV kV doc pm cdv ct oc : Value} {an od : Option Addr} {osl : Array (Option Value)}
    (ho : (hd.heap_39 w.params).lookup 401 = some ⟨oc, od, .func (fnOf name qual params body scope dV kV doc pm an cdv ct), osl⟩)
    (h : wpAny (model PG w) (ktrTop dp un gd (Str.ofString "law") scope L f cdv0 cl outer) (execs body (envX (Str.ofString "law") scope L f cdv0 cl)) Q E s) :
    wpAny (model PG w) (ktrTop dp un gd (Str.ofString "law") (scopeOf ((hd.heap_39 w.params).lookup 401)) L f cdv0 cl outer) (execs (bodyOf ((hd.heap_39 w.params).lookup 401)) (envX (Str.ofString "law") (scopeOf ((hd.heap_39 w.params).lookup 401)) L f cdv0 cl)) Q E s := by
  rw [ho]; exact h
def LPost (h₀ : Heap) (s : Shared) (fl : Flow) (s' : Shared) : Prop :=
  fl = .ret (.bool true) ∧ ∃ h' tk gens', s' = { s with heap := h', toks := tk, gens := gens' } ∧ (∀ b o, h₀.get? b = some o → h'.get? b = some o) ∧ AllBare gens'

/-! a for over a list of the ledger, cut: what is made may hang on the state -/
section
variable {prog : Program} {w : World} {A : Around} {E : Value → Shared → Prop} {s : Shared} {env : Env} {h₀ : Heap} {x : Str} {body : List Stmt} {Q : Flow → Shared → Prop}
def SPost {σ : Type} (h₀ : Heap) (L : Addr) (s : Shared) (I : Addr) (base : List (Addr × Obj)) (ps : σ → List (Str × Value)) (led : σ → List (Addr × Obj)) (P : σ → Prop) (f : Flow) (s₂ : Shared) : Prop :=
  f = .next ∧ ∃ c h' tk m' tl, s₂ = { s with heap := h', toks := tk } ∧ Fr h₀ L h' m' ∧ News h₀ L h' tl ∧ (∀ p ∈ base, p ∈ tl) ∧ (∀ p ∈ led c, p ∈ tl) ∧ (∀ p ∈ led c, p.1 ≠ I) ∧ (∀ p ∈ ps c, m' p.1 = some p.2) ∧ P c
theorem s_post {σ : Type} {L : Addr} {s : Shared} {I : Addr} {base tl : List (Addr × Obj)} {ps : σ → List (Str × Value)} {led : σ → List (Addr × Obj)} {P : σ → Prop} {h' : Heap} {tk : Nat} {m' : Str → Option Value} (c : σ)
    (F : Fr h₀ L h' m') (N : News h₀ L h' tl) (hb : ∀ p ∈ base, p ∈ tl) (hl : ∀ p ∈ led c, p ∈ tl) (hI : ∀ p ∈ led c, p.1 ≠ I) (hk : ∀ p ∈ ps c, m' p.1 = some p.2) (hp : P c) :
    SPost h₀ L s I base ps led P .next { s with heap := h', toks := tk } := ⟨rfl, c, h', tk, m', tl, rfl, F, N, hb, hl, hI, hk, hp⟩
theorem strs_cut {σ : Type} {l : Addr} {vs : List Value} {k : Nat} {m₀ : Str → Option Value} {base : List (Addr × Obj)} (ps : σ → List (Str × Value)) (led : σ → List (Addr × Obj)) (P : Nat → σ → Prop) (c₀ : σ)
    (hh : A.handled = none) (hm : (l, ({ cls := .type "list", data := .seq vs.toArray k } : Obj)) ∈ base) (F : Fr h₀ env.locals s.heap m₀) (N : News h₀ env.locals s.heap (led c₀ ++ base)) (hk : ∀ p ∈ ps c₀, m₀ p.1 = some p.2) (hp : P 0 c₀)
    (turn : ∀ (i : Nat) (c : σ) v I (u : Str → Option Value) h tk own oI, vs[i]? = some v → P i c → (I, oI) ∈ own → (∀ p ∈ led c ++ base, p.1 ≠ I) →
      Fr h₀ env.locals h (kstB u ((x, v) :: ps c)) → News h₀ env.locals h (led c ++ (base ++ own)) →
      wpAny (model prog w) A (execs body env) (SPost h₀ env.locals { s with heap := h, toks := tk } I (base ++ own) ps led (P (i + 1))) E { s with heap := h, toks := tk })
    (done : ∀ (c : σ) (u : Str → Option Value) h tk, P vs.length c → Fr h₀ env.locals h (kstB u (ps c)) → News h₀ env.locals h (led c ++ base) → Q .next { s with heap := h, toks := tk }) :
    wpAny (model prog w) A (pyIter (.ref l)) (fun it s₂ => LoopAtV prog w A h₀ env x body Q E it s₂) E s := by
  have hax := N _ (List.mem_append_right _ hm)
  have hl : s.heap.IsList l vs.toArray := ⟨_, hax.1, rfl, k, rfl⟩
  have hlt : l < s.heap.objs.size := Heap.lt_size hax.1
  have hne : l ≠ s.heap.objs.size := Nat.ne_of_lt hlt
  refine wpAny_pyIter_list hl ?_
  have W := Walks.list (prog := prog) (w := w) hh s.heap.objs.size l hne vs.toArray
  have hlen : vs.toArray.size = vs.length := by simp
  rw [hlen] at W
  have hnew := next_is_new F
  let J : Nat → (Str → Option Value) → List (Addr × Obj) → Prop := fun i m nx => ∃ c : σ, nx = led c ++ base ∧ (∀ p ∈ ps c, m p.1 = some p.2) ∧ P i c
  refine ⟨_, _, _, vs.length, _, _, m₀, led c₀ ++ base, J, rfl, W, ?_, ?_, ?_, ⟨⟨_, Heap.get?_push_size _ rfl, rfl, rfl⟩, hl.at fun o e => Heap.get?_push_of_some _ e⟩, F.push _, (fun p hp => ⟨Heap.get?_push_of_some _ (N p hp).1, (N p hp).2⟩), ⟨c₀, rfl, hk, hp⟩, ?_, ?_⟩
  · intro hmm
    rcases List.mem_cons.mp hmm with e | hmm
    · exact absurd F.ns.lt (e ▸ Nat.lt_irrefl _)
    · exact hax.2.1 (List.mem_singleton.mp hmm).symm
  · intro b hb
    rw [List.mem_singleton.mp hb]
    exact hnew
  · intro p hp hI
    exact absurd (Heap.lt_size (N p hp).1) ((List.mem_singleton.mp hI) ▸ Nat.lt_irrefl _)
  · rintro i v m₁ news₁ s₁ own ⟨hh', tk', rfl⟩ hin hP ⟨c, rfl, h1, hp'⟩ hoff hown hget hall hst F₁ N₁
    obtain ⟨it, hit, hic, hid⟩ := hst.1
    have hmemI := hall s.heap.objs.size (List.mem_cons_self ..) hnew _ hit
    refine wpAny_mono (turn i c v s.heap.objs.size m₁ hh' tk' own it (by simpa using hP) hp' hmemI (fun p hp e => hoff p hp (by rw [e]; exact List.mem_singleton.mpr rfl)) ?_ (fun p hp => N₁ p ?_)) (fun f s₂ q => ?_) fun _ _ e => e
    · show Fr _ _ _ (fun z => if z = x then some v else kstB m₁ (ps c) z)
      rw [kst_same h1]
      exact F₁
    · rcases List.mem_append.mp hp with hp | hp
      · exact List.mem_append_right _ (List.mem_append_left _ hp)
      · rcases List.mem_append.mp hp with hp | hp
        · exact List.mem_append_right _ (List.mem_append_right _ hp)
        · exact List.mem_append_left _ hp
    · obtain ⟨rfl, c', h', tk, m', tl, rfl, F', N', hb, hlc, hI, hk', hp''⟩ := q
      refine .next ⟨rfl, h', tk, m', led c' ++ base, rfl, F', fun p hp => N' p ?_, fun p hp e => ?_, c', rfl, hk', hp''⟩
      · rcases List.mem_append.mp hp with hp | hp
        · exact hb p (List.mem_append_right _ hp)
        · rcases List.mem_append.mp hp with hp | hp
          · exact hlc p hp
          · exact hb p (List.mem_append_left _ hp)
      · rcases List.mem_append.mp hp with hp | hp
        · exact hI p hp (List.mem_singleton.mp e)
        · exact hoff p (List.mem_append_right _ hp) e
  · rintro h' tk m' news' F' N' _ ⟨c, rfl, h1, hp'⟩
    exact done c m' h' tk hp' (by rw [kst_same h1]; exact F') N'
end
end Mine
/-! W15b -/
namespace Mine
example : True := by
  w_top off
  trivial
example : PySem.Challenge.rw_ax6033_01 = PySem.Challenge.rw_ax6033_01 → hd.heap_39 = hd.heap_39 → True := by
  k_fill
  intros; trivial
local macro_rules | `(tactic| walk_at "M steps") => `(tactic| repeat' ((fail_if_success (with_reducible show wpAny _ _ (exec (Stmt.While _ _ _ _) _) _ _ _)); (fail_if_success (with_reducible show wpAny _ _ (exec (Stmt.For _ _ _ _ _) _) _ _ _)); first | (k_unfold; (try dsimp only)) | (k_end; wrow_close) | walk1 | (dsimp only; walk1) | (leave1; walk_say "STEP leave1"; try dsimp only)))
local macro_rules | `(tactic| walk_at "M if") => `(tactic| repeat' ((fail_if_success (with_reducible show wpAny _ _ (exec (Stmt.While _ _ _ _) _) _ _ _)); (fail_if_success (with_reducible show wpAny _ _ (exec (Stmt.For _ _ _ _ _) _) _ _ _)); (fail_if_success (with_reducible show wpAny _ _ (exec (Stmt.If _ _ _ _) _) _ _ _)); first | (k_unfold; (try dsimp only)) | (k_end; wrow_close) | walk1 | (dsimp only; walk1) | (leave1; walk_say "STEP leave1"; try dsimp only)))
local macro_rules | `(tactic| walk_at "M has") => `(tactic| ((case hB => k_asm); (case hF => k_asm); (case hX => k_asm); (case hN => k_asm); (case hT => k_asm); (case hK => exact rfl); (case hd => omega); (case hu => omega)))
local macro_rules | `(tactic| walk_at "call ref") => `(tactic| (k_here; (with_reducible show wpAny _ _ (call (Value.ref _) [Value.int _ _, Value.int _ _] []) _ _ _); (refine' simple_use ?hB ?hF ?hX ?hN ?hT ?hK ?hd ?hu ?_ ?_); walk_at "M has"; (all_goals (intros; (try k_sweep)))))
local macro_rules | `(tactic| walk_at "call ref") => `(tactic| (k_here; (with_reducible show wpAny _ _ (call (Value.ref _) [Value.int _ _] []) _ _ _); (first | refine' has_bool (is_ext _ _ _ _ _ _ _) ?hB ?hF ?hX ?hN ?hT ?hK ?hd ?hu ?_ | refine' has_bool (is_link _ _ _ _ _ _ _) ?hB ?hF ?hX ?hN ?hT ?hK ?hd ?hu ?_ | refine' has_bool (is_cons _ _ _ _ _ _ _) ?hB ?hF ?hX ?hN ?hT ?hK ?hd ?hu ?_ | refine' has_bool (is_iext _ _ _ _ _ _ _) ?hB ?hF ?hX ?hN ?hT ?hK ?hd ?hu ?_ | refine' has_int (gcb _ _ _ _ _ _ _) ?hB ?hF ?hX ?hN ?hT ?hK ?hd ?hu ?_); walk_at "M has"; intros; (try k_sweep)))
local macro_rules | `(tactic| walk_at "M cut") => `(tactic| (walk_at "M steps"; (all_goals (refine cut_end (by assumption) (by assumption) (by first | exact fun _ h => h | exact fun _ h => .tail _ h | exact fun _ h => .tail _ (.tail _ h)) ?_)); (all_goals (first | (simp; done) | (simp [*]; done) | (simp_all; done) | grind))))
local macro_rules | `(tactic| walk_at "M while") => `(tactic| repeat' ((fail_if_success (with_reducible show wpAny _ _ (exec (Stmt.While _ _ _ _) _) _ _ _)); (fail_if_success (with_reducible show wpAny _ _ (exec (Stmt.For _ _ _ _ _) _) _ _ _)); first | (k_unfold; (try dsimp only)) | (k_end; wrow_close) | walk1 | (dsimp only; walk1) | (leave1; walk_say "STEP leave1"; try dsimp only)))
local macro_rules | `(tactic| walk_at "call ref") => `(tactic| (k_here; (with_reducible show wpAny _ _ (call (Value.ref _) [Value.str _ _, Value.int _ _] []) _ _ _); (refine' rec_use (by assumption) ?hG ?hB ?hF ?hX ?hN ?hT ?hK ?hd ?hu ?_); (case hG => (unfold preC; (refine ⟨?_, ?_, ?_, ?_, ?_⟩) <;> first | assumption | omega)); walk_at "M has"; intros; (try k_sweep)))
local macro_rules | `(tactic| walk_at "call ref") => `(tactic| (k_here; (with_reducible show wpAny _ _ (call (Value.ref _) [Value.int _ _, Value.int _ _, Value.str _ _, Value.int _ _, Value.int _ _] []) _ _ _); (refine' should_use (by omega) (by omega) (by omega) ?hB ?hF ?hX ?hN ?hT ?hK ?hd ?hu ?_); walk_at "M has"; intro _ _ _ _ _ _ _; (try k_sweep)))
local macro_rules | `(tactic| walk_at "M cut") => `(tactic| (walk_at "M steps"; (all_goals (refine cut_end (by assumption) (by assumption) (by first | exact fun _ h => h | exact fun _ h => .tail _ h | exact fun _ h => .tail _ (.tail _ h)) ?_)); (all_goals (first | (simp; done) | (simp [*]; done) | (simp_all; done) | (simp_all [cr_eq]; done) | (simp_all [cr_eq]; omega) | grind))))
local macro_rules | `(tactic| walk_at "M attr") => `(tactic| (walk_at "M has"; (case hm => exact .head _); (case hm2 => exact .tail _ (.head _)); (case hv => exact rfl); intros; (try k_sweep)))
local macro_rules | `(tactic| walk_at "M iter") => `(tactic| repeat' ((fail_if_success (with_reducible show wpAny _ _ (pyIter _) _ _ _)); first | (k_unfold; (try dsimp only)) | (k_end; wrow_close) | walk1 | (dsimp only; walk1) | (leave1; walk_say "STEP leave1"; try dsimp only)))
local macro_rules | `(tactic| walk_at "call ref") => `(tactic| (k_here; (with_reducible show wpAny _ _ (call (Value.ref _) [Value.str _ _, Value.int _ _] []) _ _ _); (refine' fcs_use (by omega) (by omega) (by omega) ?hB ?hF ?hX ?hN ?hT ?hK ?hd ?hu ?_); walk_at "M has"; intros; (try k_sweep)))


/-! list(generator) -/
def GReady (w : World) (A4 : Around) (l : List Nat) (all : List (Int × Int)) (h₀ : Heap) (L : Addr) (news : List (Addr × Obj)) (a : Addr) (h : Heap) (gens : Array GenState) : Prop :=
  ∃ C g, (∀ b o, h₀.get? b = some o → b < C) ∧ L < C ∧ (∀ p ∈ news, p.1 < C) ∧ C < a ∧ cStatics < C ∧ GenAtH PG w A4 a g C all (IsPiece l) 0 h gens ∧ AllBare gens
section
variable {w : World} {mean : ExcName → Option Value} {mg mb : Str → Option Value} {news : List (Addr × Obj)}
  {dp un : Nat} {gd : Option (List Code)} {cn : Str} {cs : Scope} {ca : Addr} {ccd : Value} {cl : List (Str × Addr)} {outer : List Env} {A₀ : Around} {base h₀ : Heap} {L : Addr} {m : Str → Option Value} {s : Shared} {Q E : Value → Shared → Prop}
theorem iter_use (B : Below A₀ base outer h₀) (F : Fr h₀ L s.heap m) (X : (hd.heap_39 w.params).In h₀) (N : News h₀ L s.heap news) (T : Top VW LW mean mg mb h₀) (hkc : cs.kind = .function) (hdp : dp + 12 < recursionLimit) (hun : un + 100 < cLine)
    {l : List Nat} {st bd : Int} {ev : Value} {t1 t2 : Tok} {vs : List Value} (hl0 : 1 ≤ l.length) (hl : l.length ≤ 15) (all : List (Int × Int)) (hG : AllBare s.gens)
    (hv : (vs = [.str (txt l) t1] ∧ st = 0 ∧ t2 = tk0 w ∧ ev = .none) ∨ vs = [.str (txt l) t1, .int st t2, ev])
    (he : (ev = .none ∧ bd = l.length) ∨ ∃ e t3, ev = .int e t3 ∧ bd = if (l.length : Int) < e then (l.length : Int) else e)
    (hall : GL w l (if st < 0 then 0 else st) bd all)
    (h : ∀ h₁ tk a gens, Fr h₀ L h₁ m → News h₀ L h₁ news → GReady w (ktrTop dp un gd cn cs L ca ccd cl outer).in4 l all h₀ L news a h₁ gens → Q (.ref a) { s with heap := h₁, toks := tk, gens := gens }) :
    wpAny (model PG w) (ktrTop dp un gd cn cs L ca ccd cl outer) (call (.ref 383) vs) Q E s :=
  iter_new w mean mg mb B F X T hkc hdp hun hl0 hl all hv he hall fun h₁ tk a C gens h1 h2 h3 h4 h5 h6 =>
    h h₁ tk a gens (fr_keep F h3) (news_keep N h3) ⟨C, s.gens.size, fun b o e => Nat.lt_of_lt_of_le (Heap.lt_size (F.keep b o e)) h1, Nat.lt_of_lt_of_le F.ns.lt h1, fun p hp => Nat.lt_of_lt_of_le (Heap.lt_size (N p hp).1) h1, h2, h4, h6, h5 hG⟩
theorem list_use {l : List Nat} {all : List (Int × Int)} {a : Addr} (F : Fr h₀ L s.heap m) (N : News h₀ L s.heap news) (R : GReady w (ktrTop dp un gd cn cs L ca ccd cl outer).in4 l all h₀ L news a s.heap s.gens) (hdp : dp + 12 < recursionLimit) (hal : all.length ≤ 1000)
    (h : ∀ S ys n h' tk' gens', Fr h₀ L h' m → News h₀ L h' ((S, ({ cls := .type "list", data := .seq ys.toArray n } : Obj)) :: news) → (∀ p ∈ news, p.1 < S) → AllBare gens' → IsTxts ys (all.map fun it => sl l it.1 it.2) → Q (.ref S) { s with heap := h', toks := tk', gens := gens' }) :
    wpAny (model PG w) (ktrTop dp un gd cn cs L ca ccd cl outer) (call (.type "list") [.ref a]) Q E s := by
  obtain ⟨C, g, k1, k2, k3, k4, k5, k6, k7⟩ := R
  have W := walks_items (prog := PG) (w := w) (A := (ktrTop dp un gd cn cs L ca ccd cl outer).in4) (all := all) (F := IsPiece l) rfl a g k4 (show dp < recursionLimit by omega) k5
  have ha : a < s.heap.objs.size := let ⟨o, _, _, ho, _⟩ := k6.1; Heap.lt_size ho
  refine call_list_gen (hn := Nat.le_trans hal (by decide)) W.in4_2 (fun i s st => st.1.typeIs) k6 (fun b hb => ?_) (List.mem_cons_self ..) fun s' acc' c' hm hS' hacc => ?_
  · rcases List.mem_cons.mp hb with rfl | hb
    · exact ha
    · exact Nat.lt_trans (Nat.lt_of_le_of_lt (Nat.le_of_lt_succ (List.mem_range.mp hb)) k4) ha
  have hC : C < s.heap.objs.size := Nat.lt_trans k4 ha
  have up : ∀ b o, b < C → s.heap.get? b = some o → s'.heap.get? b = some o := fun b o hb e => hm.heap b o (fun hmem => by
    rcases List.mem_cons.mp hmem with e1 | hmem
    · exact absurd (Nat.lt_trans hb hC) (e1 ▸ Nat.lt_irrefl _)
    · exact absurd hb ((List.mem_singleton.mp hmem) ▸ Nat.lt_irrefl _)) (Heap.get?_push_of_some _ e)
  have F' : Fr h₀ L s'.heap m := ⟨F.ns.at' fun o e => up L o k2 e, fun b o e => up b o (k1 b o e) (F.keep b o e), F.above⟩
  have N' : News h₀ L s'.heap ((s.heap.objs.size, ({ cls := .type "list", data := .seq acc'.toList.toArray c' } : Obj)) :: news) := fun p hp => by
    rcases List.mem_cons.mp hp with rfl | hp
    · refine ⟨by simpa using hS', Ne.symm (Nat.ne_of_lt F.ns.lt), ?_⟩
      cases e : h₀.get? s.heap.objs.size with
      | none => rfl
      | some o => exact absurd (Heap.lt_size (F.keep _ _ e)) (Nat.lt_irrefl _)
    · exact ⟨up _ _ (k3 p hp) (N p hp).1, (N p hp).2⟩
  have hb : AllBare s'.gens := fun y hy => by
    have q := hm.gens
    exact GenOnlyQ.bare q k7 y hy
  have z := h s.heap.objs.size acc'.toList c' s'.heap s'.toks s'.gens F' N' (fun p hp => Heap.lt_size (N p hp).1) hb ⟨by simp [hacc.1], fun j h1 h2 => ?_⟩
  · have e : s' = { s with heap := s'.heap, toks := s'.toks, gens := s'.gens } := by
      have e1 := hm.drawn
      have e2 := hm.os
      obtain ⟨a1, a2, a3, a4, a5⟩ := s'
      dsimp only at e1 e2
      subst e1 e2
      rfl
    rw [e]
    exact z
  · obtain ⟨it, e1, t, e2⟩ := hacc.2 j (acc'.toList[j]) (by simpa using h1)
    refine ⟨t, ?_⟩
    rw [e2]
    have : (all.map fun it => sl l it.1 it.2)[j] = sl l it.1 it.2 := by
      have h3 : j < all.length := by simpa using h2
      rw [List.getElem_map]
      rw [List.getElem?_eq_getElem h3] at e1
      cases e1
      rfl
    rw [this]
end
/-! a comprehension over reversed(list) -/
abbrev lObj (ys : List Value) (n : Nat) : Obj := { cls := .type "list", data := .seq ys.toArray n }
section
variable {prog : Program} {w : World} {A : Around} {E : Value → Shared → Prop} {s : Shared} {h₀ : Heap} {L : Addr} {m : Str → Option Value} {env : Env}
def RevSrc (prog : Program) (w : World) (A : Around) (h₀ : Heap) (L : Addr) (m : Str → Option Value) (env : Env) (elt : Expr) (x : Str) (scope : Scope) (cl : List (Str × Addr)) (Q : Value → Shared → Prop) (xv : Value) (s₁ : Shared) : Prop :=
  ∃ (I l : Addr) (ys : List Value) (n : Nat) (news : List (Addr × Obj)), xv = .ref I ∧ A.handled = none ∧ Fr h₀ L s₁.heap m ∧ News h₀ L s₁.heap ((I, revObj l ((ys.length : Int) - 1)) :: news) ∧ (∀ p ∈ news, p.1 ≠ I) ∧ (l, lObj ys n) ∈ news ∧ ys.length ≤ 1000 ∧
      LCg.CompRest prog w A h₀ L m env elt x scope cl s₁ (fun nw => (l, lObj ys n) ∈ nw) (fun i v => ys.toArray[ys.toArray.size - 1 - i]? = some v) (LCg.FinE h₀ L m s₁ Q) ys.length 0 [] news
theorem ListComp_rev {elt iter : Expr} {x : Str} {px : Pos} {scope : Scope} {cl : List (Str × Addr)} {pos : Pos} {Q : Value → Shared → Prop} (_F₀ : Fr h₀ L s.heap m)
    (hclos : closureFor scope env = pure cl) (hcell : ∀ y ∈ scope.names, y.2 ≠ .cell) (hkind : scope.kind = .function)
    (hnames : ∀ y ∈ scope.names, y.2 = .local → scope.names.lookup y.1 = some .local) (hx : scope.names.lookup x = some .local)
    (h : wpAny (model prog w) A (eval iter env) (RevSrc prog w A h₀ L m env elt x scope cl Q) E s)
    (hs : ∀ x, foldedSetIterable iter env x = pure x := by intro _; rfl) :
    wpAny (model prog w) A (eval (.ListComp elt [⟨.Name x px, iter, [], 0⟩] scope pos) env) Q E s := by
  rw [eval_ListComp]
  refine wpAny_comprehension_free (use := none) rfl hs hclos hkind hnames (wpAny_mono h (fun xv s₁ h₁ => ?_) fun _ _ e => e)
  obtain ⟨I, l, ys, n, news, rfl, hh, F, N, off, hm, hsz, R⟩ := h₁
  have hIx := N _ (List.mem_cons_self ..)
  have N1 : News h₀ L s₁.heap news := fun p hp => N p (List.mem_cons_of_mem _ hp)
  have hl : s₁.heap.IsList l ys.toArray := News.isList N1 hm
  have hit : s₁.heap.IsRevIter I l ((ys.length : Int) - 1) := ⟨_, hIx.1, rfl, rfl⟩
  have hlt : l < s₁.heap.objs.size := Heap.lt_size (N1 _ hm).1
  have W := Walks.listRev (prog := prog) (w := w) hh I l (off _ hm) ys.toArray
  have hlen : ys.toArray.size = ys.length := by simp
  refine wpAny_pyIter_revIter hit ?_
  refine LCg.block_U W (by rw [hlen]; exact Nat.le_trans hsz (by decide)) (fun i h st => by obtain ⟨o, e, _⟩ := st.2.1; exact ⟨o, e⟩) (fun i h h' o nw st e e' _ N' S => ⟨st.1, by obtain ⟨o', q, r⟩ := st.2.1; rw [e] at q; cases q; exact ⟨o, e', r⟩, News.isList N' S⟩) hcell hkind hx ⟨Nat.zero_le _, ?_, hl⟩ (fun b hb => ?_)
    F N1 (Ne.symm hIx.2.1) hIx.2.2 off hm (by rw [hlen]; exact R) ?_
  · rw [hlen]
    have e : (ys.length : Int) - 1 - ((0 : Nat) : Int) = (ys.length : Int) - 1 := by omega
    rw [e]
    exact hit
  · rcases List.mem_cons.mp hb with rfl | hb
    · exact Heap.lt_size hIx.1
    · rw [List.mem_singleton.mp hb]; exact hlt
  · intro D C h tk m' ys news' F' N' o1 hn hC₀ hD₀ hCL hDL hCD offC fin
    refine ⟨m', hn, fun h'' hs'' => fin D h'' tk (F'.change hs'' hCL hC₀) (fun p hp => ?_) o1⟩
    refine ⟨hs''.extBut _ _ ?_ (N' p hp).1, (N' p hp).2⟩
    rcases List.mem_cons.mp hp with rfl | hp
    · exact Ne.symm hCD
    · exact offC p hp
end
theorem dueP_len (st bd : Int) : ∀ (r : List Nat) (x : Int) (acc : List (Int × Int)), (dueP st bd r x acc).length ≤ r.length + acc.length
  | [], _, acc => by simp [dueP]
  | q :: r, x, acc => by
    rw [dueP]
    by_cases hc : st ≤ x ∧ x < bd
    · rw [if_pos hc]
      have := dueP_len st bd r (x + (sg q).length) ((x, mn (x + (sg q).length) bd) :: acc)
      simp only [List.length_cons] at this ⊢
      omega
    · rw [if_neg hc]
      have := dueP_len st bd r (x + (sg q).length) acc
      simp only [List.length_cons]
      omega
theorem rev_at {ys : List Value} {ls : List (List Nat)} {i : Nat} {v : Value} (hy : IsTxts ys ls) (hi : i < ys.length) (hv : ys.toArray[ys.toArray.size - 1 - i]? = some v) : ∃ l t, ls.reverse[i]? = some l ∧ v = .str (txt l) t := by
  have hs : ys.toArray.size = ys.length := by simp
  rw [hs] at hv
  have h1 : ys.length - 1 - i < ys.length := by omega
  have h2 : ys.length - 1 - i < ls.length := by rw [← hy.1]; exact h1
  obtain ⟨t, e⟩ := hy.2 _ h1 h2
  refine ⟨ls[ys.length - 1 - i], t, ?_, ?_⟩
  · rw [List.getElem?_reverse (by rw [← hy.1]; exact hi), ← hy.1, List.getElem?_eq_getElem h2]
  · simp only [List.getElem?_toArray] at hv
    rw [List.getElem?_eq_getElem h1] at hv
    cases hv
    exact e
theorem txts_take {ys : List Value} {ls : List (List Nat)} {l : List Nat} {t : Tok} {i : Nat} (h : IsTxts ys (ls.take i)) (hl : ls[i]? = some l) : IsTxts (ys ++ [.str (txt l) t]) (ls.take (i + 1)) := by
  rw [List.take_add_one, hl]
  exact txts_snoc h
theorem txts_nil {ys : List Value} {ls : List (List Nat)} (h : IsTxts ys ls) : ys = [] ↔ ls = [] := by
  rw [← List.length_eq_zero_iff, h.1, List.length_eq_zero_iff]
theorem txts_cons {ys : List Value} {l : List Nat} {ls : List (List Nat)} (h : IsTxts ys (l :: ls)) : ∃ t r, ys = .str (txt l) t :: r := by
  cases ys with
  | nil => exact absurd h.1 (by simp)
  | cons v r =>
    obtain ⟨t, e⟩ := h.2 0 (by simp) (by simp)
    exact ⟨t, r, by simpa using e⟩
theorem sl_len {l : List Nat} {a b : Int} (h0 : 0 ≤ a) (h1 : a ≤ b) (h2 : b ≤ l.length) : ((sl l a b).length : Int) = b - a := by
  unfold sl
  rw [List.length_take, List.length_drop]
  omega
end Mine
/-! W16a -/
namespace Mine
example : True := by
  w_top off
  trivial
example : PySem.Challenge.rw_ax6033_01 = PySem.Challenge.rw_ax6033_01 → hd.heap_39 = hd.heap_39 → True := by
  k_fill
  intros; trivial
local macro_rules | `(tactic| walk_at "M steps") => `(tactic| repeat' ((fail_if_success (with_reducible show wpAny _ _ (exec (Stmt.While _ _ _ _) _) _ _ _)); (fail_if_success (with_reducible show wpAny _ _ (exec (Stmt.For _ _ _ _ _) _) _ _ _)); first | (k_unfold; (try dsimp only)) | (k_end; wrow_close) | walk1 | (dsimp only; walk1) | (leave1; walk_say "STEP leave1"; try dsimp only)))
local macro_rules | `(tactic| walk_at "M if") => `(tactic| repeat' ((fail_if_success (with_reducible show wpAny _ _ (exec (Stmt.While _ _ _ _) _) _ _ _)); (fail_if_success (with_reducible show wpAny _ _ (exec (Stmt.For _ _ _ _ _) _) _ _ _)); (fail_if_success (with_reducible show wpAny _ _ (exec (Stmt.If _ _ _ _) _) _ _ _)); first | (k_unfold; (try dsimp only)) | (k_end; wrow_close) | walk1 | (dsimp only; walk1) | (leave1; walk_say "STEP leave1"; try dsimp only)))
local macro_rules | `(tactic| walk_at "M has") => `(tactic| ((case hB => k_asm); (case hF => k_asm); (case hX => k_asm); (case hN => k_asm); (case hT => k_asm); (case hK => exact rfl); (case hd => omega); (case hu => omega)))
local macro_rules | `(tactic| walk_at "call ref") => `(tactic| (k_here; (with_reducible show wpAny _ _ (call (Value.ref _) [Value.int _ _, Value.int _ _] []) _ _ _); (refine' simple_use ?hB ?hF ?hX ?hN ?hT ?hK ?hd ?hu ?_ ?_); walk_at "M has"; (all_goals (intros; (try k_sweep)))))
local macro_rules | `(tactic| walk_at "call ref") => `(tactic| (k_here; (with_reducible show wpAny _ _ (call (Value.ref _) [Value.int _ _] []) _ _ _); (first | refine' has_bool (is_ext _ _ _ _ _ _ _) ?hB ?hF ?hX ?hN ?hT ?hK ?hd ?hu ?_ | refine' has_bool (is_link _ _ _ _ _ _ _) ?hB ?hF ?hX ?hN ?hT ?hK ?hd ?hu ?_ | refine' has_bool (is_cons _ _ _ _ _ _ _) ?hB ?hF ?hX ?hN ?hT ?hK ?hd ?hu ?_ | refine' has_bool (is_iext _ _ _ _ _ _ _) ?hB ?hF ?hX ?hN ?hT ?hK ?hd ?hu ?_ | refine' has_int (gcb _ _ _ _ _ _ _) ?hB ?hF ?hX ?hN ?hT ?hK ?hd ?hu ?_); walk_at "M has"; intros; (try k_sweep)))
local macro_rules | `(tactic| walk_at "M cut") => `(tactic| (walk_at "M steps"; (all_goals (refine cut_end (by assumption) (by assumption) (by first | exact fun _ h => h | exact fun _ h => .tail _ h | exact fun _ h => .tail _ (.tail _ h)) ?_)); (all_goals (first | (simp; done) | (simp [*]; done) | (simp_all; done) | grind))))
local macro_rules | `(tactic| walk_at "M while") => `(tactic| repeat' ((fail_if_success (with_reducible show wpAny _ _ (exec (Stmt.While _ _ _ _) _) _ _ _)); (fail_if_success (with_reducible show wpAny _ _ (exec (Stmt.For _ _ _ _ _) _) _ _ _)); first | (k_unfold; (try dsimp only)) | (k_end; wrow_close) | walk1 | (dsimp only; walk1) | (leave1; walk_say "STEP leave1"; try dsimp only)))
local macro_rules | `(tactic| walk_at "call ref") => `(tactic| (k_here; (with_reducible show wpAny _ _ (call (Value.ref _) [Value.str _ _, Value.int _ _] []) _ _ _); (refine' rec_use (by assumption) ?hG ?hB ?hF ?hX ?hN ?hT ?hK ?hd ?hu ?_); (case hG => (unfold preC; (refine ⟨?_, ?_, ?_, ?_, ?_⟩) <;> first | assumption | omega)); walk_at "M has"; intros; (try k_sweep)))
local macro_rules | `(tactic| walk_at "call ref") => `(tactic| (k_here; (with_reducible show wpAny _ _ (call (Value.ref _) [Value.int _ _, Value.int _ _, Value.str _ _, Value.int _ _, Value.int _ _] []) _ _ _); (refine' should_use (by omega) (by omega) (by omega) ?hB ?hF ?hX ?hN ?hT ?hK ?hd ?hu ?_); walk_at "M has"; intro _ _ _ _ _ _ _; (try k_sweep)))
local macro_rules | `(tactic| walk_at "M cut") => `(tactic| (walk_at "M steps"; (all_goals (refine cut_end (by assumption) (by assumption) (by first | exact fun _ h => h | exact fun _ h => .tail _ h | exact fun _ h => .tail _ (.tail _ h)) ?_)); (all_goals (first | (simp; done) | (simp [*]; done) | (simp_all; done) | (simp_all [cr_eq]; done) | (simp_all [cr_eq]; omega) | grind))))
local macro_rules | `(tactic| walk_at "M attr") => `(tactic| (walk_at "M has"; (case hm => exact .head _); (case hm2 => exact .tail _ (.head _)); (case hv => exact rfl); intros; (try k_sweep)))
local macro_rules | `(tactic| walk_at "M iter") => `(tactic| repeat' ((fail_if_success (with_reducible show wpAny _ _ (pyIter _) _ _ _)); first | (k_unfold; (try dsimp only)) | (k_end; wrow_close) | walk1 | (dsimp only; walk1) | (leave1; walk_say "STEP leave1"; try dsimp only)))
local macro_rules | `(tactic| walk_at "call ref") => `(tactic| (k_here; (with_reducible show wpAny _ _ (call (Value.ref _) [Value.str _ _, Value.int _ _] []) _ _ _); (refine' fcs_use (by omega) (by omega) (by omega) ?hB ?hF ?hX ?hN ?hT ?hK ?hd ?hu ?_); walk_at "M has"; intros; (try k_sweep)))
local macro_rules | `(tactic| walk_at "M steps") => `(tactic| repeat' ((fail_if_success (with_reducible show wpAny _ _ (exec (Stmt.While _ _ _ _) _) _ _ _)); (fail_if_success (with_reducible show wpAny _ _ (exec (Stmt.For _ _ _ _ _) _) _ _ _)); first | (k_unfold; (try dsimp only)) | (k_end; wrow_close) | walk1 | (dsimp only; walk1) | (leave1; walk_say "STEP leave1"; try dsimp only)))
local macro_rules | `(tactic| walk_at "M if") => `(tactic| repeat' ((fail_if_success (with_reducible show wpAny _ _ (exec (Stmt.While _ _ _ _) _) _ _ _)); (fail_if_success (with_reducible show wpAny _ _ (exec (Stmt.For _ _ _ _ _) _) _ _ _)); (fail_if_success (with_reducible show wpAny _ _ (exec (Stmt.If _ _ _ _) _) _ _ _)); first | (k_unfold; (try dsimp only)) | (k_end; wrow_close) | walk1 | (dsimp only; walk1) | (leave1; walk_say "STEP leave1"; try dsimp only)))
local macro_rules | `(tactic| walk_at "M has") => `(tactic| ((case hB => k_asm); (case hF => k_asm); (case hX => k_asm); (case hN => k_asm); (case hT => k_asm); (case hK => exact rfl); (case hd => omega); (case hu => omega)))
local macro_rules | `(tactic| walk_at "call ref") => `(tactic| (k_here; (with_reducible show wpAny _ _ (call (Value.ref _) [Value.int _ _, Value.int _ _] []) _ _ _); (refine' simple_use ?hB ?hF ?hX ?hN ?hT ?hK ?hd ?hu ?_ ?_); walk_at "M has"; (all_goals (intros; (try k_sweep)))))
local macro_rules | `(tactic| walk_at "call ref") => `(tactic| (k_here; (with_reducible show wpAny _ _ (call (Value.ref _) [Value.int _ _] []) _ _ _); (first | refine' has_bool (is_ext _ _ _ _ _ _ _) ?hB ?hF ?hX ?hN ?hT ?hK ?hd ?hu ?_ | refine' has_bool (is_link _ _ _ _ _ _ _) ?hB ?hF ?hX ?hN ?hT ?hK ?hd ?hu ?_ | refine' has_bool (is_cons _ _ _ _ _ _ _) ?hB ?hF ?hX ?hN ?hT ?hK ?hd ?hu ?_ | refine' has_bool (is_iext _ _ _ _ _ _ _) ?hB ?hF ?hX ?hN ?hT ?hK ?hd ?hu ?_ | refine' has_int (gcb _ _ _ _ _ _ _) ?hB ?hF ?hX ?hN ?hT ?hK ?hd ?hu ?_); walk_at "M has"; intros; (try k_sweep)))
local macro_rules | `(tactic| walk_at "M cut") => `(tactic| (walk_at "M steps"; (all_goals (refine cut_end (by assumption) (by assumption) (by first | exact fun _ h => h | exact fun _ h => .tail _ h | exact fun _ h => .tail _ (.tail _ h)) ?_)); (all_goals (first | (simp; done) | (simp [*]; done) | (simp_all; done) | grind))))
local macro_rules | `(tactic| walk_at "M while") => `(tactic| repeat' ((fail_if_success (with_reducible show wpAny _ _ (exec (Stmt.While _ _ _ _) _) _ _ _)); (fail_if_success (with_reducible show wpAny _ _ (exec (Stmt.For _ _ _ _ _) _) _ _ _)); first | (k_unfold; (try dsimp only)) | (k_end; wrow_close) | walk1 | (dsimp only; walk1) | (leave1; walk_say "STEP leave1"; try dsimp only)))
local macro_rules | `(tactic| walk_at "call ref") => `(tactic| (k_here; (with_reducible show wpAny _ _ (call (Value.ref _) [Value.str _ _, Value.int _ _] []) _ _ _); (refine' rec_use (by assumption) ?hG ?hB ?hF ?hX ?hN ?hT ?hK ?hd ?hu ?_); (case hG => (unfold preC; (refine ⟨?_, ?_, ?_, ?_, ?_⟩) <;> first | assumption | omega)); walk_at "M has"; intros; (try k_sweep)))
local macro_rules | `(tactic| walk_at "call ref") => `(tactic| (k_here; (with_reducible show wpAny _ _ (call (Value.ref _) [Value.int _ _, Value.int _ _, Value.str _ _, Value.int _ _, Value.int _ _] []) _ _ _); (refine' should_use (by omega) (by omega) (by omega) ?hB ?hF ?hX ?hN ?hT ?hK ?hd ?hu ?_); walk_at "M has"; intro _ _ _ _ _ _ _; (try k_sweep)))
local macro_rules | `(tactic| walk_at "M cut") => `(tactic| (walk_at "M steps"; (all_goals (refine cut_end (by assumption) (by assumption) (by first | exact fun _ h => h | exact fun _ h => .tail _ h | exact fun _ h => .tail _ (.tail _ h)) ?_)); (all_goals (first | (simp; done) | (simp [*]; done) | (simp_all; done) | (simp_all [cr_eq]; done) | (simp_all [cr_eq]; omega) | grind))))
local macro_rules | `(tactic| walk_at "M attr") => `(tactic| (walk_at "M has"; (case hm => exact .head _); (case hm2 => exact .tail _ (.head _)); (case hv => exact rfl); intros; (try k_sweep)))
local macro_rules | `(tactic| walk_at "M iter") => `(tactic| repeat' ((fail_if_success (with_reducible show wpAny _ _ (pyIter _) _ _ _)); first | (k_unfold; (try dsimp only)) | (k_end; wrow_close) | walk1 | (dsimp only; walk1) | (leave1; walk_say "STEP leave1"; try dsimp only)))
local macro_rules | `(tactic| walk_at "call ref") => `(tactic| (k_here; (with_reducible show wpAny _ _ (call (Value.ref _) [Value.str _ _, Value.int _ _] []) _ _ _); (refine' fcs_use (by omega) (by omega) (by omega) ?hB ?hF ?hX ?hN ?hT ?hK ?hd ?hu ?_); walk_at "M has"; intros; (try k_sweep)))
local macro_rules | `(tactic| walk_at "M all") => `(tactic| repeat' (first | (k_unfold; (try dsimp only)) | (k_end; wrow_close) | walk1 | (dsimp only; walk1) | (leave1; walk_say "STEP leave1"; try dsimp only)))
local macro_rules | `(tactic| walk_at "M comp") => `(tactic| repeat' ((fail_if_success (with_reducible show wpAny _ _ (exec (Stmt.For _ _ _ _ _) _) _ _ _)); (fail_if_success (with_reducible show wpAny _ _ (eval (Expr.ListComp _ _ _ _) _) _ _ _)); (fail_if_success (with_reducible show wpAny _ _ (exec (Stmt.Assign [Expr.Name _ _] (Expr.ListComp _ _ _ _) _) _) _ _ _)); first | (k_unfold; (try dsimp only)) | (k_end; wrow_close) | walk1 | (dsimp only; walk1) | (leave1; walk_say "STEP leave1"; try dsimp only)))
local macro_rules | `(tactic| walk_at "call builtin:str.join") => `(tactic| (k_here; (with_reducible show wpAny _ _ (call (Value.builtin "str.join") [Value.str _ _, Value.ref _]) _ _ _); (refine' join_use ?jF ?jN ?jm (by assumption) ?jl ?_); (case jF => k_asm); (case jN => k_asm); (case jm => k_mem); (case jl => assumption); intro _ _))
local macro_rules | `(tactic| walk_at "call builtin:len") => `(tactic| (k_here; (with_reducible show wpAny _ _ (call (Value.builtin "len") [Value.str (txt _) _]) _ _ _); refine len_txt (by omega) (fun _ _ => ?_)))
local macro_rules | `(tactic| walk_at "subscriptTail") => `(tactic| (k_here; (with_reducible show wpAny _ _ (subscriptTail _ _ (Value.ref 384) (Value.int _ _)) _ _ _); (refine item_sign (by k_asm) (by k_asm) (by omega) (by omega) ?_); intro _))
local macro_rules | `(tactic| walk_at "M st") => `(tactic| repeat' ((fail_if_success (with_reducible show wpAny _ _ (execs _ _) _ _ _)); (fail_if_success (with_reducible show wpAny _ _ (exec (Stmt.For _ _ _ _ _) _) _ _ _)); (fail_if_success (with_reducible show wpAny _ _ (call (Value.ref 396) _ _) _ _ _)); first | (k_unfold; (try dsimp only)) | (k_end; wrow_close) | walk1 | (dsimp only; walk1) | (leave1; walk_say "STEP leave1"; try dsimp only)))
local macro_rules | `(tactic| walk_at "M tail") => `(tactic| repeat' ((fail_if_success (with_reducible show wpAny _ _ (call (Value.ref 383) _ _) _ _ _)); (fail_if_success (with_reducible show wpAny _ _ (call (Value.type "list") _ _) _ _ _)); (fail_if_success (with_reducible show wpAny _ _ (call (Value.type "reversed") _ _) _ _ _)); (fail_if_success (with_reducible show wpAny _ _ (eval (Expr.ListComp _ _ _ _) _) _ _ _)); (fail_if_success (with_reducible show wpAny _ _ (compareOp CmpOp.NotEq (Value.ref _) (Value.ref _)) _ _ _)); (fail_if_success (with_reducible show wpAny _ _ (compareOp CmpOp.Eq (Value.ref _) (Value.ref _)) _ _ _)); (fail_if_success (with_reducible show wpAny _ _ (call (Value.ref 375) _ _) _ _ _)); (fail_if_success (with_reducible show RevSrc _ _ _ _ _ _ _ _ _ _ _ _ _ _)); (fail_if_success (with_reducible show LCg.CompEnd _ _ _ _ _ _ _ _ _ _ _ _ _ _)); first | (k_unfold; (try dsimp only)) | (k_end; wrow_close) | walk1 | (dsimp only; walk1) | (leave1; walk_say "STEP leave1"; try dsimp only)))

theorem rest_of {w : World} {dp un n : Nat} {gd : Option (List Code)} {L f : Addr} {cdv0 : Value} {cl : List (Str × Addr)} {outer : List Env} {s : Shared} {Q : Flow → Shared → Prop} {E : Value → Shared → Prop}
    {name qual : Str} {params : Arguments} {body : List Stmt} {scope : Scope} {dV kV doc pm cdv ct oc : Value} {an od : Option Addr} {osl : Array (Option Value)}
    (ho : (hd.heap_39 w.params).lookup 401 = some ⟨oc, od, .func (fnOf name qual params body scope dV kV doc pm an cdv ct), osl⟩)
    (h : wpAny (model PG w) (ktrTop dp un gd (Str.ofString "law") scope L f cdv0 cl outer) (execs (body.drop n) (envX (Str.ofString "law") scope L f cdv0 cl)) Q E s) :
    wpAny (model PG w) (ktrTop dp un gd (Str.ofString "law") (scopeOf ((hd.heap_39 w.params).lookup 401)) L f cdv0 cl outer) (execs ((bodyOf ((hd.heap_39 w.params).lookup 401)).drop n) (envX (Str.ofString "law") (scopeOf ((hd.heap_39 w.params).lookup 401)) L f cdv0 cl)) Q E s := by
  rw [ho]; exact h

theorem law_tail (w : World) (mean : ExcName → Option Value) (mg mb : Str → Option Value) (dp un : Nat) (gd : Option (List Code)) (L f : Addr) (cdv : Value) (outer : List Env) (A₀ : Around) (base h₀ : Heap) (s : Shared) (u₀ : Str → Option Value)
    (fi bd at' : Int) (tf ts tw tb ta : Tok) (ev : Value) (Sg Du : Addr) (qs : List Nat) (ys us : List Value) (kc : Nat)
    (B : Below A₀ base outer h₀) (F : Fr h₀ L s.heap (kstB u₀ [(Str.ofString "at", .int at' ta), (Str.ofString "due", .ref Du), (Str.ofString "bound", .int bd tb), (Str.ofString "last", ev), (Str.ofString "first", .int fi tf), (Str.ofString "size", .int (flat qs).length ts), (Str.ofString "written", .str (txt (flat qs)) tw), (Str.ofString "signs", .ref Sg)])) (X : (hd.heap_39 w.params).In h₀) (T : Top VW LW mean mg mb h₀)
    (N : News h₀ L s.heap [(Du, W.listOf us.toArray kc), (Sg, LCg.lst ys)])
    (hq : ∀ q ∈ qs, q < 11) (hln : 1 ≤ (flat qs).length ∧ (flat qs).length ≤ 12) (hlq : qs.length ≤ 4) (hy : IsTxts ys (qs.map sg)) (hus : IsTxts us ((dueP (if fi < 0 then 0 else fi) bd qs 0 []).map fun it => sl (flat qs) it.1 it.2))
    (hbd : 0 ≤ bd ∧ bd ≤ (flat qs).length) (he : (ev = .none ∧ bd = (flat qs).length) ∨ ∃ e t3, ev = .int e t3 ∧ bd = if ((flat qs).length : Int) < e then ((flat qs).length : Int) else e)
    (hg : AllBare s.gens) (hdd : dp + 50 < recursionLimit) (hun : un + 400 < cLine) :
    wpAny (model PG w) (ktrTop dp un gd (Str.ofString "law") (scopeOf ((hd.heap_39 w.params).lookup 401)) L f cdv [(Str.ofString "draw", L + 1)] outer) (execs ((bodyOf ((hd.heap_39 w.params).lookup 401)).drop 10) (envX (Str.ofString "law") (scopeOf ((hd.heap_39 w.params).lookup 401)) L f cdv [(Str.ofString "draw", L + 1)]))
      (LPost h₀ s) (fun _ _ => False) s := by
  have hst : 0 ≤ (if fi < 0 then 0 else fi) := by split <;> omega
  have hwh := due_whole hq qs [] 0 [] rfl rfl
  rw [List.map_nil, List.append_nil] at hwh
  have hg1 := due_all w hq (st := 0) (bd := (flat qs).length) (Int.le_refl _) (by omega) (Int.le_refl _)
  have hg2 := due_all w hq hst hbd.1 hbd.2
  have hl1 := dueP_len 0 (flat qs).length qs 0 []
  have hl2 := dueP_len (if fi < 0 then 0 else fi) bd qs 0 []
  simp only [List.length_nil, Nat.add_zero] at hl1 hl2
  have hlys : ys.length ≤ 1000 := by have := hy.1; simp at this; omega
  refine rest_of rfl ?_
  dsimp only [List.drop]
  walk_at "M tail"
  refine iter_use B F X N T rfl (by omega) (by omega) hln.1 (by omega) (dueP 0 (flat qs).length qs 0 []) hg (.inl ⟨rfl, rfl, rfl, rfl⟩) (.inl ⟨rfl, rfl⟩) (by simpa using hg1) ?_
  clear F N
  intro h1 tk1 a1 gens1 F1 N1 R1
  walk_at "M tail"
  refine list_use F1 N1 R1 (by omega) (by omega) ?_
  clear F1 N1 R1
  intro S1 ys1 n1 h2 tk2 gens2 F2 N2 l2 hb2 ht2
  rw [hwh] at ht2
  walk_at "M tail"
  refine ListComp_rev F2 (by rfl) (by decide) (by rfl) (by decide) (by rfl) ?_
  walk_at "M tail"
  refine krv_reversed F2 N2 (News.isList N2 (.tail _ (.tail _ (.head _)))) ?_
  intro Dr h3 F3 N3 l3
  clear F2 N2
  walk_at "M tail"
  refine ⟨Dr, Sg, ys, _, [(S1, _), (Du, _), (Sg, _)], rfl, rfl, F3, N3, fun p hp => Nat.ne_of_lt (l3 p hp), .tail _ (.tail _ (.head _)), hlys, comp_rest (fun i ys' nw => nw = [(S1, _), (Du, _), (Sg, _)] ∧ IsTxts ys' ((qs.map sg).reverse.take i)) ⟨rfl, rfl, fun j h => absurd h (Nat.not_lt_zero _)⟩ ?_ ?_⟩
  · clear F3 N3
    rintro i ys' nw v I oI C oC Dl m2 h4 tk4 E' hin ⟨rfl, hy'⟩ hv hC hx F4 N4 off ne
    obtain ⟨l5, t5, e5, rfl⟩ := rev_at hy hin hv
    walk_at "M tail"
    refine LCg.CompEnd.intro F4 N4 _ (fun p hp => hp) off (.tail _ (.tail _ (.head _))) ⟨rfl, txts_take hy' e5⟩
  · rintro ys2 nw ⟨rfl, hy2⟩
    unfold LCg.FinE
    intro D4 h4 tk4 F4 N4 off
    have hy3 : IsTxts ys2 (qs.map sg).reverse := by
      have e : (qs.map sg).reverse.take ys.length = (qs.map sg).reverse := List.take_of_length_le (by rw [List.length_reverse, hy.1]; exact Nat.le_refl _)
      rw [e] at hy2
      exact hy2
    clear F3 N3
    walk_at "M tail"
    refine ne_txts (News.isList N4 (.tail _ (.head _))) (News.isList N4 (.head _)) ht2 hy3 (show un < cLine by omega) ?_
    rw [show decide ((qs.map sg).reverse ≠ (qs.map sg).reverse) = false by simp]
    walk_at "M tail"
    rename Fr _ _ _ _ => F5
    rename News _ _ _ _ => N5
    refine iter_use (news := [(Du, W.listOf us.toArray kc), (Sg, LCg.lst ys)]) B F5 X (fun p hp => N5 p (.tail _ (.tail _ hp))) T rfl (by omega) (by omega) hln.1 (by omega) (dueP (if fi < 0 then 0 else fi) bd qs 0 []) hb2 (.inr rfl) he hg2 ?_
    clear F5 N5
    intro h6 tk6 a6 gens6 F6 N6 R6
    walk_at "M tail"
    refine list_use F6 N6 R6 (by omega) (by omega) ?_
    clear F6 N6 R6
    intro S7 ys7 n7 h7 tk7 gens7 F7 N7 l7 hb7 ht7
    walk_at "M tail"
    rename Fr _ _ _ _ => F8
    rename News _ _ _ _ => N8
    refine ne_txts (News.isList N8 (.head _)) (News.isList N8 (.tail _ (.head _))) ht7 hus (show un < cLine by omega) ?_
    rw [show decide ((dueP (if fi < 0 then 0 else fi) bd qs 0 []).map (fun it => sl (flat qs) it.1 it.2) ≠ (dueP (if fi < 0 then 0 else fi) bd qs 0 []).map (fun it => sl (flat qs) it.1 it.2)) = false by simp]
    (try clear F7 N7)
    walk_at "M tail"
    rename Fr _ _ _ _ => F9
    rename News _ _ _ _ => N9
    (try clear F8 N8)
    generalize hdl : dueP (if fi < 0 then 0 else fi) bd qs 0 [] = dl at hus ht7 hg2
    cases dl with
    | nil =>
      have us0 := (txts_nil hus).mpr rfl
      have ys0 := (txts_nil ht7).mpr rfl
      refine eq_nil (News.isList N9 (.tail _ (.tail _ (.head _)))) (News.isList N9 (.head _)) (show un < cLine by omega) ?_
      rw [show decide (us = []) = true by simp [us0]]
      walk_at "M tail"
      rename Fr _ _ _ _ => F8
      rename News _ _ _ _ => N8
      refine' eq_nil (vs := ys7) (News.isList N8 ?hm9) (News.isList N8 (.head _)) (show un < cLine by omega) ?_
      case hm9 => k_mem
      rw [show decide (ys7 = []) = true by simp [ys0]]
      walk_at "M tail"
      exact ⟨rfl, _, _, _, rfl, F8.keep, hb7⟩
    | cons it r =>
      obtain ⟨hb1, hit⟩ := gl_head hg2
      obtain ⟨t9, us9, e9⟩ := txts_cons hus
      subst hit
      have hb2' := fcs_bd w (flat qs) bd (by omega)
      have hlen9 := sl_len (l := flat qs) hb2'.1 (by omega : fcs w (flat qs) bd ≤ bd) hbd.2
      refine eq_nil (News.isList N9 (.tail _ (.tail _ (.head _)))) (News.isList N9 (.head _)) (show un < cLine by omega) ?_
      rw [show decide (us = []) = false by simp [e9]]
      subst e9
      walk_at "M tail"
      rename Fr _ _ _ _ => F8
      rename News _ _ _ _ => N8
      refine has_int (gbb w mean mg mb (flat qs) bd (by omega) hbd.2 (by omega) _ _ _) B F8 X N8 T rfl (by omega) (by omega) ?_
      (try clear F9 N9)
      clear F8 N8
      intro t10 h10 tk10 F8 N8
      walk_at "M tail"
      have e9 : (fcs w (flat qs) bd == bd - ((sl (flat qs) (fcs w (flat qs) bd) bd).length : Int)) = true := beq_iff_eq.mpr (by rw [hlen9]; omega)
      exact ⟨congrArg (fun b => Flow.ret (Value.bool b)) e9, _, _, _, rfl, F8.keep, hb7⟩
end Mine
/-! W16 -/
namespace Mine
example : True := by
  w_top off
  trivial
example : PySem.Challenge.rw_ax6033_01 = PySem.Challenge.rw_ax6033_01 → hd.heap_39 = hd.heap_39 → True := by
  k_fill
  intros; trivial
local macro_rules | `(tactic| walk_at "M steps") => `(tactic| repeat' ((fail_if_success (with_reducible show wpAny _ _ (exec (Stmt.While _ _ _ _) _) _ _ _)); (fail_if_success (with_reducible show wpAny _ _ (exec (Stmt.For _ _ _ _ _) _) _ _ _)); first | (k_unfold; (try dsimp only)) | (k_end; wrow_close) | walk1 | (dsimp only; walk1) | (leave1; walk_say "STEP leave1"; try dsimp only)))
local macro_rules | `(tactic| walk_at "M if") => `(tactic| repeat' ((fail_if_success (with_reducible show wpAny _ _ (exec (Stmt.While _ _ _ _) _) _ _ _)); (fail_if_success (with_reducible show wpAny _ _ (exec (Stmt.For _ _ _ _ _) _) _ _ _)); (fail_if_success (with_reducible show wpAny _ _ (exec (Stmt.If _ _ _ _) _) _ _ _)); first | (k_unfold; (try dsimp only)) | (k_end; wrow_close) | walk1 | (dsimp only; walk1) | (leave1; walk_say "STEP leave1"; try dsimp only)))
local macro_rules | `(tactic| walk_at "M has") => `(tactic| ((case hB => k_asm); (case hF => k_asm); (case hX => k_asm); (case hN => k_asm); (case hT => k_asm); (case hK => exact rfl); (case hd => omega); (case hu => omega)))
local macro_rules | `(tactic| walk_at "call ref") => `(tactic| (k_here; (with_reducible show wpAny _ _ (call (Value.ref _) [Value.int _ _, Value.int _ _] []) _ _ _); (refine' simple_use ?hB ?hF ?hX ?hN ?hT ?hK ?hd ?hu ?_ ?_); walk_at "M has"; (all_goals (intros; (try k_sweep)))))
local macro_rules | `(tactic| walk_at "call ref") => `(tactic| (k_here; (with_reducible show wpAny _ _ (call (Value.ref _) [Value.int _ _] []) _ _ _); (first | refine' has_bool (is_ext _ _ _ _ _ _ _) ?hB ?hF ?hX ?hN ?hT ?hK ?hd ?hu ?_ | refine' has_bool (is_link _ _ _ _ _ _ _) ?hB ?hF ?hX ?hN ?hT ?hK ?hd ?hu ?_ | refine' has_bool (is_cons _ _ _ _ _ _ _) ?hB ?hF ?hX ?hN ?hT ?hK ?hd ?hu ?_ | refine' has_bool (is_iext _ _ _ _ _ _ _) ?hB ?hF ?hX ?hN ?hT ?hK ?hd ?hu ?_ | refine' has_int (gcb _ _ _ _ _ _ _) ?hB ?hF ?hX ?hN ?hT ?hK ?hd ?hu ?_); walk_at "M has"; intros; (try k_sweep)))
local macro_rules | `(tactic| walk_at "M cut") => `(tactic| (walk_at "M steps"; (all_goals (refine cut_end (by assumption) (by assumption) (by first | exact fun _ h => h | exact fun _ h => .tail _ h | exact fun _ h => .tail _ (.tail _ h)) ?_)); (all_goals (first | (simp; done) | (simp [*]; done) | (simp_all; done) | grind))))
local macro_rules | `(tactic| walk_at "M while") => `(tactic| repeat' ((fail_if_success (with_reducible show wpAny _ _ (exec (Stmt.While _ _ _ _) _) _ _ _)); (fail_if_success (with_reducible show wpAny _ _ (exec (Stmt.For _ _ _ _ _) _) _ _ _)); first | (k_unfold; (try dsimp only)) | (k_end; wrow_close) | walk1 | (dsimp only; walk1) | (leave1; walk_say "STEP leave1"; try dsimp only)))
local macro_rules | `(tactic| walk_at "call ref") => `(tactic| (k_here; (with_reducible show wpAny _ _ (call (Value.ref _) [Value.str _ _, Value.int _ _] []) _ _ _); (refine' rec_use (by assumption) ?hG ?hB ?hF ?hX ?hN ?hT ?hK ?hd ?hu ?_); (case hG => (unfold preC; (refine ⟨?_, ?_, ?_, ?_, ?_⟩) <;> first | assumption | omega)); walk_at "M has"; intros; (try k_sweep)))
local macro_rules | `(tactic| walk_at "call ref") => `(tactic| (k_here; (with_reducible show wpAny _ _ (call (Value.ref _) [Value.int _ _, Value.int _ _, Value.str _ _, Value.int _ _, Value.int _ _] []) _ _ _); (refine' should_use (by omega) (by omega) (by omega) ?hB ?hF ?hX ?hN ?hT ?hK ?hd ?hu ?_); walk_at "M has"; intro _ _ _ _ _ _ _; (try k_sweep)))
local macro_rules | `(tactic| walk_at "M cut") => `(tactic| (walk_at "M steps"; (all_goals (refine cut_end (by assumption) (by assumption) (by first | exact fun _ h => h | exact fun _ h => .tail _ h | exact fun _ h => .tail _ (.tail _ h)) ?_)); (all_goals (first | (simp; done) | (simp [*]; done) | (simp_all; done) | (simp_all [cr_eq]; done) | (simp_all [cr_eq]; omega) | grind))))
local macro_rules | `(tactic| walk_at "M attr") => `(tactic| (walk_at "M has"; (case hm => exact .head _); (case hm2 => exact .tail _ (.head _)); (case hv => exact rfl); intros; (try k_sweep)))
local macro_rules | `(tactic| walk_at "M iter") => `(tactic| repeat' ((fail_if_success (with_reducible show wpAny _ _ (pyIter _) _ _ _)); first | (k_unfold; (try dsimp only)) | (k_end; wrow_close) | walk1 | (dsimp only; walk1) | (leave1; walk_say "STEP leave1"; try dsimp only)))
local macro_rules | `(tactic| walk_at "call ref") => `(tactic| (k_here; (with_reducible show wpAny _ _ (call (Value.ref _) [Value.str _ _, Value.int _ _] []) _ _ _); (refine' fcs_use (by omega) (by omega) (by omega) ?hB ?hF ?hX ?hN ?hT ?hK ?hd ?hu ?_); walk_at "M has"; intros; (try k_sweep)))

local macro_rules | `(tactic| walk_at "M steps") => `(tactic| repeat' ((fail_if_success (with_reducible show wpAny _ _ (exec (Stmt.While _ _ _ _) _) _ _ _)); (fail_if_success (with_reducible show wpAny _ _ (exec (Stmt.For _ _ _ _ _) _) _ _ _)); first | (k_unfold; (try dsimp only)) | (k_end; wrow_close) | walk1 | (dsimp only; walk1) | (leave1; walk_say "STEP leave1"; try dsimp only)))
local macro_rules | `(tactic| walk_at "M if") => `(tactic| repeat' ((fail_if_success (with_reducible show wpAny _ _ (exec (Stmt.While _ _ _ _) _) _ _ _)); (fail_if_success (with_reducible show wpAny _ _ (exec (Stmt.For _ _ _ _ _) _) _ _ _)); (fail_if_success (with_reducible show wpAny _ _ (exec (Stmt.If _ _ _ _) _) _ _ _)); first | (k_unfold; (try dsimp only)) | (k_end; wrow_close) | walk1 | (dsimp only; walk1) | (leave1; walk_say "STEP leave1"; try dsimp only)))
local macro_rules | `(tactic| walk_at "M has") => `(tactic| ((case hB => k_asm); (case hF => k_asm); (case hX => k_asm); (case hN => k_asm); (case hT => k_asm); (case hK => exact rfl); (case hd => omega); (case hu => omega)))
local macro_rules | `(tactic| walk_at "call ref") => `(tactic| (k_here; (with_reducible show wpAny _ _ (call (Value.ref _) [Value.int _ _, Value.int _ _] []) _ _ _); (refine' simple_use ?hB ?hF ?hX ?hN ?hT ?hK ?hd ?hu ?_ ?_); walk_at "M has"; (all_goals (intros; (try k_sweep)))))
local macro_rules | `(tactic| walk_at "call ref") => `(tactic| (k_here; (with_reducible show wpAny _ _ (call (Value.ref _) [Value.int _ _] []) _ _ _); (first | refine' has_bool (is_ext _ _ _ _ _ _ _) ?hB ?hF ?hX ?hN ?hT ?hK ?hd ?hu ?_ | refine' has_bool (is_link _ _ _ _ _ _ _) ?hB ?hF ?hX ?hN ?hT ?hK ?hd ?hu ?_ | refine' has_bool (is_cons _ _ _ _ _ _ _) ?hB ?hF ?hX ?hN ?hT ?hK ?hd ?hu ?_ | refine' has_bool (is_iext _ _ _ _ _ _ _) ?hB ?hF ?hX ?hN ?hT ?hK ?hd ?hu ?_ | refine' has_int (gcb _ _ _ _ _ _ _) ?hB ?hF ?hX ?hN ?hT ?hK ?hd ?hu ?_); walk_at "M has"; intros; (try k_sweep)))
local macro_rules | `(tactic| walk_at "M cut") => `(tactic| (walk_at "M steps"; (all_goals (refine cut_end (by assumption) (by assumption) (by first | exact fun _ h => h | exact fun _ h => .tail _ h | exact fun _ h => .tail _ (.tail _ h)) ?_)); (all_goals (first | (simp; done) | (simp [*]; done) | (simp_all; done) | grind))))
local macro_rules | `(tactic| walk_at "M while") => `(tactic| repeat' ((fail_if_success (with_reducible show wpAny _ _ (exec (Stmt.While _ _ _ _) _) _ _ _)); (fail_if_success (with_reducible show wpAny _ _ (exec (Stmt.For _ _ _ _ _) _) _ _ _)); first | (k_unfold; (try dsimp only)) | (k_end; wrow_close) | walk1 | (dsimp only; walk1) | (leave1; walk_say "STEP leave1"; try dsimp only)))
local macro_rules | `(tactic| walk_at "call ref") => `(tactic| (k_here; (with_reducible show wpAny _ _ (call (Value.ref _) [Value.str _ _, Value.int _ _] []) _ _ _); (refine' rec_use (by assumption) ?hG ?hB ?hF ?hX ?hN ?hT ?hK ?hd ?hu ?_); (case hG => (unfold preC; (refine ⟨?_, ?_, ?_, ?_, ?_⟩) <;> first | assumption | omega)); walk_at "M has"; intros; (try k_sweep)))
local macro_rules | `(tactic| walk_at "call ref") => `(tactic| (k_here; (with_reducible show wpAny _ _ (call (Value.ref _) [Value.int _ _, Value.int _ _, Value.str _ _, Value.int _ _, Value.int _ _] []) _ _ _); (refine' should_use (by omega) (by omega) (by omega) ?hB ?hF ?hX ?hN ?hT ?hK ?hd ?hu ?_); walk_at "M has"; intro _ _ _ _ _ _ _; (try k_sweep)))
local macro_rules | `(tactic| walk_at "M cut") => `(tactic| (walk_at "M steps"; (all_goals (refine cut_end (by assumption) (by assumption) (by first | exact fun _ h => h | exact fun _ h => .tail _ h | exact fun _ h => .tail _ (.tail _ h)) ?_)); (all_goals (first | (simp; done) | (simp [*]; done) | (simp_all; done) | (simp_all [cr_eq]; done) | (simp_all [cr_eq]; omega) | grind))))
local macro_rules | `(tactic| walk_at "M attr") => `(tactic| (walk_at "M has"; (case hm => exact .head _); (case hm2 => exact .tail _ (.head _)); (case hv => exact rfl); intros; (try k_sweep)))
local macro_rules | `(tactic| walk_at "M iter") => `(tactic| repeat' ((fail_if_success (with_reducible show wpAny _ _ (pyIter _) _ _ _)); first | (k_unfold; (try dsimp only)) | (k_end; wrow_close) | walk1 | (dsimp only; walk1) | (leave1; walk_say "STEP leave1"; try dsimp only)))
local macro_rules | `(tactic| walk_at "call ref") => `(tactic| (k_here; (with_reducible show wpAny _ _ (call (Value.ref _) [Value.str _ _, Value.int _ _] []) _ _ _); (refine' fcs_use (by omega) (by omega) (by omega) ?hB ?hF ?hX ?hN ?hT ?hK ?hd ?hu ?_); walk_at "M has"; intros; (try k_sweep)))
local macro_rules | `(tactic| walk_at "M all") => `(tactic| repeat' (first | (k_unfold; (try dsimp only)) | (k_end; wrow_close) | walk1 | (dsimp only; walk1) | (leave1; walk_say "STEP leave1"; try dsimp only)))
local macro_rules | `(tactic| walk_at "M comp") => `(tactic| repeat' ((fail_if_success (with_reducible show wpAny _ _ (exec (Stmt.For _ _ _ _ _) _) _ _ _)); (fail_if_success (with_reducible show wpAny _ _ (eval (Expr.ListComp _ _ _ _) _) _ _ _)); (fail_if_success (with_reducible show wpAny _ _ (exec (Stmt.Assign [Expr.Name _ _] (Expr.ListComp _ _ _ _) _) _) _ _ _)); first | (k_unfold; (try dsimp only)) | (k_end; wrow_close) | walk1 | (dsimp only; walk1) | (leave1; walk_say "STEP leave1"; try dsimp only)))
local macro_rules | `(tactic| walk_at "M law") => `(tactic| repeat' ((fail_if_success (with_reducible show wpAny _ _ (exec (Stmt.For _ _ _ _ _) _) _ _ _)); (fail_if_success (with_reducible show wpAny _ _ (eval (Expr.ListComp _ _ _ _) _) _ _ _)); (fail_if_success (with_reducible show wpAny _ _ (exec (Stmt.Assign [Expr.Name _ _] (Expr.ListComp _ _ _ _) _) _) _ _ _)); (fail_if_success (with_reducible show wpAny _ _ (call (Value.ref 396) _ _) _ _ _)); (fail_if_success (with_reducible show wpAny _ _ (binaryOp _ (Value.ref _) (Value.ref _)) _ _ _)); (fail_if_success (with_reducible show LCg.CompSrc _ _ _ _ _ _ _ _ _ _ _ _ _ _)); (fail_if_success (with_reducible show LCg.CompEnd _ _ _ _ _ _ _ _ _ _ _ _ _ _)); first | (k_unfold; (try dsimp only)) | (k_end; wrow_close) | walk1 | (dsimp only; walk1) | (leave1; walk_say "STEP leave1"; try dsimp only)))
local macro_rules | `(tactic| walk_at "call builtin:str.join") => `(tactic| (k_here; (with_reducible show wpAny _ _ (call (Value.builtin "str.join") [Value.str _ _, Value.ref _]) _ _ _); (refine' join_use ?jF ?jN ?jm (by assumption) ?jl ?_); (case jF => k_asm); (case jN => k_asm); (case jm => k_mem); (case jl => assumption); intro _ _))
local macro_rules | `(tactic| walk_at "call builtin:len") => `(tactic| (k_here; (with_reducible show wpAny _ _ (call (Value.builtin "len") [Value.str (txt _) _]) _ _ _); refine len_txt (by omega) (fun _ _ => ?_)))
local macro_rules | `(tactic| walk_at "subscriptTail") => `(tactic| (k_here; (with_reducible show wpAny _ _ (subscriptTail _ _ (Value.ref 384) (Value.int _ _)) _ _ _); (refine item_sign (by k_asm) (by k_asm) (by omega) (by omega) ?_); intro _))
local macro_rules | `(tactic| walk_at "M st") => `(tactic| repeat' ((fail_if_success (with_reducible show wpAny _ _ (execs _ _) _ _ _)); (fail_if_success (with_reducible show wpAny _ _ (exec (Stmt.For _ _ _ _ _) _) _ _ _)); (fail_if_success (with_reducible show wpAny _ _ (call (Value.ref 396) _ _) _ _ _)); first | (k_unfold; (try dsimp only)) | (k_end; wrow_close) | walk1 | (dsimp only; walk1) | (leave1; walk_say "STEP leave1"; try dsimp only)))
theorem flat_ge : ∀ {qs : List Nat}, (∀ q ∈ qs, q < 11) → qs.length ≤ (flat qs).length
  | [], _ => Nat.zero_le _
  | q :: qs, h => by
    have := sg_len (h q (.head _))
    have ih := flat_ge (qs := qs) fun x hx => h x (.tail _ hx)
    rw [flat_cons, List.length_append, List.length_cons]
    omega
/-- what the loop keeps -/
structure DueInv (qs : List Nat) (st bd : Int) (i : Nat) (x : Int) (acc : List (Int × Int)) (us : List Value) : Prop where
  place : x = (flat (qs.take i)).length
  txts : IsTxts us (acc.map fun it => sl (flat qs) it.1 it.2)
  rest : dueP st bd (qs.drop i) x acc = dueP st bd qs 0 []
  small : us.length ≤ i
theorem DueInv.start {qs : List Nat} {st bd : Int} : DueInv qs st bd 0 0 [] [] := ⟨by simp [flat], ⟨rfl, fun j h => absurd h (Nat.not_lt_zero _)⟩, by simp, Nat.le_refl _⟩
theorem DueInv.bounds {qs : List Nat} {st bd x : Int} {i q : Nat} {acc : List (Int × Int)} {us : List Value} (h : DueInv qs st bd i x acc us) (hq : qs[i]? = some q) : 0 ≤ x ∧ x + (sg q).length ≤ (flat qs).length := by
  have e : qs = qs.take i ++ q :: qs.drop (i + 1) := by
    have hi : i < qs.length := (List.getElem?_eq_some_iff.mp hq).1
    have h2 : qs[i] = q := (List.getElem?_eq_some_iff.mp hq).2
    rw [← h2, ← List.drop_eq_getElem_cons hi, List.take_append_drop]
  have := flat_len e
  rw [h.place]
  omega
theorem drop_at {qs : List Nat} {i q : Nat} (hq : qs[i]? = some q) : qs.drop i = q :: qs.drop (i + 1) ∧ flat (qs.take (i + 1)) = flat (qs.take i) ++ sg q := by
  have hi : i < qs.length := (List.getElem?_eq_some_iff.mp hq).1
  have h2 : qs[i] = q := (List.getElem?_eq_some_iff.mp hq).2
  refine ⟨by rw [← h2, ← List.drop_eq_getElem_cons hi], ?_⟩
  rw [List.take_add_one, hq, flat_app]
  simp [flat]
theorem DueInv.skip {qs : List Nat} {st bd x : Int} {i q : Nat} {acc : List (Int × Int)} {us : List Value} (h : DueInv qs st bd i x acc us) (hq : qs[i]? = some q) (hc : ¬ (st ≤ x ∧ x < bd)) : DueInv qs st bd (i + 1) (x + (sg q).length) acc us := by
  obtain ⟨e1, e2⟩ := drop_at hq
  refine ⟨by rw [e2, List.length_append, h.place]; omega, h.txts, ?_, Nat.le_succ_of_le h.small⟩
  have r := h.rest
  rw [e1, dueP, if_neg hc] at r
  exact r
theorem DueInv.next {qs : List Nat} {st bd x : Int} {i q : Nat} {acc : List (Int × Int)} {us : List Value} {t : Tok} (h : DueInv qs st bd i x acc us) (hq : qs[i]? = some q) (hc : st ≤ x ∧ x < bd) : DueInv qs st bd (i + 1) (x + (sg q).length) ((x, mn (x + (sg q).length) bd) :: acc) (.str (txt (sl (flat qs) x (mn (x + (sg q).length) bd))) t :: us) := by
  obtain ⟨e1, e2⟩ := drop_at hq
  refine ⟨by rw [e2, List.length_append, h.place]; omega, ⟨by simp [h.txts.1], fun j h1 h2 => ?_⟩, ?_, Nat.succ_le_succ h.small⟩
  · cases j with
    | zero => exact ⟨t, rfl⟩
    | succ j =>
      obtain ⟨t', e⟩ := h.txts.2 j (by simpa using h1) (by simpa using h2)
      exact ⟨t', by simpa using e⟩
  · have r := h.rest
    rw [e1, dueP, if_pos hc] at r
    exact r
theorem txts_at {qs : List Nat} {ys : List Value} {i : Nat} {v : Value} (hy : IsTxts ys (qs.map sg)) (hv : ys[i]? = some v) : ∃ q t, qs[i]? = some q ∧ q ∈ qs ∧ v = .str (txt (sg q)) t := by
  obtain ⟨h1, h2⟩ := List.getElem?_eq_some_iff.mp hv
  have hi : i < qs.length := by have := hy.1; simp at this; omega
  obtain ⟨t, e⟩ := hy.2 i h1 (by simpa using hi)
  refine ⟨qs[i], t, by simp [hi], List.getElem_mem hi, ?_⟩
  rw [← h2, e]
  simp
local macro_rules | `(tactic| walk_at "subscriptTail Name Slice str ref") => `(tactic| (k_here; (with_reducible show wpAny _ _ (subscriptTail _ (Expr.Slice (some _) (some _) none _) (Value.str (txt _) _) (Value.ref _)) _ _ _); (with_reducible rename Fr _ _ _ _ => F'); (with_reducible rename News _ _ _ _ => N'); (refine slice_use (s := ⟨_, _, _, _, _⟩) (by omega) (by omega) (by omega) (by omega) F' N' ?_); intro _ _ _ _ _))
theorem law_rest (w : World) (mean : ExcName → Option Value) (mg mb : Str → Option Value) (dp un : Nat) (gd : Option (List Code)) (L f : Addr) (cdv : Value) (outer : List Env) (A₀ : Around) (base h₀ : Heap) (s : Shared) (u₀ : Str → Option Value)
    (fi : Int) (tf ts tw : Tok) (Sg D D1 : Addr) (qs : List Nat) (ys : List Value) (o9 : Obj) (sd : Int) (st : Tok) (k kk : Nat) (us : List Value) (ms : List Int)
    (B : Below A₀ base outer h₀) (F : Fr h₀ L s.heap (kstB u₀ [(Str.ofString "first", .int fi tf), (Str.ofString "size", .int (flat qs).length ts), (Str.ofString "written", .str (txt (flat qs)) tw), (Str.ofString "signs", .ref Sg)])) (X : (hd.heap_39 w.params).In h₀) (T : Top VW LW mean mg mb h₀)
    (N : News h₀ L s.heap [(D, dObj D1 sd st k), (D1, iObj us kk), (Sg, LCg.lst ys), (L + 1, o9)]) (ho9 : o9.data = .cell (some (.ref D))) (hap : Apart D D1 [(Sg, LCg.lst ys), (L + 1, o9)]) (hi : IntsAre us ms) (hl : ms.length ≤ 40)
    (hq : ∀ q ∈ qs, q < 11) (hln : 1 ≤ (flat qs).length ∧ (flat qs).length ≤ 12) (hlq : qs.length ≤ 4) (hy : IsTxts ys (qs.map sg)) (hf0 : -1 ≤ fi) (hf1 : fi ≤ (flat qs).length)
    (hg : AllBare s.gens) (hdd : dp + 50 < recursionLimit) (hun : un + 400 < cLine) :
    wpAny (model PG w) (ktrTop dp un gd (Str.ofString "law") (scopeOf ((hd.heap_39 w.params).lookup 401)) L f cdv [(Str.ofString "draw", L + 1)] outer) (execs ((bodyOf ((hd.heap_39 w.params).lookup 401)).drop 5) (envX (Str.ofString "law") (scopeOf ((hd.heap_39 w.params).lookup 401)) L f cdv [(Str.ofString "draw", L + 1)]))
      (LPost h₀ s) (fun _ _ => False) s := by
  refine rest_of rfl ?_
  dsimp only [List.drop]
  walk_at "M st"
  walk1
  refine stmt_cutS (σ := Value) (fun c => [(Str.ofString "last", c), (Str.ofString "first", .int fi tf), (Str.ofString "size", .int (flat qs).length ts), (Str.ofString "written", .str (txt (flat qs)) tw), (Str.ofString "signs", .ref Sg)]) (fun _ => [(Sg, LCg.lst ys)]) (fun c => c = .none ∨ ∃ e t, c = .int e t ∧ 0 ≤ e ∧ e < (flat qs).length + 3) F N ?_ ?_
  · walk_at "M st"
    refine' take_use [(Sg, LCg.lst ys), (L + 1, o9)] hap hi hl (by omega) ?m1 ?m2 ?ms B F X N T rfl (by omega) (by omega) ?_
    case m1 => k_mem
    case m2 => k_mem
    case ms => lcg_sub
    clear F N
    intro v1 t1 sd1 st1 k1 us1 ms1 kk1 h8 tk8 hv0 hv1 hi1 hl1 F N
    walk_at "M st"
    · exact gs_cut _ (by assumption) (by assumption) (by lcg_sub) (by kst_all) (.inl rfl)
    · refine' take_use [(Sg, LCg.lst ys), (L + 1, o9)] hap hi1 hl1 (by omega) ?m1 ?m2 ?ms B F X N T rfl (by omega) (by omega) ?_
      case m1 => k_mem
      case m2 => k_mem
      case ms => lcg_sub
      clear F N
      intro v2 t2 sd2 st2 k2 us2 ms2 kk2 h7 tk7 hw0 hw1 hi2 hl2 F N
      walk_at "M st"
      exact gs_cut _ (by assumption) (by assumption) (by lcg_sub) (by kst_all) (.inr ⟨_, _, rfl, hw0, hw1⟩)
  · clear F N ho9 hap hi hl
    intro ev u h9 tk9 hev F N
    walk_at "M st"
    walk1
    refine stmt_cutS (σ := Int × Tok) (fun c => [(Str.ofString "bound", .int c.1 c.2), (Str.ofString "last", ev), (Str.ofString "first", .int fi tf), (Str.ofString "size", .int (flat qs).length ts), (Str.ofString "written", .str (txt (flat qs)) tw), (Str.ofString "signs", .ref Sg)]) (fun _ => [(Sg, LCg.lst ys)]) (fun c => (0 ≤ c.1 ∧ c.1 ≤ (flat qs).length) ∧ ((ev = .none ∧ c.1 = (flat qs).length) ∨ ∃ e t3, ev = .int e t3 ∧ c.1 = if ((flat qs).length : Int) < e then ((flat qs).length : Int) else e)) F N ?_ ?_
    · rcases hev with rfl | ⟨e, t, rfl, he0, he1⟩
      · walk_at "M st"
        refine gs_cut ⟨((flat qs).length : Int), _⟩ (by assumption) (by assumption) (by lcg_sub) (by kst_all) ⟨?_, .inl ⟨rfl, rfl⟩⟩
        dsimp only
        omega
      · walk_at "M st"
        refine gs_cut ⟨if ((flat qs).length : Int) < e then ((flat qs).length : Int) else e, _⟩ (by assumption) (by assumption) (by lcg_sub) (by kst_all) ⟨?_, .inr ⟨_, _, rfl, rfl⟩⟩
        dsimp only
        split <;> omega
    · clear F N
      rintro ⟨bd, tb⟩ u h9 tk9 ⟨hbd, he⟩ F N
      dsimp only at hbd he F
      walk_at "M law"
      rename Fr _ _ _ _ => F9
      rename News _ _ _ _ => N9
      with_unfolding_all refine' For_invVF F9 ?k1 ?k2 ?_
      case k1 => exact rfl
      case k2 => exact rfl
      walk_at "M iter"
      refine' strs_cut (σ := (Int × Tok) × List (Int × Int) × Addr × List Value × Nat) (fun c => [(Str.ofString "at", .int c.1.1 c.1.2), (Str.ofString "due", .ref c.2.2.1), (Str.ofString "bound", .int bd tb), (Str.ofString "last", ev), (Str.ofString "first", .int fi tf), (Str.ofString "size", .int (flat qs).length ts), (Str.ofString "written", .str (txt (flat qs)) tw), (Str.ofString "signs", .ref Sg)]) (fun c => [(c.2.2.1, W.listOf c.2.2.2.1.toArray c.2.2.2.2)]) (fun i c => Sg < c.2.2.1 ∧ DueInv qs (if fi < 0 then 0 else fi) bd i c.1.1 c.2.1 c.2.2.2.1) ⟨⟨0, _⟩, [], _, [], _⟩ rfl (.head _) F9 N9 ?k3 ?k4 ?_ ?_
      case k3 => kst_all
      case k4 => exact ⟨by assumption, DueInv.start⟩
      · clear F9 N9
        rintro i ⟨⟨at', ta⟩, acc, Du, us, kc⟩ v I u h9 tk9 own oI hv ⟨hSD, hinv⟩ hIo hIb F9 N9
        obtain ⟨q, tq, hq1, hq2, rfl⟩ := txts_at hy hv
        dsimp only at F9 N9 hSD hinv
        have hqs := sg_len (hq q hq2)
        have hat := hinv.bounds hq1
        have hsm : us.length ≤ 1000 := by
          have h1 := hinv.small
          have h2 := (List.getElem?_eq_some_iff.mp hq1).1
          have h3 : qs.length ≤ (flat qs).length := flat_ge hq
          omega
        walk_at "M law"
        · rename Fr _ _ _ _ => F7
          rename News _ _ _ _ => N7
          refine kmk_add_lit F7 N7 (News.isList N7 (.head _)) (News.isList N7 (.tail _ (.head _))) rfl ?_ (Nat.le_trans (Nat.add_le_add_left hsm 1) (by decide))
          intro D3 h5 F5 N5 l5
          obtain ⟨t5, N6⟩ : ∃ t5, News h₀ L h5 ((D3, W.listOf (Value.str (txt (sl (flat qs) at' (mn (at' + (sg q).length) bd))) t5 :: us).toArray 0) :: _) := ⟨_, N5⟩
          clear N5 F7 N7
          walk_at "M law"
          refine s_post ⟨⟨at' + (sg q).length, _⟩, (at', mn (at' + (sg q).length) bd) :: acc, D3, Value.str (txt (sl (flat qs) at' (mn (at' + (sg q).length) bd))) t5 :: us, 0⟩ (by assumption) (by assumption) (fun p hp => .tail _ (.tail _ (List.mem_append_right _ hp))) (fun p hp => ?_) (fun p hp => ?_) (by kst_all) ⟨?_, hinv.next hq1 ⟨by assumption, by assumption⟩⟩
          · rw [List.mem_singleton.mp hp]; exact .head _
          · rw [List.mem_singleton.mp hp]
            exact Ne.symm (Nat.ne_of_lt (l5 (I, oI) (.tail _ (List.mem_append_right _ (List.mem_append_right _ hIo)))))
          · exact l5 (Sg, _) (.tail _ (List.mem_append_right _ (List.mem_append_left _ (.head _))))
        · refine s_post ⟨⟨at' + (sg q).length, _⟩, acc, Du, us, kc⟩ (by assumption) (by assumption) (fun p hp => .tail _ hp) (fun p hp => ?_) (fun p hp => hIb p (List.mem_append_left _ hp)) (by kst_all) ⟨hSD, hinv.skip hq1 (fun hc => ?_)⟩
          · rw [List.mem_singleton.mp hp]; exact .head _
          · exact absurd hc.2 (by assumption)
        · refine s_post ⟨⟨at' + (sg q).length, _⟩, acc, Du, us, kc⟩ (by assumption) (by assumption) (fun p hp => .tail _ hp) (fun p hp => ?_) (fun p hp => hIb p (List.mem_append_left _ hp)) (by kst_all) ⟨hSD, hinv.skip hq1 (fun hc => ?_)⟩
          · rw [List.mem_singleton.mp hp]; exact .head _
          · exact absurd hc.1 (by assumption)
      · clear F9 N9
        rintro ⟨⟨at', ta⟩, acc, Du, us, kc⟩ u h9 tk9 ⟨hSD, hinv⟩ F9 N9
        dsimp only at F9 N9 hSD hinv
        have hyl : ys.length = qs.length := by simpa using hy.1
        have hacc := hinv.rest
        rw [hyl, List.drop_length, dueP] at hacc
        have hus := hinv.txts
        rw [hacc] at hus
        exact law_tail w mean mg mb dp un gd L f cdv outer A₀ base h₀ { s with heap := h9, toks := tk9 } u fi bd at' tf ts tw tb ta ev Sg Du qs ys us kc B F9 X T N9 hq hln hlq hy hus hbd he hg hdd hun
end Mine
/-! W17 -/
namespace Mine
example : True := by
  w_top off
  trivial
local macro_rules | `(tactic| walk_at "M pad") => `(tactic| skip)
example : PySem.Challenge.rw_ax6033_01 = PySem.Challenge.rw_ax6033_01 → hd.heap_39 = hd.heap_39 → True := by
  k_fill
  intros; trivial
local macro_rules | `(tactic| walk_at "M steps") => `(tactic| repeat' ((fail_if_success (with_reducible show wpAny _ _ (exec (Stmt.While _ _ _ _) _) _ _ _)); (fail_if_success (with_reducible show wpAny _ _ (exec (Stmt.For _ _ _ _ _) _) _ _ _)); first | (k_unfold; (try dsimp only)) | (k_end; wrow_close) | walk1 | (dsimp only; walk1) | (leave1; walk_say "STEP leave1"; try dsimp only)))
local macro_rules | `(tactic| walk_at "M if") => `(tactic| repeat' ((fail_if_success (with_reducible show wpAny _ _ (exec (Stmt.While _ _ _ _) _) _ _ _)); (fail_if_success (with_reducible show wpAny _ _ (exec (Stmt.For _ _ _ _ _) _) _ _ _)); (fail_if_success (with_reducible show wpAny _ _ (exec (Stmt.If _ _ _ _) _) _ _ _)); first | (k_unfold; (try dsimp only)) | (k_end; wrow_close) | walk1 | (dsimp only; walk1) | (leave1; walk_say "STEP leave1"; try dsimp only)))
local macro_rules | `(tactic| walk_at "M has") => `(tactic| ((case hB => k_asm); (case hF => k_asm); (case hX => k_asm); (case hN => k_asm); (case hT => k_asm); (case hK => exact rfl); (case hd => omega); (case hu => omega)))
local macro_rules | `(tactic| walk_at "call ref") => `(tactic| (k_here; (with_reducible show wpAny _ _ (call (Value.ref _) [Value.int _ _, Value.int _ _] []) _ _ _); (refine' simple_use ?hB ?hF ?hX ?hN ?hT ?hK ?hd ?hu ?_ ?_); walk_at "M has"; (all_goals (intros; (try k_sweep)))))
local macro_rules | `(tactic| walk_at "call ref") => `(tactic| (k_here; (with_reducible show wpAny _ _ (call (Value.ref _) [Value.int _ _] []) _ _ _); (first | refine' has_bool (is_ext _ _ _ _ _ _ _) ?hB ?hF ?hX ?hN ?hT ?hK ?hd ?hu ?_ | refine' has_bool (is_link _ _ _ _ _ _ _) ?hB ?hF ?hX ?hN ?hT ?hK ?hd ?hu ?_ | refine' has_bool (is_cons _ _ _ _ _ _ _) ?hB ?hF ?hX ?hN ?hT ?hK ?hd ?hu ?_ | refine' has_bool (is_iext _ _ _ _ _ _ _) ?hB ?hF ?hX ?hN ?hT ?hK ?hd ?hu ?_ | refine' has_int (gcb _ _ _ _ _ _ _) ?hB ?hF ?hX ?hN ?hT ?hK ?hd ?hu ?_); walk_at "M has"; intros; (try k_sweep)))
local macro_rules | `(tactic| walk_at "M cut") => `(tactic| (walk_at "M steps"; (all_goals (refine cut_end (by assumption) (by assumption) (by first | exact fun _ h => h | exact fun _ h => .tail _ h | exact fun _ h => .tail _ (.tail _ h)) ?_)); (all_goals (first | (simp; done) | (simp [*]; done) | (simp_all; done) | grind))))
local macro_rules | `(tactic| walk_at "M while") => `(tactic| repeat' ((fail_if_success (with_reducible show wpAny _ _ (exec (Stmt.While _ _ _ _) _) _ _ _)); (fail_if_success (with_reducible show wpAny _ _ (exec (Stmt.For _ _ _ _ _) _) _ _ _)); first | (k_unfold; (try dsimp only)) | (k_end; wrow_close) | walk1 | (dsimp only; walk1) | (leave1; walk_say "STEP leave1"; try dsimp only)))
local macro_rules | `(tactic| walk_at "call ref") => `(tactic| (k_here; (with_reducible show wpAny _ _ (call (Value.ref _) [Value.str _ _, Value.int _ _] []) _ _ _); (refine' rec_use (by assumption) ?hG ?hB ?hF ?hX ?hN ?hT ?hK ?hd ?hu ?_); (case hG => (unfold preC; (refine ⟨?_, ?_, ?_, ?_, ?_⟩) <;> first | assumption | omega)); walk_at "M has"; intros; (try k_sweep)))
local macro_rules | `(tactic| walk_at "call ref") => `(tactic| (k_here; (with_reducible show wpAny _ _ (call (Value.ref _) [Value.int _ _, Value.int _ _, Value.str _ _, Value.int _ _, Value.int _ _] []) _ _ _); (refine' should_use (by omega) (by omega) (by omega) ?hB ?hF ?hX ?hN ?hT ?hK ?hd ?hu ?_); walk_at "M has"; intro _ _ _ _ _ _ _; (try k_sweep)))
local macro_rules | `(tactic| walk_at "M cut") => `(tactic| (walk_at "M steps"; (all_goals (refine cut_end (by assumption) (by assumption) (by first | exact fun _ h => h | exact fun _ h => .tail _ h | exact fun _ h => .tail _ (.tail _ h)) ?_)); (all_goals (first | (simp; done) | (simp [*]; done) | (simp_all; done) | (simp_all [cr_eq]; done) | (simp_all [cr_eq]; omega) | grind))))
local macro_rules | `(tactic| walk_at "M attr") => `(tactic| (walk_at "M has"; (case hm => exact .head _); (case hm2 => exact .tail _ (.head _)); (case hv => exact rfl); intros; (try k_sweep)))
local macro_rules | `(tactic| walk_at "M iter") => `(tactic| repeat' ((fail_if_success (with_reducible show wpAny _ _ (pyIter _) _ _ _)); first | (k_unfold; (try dsimp only)) | (k_end; wrow_close) | walk1 | (dsimp only; walk1) | (leave1; walk_say "STEP leave1"; try dsimp only)))
local macro_rules | `(tactic| walk_at "call ref") => `(tactic| (k_here; (with_reducible show wpAny _ _ (call (Value.ref _) [Value.str _ _, Value.int _ _] []) _ _ _); (refine' fcs_use (by omega) (by omega) (by omega) ?hB ?hF ?hX ?hN ?hT ?hK ?hd ?hu ?_); walk_at "M has"; intros; (try k_sweep)))

local macro_rules | `(tactic| walk_at "M steps") => `(tactic| repeat' ((fail_if_success (with_reducible show wpAny _ _ (exec (Stmt.While _ _ _ _) _) _ _ _)); (fail_if_success (with_reducible show wpAny _ _ (exec (Stmt.For _ _ _ _ _) _) _ _ _)); first | (k_unfold; (try dsimp only)) | (k_end; wrow_close) | walk1 | (dsimp only; walk1) | (leave1; walk_say "STEP leave1"; try dsimp only)))
local macro_rules | `(tactic| walk_at "M if") => `(tactic| repeat' ((fail_if_success (with_reducible show wpAny _ _ (exec (Stmt.While _ _ _ _) _) _ _ _)); (fail_if_success (with_reducible show wpAny _ _ (exec (Stmt.For _ _ _ _ _) _) _ _ _)); (fail_if_success (with_reducible show wpAny _ _ (exec (Stmt.If _ _ _ _) _) _ _ _)); first | (k_unfold; (try dsimp only)) | (k_end; wrow_close) | walk1 | (dsimp only; walk1) | (leave1; walk_say "STEP leave1"; try dsimp only)))
local macro_rules | `(tactic| walk_at "M has") => `(tactic| ((case hB => k_asm); (case hF => k_asm); (case hX => k_asm); (case hN => k_asm); (case hT => k_asm); (case hK => exact rfl); (case hd => omega); (case hu => omega)))
local macro_rules | `(tactic| walk_at "call ref") => `(tactic| (k_here; (with_reducible show wpAny _ _ (call (Value.ref _) [Value.int _ _, Value.int _ _] []) _ _ _); (refine' simple_use ?hB ?hF ?hX ?hN ?hT ?hK ?hd ?hu ?_ ?_); walk_at "M has"; (all_goals (intros; (try k_sweep)))))
local macro_rules | `(tactic| walk_at "call ref") => `(tactic| (k_here; (with_reducible show wpAny _ _ (call (Value.ref _) [Value.int _ _] []) _ _ _); (first | refine' has_bool (is_ext _ _ _ _ _ _ _) ?hB ?hF ?hX ?hN ?hT ?hK ?hd ?hu ?_ | refine' has_bool (is_link _ _ _ _ _ _ _) ?hB ?hF ?hX ?hN ?hT ?hK ?hd ?hu ?_ | refine' has_bool (is_cons _ _ _ _ _ _ _) ?hB ?hF ?hX ?hN ?hT ?hK ?hd ?hu ?_ | refine' has_bool (is_iext _ _ _ _ _ _ _) ?hB ?hF ?hX ?hN ?hT ?hK ?hd ?hu ?_ | refine' has_int (gcb _ _ _ _ _ _ _) ?hB ?hF ?hX ?hN ?hT ?hK ?hd ?hu ?_); walk_at "M has"; intros; (try k_sweep)))
local macro_rules | `(tactic| walk_at "M cut") => `(tactic| (walk_at "M steps"; (all_goals (refine cut_end (by assumption) (by assumption) (by first | exact fun _ h => h | exact fun _ h => .tail _ h | exact fun _ h => .tail _ (.tail _ h)) ?_)); (all_goals (first | (simp; done) | (simp [*]; done) | (simp_all; done) | grind))))
local macro_rules | `(tactic| walk_at "M while") => `(tactic| repeat' ((fail_if_success (with_reducible show wpAny _ _ (exec (Stmt.While _ _ _ _) _) _ _ _)); (fail_if_success (with_reducible show wpAny _ _ (exec (Stmt.For _ _ _ _ _) _) _ _ _)); first | (k_unfold; (try dsimp only)) | (k_end; wrow_close) | walk1 | (dsimp only; walk1) | (leave1; walk_say "STEP leave1"; try dsimp only)))
local macro_rules | `(tactic| walk_at "call ref") => `(tactic| (k_here; (with_reducible show wpAny _ _ (call (Value.ref _) [Value.str _ _, Value.int _ _] []) _ _ _); (refine' rec_use (by assumption) ?hG ?hB ?hF ?hX ?hN ?hT ?hK ?hd ?hu ?_); (case hG => (unfold preC; (refine ⟨?_, ?_, ?_, ?_, ?_⟩) <;> first | assumption | omega)); walk_at "M has"; intros; (try k_sweep)))
local macro_rules | `(tactic| walk_at "call ref") => `(tactic| (k_here; (with_reducible show wpAny _ _ (call (Value.ref _) [Value.int _ _, Value.int _ _, Value.str _ _, Value.int _ _, Value.int _ _] []) _ _ _); (refine' should_use (by omega) (by omega) (by omega) ?hB ?hF ?hX ?hN ?hT ?hK ?hd ?hu ?_); walk_at "M has"; intro _ _ _ _ _ _ _; (try k_sweep)))
local macro_rules | `(tactic| walk_at "M cut") => `(tactic| (walk_at "M steps"; (all_goals (refine cut_end (by assumption) (by assumption) (by first | exact fun _ h => h | exact fun _ h => .tail _ h | exact fun _ h => .tail _ (.tail _ h)) ?_)); (all_goals (first | (simp; done) | (simp [*]; done) | (simp_all; done) | (simp_all [cr_eq]; done) | (simp_all [cr_eq]; omega) | grind))))
local macro_rules | `(tactic| walk_at "M attr") => `(tactic| (walk_at "M has"; (case hm => exact .head _); (case hm2 => exact .tail _ (.head _)); (case hv => exact rfl); intros; (try k_sweep)))
local macro_rules | `(tactic| walk_at "M iter") => `(tactic| repeat' ((fail_if_success (with_reducible show wpAny _ _ (pyIter _) _ _ _)); first | (k_unfold; (try dsimp only)) | (k_end; wrow_close) | walk1 | (dsimp only; walk1) | (leave1; walk_say "STEP leave1"; try dsimp only)))
local macro_rules | `(tactic| walk_at "call ref") => `(tactic| (k_here; (with_reducible show wpAny _ _ (call (Value.ref _) [Value.str _ _, Value.int _ _] []) _ _ _); (refine' fcs_use (by omega) (by omega) (by omega) ?hB ?hF ?hX ?hN ?hT ?hK ?hd ?hu ?_); walk_at "M has"; intros; (try k_sweep)))
local macro_rules | `(tactic| walk_at "M all") => `(tactic| repeat' (first | (k_unfold; (try dsimp only)) | (k_end; wrow_close) | walk1 | (dsimp only; walk1) | (leave1; walk_say "STEP leave1"; try dsimp only)))
local macro_rules | `(tactic| walk_at "M comp") => `(tactic| repeat' ((fail_if_success (with_reducible show wpAny _ _ (exec (Stmt.For _ _ _ _ _) _) _ _ _)); (fail_if_success (with_reducible show wpAny _ _ (eval (Expr.ListComp _ _ _ _) _) _ _ _)); (fail_if_success (with_reducible show wpAny _ _ (exec (Stmt.Assign [Expr.Name _ _] (Expr.ListComp _ _ _ _) _) _) _ _ _)); first | (k_unfold; (try dsimp only)) | (k_end; wrow_close) | walk1 | (dsimp only; walk1) | (leave1; walk_say "STEP leave1"; try dsimp only)))
local macro_rules | `(tactic| walk_at "call ref") => `(tactic| (k_here; (with_reducible show wpAny _ _ (call (Value.ref _) [Value.ref _] []) _ _ _); (refine' draw_use (by assumption) (by assumption) (by assumption) ?hB ?hF ?hX ?hN ?hT ?hK ?hd ?hu ?_); walk_at "M has"; intros; (try k_sweep)))
local macro_rules | `(tactic| walk_at "M law") => `(tactic| repeat' ((fail_if_success (with_reducible show wpAny _ _ (exec (Stmt.For _ _ _ _ _) _) _ _ _)); (fail_if_success (with_reducible show wpAny _ _ (eval (Expr.ListComp _ _ _ _) _) _ _ _)); (fail_if_success (with_reducible show wpAny _ _ (exec (Stmt.Assign [Expr.Name _ _] (Expr.ListComp _ _ _ _) _) _) _ _ _)); (fail_if_success (with_reducible show wpAny _ _ (call (Value.ref 396) _ _) _ _ _)); (fail_if_success (with_reducible show LCg.CompSrc _ _ _ _ _ _ _ _ _ _ _ _ _ _)); (fail_if_success (with_reducible show LCg.CompEnd _ _ _ _ _ _ _ _ _ _ _ _ _ _)); first | (k_unfold; (try dsimp only)) | (k_end; wrow_close) | walk1 | (dsimp only; walk1) | (leave1; walk_say "STEP leave1"; try dsimp only)))
local macro_rules | `(tactic| walk_at "call builtin:str.join") => `(tactic| (k_here; (with_reducible show wpAny _ _ (call (Value.builtin "str.join") [Value.str _ _, Value.ref _]) _ _ _); (refine' join_use ?jF ?jN ?jm (by assumption) ?jl ?_); (case jF => k_asm); (case jN => k_asm); (case jm => k_mem); (case jl => assumption); intro _ _))
local macro_rules | `(tactic| walk_at "call builtin:len") => `(tactic| (k_here; (with_reducible show wpAny _ _ (call (Value.builtin "len") [Value.str (txt _) _]) _ _ _); refine len_txt (by omega) (fun _ _ => ?_)))
local macro_rules | `(tactic| walk_at "subscriptTail") => `(tactic| (k_here; (with_reducible show wpAny _ _ (subscriptTail _ _ (Value.ref 384) (Value.int _ _)) _ _ _); (refine item_sign (by k_asm) (by k_asm) (by omega) (by omega) ?_); intro _))
local macro_rules | `(tactic| walk_at "M st") => `(tactic| repeat' ((fail_if_success (with_reducible show wpAny _ _ (execs _ _) _ _ _)); (fail_if_success (with_reducible show wpAny _ _ (exec (Stmt.For _ _ _ _ _) _) _ _ _)); (fail_if_success (with_reducible show wpAny _ _ (call (Value.ref 396) _ _) _ _ _)); first | (k_unfold; (try dsimp only)) | (k_end; wrow_close) | walk1 | (dsimp only; walk1) | (leave1; walk_say "STEP leave1"; try dsimp only)))
theorem fr_ps {g h : Heap} {L : Addr} {m : Str → Option Value} {ps : List (Str × Value)} (F : Fr g L h m) (hk : ∀ p ∈ ps, m p.1 = some p.2) : Fr g L h (kstB m ps) := by
  rw [kst_same hk]; exact F
theorem law_walk (w : World) (mean : ExcName → Option Value) (mg mb : Str → Option Value) (dp un : Nat) (gd : Option (List Code)) (L f : Addr) (cdv : Value) (outer : List Env) (A₀ : Around) (base h₀ : Heap) (s : Shared) (sc : Addr) (vs : List Value) (ns : List Int) (oc : Obj)
    (B : Below A₀ base outer h₀) (F : Fr h₀ L s.heap (kstB (fun _ => none) [(Str.ofString "script", .ref sc)])) (X : (hd.heap_39 w.params).In h₀) (N : News h₀ L s.heap [(L + 1, oc)]) (hoc : oc.data = .cell none) (T : Top VW LW mean mg mb h₀)
    (hP : h₀.IsList sc vs.toArray) (hi : IntsAre vs ns) (hl : ns.length ≤ 63) (hg : AllBare s.gens) (hdd : dp + 50 < recursionLimit) (hun : un + 400 < cLine) :
    wpAny (model PG w) (ktrTop dp un gd (Str.ofString "law") (scopeOf ((hd.heap_39 w.params).lookup 401)) L f cdv [(Str.ofString "draw", L + 1)] outer) (execs (bodyOf ((hd.heap_39 w.params).lookup 401)) (envX (Str.ofString "law") (scopeOf ((hd.heap_39 w.params).lookup 401)) L f cdv [(Str.ofString "draw", L + 1)]))
      (LPost h₀ s) (fun _ _ => False) s := by
  refine law_of rfl ?_
  walk_at "M law"
  rename Apart _ _ _ => hap
  rename Fr _ _ _ _ => F9
  rename News _ _ _ _ => N9
  rename_i D D1 _ _ _ us0 ms0 _ _ _ hi0 hl0
  refine store_draw F9 N9 hap hoc ?_ rfl rfl rfl
  clear F9 N9 hap
  intro h9 o9 F9 N9 ho9 hap9
  walk_at "M law"
  rename Fr _ _ _ _ => F8
  rename News _ _ _ _ => N8
  refine LCg.Assign_ListComp_U F8 (by rfl) (by with_unfolding_all rfl) (by with_unfolding_all rfl) (by decide) (by rfl) (by decide) (by rfl) (by rfl) (by rfl) ?_
  walk_at "M law"
  refine' take_use [(L + 1, o9)] (hap9 o9) (by assumption) (by assumption) (by omega) (.tail _ (.head _)) (.tail _ (.tail _ (.head _))) (fun p hp => ?_) ?hB ?hF ?hX ?hN ?hT ?hK ?hd ?hu ?_
  walk_at "M has"
  · rcases List.mem_cons.mp hp with rfl | hp
    · exact .head _
    · cases hp
  (try clear F8 N8); (try clear F9 N9)
  intro v1 t1 sd1 st1 k1 us1 ms1 kk1 h8 tk8 hv0 hv1 hi1 hl1 F8 N8
  walk_at "M law"
  rename Fr _ _ _ _ => F9
  rename News _ _ _ _ => N9
  rename IsRange _ _ _ _ _ _ _ _ => R9
  (try clear F8 N8)
  refine LCg.CompSrc.range rfl F9 N9 R9 (small_one (by omega) (by omega) (by omega) (by omega)) (rangeSize_nat _ _) (Nat.le_trans (show ((1 + v1) - 0).toNat ≤ 4 by omega) (by decide)) (fun g' => comp_rest (InvS D D1 (L + 1) o9) ⟨_, _, _, us1, ms1, _, [], rfl, hi1, hl1, rfl, fun _ h => (nomatch h), rfl, fun _ h => absurd h (Nat.not_lt_zero _)⟩ ?_ ?_)
  · clear F9 N9 R9
    rintro i ys nw v I oI C oC Dl m2 h7 tk7 E' hin ⟨sd, st, k, us, ms, kk, qs, rfl, hi2, hl2, hql, hq, hy⟩ hv hC hx F7 N7 off ne
    have hD2 : Apart D D1 [(I, oI), (C, oC), (Dl, LCg.lst ys), (L + 1, o9)] := ⟨(hap9 o9).1, fun p hp => by
      have o1 := off.1
      have o2 := off.2.1
      rcases List.mem_cons.mp hp with rfl | hp
      · exact ⟨Ne.symm o1.1, Ne.symm o2.1⟩
      · rcases List.mem_cons.mp hp with rfl | hp
        · exact ⟨Ne.symm o1.2.1, Ne.symm o2.2.1⟩
        · rcases List.mem_cons.mp hp with rfl | hp
          · exact ⟨Ne.symm o1.2.2, Ne.symm o2.2.2⟩
          · exact (hap9 o9).2 p hp⟩
    walk_at "M law"
    refine' take_use [(I, oI), (C, oC), (Dl, LCg.lst ys), (L + 1, o9)] hD2 hi2 hl2 (by omega) ?m1 ?m2 ?ms B F7 X N7 T rfl (by omega) (by omega) ?_
    case m1 => k_mem
    case m2 => k_mem
    case ms => lcg_sub
    clear F7 N7
    intro v2 t2 sd2 st2 k2 us2 ms2 kk2 h6 tk6 hw0 hw1 hi3 hl3 F6 N6
    walk_at "M law"
    refine LCg.CompEnd.intro F6 N6 [(D, dObj D1 sd2 st2 k2), (D1, iObj us2 kk2), (L + 1, o9)] (by lcg_sub) off trivial ⟨_, _, _, us2, ms2, _, qs ++ [v2.toNat], rfl, hi3, hl3, by simp [hql], ?_, ?_⟩
    · intro q hq2
      rcases List.mem_append.mp hq2 with hq2 | hq2
      · exact hq q hq2
      · rw [List.mem_singleton.mp hq2]; omega
    · rw [List.map_append]
      exact txts_snoc hy
  · intro ys nw hInv
    unfold LCg.FinA
    intro Sg h7 tk7 F7 N7 off
    obtain ⟨sd, st, k, us, ms, kk, qs, rfl, hi2, hl2, hql, hq, hy⟩ := hInv
    have hfl := flat_len_le hq
    have hlq : qs.length ≤ 4 := by omega
    have hln : 1 ≤ (flat qs).length ∧ (flat qs).length ≤ 12 := by omega
    have hfe : (flat qs).length + qs.length ≤ 1000 := by omega
    have hapS : Apart D D1 [(Sg, LCg.lst ys), (L + 1, o9)] := ⟨(hap9 o9).1, fun p hp => by
      rcases List.mem_cons.mp hp with rfl | hp
      · exact ⟨Ne.symm off.1, Ne.symm off.2.1⟩
      · exact (hap9 o9).2 p hp⟩
    walk_at "M law"
    rename Fr _ _ _ _ => F9
    rename News _ _ _ _ => N9
    refine' take_use [(Sg, LCg.lst ys), (L + 1, o9)] hapS hi2 hl2 (by omega) ?m1 ?m2 ?ms B F9 X N9 T rfl (by omega) (by omega) ?_
    case m1 => k_mem
    case m2 => k_mem
    case ms => lcg_sub
    clear F9 N9
    (try clear F7 N7)
    intro fi tf sd3 st3 k3 us3 ms3 kk3 h6 tk6 hf0 hf1 hi3 hl3 F6 N6
    walk_at "M st"
    walk_at "M st"
    rename Fr _ _ _ _ => F5
    rename News _ _ _ _ => N5
    have hapT : Apart D D1 [(Sg, LCg.lst ys), (L + 1, o9)] := hapS
    have F6 := fr_ps (ps := [(Str.ofString "first", .int (fi - 1) _), (Str.ofString "size", .int (flat qs).length _), (Str.ofString "written", .str (txt (flat qs)) _), (Str.ofString "signs", .ref Sg)]) F5 (by kst_all)
    exact law_rest w mean mg mb dp un gd L f cdv outer A₀ base h₀ { s with heap := _, toks := _ } _ (fi - 1) _ _ _ Sg D D1 qs ys o9 _ _ _ _ us3 ms3 B F6 X T N5 ho9 hapT hi3 hl3 hq hln hlq hy (by omega) (by omega) hg hdd hun
end Mine
/-! W18 -/
namespace Mine
example : True := by
  w_top off
  trivial
example : PySem.Challenge.rw_ax6033_01 = PySem.Challenge.rw_ax6033_01 → hd.heap_39 = hd.heap_39 → True := by
  k_fill
  intros; trivial

theorem cells_one {cm : Str → Option Value} {l : List (Str × Addr)} {a : Addr} {o : Obj} {n : Str} {c : Addr} (h : CellsAre cm l [(a, o)]) (hl : l = [(n, c)]) (hn : cm n = none) : o.data = .cell none := by
  subst hl
  cases h with
  | cons _ _ => simp_all
theorem fin : PySem.Challenge.rw_ax6033_01.Holds := hd (by
  k_fill
  intro w s₀ s₁ mg mb G Y fa o pm cd doc dV kV ho hd hcd hD hmg hg args vals as hpre hlay hrd hwl hlo
  have KX := kIn_of Y
  have X := (Ground.X G).1
  have V := (Ground.X G).2
  refine Ground.open G ?_
  intro T B D TE TW
  have TA := at_of_top T
  clear hmg
  wrow_args hpre hlay hrd hwl hlo
  all_goals (
    first | refine callC_kw (enter_call ?_) | refine enter_call ?_ | refine callC_kw (enter_callW ?_) | refine enter_callW ?_ | w_how
    w_top on
    have K0 := below_caller (Top.heap T)
    w_call any ho hd hcd hD T F
    clear hd TA
    k_drop
    skip)
  rename Heap.IsList _ _ _ => hL9
  rename IntsAre _ _ => hI9
  rename Fr _ _ _ _ => F9
  rename News _ _ _ _ => N9
  have hl9 := len63 hI9 (by assumption)
  refine wpAny_mono (law_walk _ _ _ _ (1 + claimMargin + 1) 7 (some []) _ _ _ [] callerA _ _ _ _ _ _ _ (below_of F9) F9 KX N9 ?hoc T hL9 hI9 hl9 ?hg room9 unit9) (fun fl s' q => ?_) (fun _ _ x => x.elim)
  case hg => exact .of_eq hg
  case hoc =>
    rename CellsAre _ _ _ => Y9
    exact cells_one Y9 rfl rfl
  · obtain ⟨rfl, h', tk, gens', rfl, hk, hb⟩ := q
    exact ⟨.inl ⟨_, _, [], rfl, fun _ => rfl, ReadsW.bool true, by first | rfl | wrow_post, fun _ => ⟨List.nodup_nil, fun _ hm => nomatch hm⟩⟩, .of_keep hk, rfl, hb⟩)
end Mine
theorem PySem.Challenge.cw_ax6033_01_holds : PySem.Challenge.rw_ax6033_01.Holds := by
  exact Mine.fin
