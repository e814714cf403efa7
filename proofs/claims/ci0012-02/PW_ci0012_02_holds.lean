import PyProof.Rows.All
import Wide.All
import OpenK.AllK
import Wide.FinOn
import Lean
import PySem.Challenge.RW_ci0012_02
open PySem PySem.W PyProof.Rows
set_option Elab.async false
set_option maxRecDepth 100000
set_option maxHeartbeats 8000000

section SHead
namespace Mine
open_top hd for PySem.Challenge.rw_ci0012_02
end Mine
end SHead

section SMB
open PySem PySem.W PyProof.Rows PySem.Calls PySem.Spec
set_option Elab.async false
set_option maxRecDepth 100000
set_option maxHeartbeats 4000000
namespace Mine
def S (l : List Nat) : Str := ⟨l.toArray⟩
@[simp] theorem S_len (l : List Nat) : (S l).length = l.length := by simp [S, Str.length]
@[simp] theorem S_cps (l : List Nat) : (S l).cps.toList = l := by simp [S]
@[simp] theorem S_inj (a b : List Nat) : (S a = S b) = (a = b) := by simp [S]
theorem S_list (x : Str) : S x.cps.toList = x := by cases x; simp [S]

def isWs (c : Nat) : Bool := [32, 9, 10, 13, 12].contains c
def isBl (c : Nat) : Bool := [32, 9].contains c
def isNl (c : Nat) : Bool := [10, 13].contains c
def isAng (c : Nat) : Bool := [60, 10, 13, 0].contains c
def isPunct (c : Nat) : Bool := [33, 34, 35, 36, 37, 38, 39, 40, 41, 42, 43, 44, 45, 46, 47, 58, 59, 60, 61, 62, 63, 64, 91, 92, 93, 94, 95, 96, 123, 124, 125, 126].contains c

section
variable {prog : Program} {w : World} {A : Around} {E : Value → Shared → Prop} {s : Shared} {l : List Nat} {x y : Str} {c d : Nat} {t u : Tok} {Q : Value → Shared → Prop}
theorem in_ch {L : List Nat} (hx : x = S L) (h : Q (.bool (L.contains c)) s) : wpAny (model prog w) A (compareOp .In (.str (S [c]) u) (.str x t)) Q E s := by
  subst hx
  refine in_str ?_
  rw [show (S [c] : Str) = ⟨#[c]⟩ from rfl, StrLaws.found_one]
  have e : decide (c ∈ (S L).cps.toList) = L.contains c := by
    rw [Bool.eq_iff_iff, decide_eq_true_eq]; simp [S]
  rw [e]; exact h
theorem in_ws (h : Q (.bool (isWs c)) s) : wpAny (model prog w) A (compareOp .In (.str (S [c]) u) (.str (Str.ofString " \t\n\x0d\x0c") t)) Q E s := in_ch (by decide) h
theorem in_punct (h : Q (.bool (isPunct c)) s) : wpAny (model prog w) A (compareOp .In (.str (S [c]) u) (.str (Str.ofString "!\"#$%&'()*+,-./:;<=>?@\x5b\\]^_`{|}~") t)) Q E s := in_ch (by decide) h
theorem in_blank (h : Q (.bool (isBl c)) s) : wpAny (model prog w) A (compareOp .In (.str (S [c]) u) (.str (Str.ofString " \t") t)) Q E s := in_ch (by decide) h
theorem in_nl (h : Q (.bool (isNl c)) s) : wpAny (model prog w) A (compareOp .In (.str (S [c]) u) (.str (Str.ofString "\n\x0d") t)) Q E s := in_ch (by decide) h
theorem in_ang (h : Q (.bool (isAng c)) s) : wpAny (model prog w) A (compareOp .In (.str (S [c]) u) (.str (Str.ofString "<\n\x0d\x00") t)) Q E s := in_ch (by decide) h
theorem eq_ch (hy : y = S [d]) (h : Q (.bool (c == d)) s) : wpAny (model prog w) A (compareOp .Eq (.str (S [c]) t) (.str y u)) Q E s := by
  subst hy
  refine eq_str ?_
  have e : ((S [c] : Str) == S [d]) = (c == d) := by
    rw [Bool.eq_iff_iff, beq_iff_eq, beq_iff_eq]; simp [S]
  rw [e]; exact h
theorem ne_ch (hy : y = S [d]) (h : Q (.bool (c != d)) s) : wpAny (model prog w) A (compareOp .NotEq (.str (S [c]) t) (.str y u)) Q E s := by
  subst hy
  refine ne_str ?_
  have e : ((S [c] : Str) != S [d]) = (c != d) := by
    rw [Bool.eq_iff_iff, bne_iff_ne, bne_iff_ne]; simp [S]
  rw [e]; exact h
theorem ord_ch (h : Q (.int (c : Nat) s.toks) { s with toks := s.toks + 1 }) : wpAny (model prog w) A (call (.builtin "ord") [.str (S [c]) t]) Q E s :=
  ord_of_one (by simp [S, Str.length]) (by simpa [S] using h)
theorem item_S {i : Int} (h0 : 0 ≤ i) (h1 : i < l.length) : Txt.item (S l) i = S [l.getD i.toNat 0] := by
  obtain ⟨j, rfl⟩ : ∃ j : Nat, i = j := ⟨i.toNat, by omega⟩
  have hj : j < l.length := by omega
  have hs : seqIndex? (j : Int) (S l).length = some j := by
    rw [S_len]; unfold seqIndex?
    simp only [show ¬ ((j : Int) < 0) by omega, if_false]
    split <;> first | (rename_i h; exfalso; simp at h; omega) | simp
  unfold Txt.item Txt.charAt
  rw [hs]
  simp [S, hj]
theorem sub_S {value slice : Expr} {i : Int} (h0 : 0 ≤ i) (h1 : i < l.length) (hl : l.length < 2 ^ 62)
    (h : Q (.str (S [l.getD i.toNat 0]) s.toks) { s with toks := s.toks + 1 })
    (hs : subscripted slice false (.str (S l) t) (.int i u) = operate [.str (S l) t, .int i u] (getItem (.str (S l) t) (.int i u)) := by with_unfolding_all rfl)
    (ht : ∀ r, letTemporaryGo value (.str (S l) t) r = pure () := by intro _; with_unfolding_all rfl) :
    wpAny (model prog w) A (subscriptTail value slice (.str (S l) t) (.int i u)) Q E s := by
  refine item_str ?_ (by rw [S_len]; omega) (by rw [S_len]; omega) (fun _ => ?_) hs ht
  · exact fitsSsize_of (N := 9223372036854775808) (by omega) (by omega) (Int.le_refl _)
  · rw [item_S h0 h1]; exact h
theorem len_S (hl : l.length < 2 ^ 62) (h : Q (.int l.length (s.toks + 1)) { s with toks := s.toks + 1 + 1 }) : wpAny (model prog w) A (call (.builtin "len") [.str (S l) t]) Q E s :=
  len_str (by rw [S_len]; omega) (by rw [S_len]; exact h)
theorem slice_S {i j : Int} (h0 : 0 ≤ i) (h1 : i ≤ j) (h2 : j ≤ l.length) : Txt.slice (S l) (some i) (some j) = S ((l.drop i.toNat).take (j - i).toNat) := by
  have := slice_closes (x := S l) (i := i) (j := j) ⟨h0, h1, by rw [S_cps]; exact h2⟩
  rw [beq_iff_eq, S_cps] at this
  exact this
end

/-- the place behind the signs of kind p from place j on; the list is the text from j on -/
def scanA (p : Nat → Bool) (j : Nat) : List Nat → Nat
  | [] => j
  | c :: r => if p c = true then scanA p (j + 1) r else j
theorem scanA_le (p : Nat → Bool) (j : Nat) (l : List Nat) : j ≤ scanA p j l ∧ scanA p j l ≤ j + l.length := by
  induction l generalizing j with
  | nil => simp [scanA]
  | cons c r ih =>
    unfold scanA
    split
    · have := ih (j + 1); simp; omega
    · simp
theorem drop_get {l r : List Nat} {j c : Nat} (h : l.drop j = c :: r) : j < l.length ∧ l.getD j 0 = c ∧ l.drop (j + 1) = r := by
  have hj : j < l.length := by
    rcases Nat.lt_or_ge j l.length with q | q
    · exact q
    · rw [List.drop_eq_nil_of_le q] at h; cases h
  rw [List.drop_eq_getElem_cons hj] at h
  injection h with h1 h2
  exact ⟨hj, by simp [List.getD, hj, h1], h2⟩
theorem drop_cons {l : List Nat} {j : Nat} (h : j < l.length) : l.drop j = l.getD j 0 :: l.drop (j + 1) := by
  rw [List.drop_eq_getElem_cons h]
  simp [List.getD, h]
def scanI (p : Nat → Bool) (l : List Nat) (i : Int) : Int := (scanA p i.toNat (l.drop i.toNat) : Nat)
theorem scanI_le (p : Nat → Bool) {l : List Nat} {i : Int} (h0 : 0 ≤ i) (h1 : i ≤ l.length) : i ≤ scanI p l i ∧ scanI p l i ≤ l.length := by
  have := scanA_le p i.toNat (l.drop i.toNat)
  rw [List.length_drop] at this
  unfold scanI; omega
theorem scanI_yes {p : Nat → Bool} {l : List Nat} {i : Int} (h0 : 0 ≤ i) (h : i < l.length) (hc : p (l.getD i.toNat 0) = true) : scanI p l i = scanI p l (i + 1) := by
  unfold scanI
  rw [show (i + 1).toNat = i.toNat + 1 by omega, drop_cons (show i.toNat < l.length by omega), scanA, if_pos hc]
theorem scanI_end {p : Nat → Bool} {l : List Nat} {i : Int} (h : l.length ≤ i) : scanI p l i = i := by
  unfold scanI
  rw [List.drop_eq_nil_of_le (by omega)]; unfold scanA; omega
theorem scanI_no {p : Nat → Bool} {l : List Nat} {i : Int} (h0 : 0 ≤ i) (hc : p (l.getD i.toNat 0) = false) : scanI p l i = i := by
  rcases Int.lt_or_le i l.length with q | q
  · unfold scanI
    rw [drop_cons (show i.toNat < l.length by omega), scanA, if_neg (by rw [hc]; decide)]; omega
  · exact scanI_end q

/-- the loop over the signs of a kind: a turn's end, and the loop's end -/
def ScanNext (p : Nat → Bool) (l : List Nat) (h₀ : Heap) (L : Addr) (s : Shared) (news : List (Addr × Obj)) (m₀ : Str → Option Value) (j : Int) (s₂ : Shared) : Prop :=
  (j < l.length ∧ p (l.getD j.toNat 0) = true) ∧ ∃ h' tk t' m', s₂ = { s with heap := h', toks := tk } ∧ Fr h₀ L h' m' ∧ News h₀ L h' news ∧ m' (Str.ofString "pos") = some (.int (j + 1) t') ∧ ∀ z, z ≠ Str.ofString "pos" → m' z = m₀ z
def ScanStop (p : Nat → Bool) (l : List Nat) (h₀ : Heap) (L : Addr) (s : Shared) (news : List (Addr × Obj)) (m₀ : Str → Option Value) (j : Int) (t : Tok) (s₂ : Shared) : Prop :=
  (l.length ≤ j ∨ p (l.getD j.toNat 0) = false) ∧ ∃ h' tk, s₂ = { s with heap := h', toks := tk } ∧ Fr h₀ L h' (fun z => if z = Str.ofString "pos" then some (.int j t) else m₀ z) ∧ News h₀ L h' news
theorem scan_while {prog : Program} {w : World} {A : Around} {E : Value → Shared → Prop} {Q : Flow → Shared → Prop} {s : Shared} {env : Env} {h₀ : Heap} {L : Addr} {test : Expr} {body : List Stmt} {pos : Pos} {m₀ : Str → Option Value} {news : List (Addr × Obj)} {i₀ : Int} {t₀ : Tok}
    (p : Nat → Bool) (l : List Nat) (F : Fr h₀ L s.heap m₀) (N : News h₀ L s.heap news) (hpos : m₀ (Str.ofString "pos") = some (.int i₀ t₀)) (hi0 : 0 ≤ i₀) (hi1 : i₀ ≤ l.length)
    (turn : ∀ (j : Int) (t : Tok) h tk, 0 ≤ j → j ≤ l.length → Fr h₀ L h (fun z => if z = Str.ofString "pos" then some (.int j t) else m₀ z) → News h₀ L h news →
      wpAny (model prog w) A (isTrue test env (eval test env)) (fun b s₂ =>
        if b = true then wpAny (model prog w) A (execs body env) (fun f s₃ => f = .next ∧ ScanNext p l h₀ L s news m₀ j s₃) E s₂ else ScanStop p l h₀ L s news m₀ j t s₂) E { s with heap := h, toks := tk })
    (exit : ∀ (t : Tok) h tk, i₀ ≤ scanI p l i₀ → scanI p l i₀ ≤ l.length → Fr h₀ L h (fun z => if z = Str.ofString "pos" then some (.int (scanI p l i₀) t) else m₀ z) → News h₀ L h news → Q .next { s with heap := h, toks := tk })
    (hE : PassesOwn (model prog w) A env E := by passes_own) :
    wpAny (model prog w) A (exec (.While test body [] pos) env) Q E s := by
  refine ksw_while (σ := Int × Tok) (fun _ => news) (fun c => [(Str.ofString "pos", .int c.1 c.2)]) (fun _ => True) [] (fun c => 0 ≤ c.1 ∧ c.1 ≤ l.length ∧ scanI p l c.1 = scanI p l i₀) (fun c => (l.length - c.1).toNat) (i₀, t₀) F N trivial ?_ ⟨hi0, hi1, rfl⟩ ?_ hE
  · intro q hq; rw [List.mem_singleton.mp hq]; exact hpos
  · rintro ⟨j, t⟩ u h tk - ⟨a, b, c⟩ FW NW
    refine wpAny_mono (turn j t h tk a b FW NW) (fun bb s₂ hq => ?_) fun _ _ x => x
    cases bb with
    | false =>
      simp only [Bool.false_eq_true, if_false] at hq ⊢
      obtain ⟨hs, h', tk', rfl, F', N'⟩ := hq
      have e : j = scanI p l i₀ := by
        rw [← c]; dsimp only
        rcases hs with hs | hs
        · exact (scanI_end hs).symm
        · exact (scanI_no a hs).symm
      have hle := scanI_le p hi0 hi1
      exact exit t h' tk' hle.1 hle.2 (e ▸ F') N'
    | true =>
      simp only [if_true] at hq ⊢
      refine wpAny_mono hq (fun f s₃ hn => ?_) fun _ _ x => x
      obtain ⟨rfl, ⟨h1, h2⟩, h', tk', t', m', rfl, F', N', hk, hr⟩ := hn
      refine ksw_end (j + 1, t') F' N' (fun _ h => h) trivial ?_ ?_ ⟨by dsimp only at *; omega, by dsimp only; omega, ?_⟩ (by dsimp only; omega)
      · intro q hq; rw [List.mem_singleton.mp hq]; exact hk
      · intro z h2 _; exact hr z (h2 _ (List.mem_singleton.mpr rfl))
      · dsimp only at *; rw [← c]; exact (scanI_yes a h1 h2).symm
/-- how a body ends: the frame and the ledger of its own call, and what the caller is told -/
def Ends (g : Heap) (L' : Addr) (s : Shared) (Post : Value → List (Addr × Obj) → List (Addr × Obj) → Prop) (v : Value) (s' : Shared) : Prop :=
  ∃ h' tk m' new mt', s' = { s with heap := h', toks := tk } ∧ Fr g L' h' m' ∧ News g L' h' (new ++ mt') ∧ Post v new mt'
theorem Ends.mk {g : Heap} {L' : Addr} {s : Shared} {Post : Value → List (Addr × Obj) → List (Addr × Obj) → Prop} {v : Value} {h' : Heap} {tk : Nat} {m' : Str → Option Value} {all : List (Addr × Obj)}
    (new mt' : List (Addr × Obj)) (F : Fr g L' h' m') (N : News g L' h' all) (hs : ∀ p ∈ new ++ mt', p ∈ all) (hp : Post v new mt') : Ends g L' s Post v { s with heap := h', toks := tk } :=
  ⟨h', tk, m', new, mt', rfl, F, fun p hp => N p (hs p hp), hp⟩

/-- a def's contract: called with vs and kw, the mutable part mt of the ledger at hand; dep: how many frames deep it goes -/
abbrev Con (prog : Program) (w : World) (K : Frag) (dep : Nat) (f : Addr) (vs : List Value) (kw : List (Str × Value)) (mt : List (Addr × Obj)) (Post : Value → List (Addr × Obj) → List (Addr × Obj) → Prop) : Prop :=
  ∀ (p : Program) (loose : List Str) (mean : ExcName → Option Value) (mg mb : Str → Option Value) (dp un : Nat) (gd : Option (List Code)) (cn : Str) (cs : Scope) (a : Addr) (ccd : Value) (cl : List (Str × Addr)) (outer : List Env) (A₀ : Around) (base h₀ : Heap) (L : Addr) (m : Str → Option Value) (rest : List (Addr × Obj)) (s : Shared) (Q E : Value → Shared → Prop),
    Below A₀ base outer h₀ → Fr h₀ L s.heap m → K.In h₀ → News h₀ L s.heap (mt ++ rest) → (∀ p ∈ mt, ∀ q ∈ rest, p.1 ≠ q.1) → Top p loose mean mg mb h₀ → cs.kind = .function → dp + dep < recursionLimit → un + 8 * dep < cLine →
    (∀ (v : Value) (h' : Heap) (tk' : Nat) (new mt' : List (Addr × Obj)), Post v new mt' → (∀ p ∈ new ++ mt', ∀ q ∈ rest, p.1 ≠ q.1) → Fr h₀ L h' m → News h₀ L h' (new ++ mt' ++ rest) → Q v { s with heap := h', toks := tk' }) →
      wpAny (model prog w) (ktrTop dp un gd cn cs L a ccd cl outer) (call (.ref f) vs kw) Q E s

/-- the names that a call binds, said ahead of the walk -/
def BindsAre (_ : List (Str × Value)) : Prop := True
theorem con_code {prog : Program} {w : World} {A₀ A : Around} {s : Shared} {base h₀ : Heap} {outer : List Env} {L : Addr} {m mg mb : Str → Option Value} {mt rest : List (Addr × Obj)} {K : Frag} {env : Env} {p : Program} {loose : List Str} {mean : ExcName → Option Value}
    {R : Result → Shared → Prop} {Q : Value → Shared → Prop} {Post : Value → List (Addr × Obj) → List (Addr × Obj) → Prop} {name qual : Str} {params : Arguments} {body : List Stmt} {scope : Scope} {dV kV doc pm cdv ct oc : Value} {an od : Option Addr} {osl : Array (Option Value)} {f : Addr} {args : Args} {binds : List (Str × Value)}
    (_hb : BindsAre binds) (B : Below A₀ base outer h₀) (F : Fr h₀ L s.heap m) (X₀ : K.In h₀) (N : News h₀ L s.heap (mt ++ rest)) (hdis : ∀ p ∈ mt, ∀ q ∈ rest, p.1 ≠ q.1) (T : Top p loose mean mg mb h₀) (hA : A.frames = some (env :: outer)) (hf : env.frame = some L) (hke : env.scope.kind = .function)
    (ho : K.lookup f = some ⟨oc, od, .func (fnOf name qual params body scope dV kV doc pm an cdv ct), osl⟩) (hcd : codeIn K cdv qual = true) (hroom : A.depth < recursionLimit)
    (hbind : BindsTo s (fnOf name qual params body scope dV kV doc pm an cdv ct) args binds) (hloc : ∀ y ∈ binds, scope.names.lookup y.1 = some .local)
    (hret : ∀ (v : Value) (h' : Heap) (tk' : Nat) (new mt' : List (Addr × Obj)), Post v new mt' → (∀ p ∈ new ++ mt', ∀ q ∈ rest, p.1 ≠ q.1) → Fr h₀ L h' m → News h₀ L h' (new ++ mt' ++ rest) → Q v { s with heap := h', toks := tk' })
    (hR : ∀ v s', Q v s' → R (.ok (.ret v)) s')
    (h : ∀ g L' h₁, Fr g L' h₁ (fun y => binds.reverse.lookup y) → News g L' h₁ mt → Below A base (env :: outer) g → K.In g → Top p loose mean mg mb g → (∀ p ∈ mt, p.1 < L') →
      wpAny (model prog w) (A.deeper (envOf qual scope L' f cdv)) (execs body (envOf qual scope L' f cdv))
        (fun fl s' => Ends g L' s Post (match fl with | .ret v => v | _ => .none) s')
        (fun e s' => wpAny (model prog w) (A.deeper (envOf qual scope L' f cdv)) (leaving (envOf qual scope L' f cdv) e) (fun _ s'' => R (.error e) s'') (fun e' s'' => R (.error e') s'') s')
        { s with heap := h₁, toks := s.toks + binds.length })
    (hco : scope.isCoroutine = false) (hgen : scope.isGenerator = false) (hk : scope.kind = .function)
    (hcell : ∀ x ∈ scope.names, x.2 ≠ .cell) : codeAny (model prog w) A (.call (.ref f) args) R s := by
  have Nm : News h₀ L s.heap mt := fun p hp => N p (List.mem_append_left _ hp)
  obtain ⟨FG, BG, st₀, _⟩ := groundX (R := R) B F Nm hA hf hke
  have st : ∀ (b : Addr) (o : Obj), h₀.get? b = some o → (hideAll s.heap (mt.map (·.1))).get? b = some o := st₀
  have KG := X₀.keeps st
  have TG := T.keeps st
  refine codeAny_call_def (fd := fnOf name qual params body scope dV kV doc pm an cdv ct) (body := body) (binds := binds) hroom ((X₀.keeps F.keep) _ _ ho) rfl (T.nolimit.keeps F.keep) (codeRec_of (X₀.keeps F.keep) hcd) rfl hbind hcell hloc (fun h₁ hns hk₁ => ?_) hco hgen hk
  refine wpAny_mono (h (hideAll s.heap (mt.map (·.1))) s.heap.objs.size h₁ ⟨hns, fun b o e => hk₁ b o (of_hideAll _ e), Nat.le_of_eq (hideAll_size _ _)⟩
    (fun p hp => ⟨hk₁ _ _ (Nm p hp).1, Nat.ne_of_lt (Heap.lt_size (Nm p hp).1), hideAll_none _ (List.mem_map_of_mem hp)⟩) BG KG TG (fun p hp => Heap.lt_size (Nm p hp).1)) (fun fl s' hl => ?_) fun _ _ y => y
  obtain ⟨h', tk, m', new, mt', rfl, F', N', hP⟩ := hl
  have hg : ∀ q ∈ rest, (hideAll s.heap (mt.map (·.1))).get? q.1 = some q.2 := fun q hq => hideAll_get _ (N q (List.mem_append_right _ hq)).1 fun hm => by
    obtain ⟨p, hp, e⟩ := List.mem_map.mp hm
    exact hdis p hp q hq e
  obtain ⟨oL, es, ep, hL, hLd, hLk, hLf⟩ := FG.ns
  refine hR _ _ (hret _ h' tk new mt' hP (fun p hp q hq e => ?_) ⟨⟨oL, es, ep, F'.keep _ _ hL, hLd, hLk, hLf⟩, fun b o e => F'.keep b o (st b o e), F.above⟩ fun p hp => ?_)
  · have h1 := (N' p hp).2.2
    rw [e, hg q hq] at h1; cases h1
  · rcases List.mem_append.mp hp with hp | hp
    · refine ⟨(N' p hp).1, fun q => ?_, ?_⟩
      · have h1 := (N' p hp).2.2
        rw [q, hL] at h1; cases h1
      · cases q : h₀.get? p.1 with
        | none => rfl
        | some o => have h1 := (N' p hp).2.2; rw [st _ _ q] at h1; cases h1
    · exact ⟨F'.keep _ _ (hg p hp), (N p (List.mem_append_right _ hp)).2⟩

/-- the part of the text from i up to j -/
def subI (l : List Nat) (i j : Int) : List Nat := (l.drop i.toNat).take (j - i).toNat
theorem subI_len {l : List Nat} {i j : Int} : (subI l i j).length ≤ l.length := by
  unfold subI; rw [List.length_take, List.length_drop]; omega
section
variable {prog : Program} {w : World} {A : Around} {E : Value → Shared → Prop} {s : Shared} {value slice : Expr} {l : List Nat} {t : Tok} {h₀ : Heap} {L : Addr} {m : Str → Option Value} {Q : Value → Shared → Prop} {news : List (Addr × Obj)}
theorem slice_go {i j : Int} {ui uj : Tok} (hF : Fr h₀ L s.heap m) (hN : News h₀ L s.heap news) (h0 : 0 ≤ i) (h1 : i ≤ j) (h2 : j ≤ l.length) (hl : l.length < 2 ^ 20)
    (h : ∀ h' t' k, Fr h₀ L h' m → News h₀ L h' news → Q (.str (S (subI l i j)) t') { s with heap := h', toks := k })
    (hs : subscripted slice false (.str (S l) t) (.ref s.heap.objs.size) = operate [.ref s.heap.objs.size, .str (S l) t] (getItem (.str (S l) t) (.ref s.heap.objs.size)) := by with_unfolding_all rfl)
    (ht : ∀ r, letTemporaryGo value (.str (S l) t) r = pure () := by intro _; with_unfolding_all rfl) :
    wpAny (model prog w) A (subscriptTail value slice (.str (S l) t) (.ref s.heap.objs.size)) Q E { s with heap := s.heap.push { cls := .type "slice", data := .fields #[.int i ui, .int j uj, .none] } } :=
  slice_strN_ss hF hN (fun h' t' k a b => by rw [slice_S h0 h1 h2]; exact h h' t' k a b) hs ht (by rw [S_len, sizeLine_eq]; omega)
end

/-- the place of the closing pointed bracket; the list is the text from j on -/
def angA (j : Nat) : List Nat → Option Nat
  | [] => none
  | c :: [] => if (c == 62) = true then some j else none
  | c :: d :: r =>
    if (c == 62) = true then some j
    else if (c == 92) = true ∧ isPunct d = true then angA (j + 2) r
    else if isAng c = true then none
    else angA (j + 1) (d :: r)
def angI (l : List Nat) (i : Int) : Option Int := Option.map (fun n : Nat => (n : Int)) (angA i.toNat (l.drop i.toNat))
theorem angI_end {l : List Nat} {i : Int} (h : l.length ≤ i) : angI l i = none := by
  unfold angI; rw [List.drop_eq_nil_of_le (by omega)]; rfl
theorem getD_of_le {l : List Nat} {i : Nat} (h : l.length ≤ i) : l.getD i 0 = 0 := by simp [List.getD, List.getElem?_eq_none h]
theorem angI_found {l : List Nat} {i : Int} (h0 : 0 ≤ i) (h1 : i < l.length) (hc : (l.getD i.toNat 0 == 62) = true) : angI l i = some i := by
  unfold angI
  rw [drop_cons (show i.toNat < l.length by omega)]
  have e : ((i.toNat : Nat) : Int) = i := by omega
  cases l.drop (i.toNat + 1) <;> (rw [angA, if_pos hc, Option.map_some, e])
theorem angI_esc {l : List Nat} {i : Int} (h0 : 0 ≤ i) (h1 : i + 1 < l.length) (hc : (l.getD i.toNat 0 == 62) = false) (hb : (l.getD i.toNat 0 == 92) = true) (hp : isPunct (l.getD (i + 1).toNat 0) = true) : angI l i = angI l (i + 2) := by
  unfold angI
  rw [show (i + 2).toNat = i.toNat + 2 by omega, drop_cons (show i.toNat < l.length by omega), drop_cons (show i.toNat + 1 < l.length by omega)]
  rw [show (i + 1).toNat = i.toNat + 1 by omega] at hp
  rw [angA, if_neg (by rw [hc]; decide), if_pos ⟨hb, hp⟩]
theorem angI_bad {l : List Nat} {i : Int} (h0 : 0 ≤ i) (hc : (l.getD i.toNat 0 == 62) = false) (hb : (l.getD i.toNat 0 == 92) = false ∨ isPunct (l.getD (i + 1).toNat 0) = false ∨ l.length ≤ i + 1) (ha : isAng (l.getD i.toNat 0) = true) : angI l i = none := by
  rcases Int.lt_or_le i l.length with q | q
  · unfold angI
    rw [drop_cons (show i.toNat < l.length by omega)]
    rcases Int.lt_or_le (i + 1) l.length with q' | q'
    · rw [drop_cons (show i.toNat + 1 < l.length by omega)]
      rw [show (i + 1).toNat = i.toNat + 1 by omega] at hb
      rw [angA, if_neg (by rw [hc]; decide), if_neg, if_pos ha]; rfl
      rintro ⟨x, y⟩
      rcases hb with hb | hb | hb
      · rw [hb] at x; cases x
      · rw [hb] at y; cases y
      · omega
    · rw [List.drop_eq_nil_of_le (by omega), angA, if_neg (by rw [hc]; decide)]; rfl
  · exact angI_end q
theorem angI_one {l : List Nat} {i : Int} (h0 : 0 ≤ i) (hc : (l.getD i.toNat 0 == 62) = false) (hb : (l.getD i.toNat 0 == 92) = false ∨ isPunct (l.getD (i + 1).toNat 0) = false ∨ l.length ≤ i + 1) (ha : isAng (l.getD i.toNat 0) = false) : angI l i = angI l (i + 1) := by
  rcases Int.lt_or_le i l.length with q | q
  · unfold angI
    rw [show (i + 1).toNat = i.toNat + 1 by omega, drop_cons (show i.toNat < l.length by omega)]
    rcases Int.lt_or_le (i + 1) l.length with q' | q'
    · rw [drop_cons (show i.toNat + 1 < l.length by omega)]
      rw [show (i + 1).toNat = i.toNat + 1 by omega] at hb
      rw [angA, if_neg (by rw [hc]; decide), if_neg, if_neg (by rw [ha]; decide)]
      rintro ⟨x, y⟩
      rcases hb with hb | hb | hb
      · rw [hb] at x; cases x
      · rw [hb] at y; cases y
      · omega
    · rw [List.drop_eq_nil_of_le (by omega), show angA i.toNat [l.getD i.toNat 0] = none by rw [angA, if_neg (by rw [hc]; decide)]]; rfl
  · rw [angI_end q, angI_end (by omega)]
theorem angI_le {l : List Nat} {i e : Int} (h0 : 0 ≤ i) (h : angI l i = some e) : i ≤ e ∧ e < l.length := by
  have key : ∀ (n : Nat) (r : List Nat) (j : Nat) (k : Nat), r.length ≤ n → angA j r = some k → j ≤ k ∧ k < j + r.length := by
    intro n
    induction n with
    | zero =>
      intro r j k hr hk
      rw [List.length_eq_zero_iff.mp (Nat.le_zero.mp hr)] at hk
      cases hk
    | succ n ih =>
      intro r j k hr hk
      match r, hr, hk with
      | [], _, hk => cases hk
      | [c], _, hk =>
        unfold angA at hk
        split at hk
        · cases hk; simp
        · cases hk
      | c :: d :: r, hr, hk =>
        unfold angA at hk
        simp only [List.length_cons] at hr ⊢
        split at hk
        · cases hk; omega
        · split at hk
          · have := ih r (j + 2) k (by omega) hk; omega
          · split at hk
            · cases hk
            · have := ih (d :: r) (j + 1) k (by simp only [List.length_cons]; omega) hk
              simp only [List.length_cons] at this; omega
  unfold angI at h
  obtain ⟨k, hk, rfl⟩ := Option.map_eq_some_iff.mp h
  have := key _ _ _ _ (Nat.le_refl _) hk
  rw [List.length_drop] at this
  omega
abbrev tupObj (vs : List Value) : Obj := { cls := .type "tuple", data := .seq vs.toArray }
theorem decT {c : Prop} [Decidable c] {P Q : Prop} (h : c) (p : P) : if decide c = true then P else Q := by rw [if_pos (decide_eq_true h)]; exact p
theorem decF {c : Prop} [Decidable c] {P Q : Prop} (h : ¬ c) (q : Q) : if decide c = true then P else Q := by rw [if_neg (by simp [h])]; exact q
theorem boolT {b : Bool} {P Q : Prop} (h : b = true) (p : P) : if b = true then P else Q := by rw [if_pos h]; exact p
theorem boolF {b : Bool} {P Q : Prop} (h : b = false) (q : Q) : if b = true then P else Q := by rw [if_neg (by simp [h])]; exact q
/-- the library's while rule with an end of its own name: the walk stops there, and the end is shown by hand -/
def MEnd {σ : Type} (h₀ : Heap) (L : Addr) (s : Shared) (Led : σ → List (Addr × Obj)) (ps : σ → List (Str × Value)) (stored : List Str) (m₀ : Str → Option Value) (P : σ → Prop) (μ : σ → Nat) (c : σ) (s₂ : Shared) : Prop :=
  KswEnd h₀ L s Led ps (fun _ => True) stored m₀ P μ c s₂
def MPost {σ : Type} (h₀ : Heap) (L : Addr) (s : Shared) (Led : σ → List (Addr × Obj)) (ps : σ → List (Str × Value)) (stored : List Str) (m₀ : Str → Option Value) (P : σ → Prop) (μ : σ → Nat) (Q : Flow → Shared → Prop) (c : σ) (f : Flow) (s₂ : Shared) : Prop :=
  match f with
  | .ret v => Q (.ret v) s₂
  | .brk => Q .next s₂
  | _ => MEnd h₀ L s Led ps stored m₀ P μ c s₂
theorem m_end {σ : Type} {h₀ : Heap} {L : Addr} {s : Shared} {Led : σ → List (Addr × Obj)} {ps : σ → List (Str × Value)} {stored : List Str} {m₀ m' : Str → Option Value} {P : σ → Prop} {μ : σ → Nat} {c : σ} {h' : Heap} {tk : Nat} {news' : List (Addr × Obj)} (c' : σ)
    (F : Fr h₀ L h' m') (N : News h₀ L h' news') (hn : ∀ p ∈ Led c', p ∈ news') (hk : ∀ p ∈ ps c', m' p.1 = some p.2) (hr : ∀ z, (∀ p ∈ ps c', z ≠ p.1) → stored.contains z = false → m' z = m₀ z) (hp : P c') (hm : μ c' < μ c) :
    MEnd h₀ L s Led ps stored m₀ P μ c { s with heap := h', toks := tk } := ksw_end c' F N hn trivial hk hr hp hm
theorem m_while {prog : Program} {w : World} {A : Around} {E : Value → Shared → Prop} {Q : Flow → Shared → Prop} {s : Shared} {env : Env} {h₀ : Heap} {L : Addr} {σ : Type} {test : Expr} {body : List Stmt} {pos : Pos} {m₀ : Str → Option Value} (Led : σ → List (Addr × Obj)) (ps : σ → List (Str × Value)) (stored : List Str) (P : σ → Prop) (μ : σ → Nat) (c₀ : σ)
    (F : Fr h₀ L s.heap m₀) (N : News h₀ L s.heap (Led c₀)) (hk : ∀ p ∈ ps c₀, m₀ p.1 = some p.2) (hp : P c₀)
    (turn : ∀ (c : σ) (u : Str → Option Value) h tk, P c → Fr h₀ L h (kstB (fun z => if stored.contains z then u z else m₀ z) (ps c)) → News h₀ L h (Led c) →
      wpAny (model prog w) A (isTrue test env (eval test env)) (fun b s₂ =>
        if b = true then wpAny (model prog w) A (execs body env) (MPost h₀ L s Led ps stored m₀ P μ Q c) E s₂ else Q .next s₂) E { s with heap := h, toks := tk })
    (hE : PassesOwn (model prog w) A env E := by passes_own) :
    wpAny (model prog w) A (exec (.While test body [] pos) env) Q E s := by
  refine ksw_while Led ps (fun _ => True) stored P μ c₀ F N trivial hk hp ?_ hE
  intro c u h tk _ hP FW NW
  refine wpAny_mono (turn c u h tk hP FW NW) (fun b s₂ hq => ?_) fun _ _ x => x
  cases b with
  | false => exact hq
  | true =>
    simp only [if_true] at hq ⊢
    refine wpAny_mono hq (fun f s₃ hn => ?_) fun _ _ x => x
    cases f <;> exact hn
theorem Con.use0 {prog : Program} {w : World} {K : Frag} {dep : Nat} {f : Addr} {vs : List Value} {kw : List (Str × Value)} {Post : Value → List (Addr × Obj) → List (Addr × Obj) → Prop}
    {p : Program} {loose : List Str} {mean : ExcName → Option Value} {mg mb : Str → Option Value} {dp un : Nat} {gd : Option (List Code)} {cn : Str} {cs : Scope} {a : Addr} {ccd : Value} {cl : List (Str × Addr)} {outer : List Env} {A₀ : Around} {base h₀ : Heap} {L : Addr} {m : Str → Option Value} {news : List (Addr × Obj)} {s : Shared} {Q E : Value → Shared → Prop}
    (c : Con prog w K dep f vs kw [] Post) (B : Below A₀ base outer h₀) (F : Fr h₀ L s.heap m) (X : K.In h₀) (N : News h₀ L s.heap news) (T : Top p loose mean mg mb h₀) (hk : cs.kind = .function) (hd : dp + dep < recursionLimit) (hu : un + 8 * dep < cLine)
    (h : ∀ (v : Value) (h' : Heap) (tk' : Nat) (new mt' : List (Addr × Obj)), Post v new mt' → (∀ p ∈ new ++ mt', ∀ q ∈ news, p.1 ≠ q.1) → Fr h₀ L h' m → News h₀ L h' (new ++ mt' ++ news) → Q v { s with heap := h', toks := tk' }) :
    wpAny (model prog w) (ktrTop dp un gd cn cs L a ccd cl outer) (call (.ref f) vs kw) Q E s :=
  c p loose mean mg mb dp un gd cn cs a ccd cl outer A₀ base h₀ L m news s Q E B F X N (fun _ h => nomatch h) T hk hd hu h

/-- behind the blanks and one line's end at the head of a link -/
def startI (l : List Nat) (i : Int) : Int :=
  let j := scanI isBl l i
  if j < l.length ∧ isNl (l.getD j.toNat 0) = true then
    (if l.getD j.toNat 0 = 13 ∧ j + 1 < l.length ∧ l.getD (j + 1).toNat 0 = 10 then scanI isBl l (j + 2) else scanI isBl l (j + 1))
  else j
theorem startI_le {l : List Nat} {i : Int} (h0 : 0 ≤ i) (h1 : i ≤ l.length) : i ≤ startI l i ∧ startI l i ≤ l.length := by
  have a := scanI_le isBl h0 h1
  unfold startI
  dsimp only
  split
  · split
    · have b := scanI_le isBl (l := l) (i := scanI isBl l i + 2) (by omega) (by omega); omega
    · have b := scanI_le isBl (l := l) (i := scanI isBl l i + 1) (by omega) (by omega); omega
  · exact a
/-- the bare destination from place j on, level lv open: none: it fails; else the place where it ends and the level there -/
def hrfA (lim : Int) (j : Nat) (lv : Int) (l : List Nat) : Option (Nat × Int) :=
  match l with
  | [] => some (j, lv)
  | c :: r =>
    if isWs c = true then some (j, lv)
    else if ((c : Nat) : Int) < 32 then none
    else if (c == 127) = true then none
    else if (c == 92) = true ∧ isPunct (r.headD 0) = true then hrfA lim (j + 2) lv r.tail
    else if (c == 40) = true then (if lim < lv + 1 then none else hrfA lim (j + 1) (lv + 1) r)
    else if (c == 41) = true then (if lv = 0 then some (j, lv) else hrfA lim (j + 1) (lv - 1) r)
    else hrfA lim (j + 1) lv r
termination_by l.length
decreasing_by all_goals simp; try omega
def hrfI (lim : Int) (l : List Nat) (i lv : Int) : Option (Int × Int) := Option.map (fun q : Nat × Int => ((q.1 : Int), q.2)) (hrfA lim i.toNat lv (l.drop i.toNat))
theorem headD_drop {l : List Nat} {i : Nat} : (l.drop i).headD 0 = l.getD i 0 := by
  rw [List.headD_eq_head?_getD, List.head?_drop]; rfl
theorem hrfI_end {lim : Int} {l : List Nat} {i lv : Int} (h0 : 0 ≤ i) (h : l.length ≤ i) : hrfI lim l i lv = some (i, lv) := by
  unfold hrfI; rw [List.drop_eq_nil_of_le (by omega), hrfA, Option.map_some]
  have e : ((i.toNat : Nat) : Int) = i := by omega
  simp only [e]
theorem hrfI_eq {lim : Int} {l : List Nat} {i lv : Int} (h0 : 0 ≤ i) (h : i < l.length) : hrfI lim l i lv =
    if isWs (l.getD i.toNat 0) = true then some (i, lv)
    else if ((l.getD i.toNat 0 : Nat) : Int) < 32 then none
    else if (l.getD i.toNat 0 == 127) = true then none
    else if (l.getD i.toNat 0 == 92) = true ∧ isPunct (l.getD (i + 1).toNat 0) = true then hrfI lim l (i + 2) lv
    else if (l.getD i.toNat 0 == 40) = true then (if lim < lv + 1 then none else hrfI lim l (i + 1) (lv + 1))
    else if (l.getD i.toNat 0 == 41) = true then (if lv = 0 then some (i, lv) else hrfI lim l (i + 1) (lv - 1))
    else hrfI lim l (i + 1) lv := by
  have e : ((i.toNat : Nat) : Int) = i := by omega
  unfold hrfI
  rw [show (i + 1).toNat = i.toNat + 1 by omega, show (i + 2).toNat = i.toNat + 2 by omega, drop_cons (show i.toNat < l.length by omega), hrfA, headD_drop, List.tail_drop]
  (repeat' split) <;> first | rfl | simp only [Option.map_some, e] | simp only [Option.map_none]
def notEsc (l : List Nat) (i : Int) : Prop := (l.getD i.toNat 0 == 92) = false ∨ isPunct (l.getD (i + 1).toNat 0) = false ∨ l.length ≤ i + 1
theorem notEsc.not {l : List Nat} {i : Int} (h0 : 0 ≤ i) (h : notEsc l i) : ¬ ((l.getD i.toNat 0 == 92) = true ∧ isPunct (l.getD (i + 1).toNat 0) = true) := by
  rintro ⟨x, y⟩
  rcases h with h | h | h
  · rw [h] at x; cases x
  · rw [h] at y; cases y
  · rw [getD_of_le (by omega)] at y; exact absurd y (by decide)
section
variable {lim : Int} {l : List Nat} {i lv : Int}
theorem hrf_ws (h0 : 0 ≤ i) (h : i < l.length) (a : isWs (l.getD i.toNat 0) = true) : hrfI lim l i lv = some (i, lv) := by
  rw [hrfI_eq h0 h, if_pos a]
theorem hrf_ctl (h0 : 0 ≤ i) (h : i < l.length) (a : isWs (l.getD i.toNat 0) = false) (b : ((l.getD i.toNat 0 : Nat) : Int) < 32) : hrfI lim l i lv = none := by
  rw [hrfI_eq h0 h, if_neg (by simp only [a]; decide), if_pos b]
theorem hrf_del (h0 : 0 ≤ i) (h : i < l.length) (a : isWs (l.getD i.toNat 0) = false) (b : ¬ ((l.getD i.toNat 0 : Nat) : Int) < 32) (c : (l.getD i.toNat 0 == 127) = true) : hrfI lim l i lv = none := by
  rw [hrfI_eq h0 h, if_neg (by simp only [a]; decide), if_neg b, if_pos c]
theorem hrf_esc (h0 : 0 ≤ i) (h : i < l.length) (a : isWs (l.getD i.toNat 0) = false) (b : ¬ ((l.getD i.toNat 0 : Nat) : Int) < 32) (c : (l.getD i.toNat 0 == 127) = false) (d : (l.getD i.toNat 0 == 92) = true) (e : isPunct (l.getD (i + 1).toNat 0) = true) : hrfI lim l i lv = hrfI lim l (i + 2) lv := by
  rw [hrfI_eq h0 h, if_neg (by simp only [a]; decide), if_neg b, if_neg (by simp only [c]; decide), if_pos ⟨d, e⟩]
theorem hrf_over (h0 : 0 ≤ i) (h : i < l.length) (a : isWs (l.getD i.toNat 0) = false) (b : ¬ ((l.getD i.toNat 0 : Nat) : Int) < 32) (c : (l.getD i.toNat 0 == 127) = false) (d : notEsc l i) (e : (l.getD i.toNat 0 == 40) = true) (g : lim < lv + 1) : hrfI lim l i lv = none := by
  rw [hrfI_eq h0 h, if_neg (by simp only [a]; decide), if_neg b, if_neg (by simp only [c]; decide), if_neg (d.not h0), if_pos e, if_pos g]
theorem hrf_open (h0 : 0 ≤ i) (h : i < l.length) (a : isWs (l.getD i.toNat 0) = false) (b : ¬ ((l.getD i.toNat 0 : Nat) : Int) < 32) (c : (l.getD i.toNat 0 == 127) = false) (d : notEsc l i) (e : (l.getD i.toNat 0 == 40) = true) (g : ¬ lim < lv + 1) : hrfI lim l i lv = hrfI lim l (i + 1) (lv + 1) := by
  rw [hrfI_eq h0 h, if_neg (by simp only [a]; decide), if_neg b, if_neg (by simp only [c]; decide), if_neg (d.not h0), if_pos e, if_neg g]
theorem hrf_stop (h0 : 0 ≤ i) (h : i < l.length) (a : isWs (l.getD i.toNat 0) = false) (b : ¬ ((l.getD i.toNat 0 : Nat) : Int) < 32) (c : (l.getD i.toNat 0 == 127) = false) (d : notEsc l i) (e : (l.getD i.toNat 0 == 40) = false) (g : (l.getD i.toNat 0 == 41) = true) (k : lv = 0) : hrfI lim l i lv = some (i, lv) := by
  rw [hrfI_eq h0 h, if_neg (by simp only [a]; decide), if_neg b, if_neg (by simp only [c]; decide), if_neg (d.not h0), if_neg (by simp only [e]; decide), if_pos g, if_pos k]
theorem hrf_close (h0 : 0 ≤ i) (h : i < l.length) (a : isWs (l.getD i.toNat 0) = false) (b : ¬ ((l.getD i.toNat 0 : Nat) : Int) < 32) (c : (l.getD i.toNat 0 == 127) = false) (d : notEsc l i) (e : (l.getD i.toNat 0 == 40) = false) (g : (l.getD i.toNat 0 == 41) = true) (k : ¬ lv = 0) : hrfI lim l i lv = hrfI lim l (i + 1) (lv - 1) := by
  rw [hrfI_eq h0 h, if_neg (by simp only [a]; decide), if_neg b, if_neg (by simp only [c]; decide), if_neg (d.not h0), if_neg (by simp only [e]; decide), if_pos g, if_neg k]
theorem hrf_one (h0 : 0 ≤ i) (h : i < l.length) (a : isWs (l.getD i.toNat 0) = false) (b : ¬ ((l.getD i.toNat 0 : Nat) : Int) < 32) (c : (l.getD i.toNat 0 == 127) = false) (d : notEsc l i) (e : (l.getD i.toNat 0 == 40) = false) (g : (l.getD i.toNat 0 == 41) = false) : hrfI lim l i lv = hrfI lim l (i + 1) lv := by
  rw [hrfI_eq h0 h, if_neg (by simp only [a]; decide), if_neg b, if_neg (by simp only [c]; decide), if_neg (d.not h0), if_neg (by simp only [e]; decide), if_neg (by simp only [g]; decide)]
end
/-- the destination of a link: its text and the place behind it -/
def hrefR (lim : Int) (l : List Nat) (i : Int) : Option (List Nat × Int) :=
  let p := startI l i
  if l.length ≤ p then none
  else if (l.getD p.toNat 0 == 60) = true then (match angI l (p + 1) with | some e => some (subI l (p + 1) e, e + 1) | none => none)
  else match hrfI lim l p 0 with | some (e, lv) => (if lv = 0 then some (subI l p e, e) else none) | none => none
section
variable {lim : Int} {l : List Nat} {i : Int}
theorem hrefR_end (h : l.length ≤ startI l i) : hrefR lim l i = none := by unfold hrefR; dsimp only; rw [if_pos h]
theorem hrefR_angS {e : Int} (h : ¬ l.length ≤ startI l i) (a : (l.getD (startI l i).toNat 0 == 60) = true) (b : angI l (startI l i + 1) = some e) : hrefR lim l i = some (subI l (startI l i + 1) e, e + 1) := by
  unfold hrefR; dsimp only; rw [if_neg h, if_pos a, b]
theorem hrefR_angN (h : ¬ l.length ≤ startI l i) (a : (l.getD (startI l i).toNat 0 == 60) = true) (b : angI l (startI l i + 1) = none) : hrefR lim l i = none := by
  unfold hrefR; dsimp only; rw [if_neg h, if_pos a, b]
theorem hrefR_none (h : ¬ l.length ≤ startI l i) (a : (l.getD (startI l i).toNat 0 == 60) = false) (b : hrfI lim l (startI l i) 0 = none) : hrefR lim l i = none := by
  unfold hrefR; dsimp only; rw [if_neg h, if_neg (by simp only [a]; decide), b]
theorem hrefR_open {e lv : Int} (h : ¬ l.length ≤ startI l i) (a : (l.getD (startI l i).toNat 0 == 60) = false) (b : hrfI lim l (startI l i) 0 = some (e, lv)) (c : lv ≠ 0) : hrefR lim l i = none := by
  unfold hrefR; dsimp only; rw [if_neg h, if_neg (by simp only [a]; decide), b]; dsimp only; rw [if_neg c]
theorem hrefR_some {e lv : Int} (h : ¬ l.length ≤ startI l i) (a : (l.getD (startI l i).toNat 0 == 60) = false) (b : hrfI lim l (startI l i) 0 = some (e, lv)) (c : lv = 0) : hrefR lim l i = some (subI l (startI l i) e, e) := by
  unfold hrefR; dsimp only; rw [if_neg h, if_neg (by simp only [a]; decide), b]; dsimp only; rw [if_pos c]
end
theorem mem_one {x : Addr × Obj} {r : List (Addr × Obj)} : ∀ p ∈ [x] ++ [], p ∈ x :: r := by
  intro p hp
  rw [List.append_nil, List.mem_singleton] at hp
  rw [hp]; exact List.mem_cons_self ..
section
variable {prog : Program} {w : World} {A : Around} {E : Value → Shared → Prop} {s : Shared} {a b : List Nat} {x y : Str} {c : Nat} {t u : Tok}
theorem truthy_S {Q : Bool → Shared → Prop} (hl : a.length < 2 ^ 62) (h : Q (!a.isEmpty) { s with toks := s.toks + 1 + 1 }) : wpAny (model prog w) A (truthy (.str (S a) t)) Q E s := by
  refine P.truthy_str (by rw [S_len]; omega) ?_
  rw [S_len]
  have e : (((a.length : Nat) : Int) != 0) = !a.isEmpty := by cases a <;> simp <;> omega
  rw [e]; exact h
theorem truthy_cons {Q : Bool → Shared → Prop} (hl : a.length < 2 ^ 61) (h : Q true { s with toks := s.toks + 1 + 1 }) : wpAny (model prog w) A (truthy (.str (S (c :: a)) t)) Q E s :=
  truthy_S (by simp only [List.length_cons]; omega) h
theorem add_SS {Q : Value → Shared → Prop} (hx : x = S a) (hy : y = S b) (hl : a.length + b.length ≤ 2 ^ 22) (h : ∀ t' tk, Q (.str (S (a ++ b)) t') { s with toks := tk }) : wpAny (model prog w) A (binaryOp .Add (.str x t) (.str y u)) Q E s := by
  subst hx hy
  refine PyProof.Rows.add_str (fun t' tk => ?_) (by rw [S_len, S_len, sizeLine_eq]; omega)
  have e : S a ++ S b = S (a ++ b) := by show Str.append _ _ = _; simp [Str.append, S]
  rw [e]; exact h t' tk
end
theorem notin_ws {prog : Program} {w : World} {A : Around} {E : Value → Shared → Prop} {s : Shared} {c : Nat} {t u : Tok} {Q : Value → Shared → Prop} (h : Q (.bool (!isWs c)) s) : wpAny (model prog w) A (compareOp .NotIn (.str (S [c]) u) (.str (Str.ofString " \t\n\x0d\x0c") t)) Q E s := by
  have hx : Str.ofString " \t\n\x0d\x0c" = S [32, 9, 10, 13, 12] := by decide
  rw [hx]
  refine notIn_str ?_
  rw [show (S [c] : Str) = ⟨#[c]⟩ from rfl, StrLaws.found_one]
  have e : decide (c ∈ (S [32, 9, 10, 13, 12]).cps.toList) = isWs c := by
    rw [Bool.eq_iff_iff, decide_eq_true_eq]; simp [isWs]
  rw [e]; exact h
end Mine

end SMB

section SCA
open PySem PySem.W PyProof.Rows PySem.Calls PySem.Spec
theorem Mine.offCA : True := by w_top off; exact trivial
namespace Mine
section
local macro_rules | `(tactic| cell_enter) => `(tactic| (refine wpAny_call ?_; refine' con_code (by assumption) ?k1 ?k2 ?k3 ?k4 ?kz ?k5 ?kA ?kF ?kK ?k6 ?k7 ?k8 ?k9 ?kB (by assumption) ?kQ ?_ ?c2 ?c3 ?c4 ?c5; (case kA => exact rfl); (case kF => exact rfl); (case kK => assumption); (case k1 => k_asm); (case k2 => k_asm); (case k3 => k_asm); (case k4 => k_asm); (case kz => assumption); (case k5 => k_asm); (case k6 => k_is); (case k7 => k_is); (case k8 => ktr_room); (case k9 => (refine' kp_binds ?kx ?ke; (case kx => k_in); (case ke => exact fun _ => rfl))); (case kQ => exact fun _ _ q => q); (case c5 => decide); (case kB => exact locs rfl); (case c2 => exact rfl); (case c3 => exact rfl); (case c4 => exact rfl); k_whole; intro g' L' h' F' N' B' X' T' l0; (try k_lt l0); (try dsimp only); (try k_fold)))
local macro_rules | `(tactic| walk_at "subscriptTail") => `(tactic| ((with_reducible show wpAny _ _ (subscriptTail _ _ (Value.str (S _) _) (Value.int _ _)) _ _ _); refine sub_S (by omega) (by omega) (by omega) ?_))
local macro_rules | `(tactic| walk_at "subscriptTail Name Name str int") => `(tactic| (refine sub_S (by omega) (by omega) (by omega) ?_))
local macro_rules | `(tactic| walk_at "compareOp In str str") => `(tactic| first | refine in_ws ?_ | refine in_punct ?_ | refine in_blank ?_ | refine in_nl ?_ | refine in_ang ?_)
local macro_rules | `(tactic| walk_at "call builtin:len") => `(tactic| refine len_S (by omega) ?_)
local macro_rules | `(tactic| walk_at "call builtin:ord") => `(tactic| refine ord_ch ?_)
local macro_rules | `(tactic| walk_at "compareOp Eq str str") => `(tactic| first
  | refine eq_ch (d := 60) (by decide : Str.ofString "<" = S [60]) ?_
  | refine eq_ch (d := 62) (by decide : Str.ofString ">" = S [62]) ?_
  | refine eq_ch (d := 10) (by decide : Str.ofString "\n" = S [10]) ?_
  | refine eq_ch (d := 13) (by decide : Str.ofString "\x0d" = S [13]) ?_
  | refine eq_ch (d := 40) (by decide : Str.ofString "(" = S [40]) ?_
  | refine eq_ch (d := 41) (by decide : Str.ofString ")" = S [41]) ?_
  | refine eq_ch (d := 92) (by decide : Str.ofString "\\" = S [92]) ?_
  | refine eq_ch (d := 0) (by decide : Str.ofString "\x00" = S [0]) ?_
  | refine eq_ch (d := 127) (by decide : Str.ofString "\x7f" = S [127]) ?_)
local macro_rules | `(tactic| walk_at "compareOp NotEq str str") => `(tactic| first
  | refine ne_ch (d := 41) (by decide : Str.ofString ")" = S [41]) ?_)
local macro_rules | `(tactic| walk_at "subscriptTail Name Slice str ref") => `(tactic| ((with_reducible show wpAny _ _ (subscriptTail _ (Expr.Slice (some _) (some _) none _) (Value.str (S _) _) _) _ _ _); (refine slice_go (s := ⟨_, _, _, _, _⟩) (by assumption) (by assumption) (by omega) (by omega) (by omega) (by omega) ?_); intro h' t' tk' F' N'))
local macro_rules | `(tactic| walk_at "ite") => `(tactic| first
  | with_reducible refine ite_tt ?_ | with_reducible refine ite_ff ?_ | with_reducible refine split_not ?_
  | with_reducible refine boolT (by with_reducible assumption) ?_ | with_reducible refine boolF (by with_reducible assumption) ?_
  | with_reducible refine decT (by omega) ?_ | with_reducible refine decF (by omega) ?_
  | (with_reducible refine split_ine ?_ ?_ <;> intro _) | (with_reducible refine split_ieq ?_ ?_ <;> intro _)
  | (with_reducible refine PyProof.Rows.split_dec ?_ ?_ <;> intro _) | (with_reducible refine PyProof.Rows.split_bool ?_ ?_ <;> intro _))
local macro_rules | `(tactic| ksw_same) => `(tactic| (intro z h2 h3; (simp only [List.forall_mem_cons, List.not_mem_nil, false_implies, implies_true, and_true, ne_eq] at h2); (simp only [List.contains_cons, List.contains_nil, Bool.or_false, Bool.or_eq_false_iff, beq_eq_false_iff_ne, ne_eq] at h3); simp only [h2, h3, if_false, List.contains_cons, List.contains_nil, Bool.or_false, Bool.or_eq_true, beq_iff_eq, or_self, or_false, false_or, Bool.false_eq_true]))
local macro_rules | `(tactic| walk_at "MPost") => `(tactic| (dsimp only [MPost]))
local macro_rules | `(tactic| walk_at "truthy str") => `(tactic| first | refine truthy_cons (by simp only [List.length_nil]; omega) ?_ | refine truthy_S (by omega) ?_)
local macro_rules | `(tactic| walk_at "binaryOp Add str str") => `(tactic| first
  | (refine add_SS (a := []) (b := _) (by decide : Str.ofString "" = S []) rfl (by simp only [List.length_nil, List.length_cons]; omega) ?_; intro t' tk')
  | (refine add_SS rfl rfl (by simp only [List.length_nil, List.length_cons, List.length_append]; omega) ?_; intro t' tk'))
local macro_rules | `(tactic| walk_at "compareOp NotIn str str") => `(tactic| refine notin_ws ?_)

theorem c_skip (w : World) (l : List Nat) (tx ti : Tok) (i : Int) (h0 : 0 ≤ i) (h1 : i ≤ l.length) (h2 : l.length < 2 ^ 62) :
    Con PySem.Challenge.rw_ci0012_02.row.prog w (hd.heap_39 w.params) 1 121 [.str (S l) tx, .int i ti] [] [] (fun v new mt => (∃ t, v = .int (scanI isWs l i) t) ∧ new = [] ∧ mt = []) := by
  k_fill
  intro p loose mean mg mb dp un gd cn cs a ccd cl outer A₀ base h₀ L m rest s Q E B F X N hz T hk hdp hun hret
  k_with_none
  k_with "exec While BoolOp cons nil" => (refine scan_while isWs l (by assumption) (by assumption) rfl (by assumption) (by assumption) (fun j tj h tk hj0 hj1 FW NW => ?_) (fun tj h tk hl0 hl1 FW NW => ?_))
  k_with "And" => (refine ⟨rfl, ?_⟩)
  k_with "ScanNext" => exact ⟨⟨by assumption, by assumption⟩, _, _, _, _, rfl, by assumption, by assumption, rfl, by intro z hz; simp [hz]⟩
  k_with "ScanStop" => exact ⟨by first | exact Or.inr (by assumption) | exact Or.inl (by omega), _, _, rfl, by assumption, by assumption⟩
  have hb : BindsAre [(Str.ofString "src", .str (S l) tx), (Str.ofString "pos", .int i ti), (Str.ofString "max_pos", .none)] := trivial
  k_dflt cell_enter
  clear B F X N hz T hret
  k_steps
  exact Ends.mk [] [] (by assumption) (by assumption) (fun _ h => nomatch h) ⟨⟨_, rfl⟩, rfl, rfl⟩
theorem c_skip3 (w : World) (l : List Nat) (tx ti tn : Tok) (i : Int) (h0 : 0 ≤ i) (h1 : i ≤ l.length) (h2 : l.length < 2 ^ 62) :
    Con PySem.Challenge.rw_ci0012_02.row.prog w (hd.heap_39 w.params) 1 121 [.str (S l) tx, .int i ti, .int l.length tn] [] [] (fun v new mt => (∃ t, v = .int (scanI isWs l i) t) ∧ new = [] ∧ mt = []) := by
  k_fill
  intro p loose mean mg mb dp un gd cn cs a ccd cl outer A₀ base h₀ L m rest s Q E B F X N hz T hk hdp hun hret
  k_with_none
  k_with "exec While BoolOp cons nil" => (refine scan_while isWs l (by assumption) (by assumption) rfl (by assumption) (by assumption) (fun j tj h tk hj0 hj1 FW NW => ?_) (fun tj h tk hl0 hl1 FW NW => ?_))
  k_with "And" => (refine ⟨rfl, ?_⟩)
  k_with "ScanNext" => exact ⟨⟨by assumption, by assumption⟩, _, _, _, _, rfl, by assumption, by assumption, rfl, by intro z hz; simp [hz]⟩
  k_with "ScanStop" => exact ⟨by first | exact Or.inr (by assumption) | exact Or.inl (by omega), _, _, rfl, by assumption, by assumption⟩
  have hb : BindsAre [(Str.ofString "src", .str (S l) tx), (Str.ofString "pos", .int i ti), (Str.ofString "max_pos", .int l.length tn)] := trivial
  k_dflt cell_enter
  clear B F X N hz T hret
  k_steps
  exact Ends.mk [] [] (by assumption) (by assumption) (fun _ h => nomatch h) ⟨⟨_, rfl⟩, rfl, rfl⟩
end
end Mine

end SCA

section SCB
open PySem PySem.W PyProof.Rows PySem.Calls PySem.Spec
theorem Mine.offCB : True := by w_top off; exact trivial
namespace Mine
section
local macro_rules | `(tactic| cell_enter) => `(tactic| (refine wpAny_call ?_; refine' con_code (by assumption) ?k1 ?k2 ?k3 ?k4 ?kz ?k5 ?kA ?kF ?kK ?k6 ?k7 ?k8 ?k9 ?kB (by assumption) ?kQ ?_ ?c2 ?c3 ?c4 ?c5; (case kA => exact rfl); (case kF => exact rfl); (case kK => assumption); (case k1 => k_asm); (case k2 => k_asm); (case k3 => k_asm); (case k4 => k_asm); (case kz => assumption); (case k5 => k_asm); (case k6 => k_is); (case k7 => k_is); (case k8 => ktr_room); (case k9 => (refine' kp_binds ?kx ?ke; (case kx => k_in); (case ke => exact fun _ => rfl))); (case kQ => exact fun _ _ q => q); (case c5 => decide); (case kB => exact locs rfl); (case c2 => exact rfl); (case c3 => exact rfl); (case c4 => exact rfl); k_whole; intro g' L' h' F' N' B' X' T' l0; (try k_lt l0); (try dsimp only); (try k_fold)))
local macro_rules | `(tactic| walk_at "subscriptTail") => `(tactic| ((with_reducible show wpAny _ _ (subscriptTail _ _ (Value.str (S _) _) (Value.int _ _)) _ _ _); refine sub_S (by omega) (by omega) (by omega) ?_))
local macro_rules | `(tactic| walk_at "subscriptTail Name Name str int") => `(tactic| (refine sub_S (by omega) (by omega) (by omega) ?_))
local macro_rules | `(tactic| walk_at "compareOp In str str") => `(tactic| first | refine in_ws ?_ | refine in_punct ?_ | refine in_blank ?_ | refine in_nl ?_ | refine in_ang ?_)
local macro_rules | `(tactic| walk_at "call builtin:len") => `(tactic| refine len_S (by omega) ?_)
local macro_rules | `(tactic| walk_at "call builtin:ord") => `(tactic| refine ord_ch ?_)
local macro_rules | `(tactic| walk_at "compareOp Eq str str") => `(tactic| first
  | refine eq_ch (d := 60) (by decide : Str.ofString "<" = S [60]) ?_
  | refine eq_ch (d := 62) (by decide : Str.ofString ">" = S [62]) ?_
  | refine eq_ch (d := 10) (by decide : Str.ofString "\n" = S [10]) ?_
  | refine eq_ch (d := 13) (by decide : Str.ofString "\x0d" = S [13]) ?_
  | refine eq_ch (d := 40) (by decide : Str.ofString "(" = S [40]) ?_
  | refine eq_ch (d := 41) (by decide : Str.ofString ")" = S [41]) ?_
  | refine eq_ch (d := 92) (by decide : Str.ofString "\\" = S [92]) ?_
  | refine eq_ch (d := 0) (by decide : Str.ofString "\x00" = S [0]) ?_
  | refine eq_ch (d := 127) (by decide : Str.ofString "\x7f" = S [127]) ?_)
local macro_rules | `(tactic| walk_at "compareOp NotEq str str") => `(tactic| first
  | refine ne_ch (d := 41) (by decide : Str.ofString ")" = S [41]) ?_)
local macro_rules | `(tactic| walk_at "subscriptTail Name Slice str ref") => `(tactic| ((with_reducible show wpAny _ _ (subscriptTail _ (Expr.Slice (some _) (some _) none _) (Value.str (S _) _) _) _ _ _); (refine slice_go (s := ⟨_, _, _, _, _⟩) (by assumption) (by assumption) (by omega) (by omega) (by omega) (by omega) ?_); intro h' t' tk' F' N'))
local macro_rules | `(tactic| walk_at "ite") => `(tactic| first
  | with_reducible refine ite_tt ?_ | with_reducible refine ite_ff ?_ | with_reducible refine split_not ?_
  | with_reducible refine boolT (by with_reducible assumption) ?_ | with_reducible refine boolF (by with_reducible assumption) ?_
  | with_reducible refine decT (by omega) ?_ | with_reducible refine decF (by omega) ?_
  | (with_reducible refine split_ine ?_ ?_ <;> intro _) | (with_reducible refine split_ieq ?_ ?_ <;> intro _)
  | (with_reducible refine PyProof.Rows.split_dec ?_ ?_ <;> intro _) | (with_reducible refine PyProof.Rows.split_bool ?_ ?_ <;> intro _))
local macro_rules | `(tactic| ksw_same) => `(tactic| (intro z h2 h3; (simp only [List.forall_mem_cons, List.not_mem_nil, false_implies, implies_true, and_true, ne_eq] at h2); (simp only [List.contains_cons, List.contains_nil, Bool.or_false, Bool.or_eq_false_iff, beq_eq_false_iff_ne, ne_eq] at h3); simp only [h2, h3, if_false, List.contains_cons, List.contains_nil, Bool.or_false, Bool.or_eq_true, beq_iff_eq, or_self, or_false, false_or, Bool.false_eq_true]))
local macro_rules | `(tactic| walk_at "MPost") => `(tactic| (dsimp only [MPost]))
local macro_rules | `(tactic| walk_at "truthy str") => `(tactic| first | refine truthy_cons (by simp only [List.length_nil]; omega) ?_ | refine truthy_S (by omega) ?_)
local macro_rules | `(tactic| walk_at "binaryOp Add str str") => `(tactic| first
  | (refine add_SS (a := []) (b := _) (by decide : Str.ofString "" = S []) rfl (by simp only [List.length_nil, List.length_cons]; omega) ?_; intro t' tk')
  | (refine add_SS rfl rfl (by simp only [List.length_nil, List.length_cons, List.length_append]; omega) ?_; intro t' tk'))
local macro_rules | `(tactic| walk_at "compareOp NotIn str str") => `(tactic| refine notin_ws ?_)

theorem c_start (w : World) (l : List Nat) (tx ti : Tok) (i : Int) (h0 : 0 ≤ i) (h1 : i ≤ l.length) (h2 : l.length < 2 ^ 62) :
    Con PySem.Challenge.rw_ci0012_02.row.prog w (hd.heap_39 w.params) 1 128 [.str (S l) tx, .int i ti] [] [] (fun v new mt => (∃ t, v = .int (startI l i) t) ∧ new = [] ∧ mt = []) := by
  k_fill
  intro p loose mean mg mb dp un gd cn cs a ccd cl outer A₀ base h₀ L m rest s Q E B F X N hz T hk hdp hun hret
  k_with_none
  k_with "exec While BoolOp cons nil" => (refine scan_while isBl l (by assumption) (by assumption) rfl (by omega) (by omega) (fun j tj h tk hj0 hj1 FW NW => ?_) (fun tj h tk hl0 hl1 FW NW => ?_))
  k_with "And" => (refine ⟨rfl, ?_⟩)
  k_with "ScanNext" => exact ⟨⟨by assumption, by assumption⟩, _, _, _, _, rfl, by assumption, by assumption, rfl, by intro z hz; simp [hz]⟩
  k_with "ScanStop" => exact ⟨by first | exact Or.inr (by assumption) | exact Or.inl (by omega), _, _, rfl, by assumption, by assumption⟩
  have hb : BindsAre [(Str.ofString "src", .str (S l) tx), (Str.ofString "pos", .int i ti)] := trivial
  k_dflt cell_enter
  clear B F X N hz T hret
  k_steps
  all_goals (refine Ends.mk [] [] (by assumption) (by assumption) (fun _ h => nomatch h) ⟨⟨_, congrArg (Value.int · _) ?_⟩, rfl, rfl⟩)

  all_goals (simp only [startI]; simp_all <;> (intros; omega))
end
end Mine

end SCB

section SCC
open PySem PySem.W PyProof.Rows PySem.Calls PySem.Spec
theorem Mine.offCC : True := by w_top off; exact trivial
namespace Mine
section
local macro_rules | `(tactic| cell_enter) => `(tactic| (refine wpAny_call ?_; refine' con_code (by assumption) ?k1 ?k2 ?k3 ?k4 ?kz ?k5 ?kA ?kF ?kK ?k6 ?k7 ?k8 ?k9 ?kB (by assumption) ?kQ ?_ ?c2 ?c3 ?c4 ?c5; (case kA => exact rfl); (case kF => exact rfl); (case kK => assumption); (case k1 => k_asm); (case k2 => k_asm); (case k3 => k_asm); (case k4 => k_asm); (case kz => assumption); (case k5 => k_asm); (case k6 => k_is); (case k7 => k_is); (case k8 => ktr_room); (case k9 => (refine' kp_binds ?kx ?ke; (case kx => k_in); (case ke => exact fun _ => rfl))); (case kQ => exact fun _ _ q => q); (case c5 => decide); (case kB => exact locs rfl); (case c2 => exact rfl); (case c3 => exact rfl); (case c4 => exact rfl); k_whole; intro g' L' h' F' N' B' X' T' l0; (try k_lt l0); (try dsimp only); (try k_fold)))
local macro_rules | `(tactic| walk_at "subscriptTail") => `(tactic| ((with_reducible show wpAny _ _ (subscriptTail _ _ (Value.str (S _) _) (Value.int _ _)) _ _ _); refine sub_S (by omega) (by omega) (by omega) ?_))
local macro_rules | `(tactic| walk_at "subscriptTail Name Name str int") => `(tactic| (refine sub_S (by omega) (by omega) (by omega) ?_))
local macro_rules | `(tactic| walk_at "compareOp In str str") => `(tactic| first | refine in_ws ?_ | refine in_punct ?_ | refine in_blank ?_ | refine in_nl ?_ | refine in_ang ?_)
local macro_rules | `(tactic| walk_at "call builtin:len") => `(tactic| refine len_S (by omega) ?_)
local macro_rules | `(tactic| walk_at "call builtin:ord") => `(tactic| refine ord_ch ?_)
local macro_rules | `(tactic| walk_at "compareOp Eq str str") => `(tactic| first
  | refine eq_ch (d := 60) (by decide : Str.ofString "<" = S [60]) ?_
  | refine eq_ch (d := 62) (by decide : Str.ofString ">" = S [62]) ?_
  | refine eq_ch (d := 10) (by decide : Str.ofString "\n" = S [10]) ?_
  | refine eq_ch (d := 13) (by decide : Str.ofString "\x0d" = S [13]) ?_
  | refine eq_ch (d := 40) (by decide : Str.ofString "(" = S [40]) ?_
  | refine eq_ch (d := 41) (by decide : Str.ofString ")" = S [41]) ?_
  | refine eq_ch (d := 92) (by decide : Str.ofString "\\" = S [92]) ?_
  | refine eq_ch (d := 0) (by decide : Str.ofString "\x00" = S [0]) ?_
  | refine eq_ch (d := 127) (by decide : Str.ofString "\x7f" = S [127]) ?_)
local macro_rules | `(tactic| walk_at "compareOp NotEq str str") => `(tactic| first
  | refine ne_ch (d := 41) (by decide : Str.ofString ")" = S [41]) ?_)
local macro_rules | `(tactic| walk_at "subscriptTail Name Slice str ref") => `(tactic| ((with_reducible show wpAny _ _ (subscriptTail _ (Expr.Slice (some _) (some _) none _) (Value.str (S _) _) _) _ _ _); (refine slice_go (s := ⟨_, _, _, _, _⟩) (by assumption) (by assumption) (by omega) (by omega) (by omega) (by omega) ?_); intro h' t' tk' F' N'))
local macro_rules | `(tactic| walk_at "ite") => `(tactic| first
  | with_reducible refine ite_tt ?_ | with_reducible refine ite_ff ?_ | with_reducible refine split_not ?_
  | with_reducible refine boolT (by with_reducible assumption) ?_ | with_reducible refine boolF (by with_reducible assumption) ?_
  | with_reducible refine decT (by omega) ?_ | with_reducible refine decF (by omega) ?_
  | (with_reducible refine split_ine ?_ ?_ <;> intro _) | (with_reducible refine split_ieq ?_ ?_ <;> intro _)
  | (with_reducible refine PyProof.Rows.split_dec ?_ ?_ <;> intro _) | (with_reducible refine PyProof.Rows.split_bool ?_ ?_ <;> intro _))
local macro_rules | `(tactic| ksw_same) => `(tactic| (intro z h2 h3; (simp only [List.forall_mem_cons, List.not_mem_nil, false_implies, implies_true, and_true, ne_eq] at h2); (simp only [List.contains_cons, List.contains_nil, Bool.or_false, Bool.or_eq_false_iff, beq_eq_false_iff_ne, ne_eq] at h3); simp only [h2, h3, if_false, List.contains_cons, List.contains_nil, Bool.or_false, Bool.or_eq_true, beq_iff_eq, or_self, or_false, false_or, Bool.false_eq_true]))
local macro_rules | `(tactic| walk_at "MPost") => `(tactic| (dsimp only [MPost]))
local macro_rules | `(tactic| walk_at "truthy str") => `(tactic| first | refine truthy_cons (by simp only [List.length_nil]; omega) ?_ | refine truthy_S (by omega) ?_)
local macro_rules | `(tactic| walk_at "binaryOp Add str str") => `(tactic| first
  | (refine add_SS (a := []) (b := _) (by decide : Str.ofString "" = S []) rfl (by simp only [List.length_nil, List.length_cons]; omega) ?_; intro t' tk')
  | (refine add_SS rfl rfl (by simp only [List.length_nil, List.length_cons, List.length_append]; omega) ?_; intro t' tk'))
local macro_rules | `(tactic| walk_at "compareOp NotIn str str") => `(tactic| refine notin_ws ?_)

theorem c_angle (w : World) (l : List Nat) (tx ti : Tok) (i : Int) (h0 : 0 ≤ i) (h1 : i < l.length) (h2 : l.length < 2 ^ 20) :
    Con PySem.Challenge.rw_ci0012_02.row.prog w (hd.heap_39 w.params) 1 135 [.str (S l) tx, .int i ti] [] [] (fun v new mt => (∃ r o, v = .ref r ∧ new = [(r, o)] ∧ match angI l (i + 1) with
      | some e => ∃ t1 t2, o = tupObj [.str (S (subI l (i + 1) e)) t1, .int (e + 1) t2]
      | none => o = tupObj [.none, .none]) ∧ mt = []) := by
  k_fill
  intro p loose mean mg mb dp un gd cn cs a ccd cl outer A₀ base h₀ L m rest s Q E B F X N hz T hk hdp hun hret
  k_with_none
  k_with "exec While Compare cons nil" => (refine m_while (σ := Int × Tok × Str × Tok) (fun _ => []) (fun c => [(Str.ofString "pos", .int c.1 c.2.1)]) [Str.ofString "c"] (fun c => i + 1 ≤ c.1 ∧ c.1 ≤ l.length ∧ angI l c.1 = angI l (i + 1)) (fun c => (l.length - c.1).toNat) (_, _, S [], 0) (by assumption) (by assumption) (by kst_all) ⟨by dsimp only; omega, by dsimp only; omega, rfl⟩ ?_; rintro ⟨j, tj, _, _⟩ u h tk ⟨hj0, hj1, hJ⟩ FW NW; dsimp only at hj0 hj1 hJ; dsimp only [kstB] at FW)
  have hb : BindsAre [(Str.ofString "src", .str (S l) tx), (Str.ofString "pos", .int i ti)] := trivial
  k_dflt cell_enter
  clear B F X N hz T hret
  k_steps
  · refine Ends.mk [_] [] (by assumption) (by assumption) (fun _ h => h) ⟨⟨_, _, rfl, rfl, ?_⟩, rfl⟩
    rw [← hJ, angI_found (by omega) (by assumption) (by assumption)]
    exact ⟨_, _, rfl⟩
  · refine m_end (j + 2, _, S [], 0) (by assumption) (by assumption) (fun _ h => h) (by kst_all) (by ksw_same) ⟨by dsimp only; omega, by dsimp only; omega, ?_⟩ (by dsimp only; omega)
    rw [← hJ]; exact (angI_esc (by omega) (by omega) (by assumption) (by assumption) (by assumption)).symm
  · refine Ends.mk [_] [] (by assumption) (by assumption) (fun _ h => h) ⟨⟨_, _, rfl, rfl, ?_⟩, rfl⟩
    rw [← hJ, angI_bad (by omega) (by assumption) (.inr (.inl (by assumption))) (by assumption)]
  · refine m_end (j + 1, _, S [], 0) (by assumption) (by assumption) (fun _ h => h) (by kst_all) (by ksw_same) ⟨by dsimp only; omega, by dsimp only; omega, ?_⟩ (by dsimp only; omega)
    rw [← hJ]; exact (angI_one (by omega) (by assumption) (.inr (.inl (by assumption))) (by assumption)).symm
  · refine Ends.mk [_] [] (by assumption) (by assumption) (fun _ h => h) ⟨⟨_, _, rfl, rfl, ?_⟩, rfl⟩
    rw [← hJ, angI_bad (by omega) (by assumption) (.inr (.inr (by omega))) (by assumption)]
  · refine m_end (j + 1, _, S [], 0) (by assumption) (by assumption) (fun _ h => h) (by kst_all) (by ksw_same) ⟨by dsimp only; omega, by dsimp only; omega, ?_⟩ (by dsimp only; omega)
    rw [← hJ]; exact (angI_one (by omega) (by assumption) (.inr (.inr (by omega))) (by assumption)).symm
  · refine Ends.mk [_] [] (by assumption) (by assumption) (fun _ h => h) ⟨⟨_, _, rfl, rfl, ?_⟩, rfl⟩
    rw [← hJ, angI_bad (by omega) (by assumption) (.inl (by assumption)) (by assumption)]
  · refine m_end (j + 1, _, S [], 0) (by assumption) (by assumption) (fun _ h => h) (by kst_all) (by ksw_same) ⟨by dsimp only; omega, by dsimp only; omega, ?_⟩ (by dsimp only; omega)
    rw [← hJ]; exact (angI_one (by omega) (by assumption) (.inl (by assumption)) (by assumption)).symm
  · refine Ends.mk [_] [] (by assumption) (by assumption) (fun _ h => h) ⟨⟨_, _, rfl, rfl, ?_⟩, rfl⟩
    rw [← hJ, angI_end (by omega)]
end
end Mine

end SCC

section SCD
open PySem PySem.W PyProof.Rows PySem.Calls PySem.Spec
theorem Mine.offCD : True := by w_top off; exact trivial
namespace Mine
section
local macro_rules | `(tactic| cell_enter) => `(tactic| (refine wpAny_call ?_; refine' con_code (by assumption) ?k1 ?k2 ?k3 ?k4 ?kz ?k5 ?kA ?kF ?kK ?k6 ?k7 ?k8 ?k9 ?kB (by assumption) ?kQ ?_ ?c2 ?c3 ?c4 ?c5; (case kA => exact rfl); (case kF => exact rfl); (case kK => assumption); (case k1 => k_asm); (case k2 => k_asm); (case k3 => k_asm); (case k4 => k_asm); (case kz => assumption); (case k5 => k_asm); (case k6 => k_is); (case k7 => k_is); (case k8 => ktr_room); (case k9 => (refine' kp_binds ?kx ?ke; (case kx => k_in); (case ke => exact fun _ => rfl))); (case kQ => exact fun _ _ q => q); (case c5 => decide); (case kB => exact locs rfl); (case c2 => exact rfl); (case c3 => exact rfl); (case c4 => exact rfl); k_whole; intro g' L' h' F' N' B' X' T' l0; (try k_lt l0); (try dsimp only); (try k_fold)))
local macro_rules | `(tactic| walk_at "subscriptTail") => `(tactic| ((with_reducible show wpAny _ _ (subscriptTail _ _ (Value.str (S _) _) (Value.int _ _)) _ _ _); refine sub_S (by omega) (by omega) (by omega) ?_))
local macro_rules | `(tactic| walk_at "subscriptTail Name Name str int") => `(tactic| (refine sub_S (by omega) (by omega) (by omega) ?_))
local macro_rules | `(tactic| walk_at "compareOp In str str") => `(tactic| first | refine in_ws ?_ | refine in_punct ?_ | refine in_blank ?_ | refine in_nl ?_ | refine in_ang ?_)
local macro_rules | `(tactic| walk_at "call builtin:len") => `(tactic| refine len_S (by omega) ?_)
local macro_rules | `(tactic| walk_at "call builtin:ord") => `(tactic| refine ord_ch ?_)
local macro_rules | `(tactic| walk_at "compareOp Eq str str") => `(tactic| first
  | refine eq_ch (d := 60) (by decide : Str.ofString "<" = S [60]) ?_
  | refine eq_ch (d := 62) (by decide : Str.ofString ">" = S [62]) ?_
  | refine eq_ch (d := 10) (by decide : Str.ofString "\n" = S [10]) ?_
  | refine eq_ch (d := 13) (by decide : Str.ofString "\x0d" = S [13]) ?_
  | refine eq_ch (d := 40) (by decide : Str.ofString "(" = S [40]) ?_
  | refine eq_ch (d := 41) (by decide : Str.ofString ")" = S [41]) ?_
  | refine eq_ch (d := 92) (by decide : Str.ofString "\\" = S [92]) ?_
  | refine eq_ch (d := 0) (by decide : Str.ofString "\x00" = S [0]) ?_
  | refine eq_ch (d := 127) (by decide : Str.ofString "\x7f" = S [127]) ?_)
local macro_rules | `(tactic| walk_at "compareOp NotEq str str") => `(tactic| first
  | refine ne_ch (d := 41) (by decide : Str.ofString ")" = S [41]) ?_)
local macro_rules | `(tactic| walk_at "subscriptTail Name Slice str ref") => `(tactic| ((with_reducible show wpAny _ _ (subscriptTail _ (Expr.Slice (some _) (some _) none _) (Value.str (S _) _) _) _ _ _); (refine slice_go (s := ⟨_, _, _, _, _⟩) (by assumption) (by assumption) (by omega) (by omega) (by omega) (by omega) ?_); intro h' t' tk' F' N'))
local macro_rules | `(tactic| walk_at "ite") => `(tactic| first
  | with_reducible refine ite_tt ?_ | with_reducible refine ite_ff ?_ | with_reducible refine split_not ?_
  | with_reducible refine boolT (by with_reducible assumption) ?_ | with_reducible refine boolF (by with_reducible assumption) ?_
  | with_reducible refine decT (by omega) ?_ | with_reducible refine decF (by omega) ?_
  | (with_reducible refine split_ine ?_ ?_ <;> intro _) | (with_reducible refine split_ieq ?_ ?_ <;> intro _)
  | (with_reducible refine PyProof.Rows.split_dec ?_ ?_ <;> intro _) | (with_reducible refine PyProof.Rows.split_bool ?_ ?_ <;> intro _))
local macro_rules | `(tactic| ksw_same) => `(tactic| (intro z h2 h3; (simp only [List.forall_mem_cons, List.not_mem_nil, false_implies, implies_true, and_true, ne_eq] at h2); (simp only [List.contains_cons, List.contains_nil, Bool.or_false, Bool.or_eq_false_iff, beq_eq_false_iff_ne, ne_eq] at h3); simp only [h2, h3, if_false, List.contains_cons, List.contains_nil, Bool.or_false, Bool.or_eq_true, beq_iff_eq, or_self, or_false, false_or, Bool.false_eq_true]))
local macro_rules | `(tactic| walk_at "MPost") => `(tactic| (dsimp only [MPost]))
local macro_rules | `(tactic| walk_at "truthy str") => `(tactic| first | refine truthy_cons (by simp only [List.length_nil]; omega) ?_ | refine truthy_S (by omega) ?_)
local macro_rules | `(tactic| walk_at "binaryOp Add str str") => `(tactic| first
  | (refine add_SS (a := []) (b := _) (by decide : Str.ofString "" = S []) rfl (by simp only [List.length_nil, List.length_cons]; omega) ?_; intro t' tk')
  | (refine add_SS rfl rfl (by simp only [List.length_nil, List.length_cons, List.length_append]; omega) ?_; intro t' tk'))
local macro_rules | `(tactic| walk_at "compareOp NotIn str str") => `(tactic| refine notin_ws ?_)

theorem c_href (w : World) (l : List Nat) (tx ti tl : Tok) (i lim : Int) (h0 : 0 ≤ i) (h1 : i ≤ l.length) (h2 : l.length < 2 ^ 20) (hl0 : 0 ≤ lim) (hl1 : lim ≤ 100) :
    Con PySem.Challenge.rw_ci0012_02.row.prog w (hd.heap_39 w.params) 2 90 [.str (S l) tx, .int i ti] [(Str.ofString "max_nested_level", .int lim tl)] [] (fun v new mt => (∃ r o, v = .ref r ∧ new = [(r, o)] ∧ match hrefR lim l i with
      | some (h, e) => ∃ t1 t2 t3, o = tupObj [.str (S h) t1, .int e t2, .int e t3]
      | none => ∃ z t, o = tupObj [.none, .none, .int z t]) ∧ mt = []) := by
  k_fill
  intro p loose mean mg mb dp un gd cn cs a ccd cl outer A₀ base h₀ L m rest s Q E B F X N hz T hk hdp hun hret
  k_with_none
  k_with "call ref" => (refine Con.use0 (c_start w l _ _ _ (by omega) (by omega) (by omega)) (by assumption) (by assumption) (by assumption) (by assumption) (by assumption) (by first | assumption | rfl) (by ktr_room) (by ktr_units) ?_; rintro v h' tk' new mt' ⟨⟨t, rfl⟩, rfl, rfl⟩ hne F' N'; (try simp only [List.nil_append] at N'); have hst := startI_le (l := l) (i := i) (by omega) (by omega))
  k_with "call ref" => (refine Con.use0 (c_angle w l _ _ _ (by omega) (by omega) (by omega)) (by assumption) (by assumption) (by assumption) (by assumption) (by assumption) (by first | assumption | rfl) (by ktr_room) (by ktr_units) ?_; rintro v h' tk' new mt' ⟨⟨r, o, rfl, rfl, hm⟩, rfl⟩ hne F' N'; (try simp only [List.append_nil, List.nil_append, List.cons_append] at N'); (rcases hq : angI l (startI l i + 1) with _ | e <;> rw [hq] at hm <;> dsimp only at hm <;> (first | (obtain ⟨t1, t2, rfl⟩ := hm) | subst hm)))
  k_with "exec While Compare cons nil" => (refine m_while (σ := Int × Tok × Int × Tok) (fun _ => _) (fun c => [(Str.ofString "pos", .int c.1 c.2.1), (Str.ofString "level", .int c.2.2.1 c.2.2.2)]) [Str.ofString "c"] (fun c => startI l i ≤ c.1 ∧ c.1 ≤ l.length ∧ 0 ≤ c.2.2.1 ∧ c.2.2.1 ≤ 100 ∧ hrfI lim l c.1 c.2.2.1 = hrfI lim l (startI l i) 0) (fun c => (l.length - c.1).toNat) (_, _, _, _) (by assumption) (by assumption) (by kst_all) ⟨by dsimp only; omega, by dsimp only; omega, by dsimp only; omega, by dsimp only; omega, rfl⟩ ?_; rintro ⟨j, tj, lv, tlv⟩ u h tk ⟨hj0, hj1, hv0, hv1, hJ⟩ FW NW; dsimp only at hj0 hj1 hv0 hv1 hJ; dsimp only [kstB] at FW)
  have hb : BindsAre [(Str.ofString "src", .str (S l) tx), (Str.ofString "start_pos", .int i ti), (Str.ofString "block", .bool false), (Str.ofString "max_nested_level", .int lim tl)] := trivial
  k_dflt cell_enter
  clear B F X N hz T hret
  k_steps
  any_goals first
    | (refine m_end (if (l.length : Int) < j + 2 then (l.length : Int) else j + 2, _, lv, _) (by assumption) (by assumption) (fun _ h => h) (by kst_all) (by ksw_same) ⟨by dsimp only; rw [if_neg (by omega)]; omega, by dsimp only; rw [if_neg (by omega)]; omega, by dsimp only; omega, by dsimp only; omega, ?_⟩ (by dsimp only; rw [if_neg (by omega)]; omega)
       dsimp only; rw [if_neg (by omega), ← hJ]; exact (hrf_esc (by omega) (by omega) (by assumption) (by assumption) (by assumption) (by assumption) (by assumption)).symm)
    | (refine m_end (j + 1, _, lv + 1, _) (by assumption) (by assumption) (fun _ h => h) (by kst_all) (by ksw_same) ⟨by dsimp only; omega, by dsimp only; omega, by dsimp only; omega, by dsimp only; omega, ?_⟩ (by dsimp only; omega)
       rw [← hJ]; exact (hrf_open (by omega) (by omega) (by assumption) (by assumption) (by assumption) (by first | exact .inl (by assumption) | exact .inr (.inl (by assumption)) | exact .inr (.inr (by omega))) (by assumption) (by assumption)).symm)
    | (refine m_end (j + 1, _, lv - 1, _) (by assumption) (by assumption) (fun _ h => h) (by kst_all) (by ksw_same) ⟨by dsimp only; omega, by dsimp only; omega, by dsimp only; omega, by dsimp only; omega, ?_⟩ (by dsimp only; omega)
       rw [← hJ]; exact (hrf_close (by omega) (by omega) (by assumption) (by assumption) (by assumption) (by first | exact .inl (by assumption) | exact .inr (.inl (by assumption)) | exact .inr (.inr (by omega))) (by assumption) (by assumption) (by assumption)).symm)
    | (refine m_end (j + 1, _, lv, _) (by assumption) (by assumption) (fun _ h => h) (by kst_all) (by ksw_same) ⟨by dsimp only; omega, by dsimp only; omega, by dsimp only; omega, by dsimp only; omega, ?_⟩ (by dsimp only; omega)
       rw [← hJ]; exact (hrf_one (by omega) (by omega) (by assumption) (by assumption) (by assumption) (by first | exact .inl (by assumption) | exact .inr (.inl (by assumption)) | exact .inr (.inr (by omega))) (by assumption) (by assumption)).symm)
    | (refine Ends.mk [_] [] (by assumption) (by assumption) mem_one ⟨⟨_, _, rfl, rfl, ?_⟩, rfl⟩; rw [hrefR_end (by assumption)]; exact ⟨_, _, rfl⟩)
    | (refine Ends.mk [_] [] (by assumption) (by assumption) mem_one ⟨⟨_, _, rfl, rfl, ?_⟩, rfl⟩; rw [hrefR_angS (by assumption) (by assumption) (by assumption)]; exact ⟨_, _, _, rfl⟩)
    | (refine Ends.mk [_] [] (by assumption) (by assumption) mem_one ⟨⟨_, _, rfl, rfl, ?_⟩, rfl⟩; rw [hrefR_angN (by assumption) (by assumption) (by assumption)]; exact ⟨_, _, rfl⟩)
    | (refine Ends.mk [_] [] (by assumption) (by assumption) mem_one ⟨⟨_, _, rfl, rfl, ?_⟩, rfl⟩
       rw [hrefR_open (by assumption) (by assumption) (hJ.symm.trans (by first | exact hrfI_end (by omega) (by omega) | exact hrf_ws (by omega) (by omega) (by assumption) | exact hrf_stop (by omega) (by omega) (by assumption) (by assumption) (by assumption) (by first | exact .inl (by assumption) | exact .inr (.inl (by assumption)) | exact .inr (.inr (by omega))) (by assumption) (by assumption) (by assumption))) (by assumption)]; exact ⟨_, _, rfl⟩)
    | (refine Ends.mk [_] [] (by assumption) (by assumption) mem_one ⟨⟨_, _, rfl, rfl, ?_⟩, rfl⟩
       rw [hrefR_some (by assumption) (by assumption) (hJ.symm.trans (by first | exact hrfI_end (by omega) (by omega) | exact hrf_ws (by omega) (by omega) (by assumption) | exact hrf_stop (by omega) (by omega) (by assumption) (by assumption) (by assumption) (by first | exact .inl (by assumption) | exact .inr (.inl (by assumption)) | exact .inr (.inr (by omega))) (by assumption) (by assumption) (by assumption))) (by assumption)]; exact ⟨_, _, _, rfl⟩)
    | (refine Ends.mk [_] [] (by assumption) (by assumption) mem_one ⟨⟨_, _, rfl, rfl, ?_⟩, rfl⟩
       rw [hrefR_none (by assumption) (by assumption) (hJ.symm.trans (by first | exact hrf_ctl (by omega) (by omega) (by assumption) (by assumption) | exact hrf_del (by omega) (by omega) (by assumption) (by assumption) (by assumption) | exact hrf_over (by omega) (by omega) (by assumption) (by assumption) (by assumption) (by first | exact .inl (by assumption) | exact .inr (.inl (by assumption)) | exact .inr (.inr (by omega))) (by assumption) (by assumption)))]; exact ⟨_, _, rfl⟩)
end
end Mine

end SCD

section SMR
open PySem PySem.W PyProof.Rows PySem.Calls PySem.Spec PySem.F
set_option Elab.async false
set_option maxRecDepth 100000
set_option maxHeartbeats 4000000
namespace Mine
theorem plainAttrs_rePattern : PlainAttrs "re.Pattern" :=
  ⟨⟨"object.__getattribute__", by rw [typeLookup_type, builtinLookup_eq_fast]; kernel_rfl, by decide +kernel⟩, by rw [typeLookup_type, builtinLookup_eq_fast]; kernel_rfl⟩
theorem plainAttrs_reMatch : PlainAttrs "re.Match" :=
  ⟨⟨"object.__getattribute__", by rw [typeLookup_type, builtinLookup_eq_fast]; kernel_rfl, by decide +kernel⟩, by rw [typeLookup_type, builtinLookup_eq_fast]; kernel_rfl⟩
theorem slot_re_sub : Slot "re.Pattern" "sub" "re.Pattern.sub" :=
  .of (owner := "re.Pattern") (n := "sub") (by rw [typeLookup_type, builtinLookup_eq_fast]; kernel_rfl) (by decide +kernel) (by decide +kernel) (by decide +kernel)
    (by first | exact .inl (by decide +kernel) | exact .inr (by decide +kernel)) (by rw [isSubtype_type]; kernel_rfl)
theorem type_re_sub : typeOf (.builtin "re.Pattern.sub") = pure (.type "method_descriptor") := by show builtinType _ = _; rw [builtinType_eq_fast]; kernel_rfl
theorem entry_re_sub : entryFor table "re.Pattern.sub" = some Builtin.«re.Pattern.sub» := entryFor_of_tree (by kernel_rfl)
theorem entry_re_sub_loop : entryFor table "re.Pattern.sub.loop" = some Builtin.«re.Pattern.sub.loop» := entryFor_of_tree (by kernel_rfl)
theorem owner_rePattern : Manifest.owners.lookup (String.ofList ['n','r','e','t','t','a','P','.','e','r'].reverse) = some Manifest.sig_re_Pattern := by kernel_rfl
theorem slot_re_match : Slot "re.Pattern" "match" "re.Pattern.match" :=
  .of (owner := "re.Pattern") (n := "match") (by rw [typeLookup_type, builtinLookup_eq_fast]; kernel_rfl) (by decide +kernel) (by decide +kernel) (by decide +kernel)
    (by first | exact .inl (by decide +kernel) | exact .inr (by decide +kernel)) (by rw [isSubtype_type]; kernel_rfl)
theorem type_re_match : typeOf (.builtin "re.Pattern.match") = pure (.type "method_descriptor") := by show builtinType _ = _; rw [builtinType_eq_fast]; kernel_rfl
theorem entry_re_match : entryFor table "re.Pattern.match" = some Builtin.«re.Pattern.match» := entryFor_of_tree (by kernel_rfl)
theorem slot_re_group : Slot "re.Match" "group" "re.Match.group" :=
  .of (owner := "re.Match") (n := "group") (by rw [typeLookup_type, builtinLookup_eq_fast]; kernel_rfl) (by decide +kernel) (by decide +kernel) (by decide +kernel)
    (by first | exact .inl (by decide +kernel) | exact .inr (by decide +kernel)) (by rw [isSubtype_type]; kernel_rfl)
theorem type_re_group : typeOf (.builtin "re.Match.group") = pure (.type "method_descriptor") := by show builtinType _ = _; rw [builtinType_eq_fast]; kernel_rfl
theorem entry_re_group : entryFor table "re.Match.group" = some Builtin.«re.Match.group» := entryFor_of_tree (by kernel_rfl)
theorem args_re_sub (a b c : Value) : argsOk "re.Pattern.sub" ⟨[a, b, c], []⟩ := by
  unfold argsOk; rw [signature?_of (id := "re.Pattern.sub") (n := ['b', 'u', 's']) (o := ['n','r','e','t','t','a','P','.','e','r']) (by kernel_rfl) owner_rePattern]; kernel_rfl
theorem args_re_match (a b c d : Value) : argsOk "re.Pattern.match" ⟨[a, b, c, d], []⟩ := by
  unfold argsOk; rw [signature?_of (id := "re.Pattern.match") (n := ['h', 'c', 't', 'a', 'm']) (o := ['n','r','e','t','t','a','P','.','e','r']) (by kernel_rfl) owner_rePattern]; kernel_rfl
theorem owner_reMatch : Manifest.owners.lookup (String.ofList ['h','c','t','a','M','.','e','r'].reverse) = some Manifest.sig_re_Match := by kernel_rfl
theorem args_re_group (a b : Value) : argsOk "re.Match.group" ⟨[a, b], []⟩ := by
  unfold argsOk; rw [signature?_of (id := "re.Match.group") (n := ['p','u','o','r','g']) (o := ['h','c','t','a','M','.','e','r']) (by kernel_rfl) owner_reMatch]; kernel_rfl
end Mine

end SMR

section SMS
open PySem PySem.W PyProof.Rows PySem.Calls PySem.Spec PySem.F
set_option Elab.async false
set_option maxRecDepth 100000
set_option maxHeartbeats 4000000
namespace Mine
open PySem.Sre
theorem runFor_stop {m : Sre.M} (h : m.outcome.isSome = true) : ∀ n, m.runFor n = m
  | 0 => rfl
  | n + 1 => by unfold Sre.M.runFor; rw [if_pos h]
theorem runFor_add (a b : Nat) : ∀ m : Sre.M, m.runFor (a + b) = (m.runFor a).runFor b := by
  induction a with
  | zero => intro m; rw [Nat.zero_add]; rfl
  | succ a ih =>
    intro m
    rw [Nat.succ_add]
    cases h : m.outcome.isSome with
    | true => rw [runFor_stop h, runFor_stop h, runFor_stop h]
    | false =>
      show (if m.outcome.isSome = true then m else m.step.runFor (a + b)) = _
      rw [if_neg (by rw [h]; decide), ih]
      show _ = (if m.outcome.isSome = true then m else m.step.runFor a).runFor b
      rw [if_neg (by rw [h]; decide)]
/-- the machine comes from m to m' in n steps, none of them the last -/
def Goes (n : Nat) (m m' : Sre.M) : Prop := m.runFor n = m'
theorem Goes.trans {a b : Nat} {m m' m'' : Sre.M} (x : Goes a m m') (y : Goes b m' m'') : Goes (a + b) m m'' := by
  unfold Goes at *; rw [runFor_add, x, y]
theorem Goes.trans' {n : Nat} {m m' m'' : Sre.M} (x : Goes n m m') (e : m' = m'') : Goes n m m'' := by rw [← e]; exact x
theorem Goes.one {m : Sre.M} (h : m.outcome = none) : Goes 1 m m.step := by
  unfold Goes Sre.M.runFor; rw [h]; rfl
section
variable {M : Model} {A : Around} {E : Value → Shared → Prop} {s : Shared}
open PySem.Builtin.Re
theorem drive_of {Q : Sre.M → Shared → Prop} : ∀ (turns n : Nat) (m m' : Sre.M), Goes n m m' → m'.outcome.isSome = true → n ≤ 4 * turns → 0 < turns → Q m' s → wpAny M A (reDrive turns m) Q E s
  | 0, _, _, _, _, _, _, h0, _ => absurd h0 (by omega)
  | turns + 1, n, m, m', hg, ho, hn, _, hq => by
    unfold reDrive
    dsimp only
    by_cases h4 : (m.runFor reTurnSteps).outcome.isSome = true
    · rw [if_pos h4]
      have e : m.runFor reTurnSteps = m' := by
        rcases Nat.le_total n reTurnSteps with q | q
        · obtain ⟨d, e⟩ := Nat.le.dest q
          rw [← e, runFor_add, hg, runFor_stop ho]
        · obtain ⟨d, e⟩ := Nat.le.dest q
          have h2 := hg
          unfold Goes at h2
          rw [← e, runFor_add, runFor_stop h4] at h2
          exact h2
      rw [e]; exact wpAny_pure hq
    · rw [if_neg h4]
      refine wpAny_bind (wpAny_rule ?_)
      have q : reTurnSteps < n := by
        rcases Nat.lt_or_ge reTurnSteps n with q | q
        · exact q
        · exfalso; apply h4
          obtain ⟨d, e⟩ := Nat.le.dest q
          rw [← e, runFor_add, hg, runFor_stop ho]; exact ho
      have e4 : reTurnSteps = 4 := rfl
      rw [e4] at q ⊢
      obtain ⟨d, rfl⟩ : ∃ d, n = 4 + d := ⟨n - 4, by omega⟩
      refine drive_of turns d (m.runFor 4) m' ?_ ho (by omega) (by omega) hq
      unfold Goes at hg ⊢
      rw [← runFor_add]; exact hg
theorem rules_of {Q : PUnit → Shared → Prop} (f : Nat → Bool) (g : Nat → String) (h : Q ⟨⟩ s) : ∀ (l : List Nat), wpAny M A (forIn l PUnit.unit fun i _ => do
    if f i then rule (g i)
    pure (ForInStep.yield PUnit.unit)) Q E s
  | [] => by rw [List.forIn_nil]; exact wpAny_pure h
  | i :: r => by
    rw [List.forIn_cons]
    refine wpAny_bind ?_
    have hr := rules_of f g h r
    by_cases hf : f i = true
    · simp only [hf, if_true]
      exact wpAny_bind (wpAny_rule (wpAny_pure hr))
    · simp only [hf, Bool.false_eq_true, if_false]
      exact wpAny_pure hr
theorem runToEnd_matched {Q : Option Sre.M → Shared → Prop} {n : Nat} {m m' : Sre.M} (hg : Goes n m m') (ho : m'.outcome = some .matched) (hn : n ≤ 2 ^ 60) (hq : Q (some m') s) : wpAny M A (reRunToEnd m) Q E s := by
  unfold reRunToEnd
  refine wpAny_bind (drive_of _ n m m' hg (by rw [ho]; rfl) (by omega) (by omega) ?_)
  refine wpAny_bind ?_
  refine rules_of _ _ ?_ _
  rw [ho]
  exact wpAny_pure hq
theorem runToEnd_failed {Q : Option Sre.M → Shared → Prop} {n : Nat} {m m' : Sre.M} (hg : Goes n m m') (ho : m'.outcome = some .failed) (hn : n ≤ 2 ^ 60) (hq : Q none s) : wpAny M A (reRunToEnd m) Q E s := by
  unfold reRunToEnd
  refine wpAny_bind (drive_of _ n m m' hg (by rw [ho]; rfl) (by omega) (by omega) ?_)
  refine wpAny_bind ?_
  refine rules_of _ _ ?_ _
  rw [ho]
  exact wpAny_pure hq
end

/-- the code of the pattern of escapes -/
def escC : Array Nat := #[14, 8, 1, 2, 2, 1, 1, 92, 0, 16, 92, 17, 0, 13, 11, 9, 0, 4227923966, 4160749569, 2013265921, 0, 0, 0, 0, 0, 17, 1, 1]
theorem step_back {m : Sre.M} {yes : Bool} {f : Sre.Frame} {rest : List Sre.Frame} (ho : m.outcome = none) (ha : m.answer = some yes) (hf : m.frames = f :: rest) :
    m.step = M.resume { m with answer := none, frames := rest, weight := m.weight - (1 + f.kept.marks.size), pc := f.pc, pos := f.pos, outermost := f.outermost } f yes := by
  unfold M.step; simp only [ho, ha, hf]; rfl
theorem step_done {m : Sre.M} {yes : Bool} (ho : m.outcome = none) (ha : m.answer = some yes) (hf : m.frames = []) :
    m.step = { m with outcome := some (if yes then .matched else .failed) } := by
  unfold M.step; simp only [ho, ha, hf]; rfl
theorem step_exec {m : Sre.M} (ho : m.outcome = none) (ha : m.answer = none) (hpc : m.pc < m.code.size) : m.step = m.exec := by
  unfold M.step; simp only [ho, ha, hpc]; rfl
/-- the machine within a try from place s -/
def escS (l : List Nat) (s : Nat) (first : Bool) (pc pos handed : Nat) (marks : Array (Option Nat)) (lastmark lastindex : Int) (seen : Sre.Seen) (answer : Option Bool) : Sre.M :=
  { code := escC, text := l.toArray, lim := l.length, start := s, lastStart := l.length, pc := pc, pos := pos, handed := handed, outermost := first, marks := marks, lastmark := lastmark, lastindex := lastindex,
    frames := [{ wait := .nextStart, pc := 9, pos := s, outermost := first }], weight := 1, answer := answer, seen := seen }
/-- the machine at a try from place s -/
def escM (l : List Nat) (s : Nat) (first : Bool) (marks : Array (Option Nat)) (seen : Sre.Seen) : Sre.M := escS l s first 9 s s marks (-1) (-1) seen none
theorem esc_set (c : Nat) (seen : Sre.Seen) : ∃ seen', accepts escC 13 c seen = .ok (isPunct c, seen') := by
  have key : ∀ c, c < 256 → ((escC.getD (15 + (1 + c / 32)) 0).testBit (c % 32)) = isPunct c := by decide +kernel
  have big : ∀ c, ¬ c < 256 → isPunct c = false := by
    intro c hc
    unfold isPunct
    rw [Bool.eq_false_iff]
    intro h
    rw [List.contains_iff_mem] at h
    simp only [List.mem_cons, List.not_mem_nil, or_false] at h
    omega
  show ∃ seen', inSet escC c 28 15 true seen = .ok (isPunct c, seen')
  unfold inSet
  show ∃ seen', (if (c < 256 && (escC.getD (15 + (1 + c / 32)) 0).testBit (c % 32)) = true then (Except.ok (true, seen.add 9) : Except String (Bool × Sre.Seen)) else inSet escC c 27 24 true (seen.add 9)) = .ok (isPunct c, seen')
  have fin : inSet escC c 27 24 true (seen.add 9) = .ok (false, (seen.add 9).add 0) := rfl
  by_cases h : c < 256
  · rw [key c h]
    cases hp : isPunct c with
    | true => exact ⟨_, by rw [if_pos (by simp [h])]⟩
    | false => exact ⟨_, by rw [if_neg (by simp), fin]⟩
  · rw [big c h]
    exact ⟨_, by rw [if_neg (by simp [h]), fin]⟩
theorem esc_lit (c : Nat) (seen : Sre.Seen) : accepts escC 9 c seen = .ok (c == 92, seen) := rfl
theorem getD_arr (l : List Nat) (i : Nat) : l.toArray.getD i 0 = l.getD i 0 := by simp [Array.getD, List.getD]; split <;> simp_all
/-- a try that fails goes on to the next place, or ends -/
def escNext (l : List Nat) (s : Nat) (m : Sre.M) : Prop :=
  (s < l.length ∧ ∃ marks seen, marks.size = 2 ∧ m = escM l (s + 1) false marks seen) ∨ (l.length ≤ s ∧ m.outcome = some .failed)
theorem esc_back {l : List Nat} {s : Nat} {first : Bool} {pc pos handed : Nat} {marks : Array (Option Nat)} {lastmark lastindex : Int} {seen : Sre.Seen} (hs : marks.size = 2) :
    ∃ n m', n ≤ 3 ∧ Goes n (escS l s first pc pos handed marks lastmark lastindex seen (some false)) m' ∧ escNext l s m' := by
  have e1 : (escS l s first pc pos handed marks lastmark lastindex seen (some false)).step = _ := step_back rfl rfl rfl
  by_cases h : s < l.length
  · refine ⟨1, _, by omega, (Goes.one rfl).trans' e1, .inl ⟨h, marks, seen, hs, ?_⟩⟩
    unfold M.resume
    dsimp only [escS]
    simp only [Bool.false_eq_true, if_false, h, if_true]
    rfl
  · have e2 : (escS l s first pc pos handed marks lastmark lastindex seen (some false)).step = { escS l s first 9 s handed marks lastmark lastindex seen (some false) with frames := [], weight := 0 } := by
      rw [e1]
      unfold M.resume
      dsimp only [escS]
      simp only [Bool.false_eq_true, if_false, h]
      rfl
    exact ⟨2, _, by omega, Goes.trans ((Goes.one rfl).trans' e2) ((Goes.one rfl).trans' (step_done rfl rfl rfl)), .inr ⟨by omega, rfl⟩⟩
/-- what a match at k leaves -/
def escFound (l : List Nat) (k : Nat) (m : Sre.M) : Prop := m.outcome = some .matched ∧ m.start = k ∧ m.handed = k + 2 ∧ m.marks = #[some (k + 1), some (k + 2)] ∧ m.lastmark = 1 ∧ m.lastindex = 1
theorem marks2 {marks : Array (Option Nat)} (hs : marks.size = 2) (a b : Option Nat) : (marks.setIfInBounds 0 a).setIfInBounds 1 b = #[a, b] := by
  obtain ⟨l⟩ := marks
  match l, hs with
  | [x, y], _ => rfl
section
variable {l : List Nat} {s : Nat} {first : Bool} {p h : Nat} {marks : Array (Option Nat)} {lm li : Int} {seen : Sre.Seen}
theorem esc_s1 : (escS l s first 9 p h marks lm li seen none).step = if p ≥ l.length then escS l s first 9 p h marks lm li (seen.add 16) (some false) else
    if (l.getD p 0 == 92) = true then escS l s first 11 (p + 1) h marks lm li (seen.add 16) none else escS l s first 9 p h marks lm li (seen.add 16) (some false) := by
  rw [step_exec rfl rfl (by show 9 < 28; decide)]
  show (if p ≥ l.length then escS l s first 9 p h marks lm li (seen.add 16) (some false) else match accepts escC 9 (l.toArray.getD p 0) (seen.add 16) with
    | .error why => (escS l s first 9 p h marks lm li (seen.add 16) none).stick why
    | .ok (false, seen) => escS l s first 9 p h marks lm li seen (some false)
    | .ok (true, seen) => escS l s first 11 (p + 1) h marks lm li seen none) = _
  rw [esc_lit, getD_arr]
  split
  · rfl
  · cases l.getD p 0 == 92 <;> rfl
theorem esc_s2 (hs : marks.size = 2) : (escS l s first 11 p h marks (-1) li seen none).step = escS l s first 13 p h (marks.setIfInBounds 0 (some p)) 0 li (seen.add 17) none := by
  rw [step_exec rfl rfl (by show 11 < 28; decide)]; rfl
theorem esc_s3 : ∃ seen', (escS l s first 13 p h marks lm li seen none).step = if p ≥ l.length then escS l s first 13 p h marks lm li (seen.add 13) (some false) else
    if isPunct (l.getD p 0) = true then escS l s first 25 (p + 1) h marks lm li seen' none else escS l s first 13 p h marks lm li seen' (some false) := by
  obtain ⟨seen', e⟩ := esc_set (l.getD p 0) (seen.add 13)
  refine ⟨seen', ?_⟩
  rw [step_exec rfl rfl (by show 13 < 28; decide)]
  show (if p ≥ l.length then escS l s first 13 p h marks lm li (seen.add 13) (some false) else match accepts escC 13 (l.toArray.getD p 0) (seen.add 13) with
    | .error why => (escS l s first 13 p h marks lm li (seen.add 13) none).stick why
    | .ok (false, seen) => escS l s first 13 p h marks lm li seen (some false)
    | .ok (true, seen) => escS l s first 25 (p + 1) h marks lm li seen none) = _
  rw [getD_arr, e]
  split
  · rfl
  · cases isPunct (l.getD p 0) <;> rfl
theorem esc_s4 : (escS l s first 25 p h marks 0 li seen none).step = escS l s first 27 p h (marks.setIfInBounds 1 (some p)) 1 1 (seen.add 17) none := by
  rw [step_exec rfl rfl (by show 25 < 28; decide)]
  show M.mark (escS l s first 25 p h marks 0 li (seen.add 17) none) 1 = _
  unfold M.mark
  dsimp only [escS]
  have e : max (0 : Int) ((1 : Nat) : Int) = 1 := by decide
  rw [if_pos (by decide), e]
  rfl
theorem esc_s5 : (escS l s first 27 p h marks lm li seen none).step = escS l s first 27 p p marks lm li (seen.add 1) (some true) := by
  rw [step_exec rfl rfl (by show 27 < 28; decide)]
  show (if (first && ((false && p != l.length) || (false && p == s))) = true then _ else _) = _
  cases first <;> rfl
theorem esc_s6 : (escS l s first 27 p h marks lm li seen (some true)).step = { escS l s first 9 s h marks lm li seen (some true) with frames := [], weight := 0 } := by
  rw [step_back rfl rfl rfl]; rfl
end
theorem esc_try {l : List Nat} {s : Nat} {first : Bool} {marks : Array (Option Nat)} {seen : Sre.Seen} (hs : marks.size = 2) :
    ∃ n m', n ≤ 9 ∧ Goes n (escM l s first marks seen) m' ∧
      (if (l.getD s 0 == 92) = true ∧ isPunct (l.getD (s + 1) 0) = true then escFound l s m' else escNext l s m') := by
  have g1 := (Goes.one (m := escM l s first marks seen) rfl).trans' esc_s1
  by_cases h1 : s ≥ l.length
  · rw [if_pos h1] at g1
    obtain ⟨n, m', hn, g, e⟩ := esc_back (l := l) (s := s) (first := first) (pc := 9) (pos := s) (handed := s) (lastmark := -1) (lastindex := -1) (seen := seen.add 16) hs
    refine ⟨1 + n, m', by omega, g1.trans g, ?_⟩
    rw [if_neg, ]
    · exact e
    · rintro ⟨a, _⟩; rw [getD_of_le h1] at a; cases a
  · rw [if_neg h1] at g1
    by_cases h2 : (l.getD s 0 == 92) = true
    · rw [if_pos h2] at g1
      have g2 := g1.trans ((Goes.one rfl).trans' (esc_s2 hs))
      have hs' : (marks.setIfInBounds 0 (some (s + 1))).size = 2 := by simp [hs]
      obtain ⟨seen', e3⟩ := esc_s3 (l := l) (s := s) (first := first) (p := s + 1) (h := s) (marks := marks.setIfInBounds 0 (some (s + 1))) (lm := 0) (li := -1) (seen := (seen.add 16).add 17)
      have g3 := g2.trans ((Goes.one rfl).trans' e3)
      by_cases h3 : s + 1 ≥ l.length
      · rw [if_pos h3] at g3
        obtain ⟨n, m', hn, g, e⟩ := esc_back (l := l) (s := s) (first := first) (pc := 13) (pos := s + 1) (handed := s) (lastmark := 0) (lastindex := -1) (seen := ((seen.add 16).add 17).add 13) hs'
        refine ⟨_, m', ?_, g3.trans g, ?_⟩
        · omega
        · rw [if_neg]
          · exact e
          · rintro ⟨_, a⟩; rw [getD_of_le h3] at a; exact absurd a (by decide)
      · rw [if_neg h3] at g3
        by_cases h4 : isPunct (l.getD (s + 1) 0) = true
        · rw [if_pos h4] at g3
          have g4 := g3.trans ((Goes.one rfl).trans' esc_s4)
          have g5 := g4.trans ((Goes.one rfl).trans' esc_s5)
          have g6 := g5.trans ((Goes.one rfl).trans' esc_s6)
          have g7 := g6.trans ((Goes.one rfl).trans' (step_done rfl rfl rfl))
          refine ⟨_, _, ?_, g7, ?_⟩
          · omega
          · rw [if_pos ⟨h2, h4⟩]
            exact ⟨rfl, rfl, rfl, marks2 hs _ _, rfl, rfl⟩
        · rw [if_neg h4] at g3
          obtain ⟨n, m', hn, g, e⟩ := esc_back (l := l) (s := s) (first := first) (pc := 13) (pos := s + 1) (handed := s) (lastmark := 0) (lastindex := -1) (seen := seen') hs'
          refine ⟨_, m', ?_, g3.trans g, ?_⟩
          · omega
          · rw [if_neg]
            · exact e
            · rintro ⟨_, a⟩; exact h4 a
    · rw [if_neg h2] at g1
      obtain ⟨n, m', hn, g, e⟩ := esc_back (l := l) (s := s) (first := first) (pc := 9) (pos := s) (handed := s) (lastmark := -1) (lastindex := -1) (seen := seen.add 16) hs
      refine ⟨1 + n, m', by omega, g1.trans g, ?_⟩
      rw [if_neg]
      · exact e
      · rintro ⟨a, _⟩; exact h2 a
/-- the place of the first escape from s on -/
def escAt (s : Nat) : List Nat → Option Nat
  | [] => none
  | c :: r => if (c == 92) = true ∧ isPunct (r.headD 0) = true then some s else escAt (s + 1) r
theorem esc_from {l : List Nat} : ∀ (d s : Nat) (first : Bool) (marks : Array (Option Nat)) (seen : Sre.Seen), marks.size = 2 → l.length + 1 - s ≤ d → s ≤ l.length →
    ∃ n m', n ≤ 9 * d ∧ Goes n (escM l s first marks seen) m' ∧ (match escAt s (l.drop s) with | some k => escFound l k m' | none => m'.outcome = some .failed)
  | 0, s, _, _, _, _, hd, hl => absurd hd (by omega)
  | d + 1, s, first, marks, seen, hs, hd, hl => by
    obtain ⟨n, m', hn, g, e⟩ := esc_try (l := l) (s := s) (first := first) (seen := seen) hs
    by_cases hc : (l.getD s 0 == 92) = true ∧ isPunct (l.getD (s + 1) 0) = true
    · rw [if_pos hc] at e
      have hlt : s < l.length := by
        rcases Nat.lt_or_ge s l.length with q | q
        · exact q
        · rw [getD_of_le q] at hc; exact absurd hc.1 (by decide)
      refine ⟨n, m', by omega, g, ?_⟩
      rw [drop_cons hlt, escAt, if_pos ⟨hc.1, by rw [headD_drop]; exact hc.2⟩]
      exact e
    · rw [if_neg hc] at e
      rcases e with ⟨hlt, marks', seen', hs', rfl⟩ | ⟨hge, ho⟩
      · obtain ⟨n', m'', hn', g', e'⟩ := esc_from (l := l) d (s + 1) false marks' seen' hs' (by omega) (by omega)
        refine ⟨n + n', m'', by omega, g.trans g', ?_⟩
        rw [drop_cons hlt, escAt, if_neg (by rintro ⟨a, b⟩; exact hc ⟨a, by rw [headD_drop] at b; exact b⟩)]
        exact e'
      · refine ⟨n, m', by omega, g, ?_⟩
        rw [List.drop_eq_nil_of_le hge]
        exact ho
theorem escAt_short {s : Nat} : ∀ {l : List Nat}, l.length < 2 → escAt s l = none
  | [], _ => rfl
  | [c], _ => by unfold escAt; rw [if_neg (by rintro ⟨_, b⟩; exact absurd b (by decide))]; rfl
theorem esc_fresh (l : List Nat) (s : Nat) (h : s + 2 ≤ l.length) : ∃ seen, Sre.forSearch escC l.toArray 1 s l.length false = escM l s true #[none, none] seen := by
  refine ⟨(({} : Sre.Seen).add 14), ?_⟩
  show (if (decide (s > l.length) || decide (l.length - s < 2)) = true then _ else _) = _
  rw [if_neg (by simp; omega)]
  rfl
theorem esc_noroom (l : List Nat) (s : Nat) (h : ¬ s + 2 ≤ l.length) : ∃ m', Goes 1 (Sre.forSearch escC l.toArray 1 s l.length false) m' ∧ m'.outcome = some .failed := by
  refine ⟨_, Goes.one ?_, ?_⟩
  · show M.outcome (if (decide (s > l.length) || decide (l.length - s < 2)) = true then _ else _) = _
    rw [if_pos (by simp; omega)]
    rfl
  · show M.outcome (M.step (if (decide (s > l.length) || decide (l.length - s < 2)) = true then _ else _)) = _
    rw [if_pos (by simp; omega)]
    rfl
open PySem.Builtin.Re in
theorem esc_next {M : Model} {A : Around} {E : Value → Shared → Prop} {s : Shared} {t : ReTarget} {l : List Nat} {st : Nat} {Q : Option Sre.M → Shared → Prop} (h1 : t.code = escC) (h2 : t.text = l.toArray) (h3 : t.groups = 1) (h4 : t.lim = l.length) (hl : l.length < 2 ^ 20) (hs : st ≤ l.length)
    (h : match escAt st (l.drop st) with | some k => ∀ m, escFound l k m → Q (some m) s | none => Q none s) : wpAny M A (reNextFound t st false) Q E s := by
  unfold reNextFound
  rw [h1, h2, h3, h4]
  by_cases hr : st + 2 ≤ l.length
  · obtain ⟨seen, e⟩ := esc_fresh l st hr
    rw [e]
    obtain ⟨n, m', hn, g, q⟩ := esc_from (l := l) (l.length + 1 - st) st true #[none, none] seen rfl (Nat.le_refl _) hs
    cases hk : escAt st (l.drop st) with
    | none =>
      rw [hk] at q h
      exact runToEnd_failed g q (by omega) h
    | some k =>
      rw [hk] at q h
      exact runToEnd_matched g q.1 (by omega) (h m' q)
  · obtain ⟨m', g, q⟩ := esc_noroom l st hr
    rw [escAt_short (by rw [List.length_drop]; omega)] at h
    exact runToEnd_failed g q (by omega) h

/-- the code of the pattern of blank lines -/
def blkC : Array Nat := #[14, 8, 1, 2, 4294967295, 1, 1, 10, 0, 16, 10, 24, 11, 0, 4294967295, 13, 6, 16, 32, 16, 9, 0, 1, 16, 10, 1]
def blkS (l : List Nat) (st pc pos handed : Nat) (frames : List Sre.Frame) (weight : Nat) (seen : Sre.Seen) (answer : Option Bool) : Sre.M :=
  { code := blkC, text := l.toArray, lim := l.length, start := st, pc := pc, pos := pos, handed := handed, marks := #[], frames := frames, weight := weight, answer := answer, seen := seen }
theorem blk_fresh (l : List Nat) (j : Nat) (h : j + 2 ≤ l.length) : ∃ seen, Sre.forMatch blkC l.toArray 0 j l.length false false = blkS l j 9 j j [] 0 seen none := by
  refine ⟨({} : Sre.Seen).add 14, ?_⟩
  show (if ((2 != 0 && decide (j ≤ l.length)) && decide (l.length - j < 2)) = true then _ else _) = _
  rw [if_neg (by simp; omega)]
  rfl
theorem blk_noroom (l : List Nat) (j : Nat) (h : j + 1 = l.length) : ∃ m', Goes 1 (Sre.forMatch blkC l.toArray 0 j l.length false false) m' ∧ m'.outcome = some .failed := by
  refine ⟨_, Goes.one ?_, ?_⟩
  · show M.outcome (if ((2 != 0 && decide (j ≤ l.length)) && decide (l.length - j < 2)) = true then _ else _) = _
    rw [if_pos (by simp; omega)]
    rfl
  · show M.outcome (M.step (if ((2 != 0 && decide (j ≤ l.length)) && decide (l.length - j < 2)) = true then _ else _)) = _
    rw [if_pos (by simp; omega)]
    rfl
theorem blk_s1 {l : List Nat} {st p h : Nat} {seen : Sre.Seen} (hp : p < l.length) (hc : l.getD p 0 = 10) : (blkS l st 9 p h [] 0 seen none).step = blkS l st 11 (p + 1) h [] 0 (seen.add 16) none := by
  rw [step_exec rfl rfl (by show 9 < 26; decide)]
  show (if p ≥ l.length then _ else match accepts blkC 9 (l.toArray.getD p 0) (seen.add 16) with
    | .error why => _
    | .ok (false, seen) => _
    | .ok (true, seen) => blkS l st 11 (p + 1) h [] 0 seen none) = _
  rw [if_neg (by omega), getD_arr, hc]
  rfl
theorem blk_set {c : Nat} (h1 : c ≠ 32) (h2 : c ≠ 9) (seen : Sre.Seen) : ∃ seen', accepts blkC 15 c seen = .ok (false, seen') := by
  refine ⟨((seen.add 16).add 16).add 0, ?_⟩
  show inSet blkC c 26 17 true seen = _
  unfold inSet
  show (if (c == 32) = true then _ else inSet blkC c 25 19 true (seen.add 16)) = _
  rw [if_neg (by simpa using h1)]
  unfold inSet
  show (if (c == 9) = true then _ else inSet blkC c 24 21 true ((seen.add 16).add 16)) = _
  rw [if_neg (by simpa using h2)]
  rfl
def blkF (p : Nat) : Sre.Frame := { wait := .giveBack, pc := 11, pos := p, outermost := true, count := 0, kept := { lastmark := -1, lastindex := -1, whole := false, marks := #[] } }
theorem blk_s2 {l : List Nat} {st p h : Nat} {seen : Sre.Seen} (hp : p < l.length) (h1 : l.getD p 0 ≠ 32) (h2 : l.getD p 0 ≠ 9) : ∃ seen', (blkS l st 11 p h [] 0 seen none).step = blkS l st 23 p p [blkF p] 1 seen' none := by
  obtain ⟨seen', e⟩ := blk_set h1 h2 ((seen.add 24).add 13)
  refine ⟨seen', ?_⟩
  rw [step_exec rfl rfl (by show 11 < 26; decide)]
  have hr : Sre.run blkC l.toArray 15 (min 4294967295 ((l.length : Int) - (p : Int)).toNat) p 0 ((seen.add 24).add 13) = .ok (0, seen') := by
    obtain ⟨n, hn⟩ : ∃ n, min 4294967295 ((l.length : Int) - (p : Int)).toNat = n + 1 := ⟨min 4294967295 ((l.length : Int) - (p : Int)).toNat - 1, by omega⟩
    rw [hn]
    show (do let (yes, seen) ← accepts blkC 15 (l.toArray.getD p 0) ((seen.add 24).add 13); if yes then Sre.run blkC l.toArray 15 n (p + 1) (0 + 1) seen else pure (0, seen) : Except String (Nat × Sre.Seen)) = _
    rw [getD_arr, e]; rfl
  show (if (((0 : Nat) : Int) > (l.length : Int) - (p : Int)) then _ else match Sre.run blkC l.toArray 15 (min 4294967295 ((l.length : Int) - (p : Int)).toNat) p 0 ((seen.add 24).add 13) with
    | .error why => _
    | .ok (n, seen) => _) = _
  rw [if_neg (by omega), hr]
  rfl
theorem blk_s3 {l : List Nat} {st p h : Nat} {fs : List Sre.Frame} {wt : Nat} {seen : Sre.Seen} (hp : p < l.length) (hc : l.getD p 0 ≠ 10) : (blkS l st 23 p h fs wt seen none).step = blkS l st 23 p h fs wt (seen.add 16) (some false) := by
  rw [step_exec rfl rfl (by show 23 < 26; decide)]
  show (if p ≥ l.length then _ else match accepts blkC 23 (l.toArray.getD p 0) (seen.add 16) with
    | .error why => _
    | .ok (false, seen) => blkS l st 23 p h fs wt seen (some false)
    | .ok (true, seen) => _) = _
  rw [if_neg (by omega), getD_arr]
  have e : accepts blkC 23 (l.getD p 0) (seen.add 16) = .ok (false, seen.add 16) := by
    show Except.ok (l.getD p 0 == 10, seen.add 16) = _
    rw [show (l.getD p 0 == 10) = false by simpa using hc]
  rw [e]
theorem blk_s4 {l : List Nat} {st p h : Nat} {seen : Sre.Seen} : (blkS l st 23 p h [blkF p] 1 seen (some false)).step = blkS l st 11 p h [] 0 seen (some false) := by
  rw [step_back rfl rfl rfl]; rfl
theorem blk_fail {l : List Nat} {j : Nat} (hj : j < l.length) (h0 : l.getD j 0 = 10) (h1 : l.getD (j + 1) 0 ≠ 32) (h2 : l.getD (j + 1) 0 ≠ 9) (h3 : l.getD (j + 1) 0 ≠ 10) :
    ∃ n m', n ≤ 5 ∧ Goes n (Sre.forMatch blkC l.toArray 0 j l.length false false) m' ∧ m'.outcome = some .failed := by
  rcases Nat.lt_or_ge (j + 1) l.length with q | q
  · obtain ⟨seen, e⟩ := blk_fresh l j q
    rw [e]
    have g1 := (Goes.one (m := blkS l j 9 j j [] 0 seen none) rfl).trans' (blk_s1 hj h0)
    obtain ⟨seen', e2⟩ := blk_s2 (st := j) (h := j) (seen := seen.add 16) q h1 h2
    have g2 := g1.trans ((Goes.one rfl).trans' e2)
    have g3 := g2.trans ((Goes.one rfl).trans' (blk_s3 q h3))
    have g4 := g3.trans ((Goes.one rfl).trans' blk_s4)
    have g5 := g4.trans ((Goes.one rfl).trans' (step_done rfl rfl rfl))
    exact ⟨_, _, by omega, g5, rfl⟩
  · obtain ⟨m', g, e⟩ := blk_noroom l j (by omega)
    exact ⟨1, m', by omega, g, e⟩
end Mine

end SMS

section SMT
open PySem PySem.W PyProof.Rows PySem.Calls PySem.Spec PySem.F
set_option Elab.async false
set_option maxRecDepth 100000
set_option maxHeartbeats 4000000
namespace Mine
open PySem.Builtin.Re
abbrev lstObj (vs : List Value) (n : Nat) : Obj := { cls := .type "list", data := .seq vs.toArray n }
abbrev strV (pl : List (List Nat × Tok)) : List Value := pl.map fun p => Value.str (S p.1) p.2
theorem glued_S (ts : List (List Nat)) : Builtin.Str.glued (S []) (ts.map S) = S ts.flatten := by
  have key : ∀ (ts : List (List Nat)) (acc : List Nat), ((ts.map S).foldl (fun (acc : Array Nat) p => acc ++ (S []).cps ++ p.cps) acc.toArray) = (acc ++ ts.flatten).toArray := by
    intro ts
    induction ts with
    | nil => intro acc; simp
    | cons t r ih =>
      intro acc
      rw [List.map_cons, List.foldl_cons]
      have e : acc.toArray ++ (S []).cps ++ (S t).cps = (acc ++ t).toArray := by simp [S]
      rw [e, ih]; simp
  unfold Builtin.Str.glued
  cases ts with
  | nil => rfl
  | cons t r =>
    simp only [List.map_cons, List.drop_succ_cons, List.drop_zero, List.headD_cons, List.flatten_cons]
    have := key r t
    rw [show (S t).cps = t.toArray from rfl, this]; rfl
theorem join_go {prog : Program} {w : World} {A : Around} {E : Value → Shared → Prop} {s : Shared} {t : Tok} {Q : Value → Shared → Prop} {D : Addr} {pl : List (List Nat × Tok)} (hl : s.heap.IsList D (strV pl).toArray) (hz : (pl.map (·.1)).flatten.length ≤ 2 ^ 21)
    (hq : ∀ t' k, Q (.str (S (pl.map (·.1)).flatten) t') { s with toks := k }) : wpAny (model prog w) A (call (.builtin "str.join") [.str (S []) t, .ref D]) Q E s := by
  have e1 : strV pl = strValues (pl.map fun p => (S p.1, p.2)) := by simp [strV, strValues]
  rw [e1] at hl
  refine SC.join (texts := (pl.map (·.1)).map S) hl (by simp) ?_ ?_
  · unfold JoinOk
    rw [StrLaws.joinTotal, Bool.not_eq_true']
    unfold Builtin.Str.tooLong
    have e2 : (((pl.map (·.1)).map S).map (·.length)).sum = (pl.map (·.1)).flatten.length := by
      rw [List.length_flatten, List.map_map]; congr 1
    rw [e2, sizeLine_eq]
    simp [S, Str.length] at hz ⊢
    try omega
  · intro t' k
    have := glued_S (pl.map (·.1))
    show Q (.str (Builtin.Str.glued (S []) ((pl.map (·.1)).map S)) t') _
    rw [this]; exact hq t' k
/-- a compiled pattern that stands in the written part -/
def PatIn (K : Frag) (pa : Addr) (code : Array Nat) (groups : Nat) : Prop :=
  ∃ fs ca co items n sl, K.lookup pa = some ⟨.type "re.Pattern", none, .fields fs, sl⟩ ∧ fs.getD 5 .none = .ref ca ∧ reRawNat (fs.getD 6 .none) = 0 ∧ reRawNat (fs.getD 2 .none) = groups ∧ K.lookup ca = some co ∧ co.data = .seq items n ∧ (items.map reRawOf).map (·.toNat) = code
section
variable {M : Model} {A : Around} {E : Value → Shared → Prop} {s : Shared} {K : Frag} {pa : Addr} {code : Array Nat} {groups : Nat}
theorem reItems {a : Addr} {o : Obj} {items : Array Value} {n : Nat} {Q : Array Int → Shared → Prop} (ho : s.heap.get? a = some o) (hd : o.data = .seq items n) (h : Q (items.map reRawOf) s) : wpAny M A (reRawItems (.ref a)) Q E s := by
  unfold reRawItems
  exact wpAny_bind (wpAny_seqItems ho hd (wpAny_pure h))
theorem reWhole {l : List Nat} {t : Tok} {Q : ReTarget → Shared → Prop} (X : K.In s.heap) (hp : PatIn K pa code groups)
    (h : Q { pattern := .ref pa, string := .str (S l) t, code := code, text := l.toArray, kind := 0, groups := groups, pos := 0, lim := l.length } s) : wpAny M A (reWholeTarget (.ref pa) (.str (S l) t)) Q E s := by
  obtain ⟨fs, ca, co, items, n, sl, h1, h2, h3, h4, h5, h6, h7⟩ := hp
  unfold reWholeTarget
  refine wpAny_bind (wpAny_fieldsOf (X _ _ h1) rfl ?_)
  refine wpAny_bind (wpAny_bind (wpAny_pure (wpAny_pure ?_)))
  dsimp only
  rw [h3]
  simp only [show ((0 : Nat) == 1) = false from rfl, show ((0 : Nat) == 0) = true from rfl, Bool.and_false, Bool.and_true, Bool.false_eq_true, if_false]
  rw [show reNoCollectionInside (Value.str (S l) t) 0 = pure () from rfl]
  refine wpAny_bind (wpAny_pure ?_)
  rw [h2]
  refine wpAny_bind (reItems (X _ _ h5) h6 (wpAny_pure ?_))
  rw [h7, h4]
  have e : (S l).cps = l.toArray := rfl
  rw [e, List.size_toArray]
  exact h
theorem mkStr_S {a : List Nat} {Q : Value → Shared → Prop} (h : Q (.str (S a) s.toks) { s with toks := s.toks + 1 }) (hx : a.length ≤ 2 ^ 21) : wpAny M A (mkStr (S a)) Q E s :=
  wpAny_mkStr h (by rw [S_len, sizeLine_eq]; omega)
theorem reSlice_S {l : List Nat} {i j : Nat} {Q : Value → Shared → Prop} (h : Q (.str (S (subI l i j)) s.toks) { s with toks := s.toks + 1 }) (hx : l.length < 2 ^ 20) : wpAny M A (reSlice l.toArray 0 i j) Q E s := by
  unfold reSlice
  rw [if_pos (by decide)]
  have e : (⟨l.toArray.extract i j⟩ : Str) = S (subI l i j) := by
    unfold S subI
    congr 1
    rw [List.extract_toArray, List.extract_eq_take_drop]
    congr 2
    omega
  rw [e]
  have := subI_len (l := l) (i := i) (j := j)
  exact mkStr_S h (by omega)
abbrev tupO (vs : List Value) : Obj := { cls := .type "tuple", data := .seq vs.toArray }
abbrev spanO (k : Nat) : Obj := tupO [rawInt k, rawInt ((k : Int) + 2), rawInt ((k : Int) + 1), rawInt ((k : Int) + 2)]
abbrev matO (pa : Addr) (l : List Nat) (t : Tok) (tp : Addr) : Obj := { cls := .type "re.Match", data := .fields #[.str (S l) t, .ref pa, rawInt 0, rawInt l.length, rawInt 1, .ref tp] }
theorem newMatch_go {l : List Nat} {t : Tok} {k : Nat} {m : Sre.M} {Q : Value → Shared → Prop} (hm : escFound l k m)
    (h : Q (.ref (s.heap.objs.size + 1)) { s with heap := (s.heap.push (spanO k)).push (matO pa l t s.heap.objs.size) }) :
    wpAny M A (reNewMatch (.ref pa) (.str (S l) t) 1 0 l.length m) Q E s := by
  obtain ⟨_, h1, h2, h3, h4, h5⟩ := hm
  unfold reNewMatch
  rw [h1, h2, h3, h4, h5]
  simp [List.range, List.range.loop]
  refine wpAny_bind (wpAny_newTuple ?_ (by show 4 ≤ sizeLine; rw [sizeLine_eq]; omega))
  unfold newFields
  refine wpAny_newObj_type ?_ (by first | trivial | decide | size_fits)
  rw [show (s.heap.push (spanO k)).objs.size = s.heap.objs.size + 1 by simp [Heap.push]] 
  exact h
end
/-- the text with its escapes undone -/
def unescL : List Nat → List Nat
  | [] => []
  | [c] => [c]
  | c :: d :: r => if (c == 92) = true ∧ isPunct d = true then d :: unescL r else c :: unescL (d :: r)
theorem unescL_cons (c : Nat) (r : List Nat) : unescL (c :: r) = if (c == 92) = true ∧ isPunct (r.headD 0) = true then r.headD 0 :: unescL r.tail else c :: unescL r := by
  cases r with
  | nil => rw [if_neg (by rintro ⟨_, b⟩; exact absurd b (by decide))]; rfl
  | cons d r => rfl
theorem unescL_none {s : Nat} : ∀ {l : List Nat}, escAt s l = none → unescL l = l := by
  intro l
  induction l generalizing s with
  | nil => intro _; rfl
  | cons c r ih =>
    intro h
    unfold escAt at h
    split at h
    · cases h
    · rename_i hc
      rw [unescL_cons, if_neg hc, ih h]
theorem unescL_some {k : Nat} : ∀ {l : List Nat} {s : Nat}, escAt s l = some k → s ≤ k ∧ k + 1 < s + l.length ∧ unescL l = l.take (k - s) ++ l.getD (k - s + 1) 0 :: unescL (l.drop (k - s + 2)) := by
  intro l
  induction l with
  | nil => intro s h; cases h
  | cons c r ih =>
    intro s h
    unfold escAt at h
    split at h
    · rename_i hc
      cases h
      have hr : r ≠ [] := by
        rintro rfl
        exact absurd hc.2 (by decide)
      obtain ⟨d, r', rfl⟩ := List.exists_cons_of_ne_nil hr
      refine ⟨Nat.le_refl _, by simp, ?_⟩
      rw [unescL_cons, if_pos hc, Nat.sub_self]
      simp
    · rename_i hc
      obtain ⟨h1, h2, h3⟩ := ih h
      refine ⟨by omega, by simp only [List.length_cons]; omega, ?_⟩
      rw [unescL_cons, if_neg hc, h3]
      obtain ⟨d, hd⟩ : ∃ d, k - s = d + 1 := ⟨k - s - 1, by omega⟩
      have e : k - (s + 1) = d := by omega
      rw [hd, e]
      simp
end Mine

end SMT

section SMU
open PySem PySem.W PyProof.Rows PySem.Calls PySem.Spec PySem.F
set_option Elab.async false
set_option maxRecDepth 100000
set_option maxHeartbeats 4000000
namespace Mine
open PySem.Builtin.Re
section
variable {prog : Program} {w : World} {A : Around} {K : Frag} {pa f p L : Addr} {l : List Nat} {t : Tok} {h₀ : Heap} {m : Str → Option Value} {news : List (Addr × Obj)} {R : Result → Shared → Prop} {s₀ : Shared}
theorem push_list {h : Heap} {vs : List Value} {n : Nat} {v : Value} (F : Fr h₀ L h m) (N : News h₀ L h ((p, lstObj vs n) :: news)) (hne : ∀ q ∈ news, q.1 ≠ p) :
    Fr h₀ L (h.update p (Obj.mapSeq (·.push v))) m ∧ News h₀ L (h.update p (Obj.mapSeq (·.push v))) ((p, lstObj (vs ++ [v]) (n + 1)) :: news) := by
  have e : Obj.mapSeq (·.push v) (lstObj vs n) = lstObj (vs ++ [v]) (n + 1) := by
    unfold lstObj Obj.mapSeq
    simp
  exact news_upd (pre := []) F N (fun _ h => nomatch h) hne e rfl
theorem push_go {E : Value → Shared → Prop} {s : Shared} {vs : List Value} {n : Nat} {v : Value} {Q : Unit → Shared → Prop} (F : Fr h₀ L s.heap m) (N : News h₀ L s.heap ((p, lstObj vs n) :: news)) (hne : ∀ q ∈ news, q.1 ≠ p) (hz : vs.length ≤ 2 ^ 21)
    (h : ∀ h', Fr h₀ L h' m → News h₀ L h' ((p, lstObj (vs ++ [v]) (n + 1)) :: news) → Q () { s with heap := h' }) : wpAny (model prog w) A (updateSeq p (·.push v)) Q E s := by
  obtain ⟨F', N'⟩ := push_list (v := v) F N hne
  refine wpAny_updateSeq (N _ (.head _)).1 rfl (h _ F' N') ?_ ?_
  · rw [List.size_toArray, sizeLine_eq]; omega
  · rw [Array.size_push, List.size_toArray, sizeLine_eq]; omega
/-- the tail of a turn: the match object, the callback, its text pushed, the next turn -/
theorem sub_tail {E : Value → Shared → Prop} {Q : Fin → Shared → Prop} {vs : List Value} {n k : Nat} {mm : Sre.M} {h : Heap} {tk : Nat} {cnt : Int} (hm : escFound l k mm) (hk : k + 1 < l.length) (hne : ∀ q ∈ news, q.1 ≠ p) (hz : vs.length ≤ 2 ^ 21)
    (hcb : ∀ (s : Shared) (all : List (Addr × Obj)) (mo tp : Addr) (k : Nat) (Q E : Value → Shared → Prop), Fr h₀ L s.heap m → News h₀ L s.heap all → (mo, matO pa l t tp) ∈ all → (tp, spanO k) ∈ all → (∀ q ∈ news, q ∈ all) → k + 1 < l.length →
      (∀ t' h' tk', Fr h₀ L h' m → News h₀ L h' all → Q (.str (S [l.getD (k + 1) 0]) t') { s with heap := h', toks := tk' }) → wpAny (model prog w) A.in1 (call (.ref f) [.ref mo]) Q E s)
    (F : Fr h₀ L h m) (N : News h₀ L h ((p, lstObj vs n) :: news))
    (hnext : ∀ t' h' tk', Fr h₀ L h' m → News h₀ L h' ((p, lstObj (vs ++ [.str (S [l.getD (k + 1) 0]) t']) (n + 1)) :: news) →
      Q (.again (.builtin "re.Pattern.sub.loop" ⟨[.ref pa, .str (S l) t, .ref f, .int 1 0, .int 0 0, .int (cnt + 1) 0, .int ((k + 2 : Nat) : Int) 0, .int ((k + 2 : Nat) : Int) 0, .bool false, .ref p, .bool false], []⟩)) { s₀ with heap := h', toks := tk' }) :
    wpAny (model prog w) A.in1 (do
      let found ← reNewMatch (.ref pa) (.str (S l) t) 1 0 l.length mm
      let item ← holding [found] (call (.ref f) [found])
      if (item != .none) = true then (do updateSeq p (·.push item); again (.builtin "re.Pattern.sub.loop" ⟨[.ref pa, .str (S l) t, .ref f, .int 1 0, .int 0 0, .int (cnt + 1) 0, .int mm.handed 0, .int mm.handed 0, .bool (mm.handed == mm.start), .ref p, .bool false], []⟩)) else again (.builtin "re.Pattern.sub.loop" ⟨[.ref pa, .str (S l) t, .ref f, .int 1 0, .int 0 0, .int (cnt + 1) 0, .int mm.handed 0, .int mm.handed 0, .bool (mm.handed == mm.start), .ref p, .bool false], []⟩)) Q E { s₀ with heap := h, toks := tk } := by
  refine wpAny_bind (newMatch_go hm ?_)
  have F1 := F.push (spanO k)
  have N1 := N.push F (spanO k)
  have F2 := F1.push (matO pa l t h.objs.size)
  have N2 := N1.push F1 (matO pa l t h.objs.size)
  have hsz : (h.push (spanO k)).objs.size = h.objs.size + 1 := by simp [Heap.push]
  rw [hsz] at N2
  refine wpAny_bind (wpAny_holding (hcb _ _ _ _ k _ _ F2 N2 (.head _) (.tail _ (.head _)) (fun q hq => .tail _ (.tail _ (.tail _ hq))) hk ?_))
  intro t' h' tk' F' N'
  have N3 : News h₀ L h' ((p, lstObj vs n) :: news) := fun q hq => N' q (.tail _ (.tail _ hq))
  have e : (Value.str (S [l.getD (k + 1) 0]) t' != Value.none) = true := rfl
  rw [e]
  simp only [if_true]
  obtain ⟨_, h1, h2, _⟩ := hm
  refine wpAny_bind (push_go F' N3 hne hz fun h'' F'' N'' => ?_)
  have e2 : (k + 2 == k) = false := by simp
  rw [h1, h2, e2]
  exact wpAny_pure (hnext _ _ _ F'' N'')
theorem strV_push (pl : List (List Nat × Tok)) (a : List Nat) (u : Tok) : strV pl ++ [.str (S a) u] = strV (pl ++ [(a, u)]) := by simp [strV]
/-- the end: the pieces joined -/
theorem sub_end {E : Value → Shared → Prop} {Q : Fin → Shared → Prop} {pl : List (List Nat × Tok)} {n : Nat} {h : Heap} {tk : Nat} (hl : l.length < 2 ^ 20) (hz : (pl.map (·.1)).flatten.length ≤ 2 ^ 21)
    (F : Fr h₀ L h m) (N : News h₀ L h ((p, lstObj (strV pl) n) :: news))
    (hq : ∀ t' h' tk', Fr h₀ L h' m → News h₀ L h' news → Q (.done (.ret (.str (S (pl.map (·.1)).flatten) t'))) { s₀ with heap := h', toks := tk' }) :
    wpAny (model prog w) A (do
      let joiner ← reSlice l.toArray 0 0 0
      let items ← seqItems? (.ref p)
      if (items.getD #[]).isEmpty = true then (do let x ← pure joiner; ret x) else (do
        let x ← call (.builtin (if ((0 : Nat) == 0) = true then "str.join" else "bytes.join")) [joiner, .ref p]
        ret x)) Q E { s₀ with heap := h, toks := tk } := by
  have Nn : News h₀ L h news := fun q hq => N q (.tail _ hq)
  refine wpAny_bind (reSlice_S ?_ hl)
  have e0 : subI l ((0 : Nat) : Int) ((0 : Nat) : Int) = [] := by simp [subI]
  rw [e0]
  refine wpAny_bind (wpAny_seqItems (N _ (.head _)).1 rfl ?_)
  simp only [Option.getD_some]
  cases pl with
  | nil =>
    rw [if_pos (by simp [strV])]
    refine wpAny_bind (wpAny_pure (wpAny_pure ?_))
    exact hq _ _ _ F Nn
  | cons a r =>
    rw [if_neg (by simp [strV]), if_pos (by decide)]
    refine wpAny_bind (join_go (pl := a :: r) ⟨_, (N _ (.head _)).1, rfl, _, rfl⟩ hz fun t' k => wpAny_pure ?_)
    exact hq _ _ _ F Nn
theorem flat_len (pl : List (List Nat × Tok)) (a : List Nat) (u : Tok) : ((pl ++ [(a, u)]).map (·.1)).flatten.length = (pl.map (·.1)).flatten.length + a.length := by
  rw [List.map_append, List.flatten_append, List.length_append]
  simp only [List.map_cons, List.map_nil, List.flatten_cons, List.flatten_nil, List.append_nil]
theorem subI_len2 {l : List Nat} {i j : Nat} : (subI l i j).length ≤ j - i := by
  unfold subI; rw [List.length_take]; omega
theorem drop_add {l : List Nat} {a b : Nat} : (l.drop a).drop b = l.drop (a + b) := by rw [List.drop_drop]
theorem sub_loop (X₀ : K.In h₀) (hp : PatIn K pa escC 1) (hl : l.length < 2 ^ 20) (hne : ∀ q ∈ news, q.1 ≠ p)
    (hcb : ∀ (s : Shared) (all : List (Addr × Obj)) (mo tp : Addr) (k : Nat) (Q E : Value → Shared → Prop), Fr h₀ L s.heap m → News h₀ L s.heap all → (mo, matO pa l t tp) ∈ all → (tp, spanO k) ∈ all → (∀ q ∈ news, q ∈ all) → k + 1 < l.length →
      (∀ t' h' tk', Fr h₀ L h' m → News h₀ L h' all → Q (.str (S [l.getD (k + 1) 0]) t') { s with heap := h', toks := tk' }) → wpAny (model prog w) A.in1 (call (.ref f) [.ref mo]) Q E s)
    (hend : ∀ t' h' tk', Fr h₀ L h' m → News h₀ L h' news → R (.ok (.ret (.str (S (unescL l)) t'))) { s₀ with heap := h', toks := tk' }) :
    ∀ (d st : Nat) (pl : List (List Nat × Tok)) (n : Nat) (cnt : Int) (h : Heap) (tk : Nat), l.length + 1 - st ≤ d → st ≤ l.length → (pl.map (·.1)).flatten ++ unescL (l.drop st) = unescL l → (pl.map (·.1)).flatten.length ≤ st → pl.length ≤ st →
      Fr h₀ L h m → News h₀ L h ((p, lstObj (strV pl) n) :: news) →
      codeAny (model prog w) A (.builtin "re.Pattern.sub.loop" ⟨[.ref pa, .str (S l) t, .ref f, rawInt 1, rawInt 0, rawInt cnt, rawInt st, rawInt st, .bool false, .ref p, .bool false], []⟩) R { s₀ with heap := h, toks := tk } := by
  intro d
  induction d with
  | zero => intro st pl n cnt h tk hd hst; omega
  | succ d ih =>
    intro st pl n cnt h tk hd hst hU hL1 hL2 F N
    refine codeAny_builtin entry_re_sub_loop ?_
    rw [Around.under_plainId (by decide +kernel)]
    unfold Builtin.«re.Pattern.sub.loop»
    dsimp only [rawInt]
    refine wpAny_bind (reWhole (X₀.keeps F.keep) hp ?_)
    dsimp only
    simp only [show ((1 : Int) == 0) = false from rfl, show ((1 : Int) == 1) = true from rfl, show ((0 : Int) != 0) = false from rfl, Bool.false_and, Bool.false_eq_true, if_false, if_true, Int.toNat_natCast]
    refine wpAny_bind (esc_next rfl rfl rfl rfl hl hst ?_)
    cases hk : escAt st (l.drop st) with
    | none =>
      have hu := unescL_none hk
      rw [hu] at hU
      dsimp only
      by_cases hlt : st < l.length
      · rw [if_pos hlt]
        refine wpAny_bind (reSlice_S ?_ hl)
        have hz : (strV pl).length ≤ 2 ^ 21 := by simp only [strV, List.length_map]; omega
        refine wpAny_bind (push_go F N hne hz fun h' F' N' => ?_)
        rw [strV_push] at N'
        have e : subI l ((st : Nat) : Int) ((l.length : Nat) : Int) = l.drop st := by
          unfold subI; rw [List.take_of_length_le]; simp; simp
        rw [e] at N'
        have e2 : ((pl ++ [(l.drop st, tk)]).map (·.1)).flatten = unescL l := by rw [← hU]; simp
        refine sub_end hl ?_ F' N' fun t' h'' tk'' F'' N'' => ?_
        · rw [List.map_append, List.flatten_append, List.length_append]
          simp only [List.map_cons, List.map_nil, List.flatten_cons, List.flatten_nil, List.append_nil, List.length_drop]
          omega
        · rw [e2]; exact hend _ _ _ F'' N''
      · rw [if_neg hlt]
        rw [List.drop_eq_nil_of_le (by omega), List.append_nil] at hU
        refine sub_end hl (by omega) F N fun t' h'' tk'' F'' N'' => ?_
        rw [hU]; exact hend _ _ _ F'' N''
    | some k =>
      obtain ⟨k1, k2, k3⟩ := unescL_some hk
      rw [List.length_drop] at k2
      dsimp only
      intro mm hm
      have hs : mm.start = k := hm.2.1
      have hg : (l.drop st).getD (k - st + 1) 0 = l.getD (k + 1) 0 := by
        simp only [List.getD_eq_getElem?_getD, List.getElem?_drop]
        rw [show st + (k - st + 1) = k + 1 by omega]
      rw [hg, drop_add, show st + (k - st + 2) = k + 2 by omega] at k3
      rw [k3] at hU
      by_cases hlt : st < mm.start
      · rw [if_pos hlt]
        refine wpAny_bind (reSlice_S ?_ hl)
        rw [hs] at hlt
        have hz : (strV pl).length ≤ 2 ^ 21 := by simp only [strV, List.length_map]; omega
        refine wpAny_bind (push_go F N hne hz fun h' F' N' => ?_)
        rw [strV_push, hs] at N'
        have hz' : (strV (pl ++ [(subI l st k, tk)])).length ≤ 2 ^ 21 := by simp only [strV, List.length_map, List.length_append, List.length_singleton]; omega
        refine sub_tail hm (by omega) hne hz' hcb F' N' fun t' h'' tk'' F'' N'' => ⟨plainId_quiet (by decide +kernel) _, ?_⟩
        rw [strV_push] at N''
        refine ih (k + 2) _ _ _ _ _ (by omega) (by omega) ?_ ?_ ?_ F'' N''
        · rw [← hU]; simp [subI, List.append_assoc]
        · have := subI_len2 (l := l) (i := st) (j := k)
          rw [flat_len, flat_len, List.length_singleton]; omega
        · simp; omega
      · rw [if_neg hlt]
        rw [hs] at hlt
        have e : k = st := by omega
        subst e
        have hz : (strV pl).length ≤ 2 ^ 21 := by simp only [strV, List.length_map]; omega
        refine sub_tail hm (by omega) hne hz hcb F N fun t' h'' tk'' F'' N'' => ⟨plainId_quiet (by decide +kernel) _, ?_⟩
        rw [strV_push] at N''
        refine ih (k + 2) _ _ _ _ _ (by omega) (by omega) ?_ ?_ ?_ F'' N''
        · rw [← hU]; simp [List.append_assoc]
        · rw [flat_len, List.length_singleton]; omega
        · simp; omega
end
end Mine

end SMU

section SMV
open PySem PySem.W PyProof.Rows PySem.Calls PySem.Spec PySem.F
set_option Elab.async false
set_option maxRecDepth 100000
set_option maxHeartbeats 4000000
namespace Mine
open PySem.Builtin.Re
theorem named_sub (a b : Value) : reNamed "re.Pattern.sub" "sub" ["repl", "string", "count"] 2 [a, b] [] = pure [some a, some b, none] := by rfl
theorem look_fn_call : typeLookup (.type "function") "__call__" = pure (some (.builtin "function.__call__")) := by rw [typeLookup_type, builtinLookup_eq_fast]; kernel_rfl
theorem sub_str_ba : isSubtype (.type "str") (.type "bytearray") = pure false := by rw [isSubtype_type]; kernel_rfl
section
variable {prog : Program} {w : World} {A : Around} {K : Frag} {pa f L : Addr} {l : List Nat} {t : Tok} {h₀ : Heap} {m : Str → Option Value} {news : List (Addr × Obj)} {Q E : Value → Shared → Prop} {s : Shared}
theorem sub_go (X₀ : K.In h₀) (hp : PatIn K pa escC 1) (hl : l.length < 2 ^ 20) (F : Fr h₀ L s.heap m) (N : News h₀ L s.heap news) (hf : ∃ o, s.heap.get? f = some o ∧ o.cls = .type "function")
    (hcb : ∀ (s : Shared) (all : List (Addr × Obj)) (mo tp : Addr) (k : Nat) (Q E : Value → Shared → Prop), Fr h₀ L s.heap m → News h₀ L s.heap all → (mo, matO pa l t tp) ∈ all → (tp, spanO k) ∈ all → (∀ q ∈ news, q ∈ all) → k + 1 < l.length →
      (∀ t' h' tk', Fr h₀ L h' m → News h₀ L h' all → Q (.str (S [l.getD (k + 1) 0]) t') { s with heap := h', toks := tk' }) → wpAny (model prog w) A.in1 (call (.ref f) [.ref mo]) Q E s)
    (hend : ∀ t' h' tk', Fr h₀ L h' m → News h₀ L h' news → Q (.str (S (unescL l)) t') { s with heap := h', toks := tk' }) :
    wpAny (model prog w) A (call (.builtin "re.Pattern.sub") [.ref pa, .ref f, .str (S l) t]) Q E s := by
  obtain ⟨fs, ca, co, items, n, sl, p1, _⟩ := id hp
  have hT : s.TypeIs (.ref pa) "re.Pattern" := ⟨_, (X₀.keeps F.keep) _ _ p1, rfl⟩
  refine wpAny_call (codeAny_call_builtin slot_re_sub.plain entry_re_sub (slot_re_sub.check _ _ _ _ _ _ _ _ hT (args_re_sub _ _ _) ?_))
  unfold Builtin.«re.Pattern.sub» reSubstitute
  dsimp only
  rw [named_sub]
  refine wpAny_bind (wpAny_pure ?_)
  dsimp only
  refine wpAny_bind (wpAny_pure ?_)
  have hTf : s.TypeIs (.ref f) "function" := hf
  refine wpAny_bind (wpAny_specialOf hTf look_fn_call ?_)
  dsimp only [Option.isSome_some]
  rw [if_pos rfl]
  refine wpAny_bind (wpAny_pure ?_)
  rw [if_pos rfl]
  refine wpAny_bind (wpAny_pure ?_)
  dsimp only
  refine wpAny_bind (wpAny_holding (reWhole (X₀.keeps F.keep) hp ?_))
  rw [if_pos (by decide)]
  refine wpAny_bind ?_
  unfold reNotHeld
  refine wpAny_bind (wpAny_isInstance (T := "str") rfl sub_str_ba ?_)
  rw [if_neg (by decide)]
  refine wpAny_pure ?_
  refine wpAny_bind (wpAny_newList ?_ (by show 0 ≤ sizeLine; omega))
  have F1 := F.push (lstObj [] 0)
  have N1 := N.push F (lstObj [] 0)
  refine wpAny_pure ⟨plainId_quiet (by decide +kernel) _, ?_⟩
  refine sub_loop (s₀ := s) (p := s.heap.objs.size) X₀ hp hl (fun q hq => Nat.ne_of_lt (Heap.lt_size (N q hq).1)) hcb hend (l.length + 1) 0 [] 0 0 _ _ (by omega) (by omega) rfl (by simp) (by simp) F1 N1
end
section
variable {prog : Program} {w : World} {A : Around} {pa mo tp : Addr} {l : List Nat} {t u : Tok} {k : Nat} {Q E : Value → Shared → Prop} {s : Shared}
theorem group_go (hmo : s.heap.get? mo = some (matO pa l t tp)) (htp : s.heap.get? tp = some (spanO k)) (hl : l.length < 2 ^ 20) (hk : k + 1 < l.length) (h : Q (.str (S [l.getD (k + 1) 0]) s.toks) { s with toks := s.toks + 1 }) :
    wpAny (model prog w) A (call (.builtin "re.Match.group") [.ref mo, .int 1 u]) Q E s := by
  have hT : s.TypeIs (.ref mo) "re.Match" := ⟨_, hmo, rfl⟩
  refine wpAny_call_entry slot_re_group hT entry_re_group ?_ (args_re_group _ _)
  unfold Builtin.«re.Match.group»
  dsimp only
  rw [show noKeywords "Match.group" ⟨[Value.ref mo, Value.int 1 u], []⟩ = pure () from rfl]
  refine wpAny_bind (wpAny_pure ?_)
  unfold reFound
  refine wpAny_bind (wpAny_bind (wpAny_fieldsOf hmo rfl ?_))
  refine wpAny_bind (reItems htp rfl (wpAny_pure ?_))
  have e1 : ∀ x : ReFound, x.spans.size = 4 → reGroupNumber x (.int 1 u) = pure 1 := by
    intro x hx
    unfold reGroupNumber
    rw [hx]; rfl
  rw [e1 _ (by simp)]
  refine wpAny_bind (wpAny_pure ?_)
  unfold reGroupText
  have b1 : (Array.map reRawOf #[rawInt (k : Int), rawInt ((k : Int) + 2), rawInt ((k : Int) + 1), rawInt ((k : Int) + 2)]).getD (2 * 1) (-1) = (k : Int) + 1 := by simp [reRawOf, rawInt]
  have b2 : (Array.map reRawOf #[rawInt (k : Int), rawInt ((k : Int) + 2), rawInt ((k : Int) + 1), rawInt ((k : Int) + 2)]).getD (2 * 1 + 1) (-1) = (k : Int) + 2 := by simp [reRawOf, rawInt]
  dsimp only
  rw [b1, b2, if_neg (by simp; omega)]
  refine wpAny_bind (wpAny_bind (show wpAny _ _ (reTextOf (.str (S l) t)) _ _ _ from wpAny_bind (wpAny_pure (wpAny_pure ?_))))
  dsimp only
  rw [show (S l).cps = l.toArray from rfl, show ((k : Int) + 1).toNat = k + 1 by omega, show ((k : Int) + 2).toNat = k + 2 by omega]
  refine reSlice_S ?_ hl
  have e2 : subI l ((k + 1 : Nat) : Int) ((k + 2 : Nat) : Int) = [l.getD (k + 1) 0] := by
    unfold subI
    rw [show (((k + 1 : Nat) : Int)).toNat = k + 1 by omega, show (((k + 2 : Nat) : Int) - ((k + 1 : Nat) : Int)).toNat = 1 by omega, drop_cons hk]
    rfl
  rw [e2]
  exact wpAny_pure ⟨_, rfl, h⟩
end
/-- the sign that closes a title opened by c -/
def closerOf (c : Nat) : Option Nat := if c = 39 then some 39 else if c = 34 then some 34 else if c = 40 then some 41 else none
abbrev closerD : List (PyData × PyData) := [(.str (S [39]), .str (S [39])), (.str (S [34]), .str (S [34])), (.str (S [40]), .str (S [41]))]
theorem get_closer {prog : Program} {w : World} {A : Around} {E : Value → Shared → Prop} {s : Shared} {d : Addr} {D : List (PyData × PyData)} {c : Nat} {t : Tok} {Q : Value → Shared → Prop} (T : StrTab prog w s.heap d D) (hD : D = closerD)
    (h : ∀ t', match closerOf c with | some e => Q (.str (S [e]) t') { s with toks := s.toks + 1 } | none => Q .none { s with toks := s.toks + 1 }) :
    wpAny (model prog w) A (call (.builtin "dict.get") [.ref d, .str (S [c]) t]) Q E s := by
  subst hD
  refine call_get1_strTab T fun v hv => ?_
  have key : ((Spec.lookup (PyData.str (S [c])) closerD).getD .none) = (match closerOf c with | some e => .str (S [e]) | none => .none) := by
    have q : ∀ a b : Nat, (S [a] == S [b]) = (a == b) := fun a b => by rw [Bool.eq_iff_iff, beq_iff_eq, beq_iff_eq]; simp
    unfold Spec.lookup Spec.lookup Spec.lookup Spec.lookup closerOf
    simp only [Spec.same, q]
    by_cases h1 : c = 39
    · subst h1; rfl
    · by_cases h2 : c = 34
      · subst h2; rfl
      · by_cases h3 : c = 40
        · subst h3; rfl
        · rw [if_neg (by simp; omega), if_neg (by simp; omega), if_neg (by simp; omega), if_neg h1, if_neg h2, if_neg h3]; rfl
  rw [key] at hv
  cases hc : closerOf c with
  | none => rw [hc] at hv h; dsimp only at hv h; rw [PyProof.V.Flat.none_inv hv]; exact h 0
  | some e => rw [hc] at hv h; dsimp only at hv h; obtain ⟨t', rfl⟩ := PyProof.V.Flat.str_inv hv; exact h t'
section
variable {prog : Program} {w : World} {A : Around} {p L : Addr} {h₀ : Heap} {m : Str → Option Value} {news : List (Addr × Obj)} {s : Shared} {E : Value → Shared → Prop}
theorem append_go {vs : List Value} {n : Nat} {v : Value} {Q : Value → Shared → Prop} (F : Fr h₀ L s.heap m) (N : News h₀ L s.heap ((p, lstObj vs n) :: news)) (hne : ∀ q ∈ news, q.1 ≠ p) (hz : vs.length ≤ 2 ^ 21)
    (h : ∀ h', Fr h₀ L h' m → News h₀ L h' ((p, lstObj (vs ++ [v]) (n + 1)) :: news) → Q .none { s with heap := h' }) : wpAny (model prog w) A (call (.builtin "list.append") [.ref p, v]) Q E s := by
  have e : vs.toArray.push v = (vs ++ [v]).toArray := by simp
  exact append_K F N (.head hne) (by rw [e]; exact h) (by rw [List.size_toArray, sizeLine_eq]; omega)
theorem join_lit {x : Str} {t : Tok} {Q : Value → Shared → Prop} {pl : List (List Nat × Tok)} {n : Nat} (hx : x = S []) (N : News h₀ L s.heap ((p, lstObj (strV pl) n) :: news)) (hz : (pl.map (·.1)).flatten.length ≤ 2 ^ 21)
    (hq : ∀ t' k, Q (.str (S (pl.map (·.1)).flatten) t') { s with toks := k }) : wpAny (model prog w) A (call (.builtin "str.join") [.str x t, .ref p]) Q E s := by
  subst hx
  exact join_go ⟨_, (N _ (.head _)).1, rfl, _, rfl⟩ hz hq
end
theorem named_match (a b c : Value) : reNamed "re.Pattern.match" "match" ["string", "pos", "endpos"] 1 [a, b, c] [] = pure [some a, some b, some c] := by rfl
section
variable {prog : Program} {w : World} {A : Around} {K : Frag} {pa : Addr} {l : List Nat} {t u v : Tok} {Q E : Value → Shared → Prop} {s : Shared} {j : Int}
theorem ssize_go {M : Model} {i : Int} {Q : Int → Shared → Prop} {E : Value → Shared → Prop} (h0 : 0 ≤ i) (h1 : i < 2 ^ 62) (h : Q i s) : wpAny M A (reSsize (.int i t)) Q E s := by
  unfold reSsize
  rw [show asIndex (Value.int i t) = pure i from rfl]
  refine wpAny_bind (wpAny_pure ?_)
  rw [if_neg (by simp; omega)]
  exact wpAny_pure h
theorem match_none (X : K.In s.heap) (hp : PatIn K pa blkC 0) (hl : l.length < 2 ^ 20) (h0 : 0 ≤ j) (h1 : j < l.length) (c0 : l.getD j.toNat 0 = 10) (c1 : l.getD (j + 1).toNat 0 ≠ 32) (c2 : l.getD (j + 1).toNat 0 ≠ 9) (c3 : l.getD (j + 1).toNat 0 ≠ 10)
    (h : Q .none s) : wpAny (model prog w) A (call (.builtin "re.Pattern.match") [.ref pa, .str (S l) t, .int j u, .int l.length v]) Q E s := by
  obtain ⟨fs, ca, co, items, n, sl, p1, p2, p3, p4, p5, p6, p7⟩ := hp
  have hT : s.TypeIs (.ref pa) "re.Pattern" := ⟨_, X _ _ p1, rfl⟩
  refine wpAny_call_entry slot_re_match hT entry_re_match ?_ (args_re_match _ _ _ _)
  unfold Builtin.«re.Pattern.match» reTarget
  dsimp only
  rw [named_match]
  refine wpAny_bind (wpAny_bind (wpAny_pure ?_))
  dsimp only
  refine wpAny_bind (ssize_go h0 (by omega) ?_)
  refine wpAny_bind (ssize_go (by omega) (by omega) ?_)
  refine wpAny_bind (wpAny_fieldsOf (X _ _ p1) rfl ?_)
  refine wpAny_bind (wpAny_bind (wpAny_pure (wpAny_pure ?_)))
  dsimp only
  rw [p3]
  simp only [show ((0 : Nat) == 1) = false from rfl, show ((0 : Nat) == 0) = true from rfl, Bool.and_false, Bool.and_true, Bool.false_eq_true, if_false]
  rw [show reNoCollectionInside (Value.str (S l) t) 0 = pure () from rfl]
  refine wpAny_bind (wpAny_pure ?_)
  rw [p2]
  refine wpAny_bind (reItems (X _ _ p5) p6 (wpAny_pure ?_))
  rw [p7, p4]
  have e : (S l).cps = l.toArray := rfl
  rw [e, List.size_toArray]
  unfold reAnswer
  dsimp only
  have e1 : min j.toNat l.length = j.toNat := by omega
  have e2 : min ((l.length : Int)).toNat l.length = l.length := by omega
  rw [e1, e2]
  have q : (j + 1).toNat = j.toNat + 1 := by omega
  rw [q] at c1 c2 c3
  obtain ⟨k, m', hk, g, ho⟩ := blk_fail (l := l) (j := j.toNat) (by omega) c0 c1 c2 c3
  refine wpAny_bind (runToEnd_failed g ho (by omega) ?_)
  exact wpAny_pure ⟨_, rfl, h⟩
end
end Mine

end SMV

section SCE
open PySem PySem.W PyProof.Rows PySem.Calls PySem.Spec
theorem Mine.offCE : True := by w_top off; exact trivial
namespace Mine
section
local macro_rules | `(tactic| cell_enter) => `(tactic| (refine wpAny_call ?_; refine' con_code (by assumption) ?k1 ?k2 ?k3 ?k4 ?kz ?k5 ?kA ?kF ?kK ?k6 ?k7 ?k8 ?k9 ?kB (by assumption) ?kQ ?_ ?c2 ?c3 ?c4 ?c5; (case kA => exact rfl); (case kF => exact rfl); (case kK => assumption); (case k1 => k_asm); (case k2 => k_asm); (case k3 => k_asm); (case k4 => k_asm); (case kz => assumption); (case k5 => k_asm); (case k6 => k_is); (case k7 => k_is); (case k8 => ktr_room); (case k9 => (refine' kp_binds ?kx ?ke; (case kx => k_in); (case ke => exact fun _ => rfl))); (case kQ => exact fun _ _ q => q); (case c5 => decide); (case kB => exact locs rfl); (case c2 => exact rfl); (case c3 => exact rfl); (case c4 => exact rfl); k_whole; intro g' L' h' F' N' B' X' T' l0; (try k_lt l0); (try dsimp only); (try k_fold)))
local macro_rules | `(tactic| walk_at "subscriptTail") => `(tactic| ((with_reducible show wpAny _ _ (subscriptTail _ _ (Value.str (S _) _) (Value.int _ _)) _ _ _); refine sub_S (by omega) (by omega) (by omega) ?_))
local macro_rules | `(tactic| walk_at "subscriptTail Name Name str int") => `(tactic| (refine sub_S (by omega) (by omega) (by omega) ?_))
local macro_rules | `(tactic| walk_at "compareOp In str str") => `(tactic| first | refine in_ws ?_ | refine in_punct ?_ | refine in_blank ?_ | refine in_nl ?_ | refine in_ang ?_)
local macro_rules | `(tactic| walk_at "call builtin:len") => `(tactic| refine len_S (by omega) ?_)
local macro_rules | `(tactic| walk_at "call builtin:ord") => `(tactic| refine ord_ch ?_)
local macro_rules | `(tactic| walk_at "compareOp Eq str str") => `(tactic| first
  | refine eq_ch (d := 60) (by decide : Str.ofString "<" = S [60]) ?_
  | refine eq_ch (d := 62) (by decide : Str.ofString ">" = S [62]) ?_
  | refine eq_ch (d := 10) (by decide : Str.ofString "\n" = S [10]) ?_
  | refine eq_ch (d := 13) (by decide : Str.ofString "\x0d" = S [13]) ?_
  | refine eq_ch (d := 40) (by decide : Str.ofString "(" = S [40]) ?_
  | refine eq_ch (d := 41) (by decide : Str.ofString ")" = S [41]) ?_
  | refine eq_ch (d := 92) (by decide : Str.ofString "\\" = S [92]) ?_
  | refine eq_ch (d := 0) (by decide : Str.ofString "\x00" = S [0]) ?_
  | refine eq_ch (d := 127) (by decide : Str.ofString "\x7f" = S [127]) ?_)
local macro_rules | `(tactic| walk_at "compareOp NotEq str str") => `(tactic| first
  | refine ne_ch (d := 41) (by decide : Str.ofString ")" = S [41]) ?_)
local macro_rules | `(tactic| walk_at "subscriptTail Name Slice str ref") => `(tactic| ((with_reducible show wpAny _ _ (subscriptTail _ (Expr.Slice (some _) (some _) none _) (Value.str (S _) _) _) _ _ _); (refine slice_go (s := ⟨_, _, _, _, _⟩) (by assumption) (by assumption) (by omega) (by omega) (by omega) (by omega) ?_); intro h' t' tk' F' N'))
local macro_rules | `(tactic| walk_at "ite") => `(tactic| first
  | with_reducible refine ite_tt ?_ | with_reducible refine ite_ff ?_ | with_reducible refine split_not ?_
  | with_reducible refine boolT (by with_reducible assumption) ?_ | with_reducible refine boolF (by with_reducible assumption) ?_
  | with_reducible refine decT (by omega) ?_ | with_reducible refine decF (by omega) ?_
  | (with_reducible refine split_ine ?_ ?_ <;> intro _) | (with_reducible refine split_ieq ?_ ?_ <;> intro _)
  | (with_reducible refine PyProof.Rows.split_dec ?_ ?_ <;> intro _) | (with_reducible refine PyProof.Rows.split_bool ?_ ?_ <;> intro _))
local macro_rules | `(tactic| ksw_same) => `(tactic| (intro z h2 h3; (simp only [List.forall_mem_cons, List.not_mem_nil, false_implies, implies_true, and_true, ne_eq] at h2); (simp only [List.contains_cons, List.contains_nil, Bool.or_false, Bool.or_eq_false_iff, beq_eq_false_iff_ne, ne_eq] at h3); simp only [h2, h3, if_false, List.contains_cons, List.contains_nil, Bool.or_false, Bool.or_eq_true, beq_iff_eq, or_self, or_false, false_or, Bool.false_eq_true]))
local macro_rules | `(tactic| walk_at "MPost") => `(tactic| (dsimp only [MPost]))
local macro_rules | `(tactic| walk_at "truthy str") => `(tactic| first | refine truthy_cons (by simp only [List.length_nil]; omega) ?_ | refine truthy_S (by omega) ?_)
local macro_rules | `(tactic| walk_at "binaryOp Add str str") => `(tactic| first
  | (refine add_SS (a := []) (b := _) (by decide : Str.ofString "" = S []) rfl (by simp only [List.length_nil, List.length_cons]; omega) ?_; intro t' tk')
  | (refine add_SS rfl rfl (by simp only [List.length_nil, List.length_cons, List.length_append]; omega) ?_; intro t' tk'))
local macro_rules | `(tactic| walk_at "compareOp NotIn str str") => `(tactic| refine notin_ws ?_)

/-- the table of the lambda's code object: not yet made, or made -/
def TabL (mt : List (Addr × Obj)) : Prop :=
  mt = [(76, tabObj #[])] ∨ ∃ c' oc vs t, mt = [(76, tabObj #[rawInt 35, rawInt 31, .ref c']), (c', oc)] ∧ oc.data = .fields vs ∧ vs[1]? = some (.str (Str.ofString "unescape_char.<locals>.<lambda>") t) ∧ c' ≠ 76
local macro_rules | `(tactic| walk_at "getMethod ref") => `(tactic| ((with_reducible show wpAny _ _ (getMethod (Value.ref 69) _ _) _ _ _); refine getMethod_builtin (T := "re.Pattern") (Q := _) ⟨_, (Frag.In.keeps (by assumption) (Fr.keep (by assumption))) _ _ (by k_dflt k_is), rfl⟩ plainAttrs_rePattern slot_re_sub type_re_sub (fun a e => by cases e; exact ⟨_, (Frag.In.keeps (by assumption) (Fr.keep (by assumption))) _ _ (by k_dflt k_is), rfl⟩) ?_))
theorem pat_esc (w : World) : PatIn (hd.heap_39 w.params) 69 escC 1 := ⟨_, 68, _, _, _, _, by rfl, by rfl, by rfl, by rfl, by rfl, by rfl, by decide +kernel⟩
theorem c_unesc (w : World) (l : List Nat) (tx : Tok) (mt : List (Addr × Obj)) (h2 : l.length < 2 ^ 20) (hm : TabL mt) :
    Con PySem.Challenge.rw_ci0012_02.row.prog w (hd.heap_39 w.params) 2 81 [.str (S l) tx] [] mt (fun v new mt' => (∃ t, v = .str (S (unescL l)) t) ∧ new = [] ∧ TabL mt') := by
  k_fill
  intro p loose mean mg mb dp un gd cn cs a ccd cl outer A₀ base h₀ L m rest s Q E B F X N hz T hk hdp hun hret
  k_with_none
  k_with "getMethod ref" => (refine getMethod_builtin (T := "re.Match") ⟨_, News.get (by assumption) (by assumption), rfl⟩ plainAttrs_reMatch slot_re_group type_re_group (fun a e => by cases e; exact ⟨_, News.get (by assumption) (by assumption), rfl⟩) ?_)
  k_with "call builtin:re.Match.group" => (refine group_go (News.get (by assumption) (by assumption)) (News.get (by assumption) (by assumption)) (by assumption) (by assumption) ?_)
  have hb : BindsAre [(Str.ofString "text", .str (S l) tx)] := trivial
  rcases hm with rfl | ⟨c', oc, vs, t, rfl, hd', hv', hc'⟩
  · k_dflt cell_enter
    clear B F X N hz T hret
    have C := codeHd_of_K (c := 80) (P := 76) (by assumption : (hd.heap_39 w.params).In _) (by kernel_rfl)
    k_steps
    rename_i f1 c1 oc1 vs1 t1 ct1 hh1 tk1 F1 N1 d1 d2 l1 l2
    refine sub_go (by assumption) (pat_esc w) (by assumption) (by assumption) (by assumption) ⟨_, News.get (by assumption) (by k_mem), rfl⟩ ?_ ?_
    · intro s2 all mo tp k Q2 E2 F2 N2 hmo htp hall hk2 hret2
      refine wpAny_call (kla_code (by assumption) F2 (by assumption) N2 (by assumption) rfl rfl rfl (hall _ (by k_mem)) (codeRec_news N2 (hall _ (by k_mem)) (by assumption) (by assumption)) (by ktr_room) rfl (locs rfl) ?_ rfl rfl rfl (by decide))
      intro g3 L3 h3 FG3 F3 N3 B3 X3 T3
      k_steps
      exact hret2 _ _ _ (by assumption) (by assumption)
    · intro t' h' tk' F' N'
      refine Ends.mk [] [(76, tabObj #[rawInt 35, rawInt 31, .ref c1]), (c1, oc1)] F' N' ?_ ⟨⟨_, rfl⟩, rfl, .inr ⟨c1, oc1, vs1, t1, rfl, d1, d2, Nat.ne_of_gt l1⟩⟩
      rw [List.nil_append]
      exact List.forall_mem_cons.mpr ⟨by k_mem, List.forall_mem_cons.mpr ⟨by k_mem, List.forall_mem_nil _⟩⟩
  · k_dflt cell_enter
    clear B F X N hz T hret
    have C := codeHd_of_K (c := 80) (P := 76) (by assumption : (hd.heap_39 w.params).In _) (by kernel_rfl)
    k_steps
    rename_i f1 ct1 hh1 tk1 F1 N1 l1
    refine sub_go (by assumption) (pat_esc w) (by assumption) (by assumption) (by assumption) ⟨_, News.get (by assumption) (by k_mem), rfl⟩ ?_ ?_
    · intro s2 all mo tp k Q2 E2 F2 N2 hmo htp hall hk2 hret2
      refine wpAny_call (kla_code (by assumption) F2 (by assumption) N2 (by assumption) rfl rfl rfl (hall _ (by k_mem)) (codeRec_news N2 (hall _ (by k_mem)) (by assumption) (by assumption)) (by ktr_room) rfl (locs rfl) ?_ rfl rfl rfl (by decide))
      intro g3 L3 h3 FG3 F3 N3 B3 X3 T3
      k_steps
      exact hret2 _ _ _ (by assumption) (by assumption)
    · intro t' h' tk' F' N'
      refine Ends.mk [] [(76, tabObj #[rawInt 35, rawInt 31, .ref c']), (c', oc)] F' N' ?_ ⟨⟨_, rfl⟩, rfl, .inr ⟨c', oc, vs, t, rfl, hd', hv', hc'⟩⟩
      rw [List.nil_append]
      exact List.forall_mem_cons.mpr ⟨by k_mem, List.forall_mem_cons.mpr ⟨by k_mem, List.forall_mem_nil _⟩⟩
end
end Mine

end SCE

section SMW
open PySem PySem.W PyProof.Rows PySem.Calls PySem.Spec PySem.F
set_option Elab.async false
set_option maxRecDepth 100000
set_option maxHeartbeats 4000000
namespace Mine
/-- the title's raw text and the place behind its closing sign; the list is the text from j on -/
def ttlA (op cl : Nat) (j : Nat) (l : List Nat) : Option (List Nat × Nat) :=
  match l with
  | [] => none
  | c :: r =>
    if (c == 0) = true then none
    else if (op == 40) = true ∧ (c == 40) = true then none
    else if (c == 92) = true ∧ isPunct (r.headD 0) = true then Option.map (fun q : List Nat × Nat => (c :: r.headD 0 :: q.1, q.2)) (ttlA op cl (j + 2) r.tail)
    else if (c == cl) = true then some ([], j + 1)
    else Option.map (fun q : List Nat × Nat => (c :: q.1, q.2)) (ttlA op cl (j + 1) r)
termination_by l.length
decreasing_by all_goals simp; try omega
def ttlI (op cl : Nat) (l : List Nat) (i : Int) : Option (List Nat × Int) := Option.map (fun q : List Nat × Nat => (q.1, (q.2 : Int))) (ttlA op cl i.toNat (l.drop i.toNat))
def addP (a : List Nat) (o : Option (List Nat × Int)) : Option (List Nat × Int) := Option.map (fun q : List Nat × Int => (a ++ q.1, q.2)) o
theorem addP_addP (a b : List Nat) (o : Option (List Nat × Int)) : addP a (addP b o) = addP (a ++ b) o := by cases o <;> simp [addP]
theorem addP_nil (o : Option (List Nat × Int)) : addP [] o = o := by cases o <;> rfl
section
variable {op cl : Nat} {l : List Nat} {i : Int}
theorem ttl_end (h : l.length ≤ i) : ttlI op cl l i = none := by
  unfold ttlI; rw [List.drop_eq_nil_of_le (by omega), ttlA]; rfl
theorem ttl_eq (h0 : 0 ≤ i) (h : i < l.length) : ttlI op cl l i =
    if (l.getD i.toNat 0 == 0) = true then none
    else if (op == 40) = true ∧ (l.getD i.toNat 0 == 40) = true then none
    else if (l.getD i.toNat 0 == 92) = true ∧ isPunct (l.getD (i + 1).toNat 0) = true then addP [l.getD i.toNat 0, l.getD (i + 1).toNat 0] (ttlI op cl l (i + 2))
    else if (l.getD i.toNat 0 == cl) = true then some ([], i + 1)
    else addP [l.getD i.toNat 0] (ttlI op cl l (i + 1)) := by
  unfold ttlI
  rw [show (i + 1).toNat = i.toNat + 1 by omega, show (i + 2).toNat = i.toNat + 2 by omega, drop_cons (show i.toNat < l.length by omega), ttlA, headD_drop, List.tail_drop]
  have e : ((i.toNat + 1 : Nat) : Int) = i + 1 := by omega
  (repeat' split) <;> first
    | rfl
    | (simp only [Option.map_none]; done)
    | (simp only [Option.map_some, e]; done)
    | (simp only [addP, Option.map_map]; rfl)
theorem ttl_zero (h0 : 0 ≤ i) (h : i < l.length) (a : (l.getD i.toNat 0 == 0) = true) : ttlI op cl l i = none := by rw [ttl_eq h0 h, if_pos a]
theorem ttl_open (h0 : 0 ≤ i) (h : i < l.length) (a : (l.getD i.toNat 0 == 0) = false) (b : (op == 40) = true) (c : (l.getD i.toNat 0 == 40) = true) : ttlI op cl l i = none := by
  rw [ttl_eq h0 h, if_neg (by simp only [a]; decide), if_pos ⟨b, c⟩]
theorem ttl_esc (h0 : 0 ≤ i) (h : i < l.length) (a : (l.getD i.toNat 0 == 0) = false) (b : (op == 40) = false ∨ (l.getD i.toNat 0 == 40) = false) (d : (l.getD i.toNat 0 == 92) = true) (e : isPunct (l.getD (i + 1).toNat 0) = true) :
    ttlI op cl l i = addP [l.getD i.toNat 0, l.getD (i + 1).toNat 0] (ttlI op cl l (i + 2)) := by
  rw [ttl_eq h0 h, if_neg (by simp only [a]; decide), if_neg (by rintro ⟨x, y⟩; rcases b with b | b <;> simp_all), if_pos ⟨d, e⟩]
theorem ttl_close (h0 : 0 ≤ i) (h : i < l.length) (a : (l.getD i.toNat 0 == 0) = false) (b : (op == 40) = false ∨ (l.getD i.toNat 0 == 40) = false) (d : notEsc l i) (e : (l.getD i.toNat 0 == cl) = true) :
    ttlI op cl l i = some ([], i + 1) := by
  rw [ttl_eq h0 h, if_neg (by simp only [a]; decide), if_neg (by rintro ⟨x, y⟩; rcases b with b | b <;> simp_all), if_neg (d.not h0), if_pos e]
theorem ttl_one (h0 : 0 ≤ i) (h : i < l.length) (a : (l.getD i.toNat 0 == 0) = false) (b : (op == 40) = false ∨ (l.getD i.toNat 0 == 40) = false) (d : notEsc l i) (e : (l.getD i.toNat 0 == cl) = false) :
    ttlI op cl l i = addP [l.getD i.toNat 0] (ttlI op cl l (i + 1)) := by
  rw [ttl_eq h0 h, if_neg (by simp only [a]; decide), if_neg (by rintro ⟨x, y⟩; rcases b with b | b <;> simp_all), if_neg (d.not h0), if_neg (by simp only [e]; decide)]
theorem subI_two (h0 : 0 ≤ i) (h : i + 1 < l.length) : subI l i (i + 2) = [l.getD i.toNat 0, l.getD (i + 1).toNat 0] := by
  unfold subI
  rw [show (i + 2 - i).toNat = 2 by omega, show (i + 1).toNat = i.toNat + 1 by omega, drop_cons (show i.toNat < l.length by omega), drop_cons (show i.toNat + 1 < l.length by omega)]
  rfl
end
/-- the title of a link from place i on: its text and the place behind -/
def titleR (l : List Nat) (i : Int) : Option (List Nat × Int) :=
  if l.length ≤ i then none
  else if isWs (l.getD i.toNat 0) = false then none
  else if l.length ≤ scanI isWs l i then none
  else match closerOf (l.getD (scanI isWs l i).toNat 0) with
    | none => none
    | some cl => match ttlI (l.getD (scanI isWs l i).toNat 0) cl l (scanI isWs l i + 1) with
      | none => none
      | some (a, e) => some (unescL a, e)
section
variable {l : List Nat} {i : Int}
theorem titleR_1 (h : l.length ≤ i) : titleR l i = none := by unfold titleR; rw [if_pos h]
theorem titleR_2 (h : isWs (l.getD i.toNat 0) = false) : titleR l i = none := by unfold titleR; rw [if_pos h]; split <;> rfl
theorem titleR_3 (h : l.length ≤ scanI isWs l i) : titleR l i = none := by unfold titleR; (repeat' split) <;> first | rfl | omega
theorem titleR_4 (h : closerOf (l.getD (scanI isWs l i).toNat 0) = none) : titleR l i = none := by unfold titleR; rw [h]; dsimp only; (repeat' split) <;> first | rfl | omega
theorem titleR_5 {cl : Nat} (h : closerOf (l.getD (scanI isWs l i).toNat 0) = some cl) (h2 : ttlI (l.getD (scanI isWs l i).toNat 0) cl l (scanI isWs l i + 1) = none) : titleR l i = none := by
  unfold titleR; rw [h]; dsimp only; rw [h2]; dsimp only; (repeat' split) <;> first | rfl | omega
theorem titleR_6 {cl : Nat} {a : List Nat} {e : Int} (h0 : ¬ l.length ≤ i) (h1 : isWs (l.getD i.toNat 0) = true) (h3 : ¬ l.length ≤ scanI isWs l i) (h : closerOf (l.getD (scanI isWs l i).toNat 0) = some cl)
    (h2 : ttlI (l.getD (scanI isWs l i).toNat 0) cl l (scanI isWs l i + 1) = some (a, e)) : titleR l i = some (unescL a, e) := by
  unfold titleR; rw [if_neg h0, if_neg (by simp only [h1]; decide), if_neg h3, h]; dsimp only; rw [h2]
end
/-- no line's end before a blank -/
def NoBlank (l : List Nat) : Prop := ∀ j : Int, 0 ≤ j → (l.getD j.toNat 0 == 10) = true → l.getD j.toNat 0 = 10 ∧ l.getD (j + 1).toNat 0 ≠ 32 ∧ l.getD (j + 1).toNat 0 ≠ 9 ∧ l.getD (j + 1).toNat 0 ≠ 10
theorem Con.useM {prog : Program} {w : World} {K : Frag} {dep : Nat} {f : Addr} {vs : List Value} {kw : List (Str × Value)} {mt : List (Addr × Obj)} {Post : Value → List (Addr × Obj) → List (Addr × Obj) → Prop}
    {p : Program} {loose : List Str} {mean : ExcName → Option Value} {mg mb : Str → Option Value} {dp un : Nat} {gd : Option (List Code)} {cn : Str} {cs : Scope} {a : Addr} {ccd : Value} {cl : List (Str × Addr)} {outer : List Env} {A₀ : Around} {base h₀ : Heap} {L : Addr} {m : Str → Option Value} {all : List (Addr × Obj)} {s : Shared} {Q E : Value → Shared → Prop}
    (rest : List (Addr × Obj)) (c : Con prog w K dep f vs kw mt Post) (B : Below A₀ base outer h₀) (F : Fr h₀ L s.heap m) (X : K.In h₀) (N : News h₀ L s.heap all) (hall : ∀ p ∈ mt ++ rest, p ∈ all) (hz : ∀ p ∈ mt, ∀ q ∈ rest, p.1 ≠ q.1) (T : Top p loose mean mg mb h₀) (hk : cs.kind = .function) (hd : dp + dep < recursionLimit) (hu : un + 8 * dep < cLine)
    (h : ∀ (v : Value) (h' : Heap) (tk' : Nat) (new mt' : List (Addr × Obj)), Post v new mt' → (∀ p ∈ new ++ mt', ∀ q ∈ rest, p.1 ≠ q.1) → Fr h₀ L h' m → News h₀ L h' (new ++ mt' ++ rest) → Q v { s with heap := h', toks := tk' }) :
    wpAny (model prog w) (ktrTop dp un gd cn cs L a ccd cl outer) (call (.ref f) vs kw) Q E s :=
  c p loose mean mg mb dp un gd cn cs a ccd cl outer A₀ base h₀ L m rest s Q E B F X (fun p hp => N p (hall p hp)) hz T hk hd hu h
theorem mem_more {x : Addr × Obj} {mt r : List (Addr × Obj)} (h : ∀ p ∈ mt, p ∈ r) : ∀ p ∈ [x] ++ mt, p ∈ x :: r := by
  intro p hp
  rcases List.mem_append.mp hp with hp | hp
  · rw [List.mem_singleton.mp hp]; exact List.mem_cons_self ..
  · exact List.mem_cons_of_mem _ (h p hp)
theorem allLt_mem {d : Addr} : ∀ {l : List (Addr × Obj)}, AllLt d l → ∀ p ∈ l, p.1 < d
  | [], _, _, hp => nomatch hp
  | q :: r, h, p, hp => by
    rcases List.mem_cons.mp hp with rfl | hp
    · exact h.1
    · exact allLt_mem h.2 p hp
theorem get_closer2 {prog : Program} {w : World} {A : Around} {E : Value → Shared → Prop} {s : Shared} {d : Addr} {D : List (PyData × PyData)} {c : Nat} {t : Tok} {Q : Value → Shared → Prop} (T : StrTab prog w s.heap d D) (hD : D = closerD)
    (h1 : closerOf c = none → Q .none { s with toks := s.toks + 1 }) (h2 : ∀ e t', closerOf c = some e → Q (.str (S [e]) t') { s with toks := s.toks + 1 }) :
    wpAny (model prog w) A (call (.builtin "dict.get") [.ref d, .str (S [c]) t]) Q E s := by
  refine get_closer T hD fun t' => ?_
  cases hc : closerOf c with
  | none => exact h1 hc
  | some e => exact h2 e t' hc
abbrev TSt := Int × Tok × List (List Nat × Tok) × Nat
def TInv (op cl : Nat) (l : List Nat) (i₀ : Int) (c : TSt) : Prop :=
  i₀ ≤ c.1 ∧ c.1 ≤ l.length ∧ (c.2.2.1.length : Int) ≤ c.1 ∧ ((c.2.2.1.map (·.1)).flatten.length : Int) ≤ c.1 ∧ addP (c.2.2.1.map (·.1)).flatten (ttlI op cl l c.1) = ttlI op cl l i₀
theorem ttl_while {prog : Program} {w : World} {A : Around} {E : Value → Shared → Prop} {Q : Flow → Shared → Prop} {s : Shared} {env : Env} {h₀ : Heap} {L D : Addr} {test : Expr} {body : List Stmt} {pos : Pos} {m₀ : Str → Option Value} {led : List (Addr × Obj)} {i₀ : Int} {t₀ : Tok} {op cl : Nat} {l : List Nat}
    (_hcl : closerOf op = some cl) (_hl : l.length < 2 ^ 20) (F : Fr h₀ L s.heap m₀) (N : News h₀ L s.heap ((D, W.listOf #[] 0) :: led)) (hpos : m₀ (Str.ofString "pos") = some (.int i₀ t₀)) (hi0 : 0 ≤ i₀) (hi1 : i₀ ≤ l.length)
    (turn : ∀ (c : TSt) (u : Str → Option Value) h tk, TInv op cl l i₀ c → Fr h₀ L h (kstB (fun z => if [Str.ofString "c"].contains z then u z else m₀ z) [(Str.ofString "pos", .int c.1 c.2.1)]) → News h₀ L h ((D, lstObj (strV c.2.2.1) c.2.2.2) :: led) →
      wpAny (model prog w) A (isTrue test env (eval test env)) (fun b s₂ =>
        if b = true then wpAny (model prog w) A (execs body env) (MPost h₀ L s (fun c : TSt => (D, lstObj (strV c.2.2.1) c.2.2.2) :: led) (fun c : TSt => [(Str.ofString "pos", .int c.1 c.2.1)]) [Str.ofString "c"] m₀ (TInv op cl l i₀) (fun c : TSt => (l.length - c.1).toNat) Q c) E s₂ else Q .next s₂) E { s with heap := h, toks := tk })
    (hE : PassesOwn (model prog w) A env E := by passes_own) :
    wpAny (model prog w) A (exec (.While test body [] pos) env) Q E s := by
  refine m_while (σ := TSt) (fun c : TSt => (D, lstObj (strV c.2.2.1) c.2.2.2) :: led) (fun c : TSt => [(Str.ofString "pos", .int c.1 c.2.1)]) [Str.ofString "c"] (TInv op cl l i₀) (fun c : TSt => (l.length - c.1).toNat) (i₀, t₀, [], 0) F N ?_ ⟨Int.le_refl _, hi1, by simpa using hi0, by simpa using hi0, addP_nil _⟩ turn hE
  intro q hq; rw [List.mem_singleton.mp hq]; exact hpos
/-- a turn's end: a text is pushed, the place goes on -/
theorem ttl_next {h₀ : Heap} {L D : Addr} {s : Shared} {m₀ m' : Str → Option Value} {led : List (Addr × Obj)} {i₀ k : Int} {op cl n n' : Nat} {l a : List Nat} {pl : List (List Nat × Tok)} {tj tk' u : Tok} {j : Int} {h' : Heap} {tk : Nat}
    (F : Fr h₀ L h' m') (N : News h₀ L h' ((D, W.listOf ((strV pl).toArray.push (.str (S a) u)) n') :: led)) (hI : TInv op cl l i₀ (j, tj, pl, n)) (hk : j < k) (hk1 : k ≤ l.length) (ha : (a.length : Int) ≤ k - j) (ht : ttlI op cl l j = addP a (ttlI op cl l k))
    (hp : m' (Str.ofString "pos") = some (.int k tk')) (hr : ∀ z, z ≠ Str.ofString "pos" → z ≠ Str.ofString "c" → m' z = m₀ z) :
    MEnd h₀ L s (fun c : TSt => (D, lstObj (strV c.2.2.1) c.2.2.2) :: led) (fun c : TSt => [(Str.ofString "pos", .int c.1 c.2.1)]) [Str.ofString "c"] m₀ (TInv op cl l i₀) (fun c : TSt => (l.length - c.1).toNat) (j, tj, pl, n) { s with heap := h', toks := tk } := by
  have eN : W.listOf ((strV pl).toArray.push (.str (S a) u)) n' = lstObj (strV (pl ++ [(a, u)])) n' := by simp [W.listOf, lstObj, strV]
  rw [eN] at N
  obtain ⟨a1, a2, a3, a4, a5⟩ := hI
  dsimp only at a1 a2 a3 a4 a5
  refine m_end (k, tk', pl ++ [(a, u)], n') F N (fun _ h => h) ?_ ?_ ⟨by dsimp only; omega, by dsimp only; omega, ?_, ?_, ?_⟩ (by dsimp only; omega)
  · intro q hq; rw [List.mem_singleton.mp hq]; exact hp
  · intro z h1 h2
    refine hr z (h1 _ (List.mem_singleton.mpr rfl)) ?_
    rintro rfl
    exact absurd h2 (by decide)
  · dsimp only; rw [List.length_append, List.length_singleton]; omega
  · dsimp only; rw [flat_len]; omega
  · dsimp only
    rw [← a5, ht, addP_addP]
    simp
end Mine

end SMW

section SCF
open PySem PySem.W PyProof.Rows PySem.Calls PySem.Spec
theorem Mine.offCF : True := by w_top off; exact trivial
namespace Mine
section
local macro_rules | `(tactic| cell_enter) => `(tactic| (refine wpAny_call ?_; refine' con_code (by assumption) ?k1 ?k2 ?k3 ?k4 ?kz ?k5 ?kA ?kF ?kK ?k6 ?k7 ?k8 ?k9 ?kB (by assumption) ?kQ ?_ ?c2 ?c3 ?c4 ?c5; (case kA => exact rfl); (case kF => exact rfl); (case kK => assumption); (case k1 => k_asm); (case k2 => k_asm); (case k3 => k_asm); (case k4 => k_asm); (case kz => assumption); (case k5 => k_asm); (case k6 => k_is); (case k7 => k_is); (case k8 => ktr_room); (case k9 => (refine' kp_binds ?kx ?ke; (case kx => k_in); (case ke => exact fun _ => rfl))); (case kQ => exact fun _ _ q => q); (case c5 => decide); (case kB => exact locs rfl); (case c2 => exact rfl); (case c3 => exact rfl); (case c4 => exact rfl); k_whole; intro g' L' h' F' N' B' X' T' l0; (try k_lt l0); (try dsimp only); (try k_fold)))
local macro_rules | `(tactic| walk_at "subscriptTail") => `(tactic| ((with_reducible show wpAny _ _ (subscriptTail _ _ (Value.str (S _) _) (Value.int _ _)) _ _ _); refine sub_S (by omega) (by omega) (by omega) ?_))
local macro_rules | `(tactic| walk_at "subscriptTail Name Name str int") => `(tactic| (refine sub_S (by omega) (by omega) (by omega) ?_))
local macro_rules | `(tactic| walk_at "compareOp In str str") => `(tactic| first | refine in_ws ?_ | refine in_punct ?_ | refine in_blank ?_ | refine in_nl ?_ | refine in_ang ?_)
local macro_rules | `(tactic| walk_at "call builtin:len") => `(tactic| refine len_S (by omega) ?_)
local macro_rules | `(tactic| walk_at "call builtin:ord") => `(tactic| refine ord_ch ?_)
local macro_rules | `(tactic| walk_at "compareOp Eq str str") => `(tactic| first
  | refine eq_ch (d := 60) (by decide : Str.ofString "<" = S [60]) ?_
  | refine eq_ch (d := 62) (by decide : Str.ofString ">" = S [62]) ?_
  | refine eq_ch (d := 10) (by decide : Str.ofString "\n" = S [10]) ?_
  | refine eq_ch (d := 13) (by decide : Str.ofString "\x0d" = S [13]) ?_
  | refine eq_ch (d := 40) (by decide : Str.ofString "(" = S [40]) ?_
  | refine eq_ch (d := 41) (by decide : Str.ofString ")" = S [41]) ?_
  | refine eq_ch (d := 92) (by decide : Str.ofString "\\" = S [92]) ?_
  | refine eq_ch (d := 0) (by decide : Str.ofString "\x00" = S [0]) ?_
  | refine eq_ch (d := 127) (by decide : Str.ofString "\x7f" = S [127]) ?_)
local macro_rules | `(tactic| walk_at "compareOp NotEq str str") => `(tactic| first
  | refine ne_ch (d := 41) (by decide : Str.ofString ")" = S [41]) ?_)
local macro_rules | `(tactic| walk_at "subscriptTail Name Slice str ref") => `(tactic| ((with_reducible show wpAny _ _ (subscriptTail _ (Expr.Slice (some _) (some _) none _) (Value.str (S _) _) _) _ _ _); (refine slice_go (s := ⟨_, _, _, _, _⟩) (by assumption) (by assumption) (by omega) (by omega) (by omega) (by omega) ?_); intro h' t' tk' F' N'))
local macro_rules | `(tactic| walk_at "ite") => `(tactic| first
  | with_reducible refine ite_tt ?_ | with_reducible refine ite_ff ?_ | with_reducible refine split_not ?_
  | with_reducible refine boolT (by with_reducible assumption) ?_ | with_reducible refine boolF (by with_reducible assumption) ?_
  | with_reducible refine decT (by omega) ?_ | with_reducible refine decF (by omega) ?_
  | (with_reducible refine split_ine ?_ ?_ <;> intro _) | (with_reducible refine split_ieq ?_ ?_ <;> intro _)
  | (with_reducible refine PyProof.Rows.split_dec ?_ ?_ <;> intro _) | (with_reducible refine PyProof.Rows.split_bool ?_ ?_ <;> intro _))
local macro_rules | `(tactic| ksw_same) => `(tactic| (intro z h2 h3; (simp only [List.forall_mem_cons, List.not_mem_nil, false_implies, implies_true, and_true, ne_eq] at h2); (simp only [List.contains_cons, List.contains_nil, Bool.or_false, Bool.or_eq_false_iff, beq_eq_false_iff_ne, ne_eq] at h3); simp only [h2, h3, if_false, List.contains_cons, List.contains_nil, Bool.or_false, Bool.or_eq_true, beq_iff_eq, or_self, or_false, false_or, Bool.false_eq_true]))
local macro_rules | `(tactic| walk_at "MPost") => `(tactic| (dsimp only [MPost]))
local macro_rules | `(tactic| walk_at "truthy str") => `(tactic| first | refine truthy_cons (by simp only [List.length_nil]; omega) ?_ | refine truthy_S (by omega) ?_)
local macro_rules | `(tactic| walk_at "binaryOp Add str str") => `(tactic| first
  | (refine add_SS (a := []) (b := _) (by decide : Str.ofString "" = S []) rfl (by simp only [List.length_nil, List.length_cons]; omega) ?_; intro t' tk')
  | (refine add_SS rfl rfl (by simp only [List.length_nil, List.length_cons, List.length_append]; omega) ?_; intro t' tk'))
local macro_rules | `(tactic| walk_at "compareOp NotIn str str") => `(tactic| refine notin_ws ?_)

local macro_rules | `(tactic| walk_at "compareOp Eq str str") => `(tactic| (with_reducible show wpAny _ _ (compareOp CmpOp.Eq (Value.str (S _) _) (Value.str (S _) _)) _ _ _); refine eq_ch rfl ?_)
local macro_rules | `(tactic| walk_at "getMethod ref") => `(tactic| ((with_reducible show wpAny _ _ (getMethod (Value.ref 74) _ _) _ _ _); refine getMethod_builtin (T := "re.Pattern") (Q := _) ⟨_, (Frag.In.keeps (by assumption) (Fr.keep (by assumption))) _ _ (by k_dflt k_is), rfl⟩ plainAttrs_rePattern slot_re_match type_re_match (fun a e => by cases e; exact ⟨_, (Frag.In.keeps (by assumption) (Fr.keep (by assumption))) _ _ (by k_dflt k_is), rfl⟩) ?_))
local macro_rules | `(tactic| walk_at "call builtin:dict.get") => `(tactic| (k_dflt (refine get_closer2 (by k_tabat) (by kernel_rfl) (fun hcl => ?_) (fun ecl tcl hcl => ?_))))
theorem pat_blk (w : World) : PatIn (hd.heap_39 w.params) 74 blkC 0 := ⟨_, 73, _, _, _, _, by rfl, by rfl, by rfl, by rfl, by rfl, by rfl, by decide +kernel⟩
theorem c_title (w : World) (l : List Nat) (tx ti tn : Tok) (i : Int) (mt : List (Addr × Obj)) (h0 : 0 ≤ i) (h1 : i ≤ l.length) (h2 : l.length < 2 ^ 20) (hnb : NoBlank l) (hm : TabL mt) :
    Con PySem.Challenge.rw_ci0012_02.row.prog w (hd.heap_39 w.params) 3 97 [.str (S l) tx, .int i ti, .int l.length tn] [] mt (fun v new mt' => (∃ r o, v = .ref r ∧ new = [(r, o)] ∧ match titleR l i with
      | some (a, e) => ∃ t1 t2, o = tupObj [.str (S a) t1, .int e t2]
      | none => o = tupObj [.none, .none]) ∧ TabL mt') := by
  k_fill
  intro p loose mean mg mb dp un gd cn cs a ccd cl outer A₀ base h₀ L m rest s Q E B F X N hz T hk hdp hun hret
  k_with_none
  have hb : BindsAre [(Str.ofString "src", .str (S l) tx), (Str.ofString "start_pos", .int i ti), (Str.ofString "max_pos", .int l.length tn)] := trivial
  k_with "call ref" => (refine Con.use0 (c_skip3 w l _ _ _ _ (by omega) (by omega) (by omega)) (by assumption) (by assumption) (by assumption) (by assumption) (by assumption) (by first | assumption | rfl) (by ktr_room) (by ktr_units) ?_; rintro v h' tk' new mt' ⟨⟨t, rfl⟩, rfl, rfl⟩ hne F' N'; (try simp only [List.nil_append] at N'); have hst := scanI_le isWs (l := l) (i := i) (by omega) (by omega))
  k_with "exec While Compare cons nil" => (refine ttl_while (l := l) (by assumption) (by assumption) (by assumption) (by assumption) rfl (by omega) (by omega) ?_; rintro ⟨j, tj, pl, n⟩ u h tk hI FW NW; have hI2 := hI; obtain ⟨hj0, hj1, hp0, hp1, -⟩ := hI2; dsimp only at hj0 hj1 hp0 hp1; dsimp only [kstB] at FW; dsimp only at NW)
  k_with "call builtin:list.append" => (refine append_go (by assumption) (by assumption) (by intro q hq; rcases List.mem_cons.mp hq with rfl | hq; · omega; · exact Nat.ne_of_lt (allLt_mem (by assumption) q hq)) (by simp only [strV, List.length_map]; omega) ?_; intro h' F' N')
  k_with "call builtin:re.Pattern.match" => (have hh := hnb j (by omega) (by assumption); refine match_none (Frag.In.keeps (by assumption) (Fr.keep (by assumption))) (pat_blk w) (by assumption) (by omega) (by omega) hh.1 hh.2.1 hh.2.2.1 hh.2.2.2 ?_)
  k_with "call builtin:str.join" => (refine join_lit (by decide) (by assumption) (by omega) ?_; intro tjo kjo)
  k_with "call ref" => (refine Con.useM [] (c_unesc w _ _ mt (by omega) hm) (by assumption) (by assumption) (by assumption) (by assumption) (by intro q hq; rw [List.append_nil] at hq; exact .tail _ (.tail _ hq)) (by intro p hp q hq; cases hq) (by assumption) (by first | assumption | rfl) (by ktr_room) (by ktr_units) ?_; rintro v h' tk' new mt' ⟨⟨t, rfl⟩, rfl, hTab⟩ hne F' N'; (try simp only [List.nil_append, List.append_nil] at N'))
  k_dflt cell_enter
  clear B F X N hz T hret
  k_steps
  all_goals first
    | (refine ttl_next (k := j + 2) (by assumption) (by assumption) hI (by omega) (by omega) (by rw [subI_two (by omega) (by omega)]; simp only [List.length_cons, List.length_nil]; omega) ?_ rfl (by intro z hz1 hz2; simp only [hz1, hz2, if_false, List.contains_cons, List.contains_nil, Bool.or_false, beq_iff_eq])
       rw [subI_two (by omega) (by omega)]; exact ttl_esc (by omega) (by omega) (by assumption) (by first | exact .inl (by assumption) | exact .inr (by assumption)) (by assumption) (by assumption))
    | (refine ttl_next (k := j + 1) (by assumption) (by assumption) hI (by omega) (by omega) (by simp only [List.length_cons, List.length_nil]; omega) ?_ rfl (by intro z hz1 hz2; simp only [hz1, hz2, if_false, List.contains_cons, List.contains_nil, Bool.or_false, beq_iff_eq])
       exact ttl_one (by omega) (by omega) (by assumption) (by first | exact .inl (by assumption) | exact .inr (by assumption)) (by first | exact .inl (by assumption) | exact .inr (.inl (by assumption)) | exact .inr (.inr (by omega))) (by assumption))
    | (refine Ends.mk [_] mt (by assumption) (by assumption) (mem_more (by intro q hq; first | exact hq | exact .tail _ hq | exact .tail _ (.tail _ hq))) ⟨⟨_, _, rfl, rfl, ?_⟩, hm⟩
       rw [show titleR l i = none by first
         | exact titleR_1 (by assumption) | exact titleR_2 (by assumption) | exact titleR_3 (by assumption) | exact titleR_4 (by assumption)
         | exact titleR_5 (by assumption) (hI.2.2.2.2.symm.trans (by rw [show ttlI _ _ l j = none by first | exact ttl_end (by omega) | exact ttl_zero (by omega) (by omega) (by assumption) | exact ttl_open (by omega) (by omega) (by assumption) (by assumption) (by assumption)]; rfl))])
    | (refine Ends.mk [_] _ (by assumption) (by assumption) (mem_more (fun _ hq => hq)) ⟨⟨_, _, rfl, rfl, ?_⟩, hTab⟩
       rw [titleR_6 (by assumption) (by assumption) (by assumption) (by assumption) (hI.2.2.2.2.symm.trans (by rw [ttl_close (by omega) (by omega) (by assumption) (by first | exact .inl (by assumption) | exact .inr (by assumption)) (by first | exact .inl (by assumption) | exact .inr (.inl (by assumption)) | exact .inr (.inr (by omega))) (by assumption)]; rfl))]
       rw [List.append_nil]; exact ⟨_, _, rfl⟩)
end
end Mine

end SCF

section SMX
open PySem PySem.W PyProof.Rows PySem.Calls PySem.Spec PySem.F
set_option Elab.async false
set_option maxRecDepth 100000
set_option maxHeartbeats 4000000
namespace Mine
theorem con_codeC {prog : Program} {w : World} {A₀ A : Around} {s : Shared} {base h₀ : Heap} {outer : List Env} {L : Addr} {m mg mb : Str → Option Value} {mt rest : List (Addr × Obj)} {K : Frag} {env : Env} {p : Program} {loose : List Str} {mean : ExcName → Option Value}
    {R : Result → Shared → Prop} {Q : Value → Shared → Prop} {Post : Value → List (Addr × Obj) → List (Addr × Obj) → Prop} {name qual : Str} {params : Arguments} {body : List Stmt} {scope : Scope} {dV kV doc pm cdv ct oc : Value} {an od : Option Addr} {osl : Array (Option Value)} {f : Addr} {args : Args} {binds : List (Str × Value)}
    (_hb : BindsAre binds) (B : Below A₀ base outer h₀) (F : Fr h₀ L s.heap m) (X₀ : K.In h₀) (N : News h₀ L s.heap (mt ++ rest)) (hdis : ∀ p ∈ mt, ∀ q ∈ rest, p.1 ≠ q.1) (T : Top p loose mean mg mb h₀) (hA : A.frames = some (env :: outer)) (hf : env.frame = some L) (hke : env.scope.kind = .function)
    (ho : K.lookup f = some ⟨oc, od, .func (fnOf name qual params body scope dV kV doc pm an cdv ct), osl⟩) (hcd : codeIn K cdv qual = true) (hroom : A.depth < recursionLimit)
    (hbind : BindsTo s (fnOf name qual params body scope dV kV doc pm an cdv ct) args binds)
    (hkind : (binds.all fun y => scope.names.lookup y.1 == some .local || scope.names.lookup y.1 == some .cell) = true) (hnd : ((cellsFrom 0 scope.names []).map (·.1)).Nodup)
    (hret : ∀ (v : Value) (h' : Heap) (tk' : Nat) (new mt' : List (Addr × Obj)), Post v new mt' → (∀ p ∈ new ++ mt', ∀ q ∈ rest, p.1 ≠ q.1) → Fr h₀ L h' m → News h₀ L h' (new ++ mt' ++ rest) → Q v { s with heap := h', toks := tk' })
    (hR : ∀ v s', Q v s' → R (.ok (.ret v)) s')
    (h : ∀ g L' h₁ tk cells, Fr g L' h₁ (bindL (envOfC qual scope L' f cdv).kindOf binds fun _ => none) → News g L' h₁ (cells ++ mt) → CellsAre (bindC (envOfC qual scope L' f cdv).kindOf binds fun _ => none) (cellsFrom (L' + 1) scope.names []) cells → Below A base (env :: outer) g → K.In g → Top p loose mean mg mb g → (∀ p ∈ mt, p.1 < L') →
      wpAny (model prog w) (A.deeper (envOfC qual scope L' f cdv)) (execs body (envOfC qual scope L' f cdv))
        (fun fl s' => Ends g L' s Post (match fl with | .ret v => v | _ => .none) s')
        (fun e s' => wpAny (model prog w) (A.deeper (envOfC qual scope L' f cdv)) (leaving (envOfC qual scope L' f cdv) e) (fun _ s'' => R (.error e) s'') (fun e' s'' => R (.error e') s'') s')
        { s with heap := h₁, toks := tk })
    (hco : scope.isCoroutine = false) (hgen : scope.isGenerator = false) (hk : scope.kind = .function) : codeAny (model prog w) A (.call (.ref f) args) R s := by
  have Nm : News h₀ L s.heap mt := fun p hp => N p (List.mem_append_left _ hp)
  obtain ⟨FG, BG, st₀, _⟩ := groundX (R := R) B F Nm hA hf hke
  have st : ∀ (b : Addr) (o : Obj), h₀.get? b = some o → (hideAll s.heap (mt.map (·.1))).get? b = some o := st₀
  have KG := X₀.keeps st
  have TG := T.keeps st
  refine codeAny_call_function hroom ((X₀.keeps F.keep) _ _ ho) rfl hco hgen rfl (codeRec_of (X₀.keeps F.keep) hcd) (hbind _ _ _ _ ?_)
  refine wpAny_newFunctionEnv_cells hk (kindsX hkind _) fun env' he s' x => ?_
  subst he
  refine ⟨(T.nolimit.keeps F.keep).keeps x.toInCall.keep, codeAny_func ?_⟩
  obtain ⟨h₁, tk, rfl, _⟩ := x.done
  have hk₁ := x.toInCall.keep
  obtain ⟨cells, NC, Y⟩ := Cl.news (h₀ := s.heap) (Nat.le_refl _) fun n c hm => ⟨x.cell n c (lookup_of_mem_nodup (cellsFrom_names scope.names 0 (s.heap.objs.size + 1) [] [] rfl ▸ hnd) hm), x.above n c hm⟩
  refine wpAny_mono (h (hideAll s.heap (mt.map (·.1))) s.heap.objs.size h₁ tk cells ⟨x.toInCall.ns, fun b o e => hk₁ b o (of_hideAll _ e), Nat.le_of_eq (hideAll_size _ _)⟩ (fun p hp => ?_) Y BG KG TG (fun p hp => Heap.lt_size (Nm p hp).1)) (fun fl s' hl => ?_) fun _ _ y => y
  · rcases List.mem_append.mp hp with hp | hp
    · refine ⟨(NC p hp).1, (NC p hp).2.1, ?_⟩
      cases q : (hideAll s.heap (mt.map (·.1))).get? p.1 with
      | none => rfl
      | some o => have := of_hideAll _ q; rw [(NC p hp).2.2] at this; cases this
    · exact ⟨hk₁ _ _ (Nm p hp).1, Nat.ne_of_lt (Heap.lt_size (Nm p hp).1), hideAll_none _ (List.mem_map_of_mem hp)⟩
  · obtain ⟨h', tk', m', new, mt', rfl, F', N', hP⟩ := hl
    have hg : ∀ q ∈ rest, (hideAll s.heap (mt.map (·.1))).get? q.1 = some q.2 := fun q hq => hideAll_get _ (N q (List.mem_append_right _ hq)).1 fun hm => by
      obtain ⟨p, hp, e⟩ := List.mem_map.mp hm
      exact hdis p hp q hq e
    obtain ⟨oL, es, ep, hL, hLd, hLk, hLf⟩ := FG.ns
    refine hR _ _ (hret _ h' tk' new mt' hP (fun p hp q hq e => ?_) ⟨⟨oL, es, ep, F'.keep _ _ hL, hLd, hLk, hLf⟩, fun b o e => F'.keep b o (st b o e), F.above⟩ fun p hp => ?_)
    · have h1 := (N' p hp).2.2
      rw [e, hg q hq] at h1; cases h1
    · rcases List.mem_append.mp hp with hp | hp
      · refine ⟨(N' p hp).1, fun q => ?_, ?_⟩
        · have h1 := (N' p hp).2.2
          rw [q, hL] at h1; cases h1
        · cases q : h₀.get? p.1 with
          | none => rfl
          | some o => have h1 := (N' p hp).2.2; rw [st _ _ q] at h1; cases h1
      · exact ⟨F'.keep _ _ (hg p hp), (N p (List.mem_append_right _ hp)).2⟩
end Mine

end SMX

section SMY
open PySem PySem.W PyProof.Rows PySem.Calls PySem.Spec PySem.F
set_option Elab.async false
set_option maxRecDepth 100000
set_option maxHeartbeats 4000000
namespace Mine
open Builtin Builtin._codecs Builtin.Float
/-- the signs that quote turns to percent form here, and the two figures -/
def hexOf (c : Nat) : Option (List Nat) :=
  if c = 91 then some [53, 66] else if c = 34 then some [50, 50] else if c = 39 then some [50, 55] else if c = 60 then some [51, 67] else if c = 62 then some [51, 69] else if c = 92 then some [53, 67] else if c = 32 then some [50, 48] else none
theorem enc_one (id : String) (self : Value) {c : Nat} {d : List Nat} (hc : hexOf c = some d) : encodeNarrow id utf8Codec none self (S [c]) = pure #[c.toUInt8] := by
  have hb : utf8Codec.bad c = false ∧ Str.utf8Of c = [c.toUInt8] := by
    unfold hexOf at hc
    (repeat' split at hc) <;> first | (subst c; decide) | cases hc
  unfold encodeNarrow
  simp only [S_len, List.length_cons, List.length_nil]
  simp [Std.Legacy.Range.forIn_eq_forIn_range', Std.Legacy.Range.size, S, hb.1]
  simp [utf8Codec, hb.2]
section
variable {prog : Program} {w : World} {A : Around} {E : Value → Shared → Prop} {s : Shared}
theorem encode_go {c : Nat} {t u : Tok} {Q : Value → Shared → Prop} {d : List Nat} (hc : hexOf c = some d) (h : Q (.bytes #[c.toUInt8] s.toks) { s with toks := s.toks + 1 }) :
    wpAny (model prog w) A (call (.builtin "str.encode") [.str (S [c]) t, .str (Str.ofString "utf-8") u]) Q E s := by
  refine wpAny_call_entry slot_str_encode (typeIs_str _ _ _) entry_str_encode ?_ (args_str_encode_2 _ _)
  have e : Builtin.«str.encode» ⟨[Value.str (S [c]) t, Value.str (Str.ofString "utf-8") u], []⟩ = (do ret (← encodeRoad "str.encode" (.str (S [c]) t) (S [c]) (Str.ofString "utf-8") none)) := by
    with_unfolding_all rfl
  rw [e, encodeRoad_utf8, enc_one _ _ hc]
  exact wpAny_bind (wpAny_bind (wpAny_pure (wpAny_mkBytes (wpAny_pure ⟨_, rfl, h⟩) (by rw [sizeLine_eq]; simp))))
theorem hex_fmt {c : Nat} {t : Tok} {Q : Value → Shared → Prop} {d : List Nat} (hc : hexOf c = some d)
    (h : Q (.str (S d) (s.toks + 1)) { s with toks := s.toks + 1 + 1 }) :
    wpAny (model prog w) A (formatField (.int (c.toUInt8.toNat : Nat) t) (Str.ofString "02X")) Q E s := by
  refine wpAny_formatField_spec (T := "int") (by decide) (fun s' => typeIs_int _ _ _) F.slot_int_format F.entry_int_format F.args_int_format_2 (fun u => ?_) h (by size_fits) ?_
  · intro prog w A R s hq
    have hne : ((Str.ofString "02X").length == 0) = false := by decide
    have hasc : (((Str.ofString "02X").cps.toList.drop 1).any (· ≥ 128) || ((Str.ofString "02X").cps.getD 0 0 ≥ 128 && !([60, 62, 61, 94] : List Nat).contains ((Str.ofString "02X").cps.getD 1 0))) = false := by decide
    have hp : parseFormatSpec (Str.ofString "02X").cps.toList "int" 62 = .ok { fill := 48, align := 61, width := some 2, type := some 88 } := by rfl
    unfold Builtin.«int.__format__»
    simp only [selfAndOne, noKeywords, Int.intOfSelf, asInt?, asStr?, List.isEmpty_nil, if_true, pure_bind, bind_pure, bind_assoc, hne, hasc, Bool.false_eq_true, if_false,
      show (Value.str (Str.ofString "02X") u == Value.none) = false from rfl]
    refine wpAny_bind (wpAny_typeNameOf (T := "str") (typeIs_str _ _ _) (by decide) fun _ => ?_)
    refine wpAny_bind (wpAny_typeNameOfCut_int ?_)
    simp only [hp]
    unfold hexOf at hc
    (repeat' split at hc) <;> first | (cases hc; subst c; exact Gives.of_eq (by with_unfolding_all rfl) prog w A R s hq) | cases hc
  · unfold hexOf at hc
    (repeat' split at hc) <;> cases hc <;> (rw [S_len, sizeLine_eq]; decide)
end
end Mine
namespace Mine
/-- the signs that quote keeps as they are -/
abbrev safeA : List Nat := [65, 66, 67, 68, 69, 70, 71, 72, 73, 74, 75, 76, 77, 78, 79, 80, 81, 82, 83, 84, 85, 86, 87, 88, 89, 90, 97, 98, 99, 100, 101, 102, 103, 104, 105, 106, 107, 108, 109, 110, 111, 112, 113, 114, 115, 116, 117, 118, 119, 120, 121, 122, 48, 49, 50, 51, 52, 53, 54, 55, 56, 57, 95, 46, 45, 126]
abbrev safeB : List Nat := [58, 47, 63, 35, 64, 33, 36, 38, 40, 41, 42, 43, 44, 59, 61, 37]
def isKept (c : Nat) : Bool := (safeA ++ safeB).contains c
def quoteC (c : Nat) : List Nat := if isKept c = true then [c] else match hexOf c with | some d => 37 :: d | none => []
def quoteL (l : List Nat) : List Nat := (l.map quoteC).flatten
def Quotable (l : List Nat) : Prop := ∀ c ∈ l, isKept c = true ∨ ∃ d, hexOf c = some d
theorem Quotable.hex {l : List Nat} {c : Nat} (h : Quotable l) (hm : c ∈ l) (hk : isKept c = false) : ∃ d, hexOf c = some d := by
  rcases h c hm with x | x
  · rw [hk] at x; cases x
  · exact x
theorem hex_len {c : Nat} {d : List Nat} (h : hexOf c = some d) : d.length = 2 := by
  unfold hexOf at h
  (repeat' split at h) <;> cases h <;> rfl
theorem quoteC_kept {c : Nat} (h : isKept c = true) : quoteC c = [c] := by unfold quoteC; rw [if_pos h]
theorem quoteC_hex {c : Nat} {d : List Nat} (h : isKept c = false) (hd : hexOf c = some d) : quoteC c = 37 :: d := by unfold quoteC; rw [if_neg (by rw [h]; decide), hd]
theorem quoteC_le (c : Nat) : (quoteC c).length ≤ 3 := by
  unfold quoteC
  split
  · simp
  · split
    · rename_i d h; simp [hex_len h]
    · simp
theorem quoteL_le (l : List Nat) : (quoteL l).length ≤ 3 * l.length := by
  unfold quoteL
  induction l with
  | nil => simp
  | cons c r ih =>
    have := quoteC_le c
    simp only [List.map_cons, List.flatten_cons, List.length_append, List.length_cons] at ih ⊢
    omega
theorem pct_d {d : List Nat} : Str.empty ++ Str.ofString "%" ++ S d = S (37 :: d) := by
  show Str.append (Str.append _ _) _ = _
  have h : Str.ofString "%" = S [37] := by decide
  rw [h]
  simp [Str.append, S, Str.empty]
theorem hex_join {c : Nat} {d : List Nat} (h : hexOf c = some d) : (Str.empty ++ Str.ofString "%" ++ S d).length ≤ sizeLine := by
  rw [pct_d, S_len, sizeLine_eq, List.length_cons, hex_len h]; omega
theorem in_kept {prog : Program} {w : World} {A : Around} {E : Value → Shared → Prop} {s : Shared} {c : Nat} {t u : Tok} {Q : Value → Shared → Prop} (h : Q (.bool (isKept c)) s) : wpAny (model prog w) A (compareOp .In (.str (S [c]) u) (.str (S (safeA ++ safeB)) t)) Q E s := in_ch rfl h
end Mine
namespace Mine
theorem notin_amp {prog : Program} {w : World} {A : Around} {E : Value → Shared → Prop} {s : Shared} {x : Str} {l : List Nat} {t u : Tok} {Q : Value → Shared → Prop} (hx : x = S [38]) (h : Q (.bool (!l.contains 38)) s) : wpAny (model prog w) A (compareOp .NotIn (.str x u) (.str (S l) t)) Q E s := by
  subst hx
  refine notIn_str ?_
  rw [show (S [38] : Str) = ⟨#[38]⟩ from rfl, StrLaws.found_one]
  have e : decide (38 ∈ (S l).cps.toList) = l.contains 38 := by
    rw [Bool.eq_iff_iff, decide_eq_true_eq]; simp [S]
  rw [e]; exact h
end Mine

end SMY

section SMZ
open PySem PySem.W PyProof.Rows PySem.Calls PySem.Spec PyProof.Rows.LCg
set_option Elab.async false
set_option maxRecDepth 100000
set_option maxHeartbeats 4000000
namespace Mine
section
variable {prog : Program} {w : World} {A : Around} {E : Value → Shared → Prop} {s : Shared} {h₀ : Heap} {L : Addr} {m : Str → Option Value} {env : Env}
/-- something to draw from: its iterator is a new object -/
def DrawsOf (prog : Program) (w : World) (A : Around) (xv : Value) (n : Nat) (P : Nat → Value → Prop) (s : Shared) : Prop :=
  ∀ (Q E : Value → Shared → Prop), (∀ (o : Obj) (St : Nat → Heap → Prop), Walks prog w A s.heap.objs.size [s.heap.objs.size] [s.heap.objs.size] n P St → (∀ i h, St i h → ∃ o, h.get? s.heap.objs.size = some o) → St 0 (s.heap.push o) →
    Q (.ref s.heap.objs.size) { s with heap := s.heap.push o }) → wpAny (model prog w) A (pyIter xv) Q E s
theorem draws_str {l : List Nat} {t : Tok} (hh : A.handled = none) : DrawsOf prog w A (.str (S l) t) l.length (SignAt (S l)) s := by
  intro Q E hQ
  cases ha : (S l).cps.all (· < 128)
  · exact wpAny_pyIter_wide ha (hQ _ _ (Walks.strWide hh _ (S l) t) (fun i h st => by obtain ⟨o, e, _⟩ := st; exact ⟨o, e⟩) ⟨_, Heap.get?_push_size _ rfl, rfl, rfl⟩)
  · exact wpAny_pyIter_ascii ha (hQ _ _ (Walks.strAscii hh _ (S l) t) (fun i h st => by obtain ⟨o, e, _⟩ := st; exact ⟨o, e⟩) ⟨_, Heap.get?_push_size _ rfl, rfl, rfl⟩)
theorem draws_bytes {b : Array UInt8} {t : Tok} (hh : A.handled = none) : DrawsOf prog w A (.bytes b t) b.size (fun i v => ∃ c u, b[i]? = some c ∧ v = .int (c.toNat : Int) u) s := by
  intro Q E hQ
  exact KBw.pyIter_bytes (hQ _ _ (KBw.walks hh _ b t) (fun i h st => by obtain ⟨o, e, _⟩ := st; exact ⟨o, e⟩) ⟨_, Heap.get?_push_size _ rfl, rfl, rfl⟩)
def SrcG (prog : Program) (w : World) (A : Around) (h₀ : Heap) (L : Addr) (m : Str → Option Value) (env : Env) (elt : Expr) (x : Str) (scope : Scope) (cl : List (Str × Addr)) (Fin : Shared → List Value → List (Addr × Obj) → Prop) (xv : Value) (s₁ : Shared) : Prop :=
  ∃ n P news, Fr h₀ L s₁.heap m ∧ News h₀ L s₁.heap news ∧ n ≤ sizeLine ∧ DrawsOf prog w A xv n P s₁ ∧
    ∀ s₂ : Shared, (∃ h, s₂ = { s₁ with heap := h }) → CompRest prog w A h₀ L m env elt x scope cl s₂ (fun _ => True) P (Fin s₂) n 0 [] news
theorem st_same {I : Addr} {n : Nat} {P : Nat → Value → Prop} {St : Nat → Heap → Prop} (W : Walks prog w A I [I] [I] n P St) : ∀ i (h h' : Heap) (o : Obj) (nw : List (Addr × Obj)), St i h → h.get? I = some o → h'.get? I = some o → (∀ b o, h₀.get? b = some o → h'.get? b = some o) → News h₀ L h' nw → True → St i h' :=
  fun i h h' o _ st e e' _ _ _ => W.frame i h h' st fun b hb o' e'' => by
    rw [List.mem_singleton.mp hb] at e'' ⊢
    rw [e] at e''; cases e''; exact e'
theorem ListComp_G {elt iter : Expr} {x : Str} {px : Pos} {scope : Scope} {cl : List (Str × Addr)} {pos : Pos} {Q : Value → Shared → Prop} (_F₀ : Fr h₀ L s.heap m)
    (hclos : closureFor scope env = pure cl) (hcell : ∀ y ∈ scope.names, y.2 ≠ .cell) (hkind : scope.kind = .function)
    (hnames : ∀ y ∈ scope.names, y.2 = .local → scope.names.lookup y.1 = some .local) (hx : scope.names.lookup x = some .local)
    (h : wpAny (model prog w) A (eval iter env) (SrcG prog w A h₀ L m env elt x scope cl (fun s₂ => FinE h₀ L m s₂ Q)) E s)
    (hs : ∀ x, foldedSetIterable iter env x = pure x := by intro _; rfl) :
    wpAny (model prog w) A (eval (.ListComp elt [⟨.Name x px, iter, [], 0⟩] scope pos) env) Q E s := by
  rw [eval_ListComp]
  refine wpAny_comprehension_free (use := none) rfl hs hclos hkind hnames (wpAny_mono h (fun xv s₁ h₁ => ?_) fun _ _ e => e)
  obtain ⟨n, P, news, F, N, hsz, D, R⟩ := h₁
  refine D _ _ fun o St W hIo hst => ?_
  refine block_U W hsz hIo (st_same W) hcell hkind hx hst (fun b hb => ?_)
    (F.keeps fun _ _ e => Heap.get?_push_of_some _ e) (N.grown fun _ _ e => Heap.get?_push_of_some _ e) (Nat.ne_of_lt F.ns.lt) (next_is_new F) (fun p hp => Nat.ne_of_lt (Heap.lt_size (N p hp).1)) trivial (R _ ⟨_, rfl⟩) ?_
  · rw [List.mem_singleton.mp hb]
    show s₁.heap.objs.size < (s₁.heap.push _).objs.size
    rw [Heap.size_push]; exact Nat.lt_succ_self _
  · intro D C h' tk m' ys news' F' N' o1 hn hC₀ hD₀ hCL hDL hCD offC fin
    refine ⟨m', hn, fun h'' hs'' => fin D h'' tk (F'.change hs'' hCL hC₀) (fun p hp => ?_) o1⟩
    refine ⟨hs''.extBut _ _ ?_ (N' p hp).1, (N' p hp).2⟩
    rcases List.mem_cons.mp hp with rfl | hp
    · exact Ne.symm hCD
    · exact offC p hp
theorem Assign_ListComp_G {elt iter : Expr} {x y : Str} {px py : Pos} {scope : Scope} {cl : List (Str × Addr)} {pos spos : Pos} {Q : Flow → Shared → Prop} (_F₀ : Fr h₀ L s.heap m) (hLe : env.locals = L)
    (hsw : swapsWith (.ListComp elt [⟨.Name x px, iter, [], 0⟩] scope pos) (some (.Name y py)) spos.line env = pure true)
    (hclos : closureFor scope env = pure cl) (hcell : ∀ z ∈ scope.names, z.2 ≠ .cell) (hkind : scope.kind = .function)
    (hnames : ∀ z ∈ scope.names, z.2 = .local → scope.names.lookup z.1 = some .local) (hx : scope.names.lookup x = some .local)
    (hy : env.kindOf y = some .local) (hp : (env.scope.kind == .class || (env.scope.kind == .module && env.locals != env.globals)) = false)
    (h : wpAny (model prog w) A (eval iter env) (SrcG prog w A h₀ L m env elt x scope cl (fun s₂ => FinA h₀ L m s₂ y Q)) E s)
    (hs : ∀ x, foldedSetIterable iter env x = pure x := by intro _; rfl) :
    wpAny (model prog w) A (exec (.Assign [.Name y py] (.ListComp elt [⟨.Name x px, iter, [], 0⟩] scope pos) spos) env) Q E s := by
  subst hLe
  rw [exec_Assign_Name_used _ _ _ _ hsw]
  refine wpAny_bind (wpAny_standAt (wpAny_bind ?_))
  show wpAny _ A (do let _ ← comprehension (.ListComp elt [⟨.Name x px, iter, [], 0⟩] scope pos) scope env _ (newList []) false (eval iter env) (some (assign (.Name y py) env))) _ _ s
  refine wpAny_bind (wpAny_mono (wpAny_comprehension_free (use := some (assign (.Name y py) env)) (Q := fun _ s' => Q .next s') rfl hs hclos hkind hnames
    (wpAny_mono h (fun xv s₁ h₁ => ?_) fun _ _ e => e)) (fun _ s' hq => wpAny_pure (wpAny_pure hq)) fun _ _ e => e)
  obtain ⟨n, P, news, F, N, hsz, D, R⟩ := h₁
  refine D _ _ fun o St W hIo hst => ?_
  refine block_U W hsz hIo (st_same W) hcell hkind hx hst (fun b hb => ?_)
    (F.keeps fun _ _ e => Heap.get?_push_of_some _ e) (N.grown fun _ _ e => Heap.get?_push_of_some _ e) (Nat.ne_of_lt F.ns.lt) (next_is_new F) (fun p hp => Nat.ne_of_lt (Heap.lt_size (N p hp).1)) trivial (R _ ⟨_, rfl⟩) ?_
  · rw [List.mem_singleton.mp hb]
    show s₁.heap.objs.size < (s₁.heap.push _).objs.size
    rw [Heap.size_push]; exact Nat.lt_succ_self _
  · intro D C h' tk m' ys news' F' N' o1 hn hC₀ hD₀ hCL hDL hCD offC fin
    show wpAny _ A (assign (.Name y py) env (.ref D)) _ _ _
    refine wpAny_assign_Name (wpAny_storeName_local hy F'.ns (fun h₂ hn₂ hs₂ => ?_) hp)
    have hL₀ : h₀.get? env.locals = none := Heap.get?_none_of_le F'.above
    have F₂ : Fr h₀ env.locals h₂ (fun z => if z = y then some (.ref D) else m z) := ⟨hn₂, fun b o e => hs₂.extBut b o (fun q => by rw [q, hL₀] at e; cases e) (F'.keep b o e), F'.above⟩
    refine ⟨m', hn.sameBut hs₂ hCL, fun h'' hs'' => fin D h'' _ (F₂.change hs'' hCL hC₀) (fun p hp => ?_) o1⟩
    have z : h₂.get? p.1 = some p.2 := hs₂.extBut _ _ (N' p hp).2.1 (N' p hp).1
    refine ⟨hs''.extBut _ _ ?_ z, (N' p hp).2⟩
    rcases List.mem_cons.mp hp with rfl | hp
    · exact Ne.symm hCD
    · exact offC p hp
def RowIs (news : List (Addr × Obj)) (x : Str) (y : Value) (news' : List (Addr × Obj)) : Prop := news' = news ∧ ∃ t, y = .str x t
theorem RowIs.mk {news : List (Addr × Obj)} {x x' : Str} {t : Tok} (h : x' = x) : RowIs news x (.str x' t) news := by subst h; exact ⟨rfl, t, rfl⟩
/-- the turns over the signs of a text: each gives a text -/
theorem turnsS {elt : Expr} {x : Str} {scope : Scope} {cl : List (Str × Addr)} {Fin : List Value → List (Addr × Obj) → Prop} {news : List (Addr × Obj)} {l : List Nat} (g : Nat → List Nat)
    (turn : ∀ c t I oI C oC D m₂ ys h tk (E' : Value → Shared → Prop), c ∈ l → NsObj oC m₂ → m₂ x = some (.str (S [c]) t) → Fr h₀ L h m → News h₀ L h ((I, oI) :: (C, oC) :: (D, lst ys) :: news) → Off3 I C D news → ((@Ne Nat I C) ∧ (@Ne Nat I D) ∧ (@Ne Nat C D)) →
      wpAny (model prog w) A (eval elt (compEnvC scope cl C env)) (CompEnd h₀ L m { s with heap := h, toks := tk } I oI C oC D (lst ys) (fun _ => True) (RowIs news (S (g c)))) E' { s with heap := h, toks := tk })
    (fin : ∀ pl : List (List Nat × Tok), pl.map (·.1) = l.map g → Fin (strV pl) news) : CompRest prog w A h₀ L m env elt x scope cl s (fun _ => True) (SignAt (S l)) Fin l.length 0 [] news := by
  have key : ∀ (j i : Nat) (pl : List (List Nat × Tok)), i + j = l.length → pl.map (·.1) = (l.take i).map g → CompRest prog w A h₀ L m env elt x scope cl s (fun _ => True) (SignAt (S l)) Fin j i (strV pl) news := by
    intro j
    induction j with
    | zero =>
      intro i pl hi hp
      have e : i = l.length := by omega
      subst e
      rw [List.take_length] at hp
      exact CompRest.zero (fin pl hp)
    | succ j ih =>
      intro i pl hi hp
      refine CompRest.succ ?_
      intro v I oI C oC D m₂ h tk E' hv hC hx F N off ne
      obtain ⟨c, u, hc, rfl⟩ := hv
      have hc' : l[i]? = some c := by simpa [S] using hc
      refine wpAny_mono (turn c u I oI C oC D m₂ (strV pl) h tk E' (List.mem_of_getElem? hc') hC hx F N off ne) (fun y s₂ hq => ?_) fun _ _ e => e
      obtain ⟨h', tk', nw, e, F', N', off', hS, hn, t', rfl⟩ := hq
      rw [hn] at N' off'
      refine ⟨h', tk', news, e, F', N', off', hS, ?_⟩
      have e2 : strV pl ++ [.str (S (g c)) t'] = strV (pl ++ [(g c, t')]) := by simp [strV]
      dsimp only
      rw [e2]
      refine ih (i + 1) _ (by omega) ?_
      rw [List.take_add_one, hc', List.map_append, hp]
      simp
  exact key l.length 0 [] (by omega) rfl
/-- one octet -/
theorem turnsB {elt : Expr} {x : Str} {scope : Scope} {cl : List (Str × Addr)} {Fin : List Value → List (Addr × Obj) → Prop} {news : List (Addr × Obj)} {c : UInt8} {g : List Nat}
    (turn : ∀ t I oI C oC D m₂ h tk (E' : Value → Shared → Prop), NsObj oC m₂ → m₂ x = some (.int (c.toNat : Int) t) → Fr h₀ L h m → News h₀ L h ((I, oI) :: (C, oC) :: (D, lst []) :: news) → Off3 I C D news → ((@Ne Nat I C) ∧ (@Ne Nat I D) ∧ (@Ne Nat C D)) →
      wpAny (model prog w) A (eval elt (compEnvC scope cl C env)) (CompEnd h₀ L m { s with heap := h, toks := tk } I oI C oC D (lst []) (fun _ => True) (RowIs news (S g))) E' { s with heap := h, toks := tk })
    (fin : ∀ t, Fin (strV [(g, t)]) news) : CompRest prog w A h₀ L m env elt x scope cl s (fun _ => True) (fun i v => ∃ c' u, (#[c] : Array UInt8)[i]? = some c' ∧ v = .int (c'.toNat : Int) u) Fin 1 0 [] news := by
  refine CompRest.succ ?_
  intro v I oI C oC D m₂ h tk E' hv hC hx F N off ne
  obtain ⟨c', u, hc, rfl⟩ := hv
  simp only [List.getElem?_toArray, List.getElem?_cons_zero, Option.some.injEq] at hc
  subst hc
  refine wpAny_mono (turn u I oI C oC D m₂ h tk E' hC hx F N off ne) (fun y s₂ hq => ?_) fun _ _ e => e
  obtain ⟨h', tk', nw, e, F', N', off', hS, rfl, t', rfl⟩ := hq
  exact ⟨h', tk', _, e, F', N', off', hS, CompRest.zero (fin t')⟩
theorem turnsH {elt : Expr} {x : Str} {scope : Scope} {cl : List (Str × Addr)} {Fin : List Value → List (Addr × Obj) → Prop} {news : List (Addr × Obj)} {c : Nat} {d : List Nat} (_hd : hexOf c = some d)
    (turn : ∀ t I oI C oC D m₂ h tk (E' : Value → Shared → Prop), NsObj oC m₂ → m₂ x = some (.int (c.toUInt8.toNat : Int) t) → Fr h₀ L h m → News h₀ L h ((I, oI) :: (C, oC) :: (D, lst []) :: news) → Off3 I C D news → ((@Ne Nat I C) ∧ (@Ne Nat I D) ∧ (@Ne Nat C D)) →
      wpAny (model prog w) A (eval elt (compEnvC scope cl C env)) (CompEnd h₀ L m { s with heap := h, toks := tk } I oI C oC D (lst []) (fun _ => True) (RowIs news (S (37 :: d)))) E' { s with heap := h, toks := tk })
    (fin : ∀ t, Fin (strV [(37 :: d, t)]) news) : CompRest prog w A h₀ L m env elt x scope cl s (fun _ => True) (fun i v => ∃ c' u, (#[c.toUInt8] : Array UInt8)[i]? = some c' ∧ v = .int (c'.toNat : Int) u) Fin 1 0 [] news := turnsB turn fin
theorem SrcG.str {elt : Expr} {x : Str} {scope : Scope} {cl : List (Str × Addr)} {Fin : Shared → List Value → List (Addr × Obj) → Prop} {l : List Nat} {t : Tok} {news : List (Addr × Obj)} {s₁ : Shared}
    (hh : A.handled = none) (F : Fr h₀ L s₁.heap m) (N : News h₀ L s₁.heap news) (hsz : l.length < 2 ^ 20)
    (h : ∀ g, CompRest prog w A h₀ L m env elt x scope cl { s₁ with heap := g } (fun _ => True) (SignAt (S l)) (Fin { s₁ with heap := g }) l.length 0 [] news) :
    SrcG prog w A h₀ L m env elt x scope cl Fin (.str (S l) t) s₁ := ⟨_, _, news, F, N, by rw [sizeLine_eq]; omega, draws_str hh, fun _ ⟨g, e⟩ => e ▸ h g⟩
theorem SrcG.byte {elt : Expr} {x : Str} {scope : Scope} {cl : List (Str × Addr)} {Fin : Shared → List Value → List (Addr × Obj) → Prop} {c : UInt8} {t : Tok} {news : List (Addr × Obj)} {s₁ : Shared}
    (hh : A.handled = none) (F : Fr h₀ L s₁.heap m) (N : News h₀ L s₁.heap news)
    (h : ∀ g, CompRest prog w A h₀ L m env elt x scope cl { s₁ with heap := g } (fun _ => True) (fun i v => ∃ c' u, (#[c] : Array UInt8)[i]? = some c' ∧ v = .int (c'.toNat : Int) u) (Fin { s₁ with heap := g }) 1 0 [] news) :
    SrcG prog w A h₀ L m env elt x scope cl Fin (.bytes #[c] t) s₁ := ⟨1, _, news, F, N, by rw [sizeLine_eq]; omega, draws_bytes hh, fun _ ⟨g, e⟩ => e ▸ h g⟩
theorem encode_go2 {c : Nat} {t u : Tok} {Q : Value → Shared → Prop} (h1 : isKept c = false → ∃ d, hexOf c = some d) (h2 : isKept c = false) (h : ∀ d, hexOf c = some d → Q (.bytes #[c.toUInt8] s.toks) { s with toks := s.toks + 1 }) :
    wpAny (model prog w) A (call (.builtin "str.encode") [.str (S [c]) t, .str (Str.ofString "utf-8") u]) Q E s := by
  obtain ⟨d, hd⟩ := h1 h2
  exact encode_go hd (h d hd)
theorem join_map {p : Addr} {news : List (Addr × Obj)} {x : Str} {t : Tok} {Q : Value → Shared → Prop} {pl : List (List Nat × Tok)} {n : Nat} {l : List Nat} (hx : x = S []) (N : News h₀ L s.heap ((p, lstObj (strV pl) n) :: news)) (hp : pl.map (·.1) = l.map quoteC) (hz : l.length < 2 ^ 19)
    (hq : ∀ t' k, Q (.str (S (quoteL l)) t') { s with toks := k }) : wpAny (model prog w) A (call (.builtin "str.join") [.str x t, .ref p]) Q E s := by
  refine join_lit hx N ?_ ?_
  · rw [hp]; have := quoteL_le l; unfold quoteL at this; omega
  · rw [hp]; exact hq
theorem join_one {p : Addr} {news : List (Addr × Obj)} {x : Str} {t u : Tok} {Q : Value → Shared → Prop} {n : Nat} {l : List Nat} (hx : x = S []) (N : News h₀ L s.heap ((p, lstObj (strV [(l, u)]) n) :: news)) (hz : l.length < 2 ^ 19)
    (hq : ∀ t' k, Q (.str (S l) t') { s with toks := k }) : wpAny (model prog w) A (call (.builtin "str.join") [.str x t, .ref p]) Q E s := by
  refine join_lit hx N ?_ ?_
  · simp; omega
  · simpa using hq
end
end Mine

end SMZ

section SCG
open PySem PySem.W PyProof.Rows PySem.Calls PySem.Spec
theorem Mine.offCG : True := by w_top off; exact trivial
namespace Mine
section
open PyProof.Rows.LCg
local macro_rules | `(tactic| cell_enter) => `(tactic| (refine wpAny_call ?_; refine' con_code (by assumption) ?k1 ?k2 ?k3 ?k4 ?kz ?k5 ?kA ?kF ?kK ?k6 ?k7 ?k8 ?k9 ?kB (by assumption) ?kQ ?_ ?c2 ?c3 ?c4 ?c5; (case kA => exact rfl); (case kF => exact rfl); (case kK => assumption); (case k1 => k_asm); (case k2 => k_asm); (case k3 => k_asm); (case k4 => k_asm); (case kz => assumption); (case k5 => k_asm); (case k6 => k_is); (case k7 => k_is); (case k8 => ktr_room); (case k9 => (refine' kp_binds ?kx ?ke; (case kx => k_in); (case ke => exact fun _ => rfl))); (case kQ => exact fun _ _ q => q); (case c5 => decide); (case kB => exact locs rfl); (case c2 => exact rfl); (case c3 => exact rfl); (case c4 => exact rfl); k_whole; intro g' L' h' F' N' B' X' T' l0; (try k_lt l0); (try dsimp only); (try k_fold)))
local macro_rules | `(tactic| walk_at "subscriptTail") => `(tactic| ((with_reducible show wpAny _ _ (subscriptTail _ _ (Value.str (S _) _) (Value.int _ _)) _ _ _); refine sub_S (by omega) (by omega) (by omega) ?_))
local macro_rules | `(tactic| walk_at "subscriptTail Name Name str int") => `(tactic| (refine sub_S (by omega) (by omega) (by omega) ?_))
local macro_rules | `(tactic| walk_at "compareOp In str str") => `(tactic| first | refine in_ws ?_ | refine in_punct ?_ | refine in_blank ?_ | refine in_nl ?_ | refine in_ang ?_)
local macro_rules | `(tactic| walk_at "call builtin:len") => `(tactic| refine len_S (by omega) ?_)
local macro_rules | `(tactic| walk_at "call builtin:ord") => `(tactic| refine ord_ch ?_)
local macro_rules | `(tactic| walk_at "compareOp Eq str str") => `(tactic| first
  | refine eq_ch (d := 60) (by decide : Str.ofString "<" = S [60]) ?_
  | refine eq_ch (d := 62) (by decide : Str.ofString ">" = S [62]) ?_
  | refine eq_ch (d := 10) (by decide : Str.ofString "\n" = S [10]) ?_
  | refine eq_ch (d := 13) (by decide : Str.ofString "\x0d" = S [13]) ?_
  | refine eq_ch (d := 40) (by decide : Str.ofString "(" = S [40]) ?_
  | refine eq_ch (d := 41) (by decide : Str.ofString ")" = S [41]) ?_
  | refine eq_ch (d := 92) (by decide : Str.ofString "\\" = S [92]) ?_
  | refine eq_ch (d := 0) (by decide : Str.ofString "\x00" = S [0]) ?_
  | refine eq_ch (d := 127) (by decide : Str.ofString "\x7f" = S [127]) ?_)
local macro_rules | `(tactic| walk_at "compareOp NotEq str str") => `(tactic| first
  | refine ne_ch (d := 41) (by decide : Str.ofString ")" = S [41]) ?_)
local macro_rules | `(tactic| walk_at "subscriptTail Name Slice str ref") => `(tactic| ((with_reducible show wpAny _ _ (subscriptTail _ (Expr.Slice (some _) (some _) none _) (Value.str (S _) _) _) _ _ _); (refine slice_go (s := ⟨_, _, _, _, _⟩) (by assumption) (by assumption) (by omega) (by omega) (by omega) (by omega) ?_); intro h' t' tk' F' N'))
local macro_rules | `(tactic| walk_at "ite") => `(tactic| first
  | with_reducible refine ite_tt ?_ | with_reducible refine ite_ff ?_ | with_reducible refine split_not ?_
  | with_reducible refine boolT (by with_reducible assumption) ?_ | with_reducible refine boolF (by with_reducible assumption) ?_
  | with_reducible refine decT (by omega) ?_ | with_reducible refine decF (by omega) ?_
  | (with_reducible refine split_ine ?_ ?_ <;> intro _) | (with_reducible refine split_ieq ?_ ?_ <;> intro _)
  | (with_reducible refine PyProof.Rows.split_dec ?_ ?_ <;> intro _) | (with_reducible refine PyProof.Rows.split_bool ?_ ?_ <;> intro _))
local macro_rules | `(tactic| ksw_same) => `(tactic| (intro z h2 h3; (simp only [List.forall_mem_cons, List.not_mem_nil, false_implies, implies_true, and_true, ne_eq] at h2); (simp only [List.contains_cons, List.contains_nil, Bool.or_false, Bool.or_eq_false_iff, beq_eq_false_iff_ne, ne_eq] at h3); simp only [h2, h3, if_false, List.contains_cons, List.contains_nil, Bool.or_false, Bool.or_eq_true, beq_iff_eq, or_self, or_false, false_or, Bool.false_eq_true]))
local macro_rules | `(tactic| walk_at "MPost") => `(tactic| (dsimp only [MPost]))
local macro_rules | `(tactic| walk_at "truthy str") => `(tactic| first | refine truthy_cons (by simp only [List.length_nil]; omega) ?_ | refine truthy_S (by omega) ?_)
local macro_rules | `(tactic| walk_at "binaryOp Add str str") => `(tactic| first
  | (refine add_SS (a := []) (b := _) (by decide : Str.ofString "" = S []) rfl (by simp only [List.length_nil, List.length_cons]; omega) ?_; intro t' tk')
  | (refine add_SS rfl rfl (by simp only [List.length_nil, List.length_cons, List.length_append]; omega) ?_; intro t' tk'))
local macro_rules | `(tactic| walk_at "compareOp NotIn str str") => `(tactic| refine notin_ws ?_)

local macro_rules | `(tactic| cell_enter) => `(tactic| (refine wpAny_call ?_; refine' con_codeC (by assumption) ?k1 ?k2 ?k3 ?k4 ?kz ?k5 ?kA ?kF ?kK ?k6 ?k7 ?k8 ?k9 ?kB ?kD (by assumption) ?kQ ?_ ?c2 ?c3 ?c4; (case kA => exact rfl); (case kF => exact rfl); (case kK => assumption); (case k1 => k_asm); (case k2 => k_asm); (case k3 => k_asm); (case k4 => k_asm); (case kz => assumption); (case k5 => k_asm); (case k6 => k_is); (case k7 => k_is); (case k8 => ktr_room); (case k9 => (refine' kp_binds ?kx ?ke; (case kx => k_in); (case ke => exact fun _ => rfl))); (case kB => exact rfl); (case kD => decide +kernel); (case kQ => exact fun _ _ q => q); (case c2 => exact rfl); (case c3 => exact rfl); (case c4 => exact rfl); k_whole; intro g' L' h' tk' cells' F' N' Y' B' X' T' l0; (try k_lt l0); k_cells Y'; (try simp only [List.cons_append, List.nil_append] at N'); (try dsimp only); (try k_fold)))
local macro_rules | `(tactic| walk_at "binaryOp Add str str") => `(tactic| (refine add_SS (a := safeA) (b := safeB) (by decide) (by decide) (by decide) ?_; intro t' tk'))
local macro_rules | `(tactic| walk_at "exec Assign cons ListComp") => `(tactic| k_dflt (refine Assign_ListComp_G (by assumption) (by rfl) (by with_unfolding_all rfl) (by with_unfolding_all rfl) (by decide) (by rfl) (by decide) (by rfl) (by rfl) (by rfl) ?_))
local macro_rules | `(tactic| walk_at "eval ListComp") => `(tactic| k_dflt (refine ListComp_G (by assumption) (by with_unfolding_all rfl) (by decide) (by rfl) (by decide) (by rfl) ?_))
local macro_rules | `(tactic| walk_at "SrcG") => `(tactic| first
  | ((with_reducible show SrcG _ _ _ _ _ _ _ _ _ _ _ _ (Value.str _ _) _); refine SrcG.str (by rfl) (by assumption) (by assumption) (by omega) ?_; intro g'; refine turnsS quoteC ?_ ?_; intro c' t' I' oI' C' oC' D' m' ys' h' tk' E' hc' hC' hx' F' N' off' ne'; (have hq2' := Quotable.hex (by assumption) hc'); (have off2' := off'); (try simp only [Off3, and_true] at off2'))
  | ((with_reducible show SrcG _ _ _ _ _ _ _ _ _ _ _ _ (Value.bytes _ _) _); refine SrcG.byte (by rfl) (by assumption) (by assumption) ?_; intro g'; refine turnsH (by assumption) ?_ ?_; intro t' I' oI' C' oC' D' m' h' tk' E' hC' hx' F' N' off' ne'; (have off2' := off'); (try simp only [Off3, and_true] at off2')))
local macro_rules | `(tactic| walk_at "compareOp In str str") => `(tactic| refine in_kept ?_)
local macro_rules | `(tactic| walk_at "call builtin:str.encode") => `(tactic| (refine encode_go2 (by assumption) (by assumption) ?_; intro d' hd'))
local macro_rules | `(tactic| walk_at "formatField int") => `(tactic| (refine hex_fmt (by assumption) ?_))
local macro_rules | `(tactic| walk_at "call builtin:str.join") => `(tactic| ((first | refine join_map (by decide) (by assumption) (by assumption) (by omega) ?_ | refine join_one (by decide) (by assumption) (by have h9 := hex_len (by assumption); simp only [List.length_cons, h9]; omega) ?_); intro tjo kjo))
local macro_rules | `(tactic| walk_at "CompEnd") => `(tactic| (refine CompEnd.intro (by assumption) (by assumption) _ ?sub (by assumption) True.intro (RowIs.mk ?_); (case sub => lcg_sub)))
local macro_rules | `(tactic| walk_at "getMethod str") => `(tactic| ((with_reducible show wpAny _ _ (getMethod (Value.str (S [_]) _) _ _) _ _ _); k_dflt (refine getMethod_builtin (T := "str") (typeIs_str _ _ _) F.plainAttrs_str F.slot_str_encode F.type_str_encode (fun a e => by cases e) ?_)))
local macro_rules | `(tactic| walk_at "joinParts") => `(tactic| ((with_reducible show wpAny _ _ (joinParts _ (evalEach [] _)) _ _ _); k_dflt (refine joinParts_nil ?_ (hex_join (by assumption)))))
theorem c_quote (w : World) (l : List Nat) (tx ts : Tok) (h2 : l.length < 2 ^ 19) (hq : Quotable l) :
    Con PySem.Challenge.rw_ci0012_02.row.prog w (hd.heap_39 w.params) 3 38 [.str (S l) tx] [(Str.ofString "safe", .str (Str.ofString ":/?#@!$&()*+,;=%") ts)] [] (fun v new mt' => (∃ t, v = .str (S (quoteL l)) t) ∧ new = [] ∧ mt' = []) := by
  k_fill
  intro p loose mean mg mb dp un gd cn cs a ccd cl outer A₀ base h₀ L m rest s Q E B F X N hz T hk hdp hun hret
  k_with_none
  have hb : BindsAre [(Str.ofString "text", .str (S l) tx), (Str.ofString "safe", .str (Str.ofString ":/?#@!$&()*+,;=%") ts)] := trivial
  k_with "eval JoinedStr" => (first | refine JoinedStr_many ?_ | refine JoinedStr_one ?_)
  k_dflt cell_enter
  clear B F X N hz T hret
  k_steps
  all_goals first
    | exact congrArg S (quoteC_kept (by assumption)).symm
    | exact congrArg S (quoteC_hex (by assumption) (by assumption)).symm
    | exact pct_d
    | exact hex_join (by assumption)
    | (refine Ends.mk [] [] (by assumption) (by assumption) (fun _ hq => nomatch hq) ⟨⟨_, rfl⟩, rfl, rfl⟩)
end
end Mine

end SCG

section SNA
open PySem PySem.W PyProof.Rows PySem.Calls PySem.Spec
set_option Elab.async false
set_option maxRecDepth 100000
set_option maxHeartbeats 4000000
namespace Mine
theorem hrfA_le (lim : Int) : ∀ (n j : Nat) (lv : Int) (l : List Nat) (e : Nat) (lv' : Int), l.length ≤ n → hrfA lim j lv l = some (e, lv') → j ≤ e ∧ e ≤ j + l.length := by
  intro n
  induction n with
  | zero =>
    intro j lv l e lv' hn h
    have : l = [] := List.length_eq_zero_iff.mp (by omega)
    subst this
    rw [hrfA] at h; cases h; simp
  | succ n ih =>
    intro j lv l e lv' hn h
    cases l with
    | nil => rw [hrfA] at h; cases h; simp
    | cons c r =>
      simp only [List.length_cons] at hn ⊢
      rw [hrfA] at h
      split at h
      · cases h; omega
      · split at h
        · cases h
        · split at h
          · cases h
          · split at h
            · rename_i hx
              have hr : 0 < r.length := by
                cases r with
                | nil => exact absurd hx.2 (by decide)
                | cons _ _ => simp
              have := ih _ _ _ _ _ (by simp only [List.length_tail]; omega) h
              simp only [List.length_tail] at this; omega
            · split at h
              · split at h
                · cases h
                · have := ih _ _ _ _ _ (by omega) h; omega
              · split at h
                · split at h
                  · cases h; omega
                  · have := ih _ _ _ _ _ (by omega) h; omega
                · have := ih _ _ _ _ _ (by omega) h; omega
theorem hrfI_le {lim : Int} {l : List Nat} {i lv e lv' : Int} (h0 : 0 ≤ i) (h1 : i ≤ l.length) (h : hrfI lim l i lv = some (e, lv')) : i ≤ e ∧ e ≤ l.length := by
  unfold hrfI at h
  obtain ⟨⟨n, v⟩, hn, hq⟩ := Option.map_eq_some_iff.mp h
  cases hq
  have := hrfA_le lim _ _ _ _ _ _ (Nat.le_refl _) hn
  rw [List.length_drop] at this; omega
theorem hrefR_le {lim : Int} {l : List Nat} {i e : Int} {h : List Nat} (h0 : 0 ≤ i) (h1 : i ≤ l.length) (hh : hrefR lim l i = some (h, e)) : i ≤ e ∧ e ≤ l.length ∧ h.length ≤ l.length := by
  have hs := startI_le h0 h1
  unfold hrefR at hh
  dsimp only at hh
  split at hh
  · cases hh
  · split at hh
    · split at hh
      · rename_i q hq
        cases hh
        have := angI_le (by omega) hq
        exact ⟨by omega, by omega, subI_len⟩
      · cases hh
    · split at hh
      · rename_i q lv hq
        split at hh
        · cases hh
          have := hrfI_le (by omega) (by omega) hq
          exact ⟨by omega, by omega, subI_len⟩
        · cases hh
      · cases hh
theorem ttlA_le (op cl : Nat) : ∀ (n j : Nat) (l : List Nat) (a : List Nat) (e : Nat), l.length ≤ n → ttlA op cl j l = some (a, e) → j < e ∧ e ≤ j + l.length ∧ a.length ≤ l.length := by
  intro n
  induction n with
  | zero =>
    intro j l a e hn h
    have : l = [] := List.length_eq_zero_iff.mp (by omega)
    subst this
    rw [ttlA] at h; cases h
  | succ n ih =>
    intro j l a e hn h
    cases l with
    | nil => rw [ttlA] at h; cases h
    | cons c r =>
      simp only [List.length_cons] at hn ⊢
      rw [ttlA] at h
      split at h
      · cases h
      · split at h
        · cases h
        · split at h
          · rename_i hx
            have hr : 0 < r.length := by
              cases r with
              | nil => exact absurd hx.2 (by decide)
              | cons _ _ => simp
            obtain ⟨⟨q1, q2⟩, hq, hp⟩ := Option.map_eq_some_iff.mp h
            cases hp
            have := ih _ _ _ _ (by simp only [List.length_tail]; omega) hq
            simp only [List.length_tail, List.length_cons] at this ⊢; omega
          · split at h
            · cases h; simp
            · obtain ⟨⟨q1, q2⟩, hq, hp⟩ := Option.map_eq_some_iff.mp h
              cases hp
              have := ih _ _ _ _ (by omega) hq
              simp only [List.length_cons]; omega
theorem ttlI_le {op cl : Nat} {l a : List Nat} {i e : Int} (h0 : 0 ≤ i) (h1 : i ≤ l.length) (h : ttlI op cl l i = some (a, e)) : i < e ∧ e ≤ l.length ∧ a.length ≤ l.length := by
  unfold ttlI at h
  obtain ⟨⟨n, v⟩, hn, hq⟩ := Option.map_eq_some_iff.mp h
  cases hq
  have := ttlA_le op cl _ _ _ _ _ (Nat.le_refl _) hn
  dsimp only at this ⊢
  rw [List.length_drop] at this; omega
theorem unescL_le : ∀ (n : Nat) (l : List Nat), l.length ≤ n → (unescL l).length ≤ l.length := by
  intro n
  induction n with
  | zero => intro l hn; have : l = [] := List.length_eq_zero_iff.mp (by omega); subst this; simp [unescL]
  | succ n ih =>
    intro l hn
    cases l with
    | nil => simp [unescL]
    | cons c r =>
      rw [unescL_cons]
      simp only [List.length_cons] at hn ⊢
      split
      · have := ih r.tail (by simp only [List.length_tail]; omega)
        rename_i hx
        have hr : 0 < r.length := by
          cases r with
          | nil => exact absurd hx.2 (by decide)
          | cons _ _ => simp
        simp only [List.length_tail, List.length_cons] at this ⊢; omega
      · have := ih r (by omega); simp only [List.length_cons]; omega
theorem unescL_len (l : List Nat) : (unescL l).length ≤ l.length := unescL_le _ _ (Nat.le_refl _)
theorem titleR_le {l a : List Nat} {i e : Int} (h0 : 0 ≤ i) (h1 : i ≤ l.length) (h : titleR l i = some (a, e)) : i < e ∧ e ≤ l.length ∧ a.length ≤ l.length := by
  have hs := scanI_le isWs h0 h1
  unfold titleR at h
  split at h
  · cases h
  · split at h
    · cases h
    · split at h
      · cases h
      · split at h
        · cases h
        · split at h
          · cases h
          · rename_i q hq
            cases h
            have := ttlI_le (by omega) (by omega) hq
            have u := unescL_len
            exact ⟨by omega, by omega, Nat.le_trans (u _) this.2.2⟩
/-- the link from place i on: the raw address, the title, the place behind -/
def linkR (lim : Int) (l : List Nat) (i : Int) : Option (List Nat × List Nat × Int) :=
  match hrefR lim l i with
  | none => none
  | some (h, e) =>
    let tp := match titleR l e with | some (a, q) => (a, q) | none => ([], e)
    if l.length ≤ scanI isWs l tp.2 then none
    else if (l.getD (scanI isWs l tp.2).toNat 0 == 41) = true then some (h, tp.1, scanI isWs l tp.2 + 1) else none
section
variable {lim : Int} {l h a : List Nat} {i e q : Int}
theorem linkR_1 (x : hrefR lim l i = none) : linkR lim l i = none := by unfold linkR; rw [x]
theorem linkR_2 (x : hrefR lim l i = some (h, e)) (y : titleR l e = some (a, q)) (z : l.length ≤ scanI isWs l q) : linkR lim l i = none := by unfold linkR; rw [x]; dsimp only; rw [y]; dsimp only; rw [if_pos z]
theorem linkR_3 (x : hrefR lim l i = some (h, e)) (y : titleR l e = none) (z : l.length ≤ scanI isWs l e) : linkR lim l i = none := by unfold linkR; rw [x]; dsimp only; rw [y]; dsimp only; rw [if_pos z]
theorem linkR_4 (x : hrefR lim l i = some (h, e)) (y : titleR l e = some (a, q)) (z : (l.getD (scanI isWs l q).toNat 0 == 41) = false) : linkR lim l i = none := by unfold linkR; rw [x]; dsimp only; rw [y]; dsimp only; (repeat' split) <;> first | rfl | (exfalso; simp_all; done)
theorem linkR_5 (x : hrefR lim l i = some (h, e)) (y : titleR l e = none) (z : (l.getD (scanI isWs l e).toNat 0 == 41) = false) : linkR lim l i = none := by unfold linkR; rw [x]; dsimp only; rw [y]; dsimp only; (repeat' split) <;> first | rfl | (exfalso; simp_all; done)
theorem linkR_6 (x : hrefR lim l i = some (h, e)) (y : titleR l e = some (a, q)) (z : ¬ l.length ≤ scanI isWs l q) (u : (l.getD (scanI isWs l q).toNat 0 == 41) = true) : linkR lim l i = some (h, a, scanI isWs l q + 1) := by unfold linkR; rw [x]; dsimp only; rw [y]; dsimp only; rw [if_neg z, if_pos u]
theorem linkR_7 (x : hrefR lim l i = some (h, e)) (y : titleR l e = none) (z : ¬ l.length ≤ scanI isWs l e) (u : (l.getD (scanI isWs l e).toNat 0 == 41) = true) : linkR lim l i = some (h, [], scanI isWs l e + 1) := by unfold linkR; rw [x]; dsimp only; rw [y]; dsimp only; rw [if_neg z, if_pos u]
end
end Mine
namespace Mine
/-- what the dict of a link holds -/
def dictD (u a : List Nat) : List (PyData × PyData) :=
  if a.isEmpty = true then [(.str (Str.ofString "url"), .str (S u))] else [(.str (Str.ofString "url"), .str (S u)), (.str (Str.ofString "title"), .str (S a))]
def LinkObj (prog : Program) (w : World) (od : Obj) (u a : List Nat) : Prop := ∃ ps, Obj.IsDictOf (strKind prog w) od ps ∧ PyProof.V.FlatPairs PyData.str ps (dictD u a)
theorem LinkObj.no {prog : Program} {w : World} {od : Obj} {u a : List Nat} {t1 t2 : Tok} (hd : Obj.IsDictOf (strKind prog w) od (strPairs [(Value.str (Str.ofString "url") t1, Value.str (S u) t2)]))
    (hf : PyProof.V.FlatPairs PyData.str (strPairs [(Value.str (Str.ofString "url") t1, Value.str (S u) t2)]) (strData [(Value.str (Str.ofString "url") t1, Value.str (S u) t2)])) (ha : a.isEmpty = true) : LinkObj prog w od u a :=
  ⟨_, hd, by unfold dictD; rw [if_pos ha]; exact hf⟩
theorem LinkObj.yes {prog : Program} {w : World} {od : Obj} {u a : List Nat} {t1 t2 t3 : Tok} (hd : Obj.IsDictOf (strKind prog w) od (stored (strPairs [(Value.str (Str.ofString "url") t1, Value.str (S u) t2)]) (Str.ofString "title") (Value.str (S a) t3)))
    (hf : PyProof.V.FlatPairs PyData.str (stored (strPairs [(Value.str (Str.ofString "url") t1, Value.str (S u) t2)]) (Str.ofString "title") (Value.str (S a) t3)) (PyProof.V.putD (PyData.str (Str.ofString "title")) (PyData.str (S a)) (strData [(Value.str (Str.ofString "url") t1, Value.str (S u) t2)]))) (ha : a.isEmpty = false) : LinkObj prog w od u a :=
  ⟨_, hd, by unfold dictD; rw [if_neg (by rw [ha]; decide)]; exact hf⟩
theorem nc_of {c : Nat} (h : (c != 41) = true) : (c == 41) = false := by simpa using h
theorem yc_of {c : Nat} (h : (c != 41) = false) : (c == 41) = true := by simpa using h
end Mine
namespace Mine
theorem mem_skip {a r b : Addr × Obj} {mt : List (Addr × Obj)} : ∀ q ∈ [a, b] ++ mt, q ∈ a :: r :: b :: mt := by
  intro q hq
  rcases List.mem_cons.mp hq with e | hq
  · rw [e]; exact .head _
  · exact .tail _ (.tail _ hq)
end Mine

end SNA

section SNR
open PySem PySem.W PyProof.Rows PySem.Calls PySem.Spec PySem.F
set_option Elab.async false
set_option maxRecDepth 100000
set_option maxHeartbeats 4000000
namespace Mine
open PySem.Sre
/-- the code of the pattern of character references -/
def chrC : Array Nat := #[14, 8, 1, 3, 4294967295, 1, 1, 38, 0, 16, 38, 17, 0, 7, 18, 16, 35, 24, 10, 1, 7, 13, 5, 22, 48, 57, 0, 1, 16, 59, 15, 56, 31, 16, 35, 13, 6, 16, 120, 16, 88, 0, 24, 16, 1, 4294967295, 13, 11, 9, 0, 67043328, 126, 126, 0, 0, 0, 0, 0, 1, 16, 59, 15, 25, 23, 24, 17, 1, 32, 13, 12, 21, 9, 5632, 402653257, 0, 0, 0, 0, 0, 0, 0, 1, 16, 59, 15, 2, 0, 17, 1, 1]
/-- neither # nor ; -/
def NoRef (l : List Nat) : Prop := ∀ c ∈ l, c ≠ 35 ∧ c ≠ 59
theorem NoRef.at {l : List Nat} (h : NoRef l) (p : Nat) : l.getD p 0 ≠ 35 ∧ l.getD p 0 ≠ 59 := by
  rcases Nat.lt_or_ge p l.length with q | q
  · have : l.getD p 0 ∈ l := by simp [List.getD, q]
    exact h _ this
  · rw [getD_of_le q]; exact ⟨by decide, by decide⟩
def kp0 : Sre.Kept := { lastmark := 0, lastindex := -1, whole := false, marks := #[] }
def fr0 (s : Nat) (first : Bool) : Sre.Frame := { wait := .nextStart, pc := 9, pos := s, outermost := first }
def frB (s : Nat) (first : Bool) (pc : Nat) : Sre.Frame := { wait := .nextBranch, pc := pc, pos := s + 1, outermost := first, kept := kp0 }
def frG (first : Bool) (p : Nat) (n : Int) : Sre.Frame := { wait := .giveBack, pc := 64, pos := p, outermost := first, count := n, kept := kp0 }
def chS (l : List Nat) (s : Nat) (first : Bool) (pc pos handed : Nat) (marks : Array (Option Nat)) (lastmark lastindex : Int) (fr : List Sre.Frame) (wt : Nat) (seen : Sre.Seen) (answer : Option Bool) : Sre.M :=
  { code := chrC, text := l.toArray, lim := l.length, start := s, lastStart := l.length, pc := pc, pos := pos, handed := handed, outermost := first, marks := marks, lastmark := lastmark, lastindex := lastindex,
    frames := fr, weight := wt, answer := answer, seen := seen }
def chM (l : List Nat) (s : Nat) (first : Bool) (marks : Array (Option Nat)) (seen : Sre.Seen) : Sre.M := chS l s first 9 s s marks (-1) (-1) [fr0 s first] 1 seen none
def chNext (l : List Nat) (s : Nat) (m : Sre.M) : Prop :=
  (s < l.length ∧ ∃ marks seen, marks.size = 2 ∧ m = chM l (s + 1) false marks seen) ∨ (l.length ≤ s ∧ m.outcome = some .failed)
section
variable {l : List Nat} {s : Nat} {first : Bool} {pc p h : Nat} {marks : Array (Option Nat)} {lm li : Int} {seen : Sre.Seen} {fr : List Sre.Frame} {wt : Nat}
theorem ch_back (hs : marks.size = 2) : ∃ n m', n ≤ 3 ∧ Goes n (chS l s first pc p h marks lm li [fr0 s first] 1 seen (some false)) m' ∧ chNext l s m' := by
  have e1 : (chS l s first pc p h marks lm li [fr0 s first] 1 seen (some false)).step = _ := step_back rfl rfl rfl
  by_cases hl : s < l.length
  · refine ⟨1, _, by omega, (Goes.one rfl).trans' e1, .inl ⟨hl, marks, seen, hs, ?_⟩⟩
    unfold M.resume
    dsimp only [chS, fr0]
    simp only [Bool.false_eq_true, if_false, hl, if_true]
    rfl
  · have e2 : (chS l s first pc p h marks lm li [fr0 s first] 1 seen (some false)).step = chS l s first 9 s h marks lm li [] 0 seen (some false) := by
      rw [e1]
      unfold M.resume
      dsimp only [chS, fr0]
      simp only [Bool.false_eq_true, if_false, hl]
      rfl
    exact ⟨2, _, by omega, Goes.trans ((Goes.one rfl).trans' e2) ((Goes.one rfl).trans' (step_done rfl rfl rfl)), .inr ⟨by omega, rfl⟩⟩
theorem ch_s1 : (chS l s first 9 p h marks lm li fr wt seen none).step = if p ≥ l.length then chS l s first 9 p h marks lm li fr wt (seen.add 16) (some false) else
    if (l.getD p 0 == 38) = true then chS l s first 11 (p + 1) h marks lm li fr wt (seen.add 16) none else chS l s first 9 p h marks lm li fr wt (seen.add 16) (some false) := by
  rw [step_exec rfl rfl (by show 9 < 90; decide)]
  show (if p ≥ l.length then chS l s first 9 p h marks lm li fr wt (seen.add 16) (some false) else match accepts chrC 9 (l.toArray.getD p 0) (seen.add 16) with
    | .error why => (chS l s first 9 p h marks lm li fr wt (seen.add 16) none).stick why
    | .ok (false, seen) => chS l s first 9 p h marks lm li fr wt seen (some false)
    | .ok (true, seen) => chS l s first 11 (p + 1) h marks lm li fr wt seen none) = _
  rw [show accepts chrC 9 (l.toArray.getD p 0) (seen.add 16) = .ok (l.toArray.getD p 0 == 38, seen.add 16) from rfl, getD_arr]
  split
  · rfl
  · cases l.getD p 0 == 38 <;> rfl
theorem ch_s2 : (chS l s first 11 p h marks (-1) li fr wt seen none).step = chS l s first 13 p h (marks.setIfInBounds 0 (some p)) 0 li fr wt (seen.add 17) none := by
  rw [step_exec rfl rfl (by show 11 < 90; decide)]; rfl
theorem ch_s3 : (chS l s first 13 (s + 1) h marks 0 (-1) [fr0 s first] 1 seen none).step = chS l s first 15 (s + 1) (s + 1) marks 0 (-1) [frB s first 14, fr0 s first] 2 (seen.add 7) none := by
  rw [step_exec rfl rfl (by show 13 < 90; decide)]; rfl
theorem ch_lit15 (hp : l.getD p 0 ≠ 35) : (chS l s first 15 p h marks lm li fr wt seen none).step = chS l s first 15 p h marks lm li fr wt (seen.add 16) (some false) := by
  rw [step_exec rfl rfl (by show 15 < 90; decide)]
  show (if p ≥ l.length then chS l s first 15 p h marks lm li fr wt (seen.add 16) (some false) else match accepts chrC 15 (l.toArray.getD p 0) (seen.add 16) with
    | .error why => (chS l s first 15 p h marks lm li fr wt (seen.add 16) none).stick why
    | .ok (false, seen) => chS l s first 15 p h marks lm li fr wt seen (some false)
    | .ok (true, seen) => chS l s first 17 (p + 1) h marks lm li fr wt seen none) = _
  rw [show accepts chrC 15 (l.toArray.getD p 0) (seen.add 16) = .ok (l.toArray.getD p 0 == 35, seen.add 16) from rfl, getD_arr, show (l.getD p 0 == 35) = false by simpa using hp]
  split <;> rfl
theorem ch_lit33 (hp : l.getD p 0 ≠ 35) : (chS l s first 33 p h marks lm li fr wt seen none).step = chS l s first 33 p h marks lm li fr wt (seen.add 16) (some false) := by
  rw [step_exec rfl rfl (by show 33 < 90; decide)]
  show (if p ≥ l.length then chS l s first 33 p h marks lm li fr wt (seen.add 16) (some false) else match accepts chrC 33 (l.toArray.getD p 0) (seen.add 16) with
    | .error why => (chS l s first 33 p h marks lm li fr wt (seen.add 16) none).stick why
    | .ok (false, seen) => chS l s first 33 p h marks lm li fr wt seen (some false)
    | .ok (true, seen) => chS l s first 35 (p + 1) h marks lm li fr wt seen none) = _
  rw [show accepts chrC 33 (l.toArray.getD p 0) (seen.add 16) = .ok (l.toArray.getD p 0 == 35, seen.add 16) from rfl, getD_arr, show (l.getD p 0 == 35) = false by simpa using hp]
  split <;> rfl
theorem ch_lit82 (hp : l.getD p 0 ≠ 59) : (chS l s first 82 p h marks lm li fr wt seen none).step = chS l s first 82 p h marks lm li fr wt (seen.add 16) (some false) := by
  rw [step_exec rfl rfl (by show 82 < 90; decide)]
  show (if p ≥ l.length then chS l s first 82 p h marks lm li fr wt (seen.add 16) (some false) else match accepts chrC 82 (l.toArray.getD p 0) (seen.add 16) with
    | .error why => (chS l s first 82 p h marks lm li fr wt (seen.add 16) none).stick why
    | .ok (false, seen) => chS l s first 82 p h marks lm li fr wt seen (some false)
    | .ok (true, seen) => chS l s first 84 (p + 1) h marks lm li fr wt seen none) = _
  rw [show accepts chrC 82 (l.toArray.getD p 0) (seen.add 16) = .ok (l.toArray.getD p 0 == 59, seen.add 16) from rfl, getD_arr, show (l.getD p 0 == 59) = false by simpa using hp]
  split <;> rfl
theorem ch_s5 : (chS l s first 15 p h marks 0 (-1) [frB s first 14, fr0 s first] 2 seen (some false)).step = chS l s first 33 (s + 1) (s + 1) marks 0 (-1) [frB s first 32, fr0 s first] 2 seen none := by
  rw [step_back rfl rfl rfl]; rfl
theorem ch_s7 : (chS l s first 33 p h marks 0 (-1) [frB s first 32, fr0 s first] 2 seen (some false)).step = chS l s first 64 (s + 1) (s + 1) marks 0 (-1) [frB s first 63, fr0 s first] 2 seen none := by
  rw [step_back rfl rfl rfl]; rfl
theorem ch_s11 : (chS l s first pc p h marks 0 (-1) [frB s first 63, fr0 s first] 2 seen (some false)).step = chS l s first 63 (s + 1) h marks 0 (-1) [fr0 s first] 1 seen (some false) := by
  rw [step_back rfl rfl rfl]; rfl
theorem ch_s10a {n : Int} (hn : n - 1 < 1) : (chS l s first pc p h marks 0 (-1) [frG first p n, frB s first 63, fr0 s first] 3 seen (some false)).step = chS l s first 64 p h marks 0 (-1) [frB s first 63, fr0 s first] 2 seen (some false) := by
  rw [step_back rfl rfl rfl]
  show (if n - 1 < ((1 : Nat) : Int) then _ else _) = _
  rw [if_pos (by simpa using hn)]; rfl
theorem ch_s10b {n : Int} (hn : ¬ n - 1 < 1) : (chS l s first pc p h marks 0 (-1) [frG first p n, frB s first 63, fr0 s first] 3 seen (some false)).step = chS l s first 82 (p - 1) (p - 1) marks 0 (-1) [frG first (p - 1) (n - 1), frB s first 63, fr0 s first] 3 seen none := by
  rw [step_back rfl rfl rfl]
  show (if n - 1 < ((1 : Nat) : Int) then _ else _) = _
  rw [if_neg (by simpa using hn)]; rfl
theorem ch_set (c : Nat) (seen : Sre.Seen) : ∃ b seen', accepts chrC 68 c seen = .ok (b, seen') := by
  show ∃ b seen', inSet chrC c 90 70 true seen = .ok (b, seen')
  unfold inSet
  show ∃ b seen', inSet chrC c 89 71 false (seen.add 21) = .ok (b, seen')
  unfold inSet
  show ∃ b seen', (if (c < 256 && (chrC.getD (71 + (1 + c / 32)) 0).testBit (c % 32)) = true then (Except.ok (false, (seen.add 21).add 9) : Except String (Bool × Sre.Seen)) else inSet chrC c 88 80 false ((seen.add 21).add 9)) = .ok (b, seen')
  split
  · exact ⟨_, _, rfl⟩
  · exact ⟨true, _, rfl⟩
theorem ch_run : ∀ (k p f : Nat) (seen : Sre.Seen), ∃ n seen', Sre.run chrC l.toArray 68 k p f seen = .ok (n, seen') ∧ f ≤ n ∧ n ≤ f + k
  | 0, p, f, seen => ⟨f, seen, rfl, Nat.le_refl _, Nat.le_refl _⟩
  | k + 1, p, f, seen => by
    obtain ⟨b, seen', e⟩ := ch_set (l.toArray.getD p 0) seen
    show ∃ n seen'', (do let (yes, seen) ← accepts chrC 68 (l.toArray.getD p 0) seen; if yes then Sre.run chrC l.toArray 68 k (p + 1) (f + 1) seen else pure (f, seen) : Except String (Nat × Sre.Seen)) = .ok (n, seen'') ∧ f ≤ n ∧ n ≤ f + (k + 1)
    rw [e]
    cases b with
    | false => exact ⟨f, seen', rfl, Nat.le_refl _, by omega⟩
    | true =>
      obtain ⟨n, s2, e2, h1, h2⟩ := ch_run k (p + 1) (f + 1) seen'
      exact ⟨n, s2, e2, by omega, by omega⟩
theorem ch_s8 : ∃ m', (chS l s first 64 p h marks 0 (-1) [frB s first 63, fr0 s first] 2 seen none).step = m' ∧
    ((∃ seen', m' = chS l s first 64 p h marks 0 (-1) [frB s first 63, fr0 s first] 2 seen' (some false)) ∨ ∃ n : Nat, 1 ≤ n ∧ n ≤ 32 ∧ ∃ seen', m' = chS l s first 82 (p + n) (p + n) marks 0 (-1) [frG first (p + n) n, frB s first 63, fr0 s first] 3 seen' none) := by
  refine ⟨_, rfl, ?_⟩
  rw [step_exec rfl rfl (by show 64 < 90; decide)]
  obtain ⟨n, seen', e, h1, h2⟩ := ch_run (l := l) (min 32 ((l.length : Int) - (p : Int)).toNat) p 0 ((seen.add 24).add 13)
  by_cases hr : (((1 : Nat) : Int) > (l.length : Int) - (p : Int))
  · refine .inl ⟨seen.add 24, ?_⟩
    show (if (((1 : Nat) : Int) > (l.length : Int) - (p : Int)) then chS l s first 64 p h marks 0 (-1) [frB s first 63, fr0 s first] 2 (seen.add 24) (some false) else _) = _
    rw [if_pos hr]
  · have key : (chS l s first 64 p h marks 0 (-1) [frB s first 63, fr0 s first] 2 seen none).exec = if n < 1 then chS l s first 64 p h marks 0 (-1) [frB s first 63, fr0 s first] 2 seen' (some false) else chS l s first 82 (p + n) (p + n) marks 0 (-1) [frG first (p + n) n, frB s first 63, fr0 s first] 3 seen' none := by
      show (if (((1 : Nat) : Int) > (l.length : Int) - (p : Int)) then _ else match Sre.run chrC l.toArray 68 (min 32 ((l.length : Int) - (p : Int)).toNat) p 0 ((seen.add 24).add 13) with
        | .error why => _
        | .ok (n, seen) => _) = _
      rw [if_neg hr, e]
      rfl
    rw [key]
    by_cases hn : n < 1
    · rw [if_pos hn]; exact .inl ⟨_, rfl⟩
    · rw [if_neg hn]; exact .inr ⟨n, by omega, by omega, _, rfl⟩
theorem ch_give (hr : NoRef l) : ∀ (n : Nat) (p : Nat) (seen : Sre.Seen), 1 ≤ n → ∃ k p' h' seen', k ≤ 2 * n ∧ Goes k (chS l s first 82 p p marks 0 (-1) [frG first p n, frB s first 63, fr0 s first] 3 seen none) (chS l s first 64 p' h' marks 0 (-1) [frB s first 63, fr0 s first] 2 seen' (some false))
  | 0, _, _, h => absurd h (by omega)
  | n + 1, p, seen, _ => by
    have g1 := (Goes.one (m := chS l s first 82 p p marks 0 (-1) [frG first p ((n + 1 : Nat) : Int), frB s first 63, fr0 s first] 3 seen none) rfl).trans' (ch_lit82 (hr.at p).2)
    by_cases hn : n = 0
    · subst hn
      exact ⟨_, _, _, _, by omega, g1.trans ((Goes.one rfl).trans' (ch_s10a (by omega)))⟩
    · have g2 := g1.trans ((Goes.one rfl).trans' (ch_s10b (by omega)))
      rw [show ((n + 1 : Nat) : Int) - 1 = (n : Int) by omega] at g2
      obtain ⟨k, p', h', seen', hk, g3⟩ := ch_give hr n (p - 1) (seen.add 16) (by omega)
      exact ⟨_, p', h', seen', by omega, g2.trans g3⟩
end
theorem ch_try {l : List Nat} {s : Nat} {first : Bool} {marks : Array (Option Nat)} {seen : Sre.Seen} (hr : NoRef l) (hs : marks.size = 2) : ∃ n m', n ≤ 100 ∧ Goes n (chM l s first marks seen) m' ∧ chNext l s m' := by
  have g1 := (Goes.one (m := chM l s first marks seen) rfl).trans' ch_s1
  by_cases h1 : s ≥ l.length
  · rw [if_pos h1] at g1
    obtain ⟨n, m', hn, g, e⟩ := ch_back (l := l) (s := s) (first := first) (pc := 9) (p := s) (h := s) (lm := -1) (li := -1) (seen := seen.add 16) hs
    exact ⟨1 + n, m', by omega, g1.trans g, e⟩
  · rw [if_neg h1] at g1
    by_cases h2 : (l.getD s 0 == 38) = true
    · rw [if_pos h2] at g1
      have hs' : (marks.setIfInBounds 0 (some (s + 1))).size = 2 := by simp [hs]
      have g2 := g1.trans ((Goes.one rfl).trans' ch_s2)
      have g3 := g2.trans ((Goes.one rfl).trans' ch_s3)
      have g4 := g3.trans ((Goes.one rfl).trans' (ch_lit15 (hr.at (s + 1)).1))
      have g5 := g4.trans ((Goes.one rfl).trans' ch_s5)
      have g6 := g5.trans ((Goes.one rfl).trans' (ch_lit33 (hr.at (s + 1)).1))
      have g7 := g6.trans ((Goes.one rfl).trans' ch_s7)
      obtain ⟨m1, e1, q⟩ := ch_s8 (l := l) (s := s) (first := first) (p := s + 1) (h := s + 1) (marks := marks.setIfInBounds 0 (some (s + 1))) (seen := ((((seen.add 16).add 17).add 7).add 16).add 16)
      have g8 := g7.trans ((Goes.one rfl).trans' e1)
      have fin : ∀ (k p' h' : Nat) (seen' : Sre.Seen), k ≤ 80 → Goes k (chM l s first marks seen) (chS l s first 64 p' h' (marks.setIfInBounds 0 (some (s + 1))) 0 (-1) [frB s first 63, fr0 s first] 2 seen' (some false)) → ∃ n m', n ≤ 100 ∧ Goes n (chM l s first marks seen) m' ∧ chNext l s m' := by
        intro k p' h' seen' hk g
        have g9 := g.trans ((Goes.one rfl).trans' ch_s11)
        obtain ⟨n, m', hn, g', e⟩ := ch_back (l := l) (s := s) (first := first) (pc := 63) (p := s + 1) (h := h') (lm := 0) (li := -1) (seen := seen') hs'
        exact ⟨_, m', by omega, g9.trans g', e⟩
      rcases q with ⟨seen', rfl⟩ | ⟨n, hn1, hn2, seen', rfl⟩
      · exact fin _ _ _ _ (by omega) g8
      · obtain ⟨k, p', h', seen'', hk, g9⟩ := ch_give (s := s) (first := first) (marks := marks.setIfInBounds 0 (some (s + 1))) hr n (s + 1 + n) seen' hn1
        exact fin _ _ _ _ (by omega) (g8.trans g9)
    · rw [if_neg h2] at g1
      obtain ⟨n, m', hn, g, e⟩ := ch_back (l := l) (s := s) (first := first) (pc := 9) (p := s) (h := s) (lm := -1) (li := -1) (seen := seen.add 16) hs
      exact ⟨1 + n, m', by omega, g1.trans g, e⟩
theorem ch_from {l : List Nat} (hr : NoRef l) : ∀ (d s : Nat) (first : Bool) (marks : Array (Option Nat)) (seen : Sre.Seen), marks.size = 2 → l.length + 1 - s ≤ d → s ≤ l.length →
    ∃ n m', n ≤ 100 * d ∧ Goes n (chM l s first marks seen) m' ∧ m'.outcome = some .failed
  | 0, s, _, _, _, _, hd, hl => absurd hd (by omega)
  | d + 1, s, first, marks, seen, hs, hd, hl => by
    obtain ⟨n, m', hn, g, e⟩ := ch_try (l := l) (s := s) (first := first) (seen := seen) hr hs
    rcases e with ⟨hlt, marks', seen', hs', rfl⟩ | ⟨hge, ho⟩
    · obtain ⟨n', m'', hn', g', e'⟩ := ch_from hr d (s + 1) false marks' seen' hs' (by omega) (by omega)
      exact ⟨n + n', m'', by omega, g.trans g', e'⟩
    · exact ⟨n, m', by omega, g, ho⟩
theorem ch_fresh (l : List Nat) (s : Nat) (h : s + 3 ≤ l.length) : ∃ seen, Sre.forSearch chrC l.toArray 1 s l.length false = chM l s true #[none, none] seen := by
  refine ⟨(({} : Sre.Seen).add 14), ?_⟩
  show (if (decide (s > l.length) || decide (l.length - s < 3)) = true then _ else _) = _
  rw [if_neg (by simp; omega)]
  rfl
theorem ch_noroom (l : List Nat) (s : Nat) (h : ¬ s + 3 ≤ l.length) : ∃ m', Goes 1 (Sre.forSearch chrC l.toArray 1 s l.length false) m' ∧ m'.outcome = some .failed := by
  refine ⟨_, Goes.one ?_, ?_⟩
  · show M.outcome (if (decide (s > l.length) || decide (l.length - s < 3)) = true then _ else _) = _
    rw [if_pos (by simp; omega)]
    rfl
  · show M.outcome (M.step (if (decide (s > l.length) || decide (l.length - s < 3)) = true then _ else _)) = _
    rw [if_pos (by simp; omega)]
    rfl
open PySem.Builtin.Re in
theorem ch_next {M : Model} {A : Around} {E : Value → Shared → Prop} {s : Shared} {t : ReTarget} {l : List Nat} {st : Nat} {Q : Option Sre.M → Shared → Prop} (h1 : t.code = chrC) (h2 : t.text = l.toArray) (h3 : t.groups = 1) (h4 : t.lim = l.length) (hl : l.length < 2 ^ 20) (hs : st ≤ l.length) (hr : NoRef l)
    (h : Q none s) : wpAny M A (reNextFound t st false) Q E s := by
  unfold reNextFound
  rw [h1, h2, h3, h4]
  by_cases hp : st + 3 ≤ l.length
  · obtain ⟨seen, e⟩ := ch_fresh l st hp
    rw [e]
    obtain ⟨n, m', hn, g, q⟩ := ch_from (l := l) hr (l.length + 1 - st) st true #[none, none] seen rfl (Nat.le_refl _) hs
    exact runToEnd_failed g q (by omega) h
  · obtain ⟨m', g, q⟩ := ch_noroom l st hp
    exact runToEnd_failed g q (by omega) h
end Mine

end SNR

section SNS
open PySem PySem.W PyProof.Rows PySem.Calls PySem.Spec PySem.F
set_option Elab.async false
set_option maxRecDepth 100000
set_option maxHeartbeats 4000000
namespace Mine
open PySem.Builtin.Re
section
variable {prog : Program} {w : World} {A : Around} {K : Frag} {pa f L : Addr} {l : List Nat} {t : Tok} {h₀ : Heap} {m : Str → Option Value} {news : List (Addr × Obj)} {Q E : Value → Shared → Prop} {s : Shared}
/-- no reference in the text: it comes back as it is -/
theorem chr_go (X₀ : K.In h₀) (hp : PatIn K pa chrC 1) (hl : l.length < 2 ^ 20) (hr : NoRef l) (F : Fr h₀ L s.heap m) (N : News h₀ L s.heap news) (hf : ∃ o, s.heap.get? f = some o ∧ o.cls = .type "function")
    (hend : ∀ t' h' tk', Fr h₀ L h' m → News h₀ L h' news → Q (.str (S l) t') { s with heap := h', toks := tk' }) :
    wpAny (model prog w) A (call (.builtin "re.Pattern.sub") [.ref pa, .ref f, .str (S l) t]) Q E s := by
  obtain ⟨fs, ca, co, items, n, sl, p1, _⟩ := id hp
  have hT : s.TypeIs (.ref pa) "re.Pattern" := ⟨_, (X₀.keeps F.keep) _ _ p1, rfl⟩
  refine wpAny_call (codeAny_call_builtin slot_re_sub.plain entry_re_sub (slot_re_sub.check _ _ _ _ _ _ _ _ hT (args_re_sub _ _ _) ?_))
  unfold Builtin.«re.Pattern.sub» reSubstitute
  dsimp only
  rw [named_sub]
  refine wpAny_bind (wpAny_pure ?_)
  dsimp only
  refine wpAny_bind (wpAny_pure ?_)
  have hTf : s.TypeIs (.ref f) "function" := hf
  refine wpAny_bind (wpAny_specialOf hTf look_fn_call ?_)
  dsimp only [Option.isSome_some]
  rw [if_pos rfl]
  refine wpAny_bind (wpAny_pure ?_)
  rw [if_pos rfl]
  refine wpAny_bind (wpAny_pure ?_)
  dsimp only
  refine wpAny_bind (wpAny_holding (reWhole (X₀.keeps F.keep) hp ?_))
  rw [if_pos (by decide)]
  refine wpAny_bind ?_
  unfold reNotHeld
  refine wpAny_bind (wpAny_isInstance (T := "str") rfl sub_str_ba ?_)
  rw [if_neg (by decide)]
  refine wpAny_pure ?_
  refine wpAny_bind (wpAny_newList ?_ (by show 0 ≤ sizeLine; omega))
  have F1 := F.push (lstObj [] 0)
  have N1 := N.push F (lstObj [] 0)
  refine wpAny_pure ⟨plainId_quiet (by decide +kernel) _, ?_⟩
  have hne : ∀ q ∈ news, q.1 ≠ s.heap.objs.size := fun q hq => Nat.ne_of_lt (Heap.lt_size (N q hq).1)
  refine codeAny_builtin entry_re_sub_loop ?_
  rw [Around.under_plainId (by decide +kernel)]
  unfold Builtin.«re.Pattern.sub.loop»
  dsimp only [rawInt]
  refine wpAny_bind (reWhole (X₀.keeps F1.keep) hp ?_)
  dsimp only
  simp only [show ((1 : Int) == 0) = false from rfl, show ((1 : Int) == 1) = true from rfl, show ((0 : Int) != 0) = false from rfl, Bool.false_and, Bool.false_eq_true, if_false, if_true]
  refine wpAny_bind (ch_next rfl rfl rfl rfl hl (Nat.zero_le _) hr ?_)
  dsimp only
  by_cases hlt : 0 < l.length
  · rw [if_pos (by simpa using hlt)]
    refine wpAny_bind (reSlice_S ?_ hl)
    refine wpAny_bind (push_go (vs := []) (n := 0) F1 N1 hne (by simp) fun h' F' N' => ?_)
    have e : subI l (((0 : Int).toNat : Nat) : Int) ((l.length : Nat) : Int) = l := by
      unfold subI; simp
    rw [e] at N'
    have e0 : ([] : List Value) ++ [.str (S l) s.toks] = strV [(l, s.toks)] := rfl
    rw [e0] at N'
    refine sub_end (pl := [(l, s.toks)]) hl (by simp; omega) F' N' fun t' h'' tk'' F'' N'' => ?_
    have e2 : (([(l, s.toks)] : List (List Nat × Tok)).map (·.1)).flatten = l := by simp
    rw [e2]; exact hend _ _ _ F'' N''
  · have hn : l = [] := List.length_eq_zero_iff.mp (by omega)
    subst hn
    rw [if_neg (by simp)]
    exact sub_end (pl := []) hl (by simp) F1 N1 fun t' h'' tk'' F'' N'' => hend _ _ _ F'' N''
end
end Mine

end SNS

section SCH2
open PySem PySem.W PyProof.Rows PySem.Calls PySem.Spec
theorem Mine.offCH2 : True := by w_top off; exact trivial
namespace Mine
section
local macro_rules | `(tactic| cell_enter) => `(tactic| (refine wpAny_call ?_; refine' con_code (by assumption) ?k1 ?k2 ?k3 ?k4 ?kz ?k5 ?kA ?kF ?kK ?k6 ?k7 ?k8 ?k9 ?kB (by assumption) ?kQ ?_ ?c2 ?c3 ?c4 ?c5; (case kA => exact rfl); (case kF => exact rfl); (case kK => assumption); (case k1 => k_asm); (case k2 => k_asm); (case k3 => k_asm); (case k4 => k_asm); (case kz => assumption); (case k5 => k_asm); (case k6 => k_is); (case k7 => k_is); (case k8 => ktr_room); (case k9 => (refine' kp_binds ?kx ?ke; (case kx => k_in); (case ke => exact fun _ => rfl))); (case kQ => exact fun _ _ q => q); (case c5 => decide); (case kB => exact locs rfl); (case c2 => exact rfl); (case c3 => exact rfl); (case c4 => exact rfl); k_whole; intro g' L' h' F' N' B' X' T' l0; (try k_lt l0); (try dsimp only); (try k_fold)))
local macro_rules | `(tactic| walk_at "subscriptTail") => `(tactic| ((with_reducible show wpAny _ _ (subscriptTail _ _ (Value.str (S _) _) (Value.int _ _)) _ _ _); refine sub_S (by omega) (by omega) (by omega) ?_))
local macro_rules | `(tactic| walk_at "subscriptTail Name Name str int") => `(tactic| (refine sub_S (by omega) (by omega) (by omega) ?_))
local macro_rules | `(tactic| walk_at "compareOp In str str") => `(tactic| first | refine in_ws ?_ | refine in_punct ?_ | refine in_blank ?_ | refine in_nl ?_ | refine in_ang ?_)
local macro_rules | `(tactic| walk_at "call builtin:len") => `(tactic| refine len_S (by omega) ?_)
local macro_rules | `(tactic| walk_at "call builtin:ord") => `(tactic| refine ord_ch ?_)
local macro_rules | `(tactic| walk_at "compareOp Eq str str") => `(tactic| first
  | refine eq_ch (d := 60) (by decide : Str.ofString "<" = S [60]) ?_
  | refine eq_ch (d := 62) (by decide : Str.ofString ">" = S [62]) ?_
  | refine eq_ch (d := 10) (by decide : Str.ofString "\n" = S [10]) ?_
  | refine eq_ch (d := 13) (by decide : Str.ofString "\x0d" = S [13]) ?_
  | refine eq_ch (d := 40) (by decide : Str.ofString "(" = S [40]) ?_
  | refine eq_ch (d := 41) (by decide : Str.ofString ")" = S [41]) ?_
  | refine eq_ch (d := 92) (by decide : Str.ofString "\\" = S [92]) ?_
  | refine eq_ch (d := 0) (by decide : Str.ofString "\x00" = S [0]) ?_
  | refine eq_ch (d := 127) (by decide : Str.ofString "\x7f" = S [127]) ?_)
local macro_rules | `(tactic| walk_at "compareOp NotEq str str") => `(tactic| first
  | refine ne_ch (d := 41) (by decide : Str.ofString ")" = S [41]) ?_)
local macro_rules | `(tactic| walk_at "subscriptTail Name Slice str ref") => `(tactic| ((with_reducible show wpAny _ _ (subscriptTail _ (Expr.Slice (some _) (some _) none _) (Value.str (S _) _) _) _ _ _); (refine slice_go (s := ⟨_, _, _, _, _⟩) (by assumption) (by assumption) (by omega) (by omega) (by omega) (by omega) ?_); intro h' t' tk' F' N'))
local macro_rules | `(tactic| walk_at "ite") => `(tactic| first
  | with_reducible refine ite_tt ?_ | with_reducible refine ite_ff ?_ | with_reducible refine split_not ?_
  | with_reducible refine boolT (by with_reducible assumption) ?_ | with_reducible refine boolF (by with_reducible assumption) ?_
  | with_reducible refine decT (by omega) ?_ | with_reducible refine decF (by omega) ?_
  | (with_reducible refine split_ine ?_ ?_ <;> intro _) | (with_reducible refine split_ieq ?_ ?_ <;> intro _)
  | (with_reducible refine PyProof.Rows.split_dec ?_ ?_ <;> intro _) | (with_reducible refine PyProof.Rows.split_bool ?_ ?_ <;> intro _))
local macro_rules | `(tactic| ksw_same) => `(tactic| (intro z h2 h3; (simp only [List.forall_mem_cons, List.not_mem_nil, false_implies, implies_true, and_true, ne_eq] at h2); (simp only [List.contains_cons, List.contains_nil, Bool.or_false, Bool.or_eq_false_iff, beq_eq_false_iff_ne, ne_eq] at h3); simp only [h2, h3, if_false, List.contains_cons, List.contains_nil, Bool.or_false, Bool.or_eq_true, beq_iff_eq, or_self, or_false, false_or, Bool.false_eq_true]))
local macro_rules | `(tactic| walk_at "MPost") => `(tactic| (dsimp only [MPost]))
local macro_rules | `(tactic| walk_at "truthy str") => `(tactic| first | refine truthy_cons (by simp only [List.length_nil]; omega) ?_ | refine truthy_S (by omega) ?_)
local macro_rules | `(tactic| walk_at "binaryOp Add str str") => `(tactic| first
  | (refine add_SS (a := []) (b := _) (by decide : Str.ofString "" = S []) rfl (by simp only [List.length_nil, List.length_cons]; omega) ?_; intro t' tk')
  | (refine add_SS rfl rfl (by simp only [List.length_nil, List.length_cons, List.length_append]; omega) ?_; intro t' tk'))
local macro_rules | `(tactic| walk_at "compareOp NotIn str str") => `(tactic| refine notin_ws ?_)

local macro_rules | `(tactic| walk_at "compareOp NotIn str str") => `(tactic| (refine notin_amp (by decide) ?_))
local macro_rules | `(tactic| walk_at "getMethod ref") => `(tactic| ((with_reducible show wpAny _ _ (getMethod (Value.ref 57) _ _) _ _ _); refine getMethod_builtin (T := "re.Pattern") (Q := _) ⟨_, (Frag.In.keeps (by assumption) (Fr.keep (by assumption))) _ _ (by k_dflt k_is), rfl⟩ plainAttrs_rePattern slot_re_sub type_re_sub (fun a e => by cases e; exact ⟨_, (Frag.In.keeps (by assumption) (Fr.keep (by assumption))) _ _ (by k_dflt k_is), rfl⟩) ?_))
theorem pat_chr (w : World) : PatIn (hd.heap_39 w.params) 57 chrC 1 := ⟨_, 56, _, _, _, _, by rfl, by rfl, by rfl, by rfl, by rfl, by rfl, by decide +kernel⟩
theorem c_unref (w : World) (l : List Nat) (tx : Tok) (h2 : l.length < 2 ^ 20) (hn : NoRef l) :
    Con PySem.Challenge.rw_ci0012_02.row.prog w (hd.heap_39 w.params) 1 64 [.str (S l) tx] [] [] (fun v new mt' => (∃ t, v = .str (S l) t) ∧ new = [] ∧ mt' = []) := by
  k_fill
  intro p loose mean mg mb dp un gd cn cs a ccd cl outer A₀ base h₀ L m rest s Q E B F X N hz T hk hdp hun hret
  k_with_none
  k_with "call builtin:re.Pattern.sub" => (refine chr_go (by assumption) (pat_chr w) (by assumption) hn (by assumption) (by assumption) ⟨_, (Frag.In.keeps (by assumption) (Fr.keep (by assumption))) _ _ (by k_dflt k_is), rfl⟩ ?_; intro t' h' tk' F' N')
  have hb : BindsAre [(Str.ofString "s", .str (S l) tx)] := trivial
  k_dflt cell_enter
  clear B F X N hz T hret
  k_steps
  all_goals first
    | (refine Ends.mk [] [] (by assumption) (by assumption) (fun _ hq => nomatch hq) ⟨⟨_, rfl⟩, rfl, rfl⟩)
theorem c_escurl (w : World) (l : List Nat) (tx : Tok) (h2 : l.length < 2 ^ 19) (hn : NoRef l) (hq : Quotable l) :
    Con PySem.Challenge.rw_ci0012_02.row.prog w (hd.heap_39 w.params) 4 52 [.str (S l) tx] [] [] (fun v new mt' => (∃ t, v = .str (S (quoteL l)) t) ∧ new = [] ∧ mt' = []) := by
  k_fill
  intro p loose mean mg mb dp un gd cn cs a ccd cl outer A₀ base h₀ L m rest s Q E B F X N hz T hk hdp hun hret
  k_with_none
  have hb : BindsAre [(Str.ofString "link", .str (S l) tx)] := trivial
  k_with "call ref" => (refine Con.use0 (c_unref w l _ (by omega) hn) (by assumption) (by assumption) (by assumption) (by assumption) (by assumption) (by first | assumption | rfl) (by ktr_room) (by ktr_units) ?_; rintro v h' tk' new mt' ⟨⟨t, rfl⟩, rfl, rfl⟩ hne F' N'; (try simp only [List.nil_append] at N'))
  k_with "call ref" => (refine Con.use0 (c_quote w l _ _ (by omega) hq) (by assumption) (by assumption) (by assumption) (by assumption) (by assumption) (by first | assumption | rfl) (by ktr_room) (by ktr_units) ?_; rintro v h' tk' new mt' ⟨⟨t, rfl⟩, rfl, rfl⟩ hne F' N'; (try simp only [List.nil_append] at N'))
  k_dflt cell_enter
  clear B F X N hz T hret
  k_steps
  all_goals first
    | (refine Ends.mk [] [] (by assumption) (by assumption) (fun _ hq => nomatch hq) ⟨⟨_, rfl⟩, rfl, rfl⟩)
end
end Mine

end SCH2

section SCI
open PySem PySem.W PyProof.Rows PySem.Calls PySem.Spec
theorem Mine.offCI : True := by w_top off; exact trivial
namespace Mine
section
local macro_rules | `(tactic| cell_enter) => `(tactic| (refine wpAny_call ?_; refine' con_code (by assumption) ?k1 ?k2 ?k3 ?k4 ?kz ?k5 ?kA ?kF ?kK ?k6 ?k7 ?k8 ?k9 ?kB (by assumption) ?kQ ?_ ?c2 ?c3 ?c4 ?c5; (case kA => exact rfl); (case kF => exact rfl); (case kK => assumption); (case k1 => k_asm); (case k2 => k_asm); (case k3 => k_asm); (case k4 => k_asm); (case kz => assumption); (case k5 => k_asm); (case k6 => k_is); (case k7 => k_is); (case k8 => ktr_room); (case k9 => (refine' kp_binds ?kx ?ke; (case kx => k_in); (case ke => exact fun _ => rfl))); (case kQ => exact fun _ _ q => q); (case c5 => decide); (case kB => exact locs rfl); (case c2 => exact rfl); (case c3 => exact rfl); (case c4 => exact rfl); k_whole; intro g' L' h' F' N' B' X' T' l0; (try k_lt l0); (try dsimp only); (try k_fold)))
local macro_rules | `(tactic| walk_at "subscriptTail") => `(tactic| ((with_reducible show wpAny _ _ (subscriptTail _ _ (Value.str (S _) _) (Value.int _ _)) _ _ _); refine sub_S (by omega) (by omega) (by omega) ?_))
local macro_rules | `(tactic| walk_at "subscriptTail Name Name str int") => `(tactic| (refine sub_S (by omega) (by omega) (by omega) ?_))
local macro_rules | `(tactic| walk_at "compareOp In str str") => `(tactic| first | refine in_ws ?_ | refine in_punct ?_ | refine in_blank ?_ | refine in_nl ?_ | refine in_ang ?_)
local macro_rules | `(tactic| walk_at "call builtin:len") => `(tactic| refine len_S (by omega) ?_)
local macro_rules | `(tactic| walk_at "call builtin:ord") => `(tactic| refine ord_ch ?_)
local macro_rules | `(tactic| walk_at "compareOp Eq str str") => `(tactic| first
  | refine eq_ch (d := 60) (by decide : Str.ofString "<" = S [60]) ?_
  | refine eq_ch (d := 62) (by decide : Str.ofString ">" = S [62]) ?_
  | refine eq_ch (d := 10) (by decide : Str.ofString "\n" = S [10]) ?_
  | refine eq_ch (d := 13) (by decide : Str.ofString "\x0d" = S [13]) ?_
  | refine eq_ch (d := 40) (by decide : Str.ofString "(" = S [40]) ?_
  | refine eq_ch (d := 41) (by decide : Str.ofString ")" = S [41]) ?_
  | refine eq_ch (d := 92) (by decide : Str.ofString "\\" = S [92]) ?_
  | refine eq_ch (d := 0) (by decide : Str.ofString "\x00" = S [0]) ?_
  | refine eq_ch (d := 127) (by decide : Str.ofString "\x7f" = S [127]) ?_)
local macro_rules | `(tactic| walk_at "compareOp NotEq str str") => `(tactic| first
  | refine ne_ch (d := 41) (by decide : Str.ofString ")" = S [41]) ?_)
local macro_rules | `(tactic| walk_at "subscriptTail Name Slice str ref") => `(tactic| ((with_reducible show wpAny _ _ (subscriptTail _ (Expr.Slice (some _) (some _) none _) (Value.str (S _) _) _) _ _ _); (refine slice_go (s := ⟨_, _, _, _, _⟩) (by assumption) (by assumption) (by omega) (by omega) (by omega) (by omega) ?_); intro h' t' tk' F' N'))
local macro_rules | `(tactic| walk_at "ite") => `(tactic| first
  | with_reducible refine ite_tt ?_ | with_reducible refine ite_ff ?_ | with_reducible refine split_not ?_
  | with_reducible refine boolT (by with_reducible assumption) ?_ | with_reducible refine boolF (by with_reducible assumption) ?_
  | with_reducible refine decT (by omega) ?_ | with_reducible refine decF (by omega) ?_
  | (with_reducible refine split_ine ?_ ?_ <;> intro _) | (with_reducible refine split_ieq ?_ ?_ <;> intro _)
  | (with_reducible refine PyProof.Rows.split_dec ?_ ?_ <;> intro _) | (with_reducible refine PyProof.Rows.split_bool ?_ ?_ <;> intro _))
local macro_rules | `(tactic| ksw_same) => `(tactic| (intro z h2 h3; (simp only [List.forall_mem_cons, List.not_mem_nil, false_implies, implies_true, and_true, ne_eq] at h2); (simp only [List.contains_cons, List.contains_nil, Bool.or_false, Bool.or_eq_false_iff, beq_eq_false_iff_ne, ne_eq] at h3); simp only [h2, h3, if_false, List.contains_cons, List.contains_nil, Bool.or_false, Bool.or_eq_true, beq_iff_eq, or_self, or_false, false_or, Bool.false_eq_true]))
local macro_rules | `(tactic| walk_at "MPost") => `(tactic| (dsimp only [MPost]))
local macro_rules | `(tactic| walk_at "truthy str") => `(tactic| first | refine truthy_cons (by simp only [List.length_nil]; omega) ?_ | refine truthy_S (by omega) ?_)
local macro_rules | `(tactic| walk_at "binaryOp Add str str") => `(tactic| first
  | (refine add_SS (a := []) (b := _) (by decide : Str.ofString "" = S []) rfl (by simp only [List.length_nil, List.length_cons]; omega) ?_; intro t' tk')
  | (refine add_SS rfl rfl (by simp only [List.length_nil, List.length_cons, List.length_append]; omega) ?_; intro t' tk'))
local macro_rules | `(tactic| walk_at "compareOp NotIn str str") => `(tactic| refine notin_ws ?_)

theorem c_lwe (w : World) (l : List Nat) (tx ti tl : Tok) (i lim : Int) (mt : List (Addr × Obj)) (h0 : 0 ≤ i) (h1 : i ≤ l.length) (h2 : l.length < 2 ^ 19) (hl0 : 0 ≤ lim) (hl1 : lim ≤ 100) (hnb : NoBlank l) (hm : TabL mt)
    (hqu : ∀ h e, hrefR lim l i = some (h, e) → Quotable (unescL h) ∧ NoRef (unescL h)) :
    Con PySem.Challenge.rw_ci0012_02.row.prog w (hd.heap_39 w.params) 6 113 [.str (S l) tx, .int i ti] [(Str.ofString "max_nested_level", .int lim tl)] mt (fun v new mt' => (∃ r, v = .ref r ∧ match linkR lim l i with
      | some (h, a, n) => ∃ d od t1 t2, new = [(r, tupObj [.ref d, .int n t1, .int n t2]), (d, od)] ∧ (LinkObj PySem.Challenge.rw_ci0012_02.row.prog w od (quoteL (unescL h)) a ∧ (d == sysModules) = false)
      | none => ∃ z t, new = [(r, tupObj [.none, .none, .int z t])]) ∧ TabL mt') := by
  k_fill
  intro p loose mean mg mb dp un gd cn cs a ccd cl outer A₀ base h₀ L m rest s Q E B F X N hz T hk hdp hun hret
  k_with_none
  k_with "call ref" => (refine Con.use0 (c_href w l _ _ _ _ _ (by omega) (by omega) (by omega) (by omega) (by omega)) (by assumption) (by assumption) (by assumption) (by assumption) (by assumption) (by first | assumption | rfl) (by ktr_room) (by ktr_units) ?_; rintro v h' tk' new mt0 ⟨⟨r, o, rfl, rfl, hm1⟩, rfl⟩ hne F' N'; (try simp only [List.append_nil, List.nil_append, List.cons_append] at N'); (rcases hq : hrefR lim l i with _ | ⟨hr, he⟩ <;> rw [hq] at hm1 <;> dsimp only at hm1 <;> (first | (obtain ⟨t1, t2, t3, rfl⟩ := hm1; have hle := hrefR_le (by omega) (by omega) hq; obtain ⟨hqa, hqb⟩ := hqu _ _ hq) | (obtain ⟨z1, t1, rfl⟩ := hm1))))
  k_with "call ref" => (refine Con.useM [] (c_title w l _ _ _ _ mt (by omega) (by omega) (by omega) hnb hm) (by assumption) (by assumption) (by assumption) (by assumption) (by intro q hq; rw [List.append_nil] at hq; exact .tail _ hq) (by intro p hp q hq; cases hq) (by assumption) (by first | assumption | rfl) (by ktr_room) (by ktr_units) ?_; rintro v h' tk' new mt1 ⟨⟨r2, o2, rfl, rfl, hm2⟩, hTab1⟩ hne F' N'; (try simp only [List.append_nil, List.nil_append, List.cons_append] at N'); (rcases hq2 : titleR l he with _ | ⟨ta, te⟩ <;> rw [hq2] at hm2 <;> dsimp only at hm2 <;> (first | (obtain ⟨t11, t12, rfl⟩ := hm2; have hle2 := titleR_le (by omega) (by omega) hq2) | subst hm2)))
  k_with "call ref" => (refine Con.use0 (c_skip w l _ _ _ (by omega) (by omega) (by omega)) (by assumption) (by assumption) (by assumption) (by assumption) (by assumption) (by first | assumption | rfl) (by ktr_room) (by ktr_units) ?_; rintro v h' tk' new mt2 ⟨⟨ts, rfl⟩, rfl, rfl⟩ hne F' N'; (try simp only [List.append_nil, List.nil_append, List.cons_append] at N'); (first | have hsk := scanI_le isWs (l := l) (i := te) (by omega) (by omega) | have hsk := scanI_le isWs (l := l) (i := he) (by omega) (by omega)))
  k_with "call ref" => (refine Con.useM [] (c_unesc w _ _ mt1 (by omega) hTab1) (by assumption) (by assumption) (by assumption) (by assumption) (by intro q hq; rw [List.append_nil] at hq; exact .tail _ hq) (by intro p hp q hq; cases hq) (by assumption) (by first | assumption | rfl) (by ktr_room) (by ktr_units) ?_; rintro v h' tk' new mt3 ⟨⟨tu, rfl⟩, rfl, hTab3⟩ hne F' N'; (try simp only [List.nil_append, List.append_nil] at N'))
  k_with "call ref" => (refine Con.use0 (c_escurl w (unescL hr) _ (by have := unescL_len hr; omega) hqb hqa) (by assumption) (by assumption) (by assumption) (by assumption) (by assumption) (by first | assumption | rfl) (by ktr_room) (by ktr_units) ?_; rintro v h' tk' new mt4 ⟨⟨te4, rfl⟩, rfl, rfl⟩ hne F' N'; (try simp only [List.append_nil, List.nil_append, List.cons_append] at N'))
  have hb : BindsAre [(Str.ofString "src", .str (S l) tx), (Str.ofString "pos", .int i ti), (Str.ofString "max_nested_level", .int lim tl)] := trivial
  k_dflt cell_enter
  clear B F X N hz T hret
  k_steps
  all_goals first
    | (refine Ends.mk [_, _] mt3 (by assumption) (by assumption) (fun _ hq => hq) ⟨⟨_, rfl, ?_⟩, hTab3⟩
       first
         | (rw [linkR_7 hq hq2 (by assumption) (yc_of (by assumption))]; exact ⟨_, _, _, _, rfl, ⟨LinkObj.no (by assumption) (by assumption) rfl, by assumption⟩⟩)
         | (rw [linkR_6 hq hq2 (by assumption) (yc_of (by assumption))]; first
             | exact ⟨_, _, _, _, rfl, ⟨LinkObj.yes (by assumption) (by assumption) (by assumption), by assumption⟩⟩
             | exact ⟨_, _, _, _, rfl, ⟨LinkObj.no (by assumption) (by assumption) (by assumption), by assumption⟩⟩))
    | (refine Ends.mk [_] mt1 (by assumption) (by assumption) (mem_more (fun _ hq => .tail _ hq)) ⟨⟨_, rfl, ?_⟩, hTab1⟩
       rw [show linkR lim l i = none by first | exact linkR_2 hq hq2 (by assumption) | exact linkR_3 hq hq2 (by assumption) | exact linkR_4 hq hq2 (nc_of (by assumption)) | exact linkR_5 hq hq2 (nc_of (by assumption))]
       exact ⟨_, _, rfl⟩)
    | (refine Ends.mk [_] mt (by assumption) (by assumption) (mem_more (fun _ hq => .tail _ hq)) ⟨⟨_, rfl, ?_⟩, hm⟩
       rw [linkR_1 hq]; exact ⟨_, _, rfl⟩)
    | (exfalso; omega)
end
end Mine

end SCI

section SCJ
open PySem PySem.W PyProof.Rows PySem.Calls PySem.Spec
theorem Mine.offCJ : True := by w_top off; exact trivial
namespace Mine
section
local macro_rules | `(tactic| cell_enter) => `(tactic| (refine wpAny_call ?_; refine' con_code (by assumption) ?k1 ?k2 ?k3 ?k4 ?kz ?k5 ?kA ?kF ?kK ?k6 ?k7 ?k8 ?k9 ?kB (by assumption) ?kQ ?_ ?c2 ?c3 ?c4 ?c5; (case kA => exact rfl); (case kF => exact rfl); (case kK => assumption); (case k1 => k_asm); (case k2 => k_asm); (case k3 => k_asm); (case k4 => k_asm); (case kz => assumption); (case k5 => k_asm); (case k6 => k_is); (case k7 => k_is); (case k8 => ktr_room); (case k9 => (refine' kp_binds ?kx ?ke; (case kx => k_in); (case ke => exact fun _ => rfl))); (case kQ => exact fun _ _ q => q); (case c5 => decide); (case kB => exact locs rfl); (case c2 => exact rfl); (case c3 => exact rfl); (case c4 => exact rfl); k_whole; intro g' L' h' F' N' B' X' T' l0; (try k_lt l0); (try dsimp only); (try k_fold)))
local macro_rules | `(tactic| walk_at "subscriptTail") => `(tactic| ((with_reducible show wpAny _ _ (subscriptTail _ _ (Value.str (S _) _) (Value.int _ _)) _ _ _); refine sub_S (by omega) (by omega) (by omega) ?_))
local macro_rules | `(tactic| walk_at "subscriptTail Name Name str int") => `(tactic| (refine sub_S (by omega) (by omega) (by omega) ?_))
local macro_rules | `(tactic| walk_at "compareOp In str str") => `(tactic| first | refine in_ws ?_ | refine in_punct ?_ | refine in_blank ?_ | refine in_nl ?_ | refine in_ang ?_)
local macro_rules | `(tactic| walk_at "call builtin:len") => `(tactic| refine len_S (by omega) ?_)
local macro_rules | `(tactic| walk_at "call builtin:ord") => `(tactic| refine ord_ch ?_)
local macro_rules | `(tactic| walk_at "compareOp Eq str str") => `(tactic| first
  | refine eq_ch (d := 60) (by decide : Str.ofString "<" = S [60]) ?_
  | refine eq_ch (d := 62) (by decide : Str.ofString ">" = S [62]) ?_
  | refine eq_ch (d := 10) (by decide : Str.ofString "\n" = S [10]) ?_
  | refine eq_ch (d := 13) (by decide : Str.ofString "\x0d" = S [13]) ?_
  | refine eq_ch (d := 40) (by decide : Str.ofString "(" = S [40]) ?_
  | refine eq_ch (d := 41) (by decide : Str.ofString ")" = S [41]) ?_
  | refine eq_ch (d := 92) (by decide : Str.ofString "\\" = S [92]) ?_
  | refine eq_ch (d := 0) (by decide : Str.ofString "\x00" = S [0]) ?_
  | refine eq_ch (d := 127) (by decide : Str.ofString "\x7f" = S [127]) ?_)
local macro_rules | `(tactic| walk_at "compareOp NotEq str str") => `(tactic| first
  | refine ne_ch (d := 41) (by decide : Str.ofString ")" = S [41]) ?_)
local macro_rules | `(tactic| walk_at "subscriptTail Name Slice str ref") => `(tactic| ((with_reducible show wpAny _ _ (subscriptTail _ (Expr.Slice (some _) (some _) none _) (Value.str (S _) _) _) _ _ _); (refine slice_go (s := ⟨_, _, _, _, _⟩) (by assumption) (by assumption) (by omega) (by omega) (by omega) (by omega) ?_); intro h' t' tk' F' N'))
local macro_rules | `(tactic| walk_at "ite") => `(tactic| first
  | with_reducible refine ite_tt ?_ | with_reducible refine ite_ff ?_ | with_reducible refine split_not ?_
  | with_reducible refine boolT (by with_reducible assumption) ?_ | with_reducible refine boolF (by with_reducible assumption) ?_
  | with_reducible refine decT (by omega) ?_ | with_reducible refine decF (by omega) ?_
  | (with_reducible refine split_ine ?_ ?_ <;> intro _) | (with_reducible refine split_ieq ?_ ?_ <;> intro _)
  | (with_reducible refine PyProof.Rows.split_dec ?_ ?_ <;> intro _) | (with_reducible refine PyProof.Rows.split_bool ?_ ?_ <;> intro _))
local macro_rules | `(tactic| ksw_same) => `(tactic| (intro z h2 h3; (simp only [List.forall_mem_cons, List.not_mem_nil, false_implies, implies_true, and_true, ne_eq] at h2); (simp only [List.contains_cons, List.contains_nil, Bool.or_false, Bool.or_eq_false_iff, beq_eq_false_iff_ne, ne_eq] at h3); simp only [h2, h3, if_false, List.contains_cons, List.contains_nil, Bool.or_false, Bool.or_eq_true, beq_iff_eq, or_self, or_false, false_or, Bool.false_eq_true]))
local macro_rules | `(tactic| walk_at "MPost") => `(tactic| (dsimp only [MPost]))
local macro_rules | `(tactic| walk_at "truthy str") => `(tactic| first | refine truthy_cons (by simp only [List.length_nil]; omega) ?_ | refine truthy_S (by omega) ?_)
local macro_rules | `(tactic| walk_at "binaryOp Add str str") => `(tactic| first
  | (refine add_SS (a := []) (b := _) (by decide : Str.ofString "" = S []) rfl (by simp only [List.length_nil, List.length_cons]; omega) ?_; intro t' tk')
  | (refine add_SS rfl rfl (by simp only [List.length_nil, List.length_cons, List.length_append]; omega) ?_; intro t' tk'))
local macro_rules | `(tactic| walk_at "compareOp NotIn str str") => `(tactic| refine notin_ws ?_)

theorem c_link (w : World) (l : List Nat) (tx ti tl : Tok) (i lim : Int) (mt : List (Addr × Obj)) (h0 : 0 ≤ i) (h1 : i ≤ l.length) (h2 : l.length < 2 ^ 19) (hl0 : 0 ≤ lim) (hl1 : lim ≤ 100) (hnb : NoBlank l) (hm : TabL mt)
    (hqu : ∀ h e, hrefR lim l i = some (h, e) → Quotable (unescL h) ∧ NoRef (unescL h)) :
    Con PySem.Challenge.rw_ci0012_02.row.prog w (hd.heap_39 w.params) 7 105 [.str (S l) tx, .int i ti] [(Str.ofString "max_nested_level", .int lim tl)] mt (fun v new mt' => (∃ r, v = .ref r ∧ match linkR lim l i with
      | some (h, a, n) => ∃ d od t1, new = [(r, tupObj [.ref d, .int n t1]), (d, od)] ∧ (LinkObj PySem.Challenge.rw_ci0012_02.row.prog w od (quoteL (unescL h)) a ∧ (d == sysModules) = false)
      | none => new = [(r, tupObj [.none, .none])]) ∧ TabL mt') := by
  k_fill
  intro p loose mean mg mb dp un gd cn cs a ccd cl outer A₀ base h₀ L m rest s Q E B F X N hz T hk hdp hun hret
  k_with_none
  k_with "call ref" => (refine Con.useM [] (c_lwe w l _ _ _ _ _ mt (by omega) (by omega) (by omega) (by omega) (by omega) hnb hm hqu) (by assumption) (by assumption) (by assumption) (by assumption) (by intro q hq; rw [List.append_nil] at hq; exact hq) (by intro p hp q hq; cases hq) (by assumption) (by first | assumption | rfl) (by ktr_room) (by ktr_units) ?_; rintro v h' tk' new mt1 ⟨⟨r, rfl, hm1⟩, hTab1⟩ hne F' N'; (rcases hq : linkR lim l i with _ | ⟨hr, ha, hn⟩ <;> rw [hq] at hm1 <;> dsimp only at hm1 <;> (first | (obtain ⟨d, od, t1, t2, rfl, hlo⟩ := hm1) | (obtain ⟨z1, t1, rfl⟩ := hm1)) <;> (try simp only [List.append_nil, List.nil_append, List.cons_append] at N')))
  have hb : BindsAre [(Str.ofString "src", .str (S l) tx), (Str.ofString "pos", .int i ti), (Str.ofString "max_nested_level", .int lim tl)] := trivial
  k_dflt cell_enter
  clear B F X N hz T hret
  k_steps
  all_goals first
    | (refine Ends.mk [_, (d, od)] mt1 (by assumption) (by assumption) mem_skip ⟨⟨_, rfl, ?_⟩, hTab1⟩
       rw [hq]; exact ⟨_, _, _, rfl, hlo⟩)
    | (refine Ends.mk [_] mt1 (by assumption) (by assumption) (mem_more (fun _ hq => .tail _ hq)) ⟨⟨_, rfl, ?_⟩, hTab1⟩
       rw [hq])

end
end Mine

end SCJ

section SNB
open PySem PySem.W PyProof.Rows PySem.Calls PySem.Spec
set_option Elab.async false
set_option maxRecDepth 100000
set_option maxHeartbeats 4000000
namespace Mine
/-- a contract whose def only reads what stood ahead of the call; Pre: what it reads -/
abbrev ConP (prog : Program) (w : World) (K : Frag) (dep : Nat) (f : Addr) (vs : List Value) (kw : List (Str × Value)) (Pre : Heap → Prop) (Post : Value → List (Addr × Obj) → Prop) : Prop :=
  ∀ (p : Program) (loose : List Str) (mean : ExcName → Option Value) (mg mb : Str → Option Value) (dp un : Nat) (gd : Option (List Code)) (cn : Str) (cs : Scope) (a : Addr) (ccd : Value) (cl : List (Str × Addr)) (outer : List Env) (A₀ : Around) (base h₀ : Heap) (L : Addr) (m : Str → Option Value) (rest : List (Addr × Obj)) (s : Shared) (Q E : Value → Shared → Prop),
    Below A₀ base outer h₀ → Fr h₀ L s.heap m → K.In h₀ → News h₀ L s.heap rest → Pre s.heap → Top p loose mean mg mb h₀ → cs.kind = .function → dp + dep < recursionLimit → un + 8 * dep < cLine →
    (∀ (v : Value) (h' : Heap) (tk' : Nat) (new : List (Addr × Obj)), Post v new → (∀ p ∈ new, ∀ q ∈ rest, p.1 ≠ q.1) → Fr h₀ L h' m → News h₀ L h' (new ++ rest) → Q v { s with heap := h', toks := tk' }) →
      wpAny (model prog w) (ktrTop dp un gd cn cs L a ccd cl outer) (call (.ref f) vs kw) Q E s
def EndsP (g : Heap) (L' : Addr) (s : Shared) (Post : Value → List (Addr × Obj) → Prop) (v : Value) (s' : Shared) : Prop :=
  ∃ h' tk m' new, s' = { s with heap := h', toks := tk } ∧ Fr g L' h' m' ∧ News g L' h' new ∧ Post v new
theorem EndsP.mk {g : Heap} {L' : Addr} {s : Shared} {Post : Value → List (Addr × Obj) → Prop} {v : Value} {h' : Heap} {tk : Nat} {m' : Str → Option Value} {all : List (Addr × Obj)}
    (new : List (Addr × Obj)) (F : Fr g L' h' m') (N : News g L' h' all) (hs : ∀ p ∈ new, p ∈ all) (hp : Post v new) : EndsP g L' s Post v { s with heap := h', toks := tk } :=
  ⟨h', tk, m', new, rfl, F, fun p hp => N p (hs p hp), hp⟩
/-- what a predicate of heaps keeps, when objects are added -/
def Stays (Pre : Heap → Prop) : Prop := ∀ h g : Heap, (∀ b o, h.get? b = some o → g.get? b = some o) → Pre h → Pre g
/-- what the def reads, said ahead of the walk -/
def PreIs (_ : Heap → Prop) : Prop := True
theorem con_codeP {prog : Program} {w : World} {A₀ A : Around} {s : Shared} {base h₀ : Heap} {outer : List Env} {L : Addr} {m mg mb : Str → Option Value} {rest : List (Addr × Obj)} {K : Frag} {env : Env} {p : Program} {loose : List Str} {mean : ExcName → Option Value}
    {R : Result → Shared → Prop} {Q : Value → Shared → Prop} {Pre : Heap → Prop} {Post : Value → List (Addr × Obj) → Prop} {name qual : Str} {params : Arguments} {body : List Stmt} {scope : Scope} {dV kV doc pm cdv ct oc : Value} {an od : Option Addr} {osl : Array (Option Value)} {f : Addr} {args : Args} {binds : List (Str × Value)}
    (_hb : BindsAre binds) (_hpi : PreIs Pre) (B : Below A₀ base outer h₀) (F : Fr h₀ L s.heap m) (X₀ : K.In h₀) (N : News h₀ L s.heap rest) (hpre : Pre s.heap) (_hst : Stays Pre) (T : Top p loose mean mg mb h₀) (hA : A.frames = some (env :: outer)) (hf : env.frame = some L) (hke : env.scope.kind = .function)
    (ho : K.lookup f = some ⟨oc, od, .func (fnOf name qual params body scope dV kV doc pm an cdv ct), osl⟩) (hcd : codeIn K cdv qual = true) (hroom : A.depth < recursionLimit)
    (hbind : BindsTo s (fnOf name qual params body scope dV kV doc pm an cdv ct) args binds) (hloc : ∀ y ∈ binds, scope.names.lookup y.1 = some .local)
    (hret : ∀ (v : Value) (h' : Heap) (tk' : Nat) (new : List (Addr × Obj)), Post v new → (∀ p ∈ new, ∀ q ∈ rest, p.1 ≠ q.1) → Fr h₀ L h' m → News h₀ L h' (new ++ rest) → Q v { s with heap := h', toks := tk' })
    (hR : ∀ v s', Q v s' → R (.ok (.ret v)) s')
    (h : ∀ g L' h₁, Fr g L' h₁ (fun y => binds.reverse.lookup y) → News g L' h₁ [] → Below A base (env :: outer) g → K.In g → Top p loose mean mg mb g → Pre g → g.objs.size = L' →
      wpAny (model prog w) (A.deeper (envOf qual scope L' f cdv)) (execs body (envOf qual scope L' f cdv))
        (fun fl s' => EndsP g L' s Post (match fl with | .ret v => v | _ => .none) s')
        (fun e s' => wpAny (model prog w) (A.deeper (envOf qual scope L' f cdv)) (leaving (envOf qual scope L' f cdv) e) (fun _ s'' => R (.error e) s'') (fun e' s'' => R (.error e') s'') s')
        { s with heap := h₁, toks := s.toks + binds.length })
    (hco : scope.isCoroutine = false) (hgen : scope.isGenerator = false) (hk : scope.kind = .function)
    (hcell : ∀ x ∈ scope.names, x.2 ≠ .cell) : codeAny (model prog w) A (.call (.ref f) args) R s := by
  obtain ⟨FG, BG, st₀, _⟩ := groundX (R := R) (news := []) B F (fun _ hp => nomatch hp) hA hf hke
  have st : ∀ (b : Addr) (o : Obj), h₀.get? b = some o → s.heap.get? b = some o := F.keep
  have KG := X₀.keeps st
  have TG := T.keeps st
  refine codeAny_call_def (fd := fnOf name qual params body scope dV kV doc pm an cdv ct) (body := body) (binds := binds) hroom ((X₀.keeps F.keep) _ _ ho) rfl (T.nolimit.keeps F.keep) (codeRec_of (X₀.keeps F.keep) hcd) rfl hbind hcell hloc (fun h₁ hns hk₁ => ?_) hco hgen hk
  refine wpAny_mono (h s.heap s.heap.objs.size h₁ ⟨hns, fun b o e => hk₁ b o e, Nat.le_refl _⟩
    (fun p hp => nomatch hp) BG KG TG hpre rfl) (fun fl s' hl => ?_) fun _ _ y => y
  obtain ⟨h', tk, m', new, rfl, F', N', hP⟩ := hl
  obtain ⟨oL, es, ep, hL, hLd, hLk, hLf⟩ := FG.ns
  refine hR _ _ (hret _ h' tk new hP (fun p hp q hq e => ?_) ⟨⟨oL, es, ep, F'.keep _ _ hL, hLd, hLk, hLf⟩, fun b o e => F'.keep b o (st b o e), F.above⟩ fun p hp => ?_)
  · have h1 := (N' p hp).2.2
    rw [e, (N q hq).1] at h1; cases h1
  · rcases List.mem_append.mp hp with hp | hp
    · refine ⟨(N' p hp).1, fun q => ?_, ?_⟩
      · have h1 := (N' p hp).2.2
        rw [q] at h1
        have h2 : s.heap.get? L = some oL := hL
        rw [h2] at h1; cases h1
      · cases q : h₀.get? p.1 with
        | none => rfl
        | some o => have h1 := (N' p hp).2.2; rw [st _ _ q] at h1; cases h1
    · exact ⟨F'.keep _ _ (N p hp).1, (N p hp).2⟩
theorem ConP.use {prog : Program} {w : World} {K : Frag} {dep : Nat} {f : Addr} {vs : List Value} {kw : List (Str × Value)} {Pre : Heap → Prop} {Post : Value → List (Addr × Obj) → Prop}
    {p : Program} {loose : List Str} {mean : ExcName → Option Value} {mg mb : Str → Option Value} {dp un : Nat} {gd : Option (List Code)} {cn : Str} {cs : Scope} {a : Addr} {ccd : Value} {cl : List (Str × Addr)} {outer : List Env} {A₀ : Around} {base h₀ : Heap} {L : Addr} {m : Str → Option Value} {news : List (Addr × Obj)} {s : Shared} {Q E : Value → Shared → Prop}
    (c : ConP prog w K dep f vs kw Pre Post) (B : Below A₀ base outer h₀) (F : Fr h₀ L s.heap m) (X : K.In h₀) (N : News h₀ L s.heap news) (hpre : Pre s.heap) (T : Top p loose mean mg mb h₀) (hk : cs.kind = .function) (hd : dp + dep < recursionLimit) (hu : un + 8 * dep < cLine)
    (h : ∀ (v : Value) (h' : Heap) (tk' : Nat) (new : List (Addr × Obj)), Post v new → (∀ p ∈ new, ∀ q ∈ news, p.1 ≠ q.1) → Fr h₀ L h' m → News h₀ L h' (new ++ news) → Q v { s with heap := h', toks := tk' }) :
    wpAny (model prog w) (ktrTop dp un gd cn cs L a ccd cl outer) (call (.ref f) vs kw) Q E s :=
  c p loose mean mg mb dp un gd cn cs a ccd cl outer A₀ base h₀ L m news s Q E B F X N hpre T hk hd hu h

/-- a sign as a tuple of the call's -/
def TupAt (h : Heap) (a : Addr) (x : Nat × Bool) : Prop := ∃ t, h.get? a = some (tupObj [.str (S [x.1]) t, .bool x.2])
def TupsAt (h : Heap) (as : List Addr) (sg : List (Nat × Bool)) : Prop := as.length = sg.length ∧ ∀ i, i < sg.length → TupAt h (as.getD i 0) (sg.getD i (0, false))
abbrev refV (as : List Addr) : List Value := as.map Value.ref
def SgAt (D : Addr) (as : List Addr) (sg : List (Nat × Bool)) (h : Heap) : Prop := (∃ n, h.get? D = some (lstObj (refV as) n)) ∧ TupsAt h as sg
theorem SgAt.stays (D : Addr) (as : List Addr) (sg : List (Nat × Bool)) : Stays (SgAt D as sg) := by
  rintro h g k ⟨⟨n, h1⟩, h2, h3⟩
  refine ⟨⟨n, k _ _ h1⟩, h2, fun i hi => ?_⟩
  obtain ⟨t, e⟩ := h3 i hi
  exact ⟨t, k _ _ e⟩
theorem SgAt.isList {D : Addr} {as : List Addr} {sg : List (Nat × Bool)} {h : Heap} (x : SgAt D as sg h) : h.IsList D (refV as).toArray := by
  obtain ⟨⟨n, h1⟩, _⟩ := x
  exact ⟨_, h1, rfl, _, rfl⟩
end Mine

end SNB

section SNC
open PySem PySem.W PyProof.Rows PySem.Calls PySem.Spec
set_option Elab.async false
set_option maxRecDepth 100000
set_option maxHeartbeats 4000000
namespace Mine
abbrev Sg := List (Nat × Bool)
/-- the place behind the signs of kind p from place j on; the list is the signs from j on -/
def scanS (p : Nat × Bool → Bool) (j : Nat) : Sg → Nat
  | [] => j
  | c :: r => if p c = true then scanS p (j + 1) r else j
theorem scanS_le (p : Nat × Bool → Bool) (j : Nat) (l : Sg) : j ≤ scanS p j l ∧ scanS p j l ≤ j + l.length := by
  induction l generalizing j with
  | nil => simp [scanS]
  | cons c r ih =>
    unfold scanS
    split
    · have := ih (j + 1); simp; omega
    · simp
theorem drop_consS {l : Sg} {j : Nat} (h : j < l.length) : l.drop j = l.getD j (0, false) :: l.drop (j + 1) := by
  rw [List.drop_eq_getElem_cons h]
  simp [List.getD, h]
def scanT (p : Nat × Bool → Bool) (l : Sg) (i : Int) : Int := (scanS p i.toNat (l.drop i.toNat) : Nat)
theorem scanT_le (p : Nat × Bool → Bool) {l : Sg} {i : Int} (h0 : 0 ≤ i) (h1 : i ≤ l.length) : i ≤ scanT p l i ∧ scanT p l i ≤ l.length := by
  have := scanS_le p i.toNat (l.drop i.toNat)
  rw [List.length_drop] at this
  unfold scanT; omega
theorem scanT_yes {p : Nat × Bool → Bool} {l : Sg} {i : Int} (h0 : 0 ≤ i) (h : i < l.length) (hc : p (l.getD i.toNat (0, false)) = true) : scanT p l i = scanT p l (i + 1) := by
  unfold scanT
  rw [show (i + 1).toNat = i.toNat + 1 by omega, drop_consS (show i.toNat < l.length by omega), scanS, if_pos hc]
theorem scanT_end {p : Nat × Bool → Bool} {l : Sg} {i : Int} (h : l.length ≤ i) : scanT p l i = i := by
  unfold scanT
  rw [List.drop_eq_nil_of_le (by omega)]; unfold scanS; omega
theorem scanT_no {p : Nat × Bool → Bool} {l : Sg} {i : Int} (h0 : 0 ≤ i) (hc : p (l.getD i.toNat (0, false)) = false) : scanT p l i = i := by
  rcases Int.lt_or_le i l.length with q | q
  · unfold scanT
    rw [drop_consS (show i.toNat < l.length by omega), scanS, if_neg (by rw [hc]; decide)]; omega
  · exact scanT_end q
def ScanNextS (p : Nat × Bool → Bool) (l : Sg) (h₀ : Heap) (L : Addr) (s : Shared) (m₀ : Str → Option Value) (j : Int) (s₂ : Shared) : Prop :=
  (j < l.length ∧ p (l.getD j.toNat (0, false)) = true) ∧ ∃ h' tk t' m', s₂ = { s with heap := h', toks := tk } ∧ Fr h₀ L h' m' ∧ m' (Str.ofString "k") = some (.int (j + 1) t') ∧ ∀ z, z ≠ Str.ofString "k" → m' z = m₀ z
def ScanStopS (p : Nat × Bool → Bool) (l : Sg) (h₀ : Heap) (L : Addr) (s : Shared) (m₀ : Str → Option Value) (j : Int) (t : Tok) (s₂ : Shared) : Prop :=
  (l.length ≤ j ∨ p (l.getD j.toNat (0, false)) = false) ∧ ∃ h' tk, s₂ = { s with heap := h', toks := tk } ∧ Fr h₀ L h' (fun z => if z = Str.ofString "k" then some (.int j t) else m₀ z)
theorem scanS_while {prog : Program} {w : World} {A : Around} {E : Value → Shared → Prop} {Q : Flow → Shared → Prop} {s : Shared} {env : Env} {h₀ : Heap} {L : Addr} {test : Expr} {body : List Stmt} {pos : Pos} {m₀ : Str → Option Value} {i₀ : Int} {t₀ : Tok}
    (p : Nat × Bool → Bool) (l : Sg) (F : Fr h₀ L s.heap m₀) (hpos : m₀ (Str.ofString "k") = some (.int i₀ t₀)) (hi0 : 0 ≤ i₀) (hi1 : i₀ ≤ l.length)
    (turn : ∀ (j : Int) (t : Tok) h tk, 0 ≤ j → j ≤ l.length → Fr h₀ L h (fun z => if z = Str.ofString "k" then some (.int j t) else m₀ z) → News h₀ L h [] →
      wpAny (model prog w) A (isTrue test env (eval test env)) (fun b s₂ =>
        if b = true then wpAny (model prog w) A (execs body env) (fun f s₃ => f = .next ∧ ScanNextS p l h₀ L s m₀ j s₃) E s₂ else ScanStopS p l h₀ L s m₀ j t s₂) E { s with heap := h, toks := tk })
    (exit : ∀ (t : Tok) h tk, i₀ ≤ scanT p l i₀ → scanT p l i₀ ≤ l.length → Fr h₀ L h (fun z => if z = Str.ofString "k" then some (.int (scanT p l i₀) t) else m₀ z) → News h₀ L h [] → Q .next { s with heap := h, toks := tk })
    (hE : PassesOwn (model prog w) A env E := by passes_own) :
    wpAny (model prog w) A (exec (.While test body [] pos) env) Q E s := by
  refine ksw_while (σ := Int × Tok) (fun _ => []) (fun c => [(Str.ofString "k", .int c.1 c.2)]) (fun _ => True) [] (fun c => 0 ≤ c.1 ∧ c.1 ≤ l.length ∧ scanT p l c.1 = scanT p l i₀) (fun c => (l.length - c.1).toNat) (i₀, t₀) F News.nil trivial ?_ ⟨hi0, hi1, rfl⟩ ?_ hE
  · intro q hq; rw [List.mem_singleton.mp hq]; exact hpos
  · rintro ⟨j, t⟩ u h tk - ⟨a, b, c⟩ FW NW
    refine wpAny_mono (turn j t h tk a b FW NW) (fun bb s₂ hq => ?_) fun _ _ x => x
    cases bb with
    | false =>
      simp only [Bool.false_eq_true, if_false] at hq ⊢
      obtain ⟨hs, h', tk', rfl, F'⟩ := hq
      have e : j = scanT p l i₀ := by
        rw [← c]; dsimp only
        rcases hs with hs | hs
        · exact (scanT_end hs).symm
        · exact (scanT_no a hs).symm
      have hle := scanT_le p hi0 hi1
      exact exit t h' tk' hle.1 hle.2 (e ▸ F') News.nil
    | true =>
      simp only [if_true] at hq ⊢
      refine wpAny_mono hq (fun f s₃ hn => ?_) fun _ _ x => x
      obtain ⟨rfl, ⟨h1, h2⟩, h', tk', t', m', rfl, F', hk, hr⟩ := hn
      refine ksw_end (j + 1, t') F' News.nil (fun _ h => h) trivial ?_ ?_ ⟨by dsimp only at *; omega, by dsimp only; omega, ?_⟩ (by dsimp only; omega)
      · intro q hq; rw [List.mem_singleton.mp hq]; exact hk
      · intro z h2 _; exact hr z (h2 _ (List.mem_singleton.mpr rfl))
      · dsimp only at *; rw [← c]; exact (scanT_yes a h1 h2).symm
def isGap (x : Nat × Bool) : Bool := [(32, false), (10, false)].contains x
end Mine

end SNC

section SND
open PySem PySem.W PyProof.Rows PySem.Calls PySem.Spec
set_option Elab.async false
set_option maxRecDepth 100000
set_option maxHeartbeats 4000000
namespace Mine
open PySem.SeqAt
theorem SgAt.at {D : Addr} {as : List Addr} {sg : Sg} {h : Heap} (x : SgAt D as sg h) : TupsAt h as sg := x.2
theorem TupsAt.len {as : List Addr} {sg : Sg} {h : Heap} (x : TupsAt h as sg) : as.length = sg.length := x.1
theorem TupsAt.stays (as : List Addr) (sg : Sg) : Stays (fun h => TupsAt h as sg) := by
  rintro h g k ⟨h2, h3⟩
  refine ⟨h2, fun i hi => ?_⟩
  obtain ⟨t, e⟩ := h3 i hi
  exact ⟨t, k _ _ e⟩
theorem TupAt.inj {h : Heap} {a : Addr} {x y : Nat × Bool} (p : TupAt h a x) (q : TupAt h a y) : x = y := by
  obtain ⟨t, e⟩ := p
  obtain ⟨u, f⟩ := q
  rw [e] at f
  injection f with f
  injection f with _ _ f _
  simp only [List.toArray] at f
  injection f with f
  obtain ⟨x1, x2⟩ := x
  obtain ⟨y1, y2⟩ := y
  simp at f
  simp [f]
theorem TupAt.isTuple {h : Heap} {a : Addr} {x : Nat × Bool} (p : TupAt h a x) : ∃ t, h.IsTuple a #[.str (S [x.1]) t, .bool x.2] := by
  obtain ⟨t, e⟩ := p
  exact ⟨t, ⟨_, e, rfl, _, rfl⟩⟩
theorem sgOne (a b : Nat) : ((S [a] : Str) == S [b]) = (a == b) := by rw [Bool.eq_iff_iff, beq_iff_eq, beq_iff_eq]; simp
theorem beq_sg (x y : Nat × Bool) : (x == y) = ((x.1 == y.1) && (x.2 == y.2)) := rfl
theorem tup_eqAt {A : Around} {s : Shared} {a b : Addr} {x y : Nat × Bool} (hu : A.units < cLine) (p : TupAt s.heap a x) (q : TupAt s.heap b y) : EqAt A s (.ref a) (.ref b) (x == y) := by
  by_cases hab : a = b
  · subst hab
    rw [p.inj q, beq_self_eq_true]
    exact EqAt.same _
  · obtain ⟨t, ht⟩ := p.isTuple
    obtain ⟨u, hv⟩ := q.isTuple
    refine EqAt.of_refs hab ?_
    have r := RcAt.tuples (A := A) (s := s) (e := fun j => if j = 0 then x.1 == y.1 else x.2 == y.2) ht hv hu (fun j h1 h2 => ?_)
    · have e : ((List.range (min (#[Value.str (S [x.1]) t, .bool x.2] : Array Value).size (#[Value.str (S [y.1]) u, .bool y.2] : Array Value).size)).all (fun j => if j = 0 then x.1 == y.1 else x.2 == y.2) && (#[Value.str (S [x.1]) t, .bool x.2] : Array Value).size == (#[Value.str (S [y.1]) u, .bool y.2] : Array Value).size) = (x == y) := by
        rw [beq_sg]
        simp [List.range, List.range.loop]
      rw [e] at r
      exact r
    · have hj : j = 0 ∨ j = 1 := by simp at h1; omega
      rcases hj with rfl | rfl
      · have := EqAt.str_str (A := A.in1) (s := s) (S [x.1]) t (S [y.1]) u
        rw [sgOne] at this
        simpa using this
      · have := EqAt.bool_bool (A := A.in1) (s := s) x.2 y.2
        simpa using this
open Classical in
/-- the sign that stands at an address -/
noncomputable def decSg (h : Heap) (v : Value) : Nat × Bool := if p : ∃ a x, v = .ref a ∧ TupAt h a x then p.choose_spec.choose else (0, false)
theorem decSg_ref {h : Heap} {a : Addr} {x : Nat × Bool} (p : TupAt h a x) : decSg h (.ref a) = x := by
  have q : ∃ b y, Value.ref a = .ref b ∧ TupAt h b y := ⟨a, x, rfl, p⟩
  unfold decSg
  rw [dif_pos q]
  obtain ⟨e1, e2⟩ := q.choose_spec.choose_spec
  have e3 : a = q.choose := by injection e1
  have p' : TupAt h q.choose x := e3 ▸ p
  exact e2.inj p'
theorem dec_tups {h : Heap} : ∀ {as : List Addr} {sg : Sg}, TupsAt h as sg → (refV as).map (decSg h) = sg := by
  intro as
  induction as with
  | nil =>
    rintro sg ⟨hl, _⟩
    have : sg = [] := List.length_eq_zero_iff.mp hl.symm
    rw [this]; rfl
  | cons a r ih =>
    rintro sg ⟨hl, hs⟩
    cases sg with
    | nil => simp at hl
    | cons x q =>
      have h0 := hs 0 (by simp)
      simp only [List.getD_cons_zero] at h0
      have := ih (sg := q) ⟨by simpa using hl, fun i hi => by have := hs (i + 1) (by simp; omega); simpa using this⟩
      simp only [List.map_cons, decSg_ref h0, this]
theorem TupsAt.mem {h : Heap} {as : List Addr} {sg : Sg} (p : TupsAt h as sg) {v : Value} (hv : v ∈ refV as) : ∃ a x, v = .ref a ∧ TupAt h a x := by
  obtain ⟨a, ha, rfl⟩ := List.mem_map.mp hv
  obtain ⟨i, hi, e⟩ := List.getElem_of_mem ha
  have := p.2 i (by rw [← p.1]; exact hi)
  have e2 : as.getD i 0 = a := by simp [List.getD, hi, e]
  rw [e2] at this
  exact ⟨a, _, rfl, this⟩
theorem TupsAt.nil {h : Heap} : TupsAt h [] [] := ⟨rfl, fun i hi => by simp at hi⟩
theorem TupsAt.cons {h : Heap} {a : Addr} {as : List Addr} {x : Nat × Bool} {sg : Sg} (p : TupAt h a x) (q : TupsAt h as sg) : TupsAt h (a :: as) (x :: sg) := by
  refine ⟨by simp [q.1], fun i hi => ?_⟩
  cases i with
  | zero => simpa using p
  | succ i => simpa using q.2 i (by simpa using hi)
theorem TupsAt.get {h : Heap} {as : List Addr} {sg : Sg} (p : TupsAt h as sg) {i : Nat} (hi : i < sg.length) : TupAt h (as.getD i 0) (sg.getD i (0, false)) := p.2 i hi
theorem TupsAt.drop {h : Heap} {as : List Addr} {sg : Sg} (p : TupsAt h as sg) (k : Nat) : TupsAt h (as.drop k) (sg.drop k) := by
  refine ⟨by simp [p.1], fun i hi => ?_⟩
  rw [List.length_drop] at hi
  have := p.2 (k + i) (by omega)
  simpa [List.getD] using this
theorem TupsAt.take {h : Heap} {as : List Addr} {sg : Sg} (p : TupsAt h as sg) (k : Nat) : TupsAt h (as.take k) (sg.take k) := by
  refine ⟨by simp [p.1], fun i hi => ?_⟩
  rw [List.length_take] at hi
  have := p.2 i (by omega)
  have e1 : (as.take k).getD i 0 = as.getD i 0 := by simp [List.getD, show i < k by omega]
  have e2 : (sg.take k).getD i (0, false) = sg.getD i (0, false) := by simp [List.getD, show i < k by omega]
  rw [e1, e2]; exact this
section
variable {prog : Program} {w : World} {A : Around} {E : Value → Shared → Prop} {s : Shared} {a D : Addr} {as : List Addr} {sg : Sg} {x : Nat × Bool} {Q : Value → Shared → Prop}
theorem any_sg {items : Array Value} (hi : items = (refV as).toArray) (p : TupsAt s.heap as sg) : items.any (fun v => decSg s.heap v == x) = sg.contains x := by
  subst hi
  have e := dec_tups p
  rw [← e]
  rw [Bool.eq_iff_iff]
  simp only [Array.any_eq_true, List.contains_iff_mem, List.mem_map]
  constructor
  · rintro ⟨i, hi, h⟩
    have hi' : i < as.length := by simpa using hi
    exact ⟨.ref as[i], ⟨_, List.getElem_mem hi', rfl⟩, by simpa using h⟩
  · rintro ⟨v, ⟨a, hv, rfl⟩, e⟩
    obtain ⟨i, hi, ei⟩ := List.getElem_of_mem hv
    exact ⟨i, by simpa using hi, by simp [ei, e]⟩
theorem sg_in {items : Array Value} (hl : s.heap.IsList D items) (hi : items = (refV as).toArray) (p : TupsAt s.heap as sg) (q : TupAt s.heap a x) (hu : A.in1.units < cLine) (h : Q (.bool (sg.contains x)) s) : wpAny (model prog w) A (compareOp .In (.ref a) (.ref D)) Q E s := by
  refine in_listAt (fun v => decSg s.heap v == x) hl (fun y hy => ?_) ?_
  · have hu' : A.in1.units < cLine := hu
    rw [hi] at hy
    obtain ⟨b, z, rfl, hz⟩ := p.mem (by simpa using hy)
    rw [decSg_ref hz]
    exact tup_eqAt hu' hz q
  · rw [any_sg hi p]; exact h
theorem sg_notin {items : Array Value} (hl : s.heap.IsList D items) (hi : items = (refV as).toArray) (p : TupsAt s.heap as sg) (q : TupAt s.heap a x) (hu : A.in1.units < cLine) (h : Q (.bool (!sg.contains x)) s) : wpAny (model prog w) A (compareOp .NotIn (.ref a) (.ref D)) Q E s := by
  refine notIn_listAt (fun v => decSg s.heap v == x) hl (fun y hy => ?_) ?_
  · have hu' : A.in1.units < cLine := hu
    rw [hi] at hy
    obtain ⟨b, z, rfl, hz⟩ := p.mem (by simpa using hy)
    rw [decSg_ref hz]
    exact tup_eqAt hu' hz q
  · rw [any_sg hi p]; exact h
theorem sg_in_tup {items : Array Value} (hl : s.heap.IsTuple D items) (hi : items = (refV as).toArray) (p : TupsAt s.heap as sg) (q : TupAt s.heap a x) (hu : A.in1.units < cLine) (h : Q (.bool (sg.contains x)) s) : wpAny (model prog w) A (compareOp .In (.ref a) (.ref D)) Q E s := by
  refine in_tupleAt (fun v => decSg s.heap v == x) hl (fun y hy => ?_) ?_
  · have hu' : A.in1.units < cLine := hu
    rw [hi] at hy
    obtain ⟨b, z, rfl, hz⟩ := p.mem (by simpa using hy)
    rw [decSg_ref hz]
    exact tup_eqAt hu' hz q
  · rw [any_sg hi p]; exact h
theorem sg_eq {b : Addr} {y : Nat × Bool} (p : TupAt s.heap a x) (q : TupAt s.heap b y) (hu : A.units < cLine) (h : Q (.bool (x == y)) s) : wpAny (model prog w) A (compareOp .Eq (.ref a) (.ref b)) Q E s := by
  obtain ⟨t, ht⟩ := p.isTuple
  obtain ⟨u, hv⟩ := q.isTuple
  refine eq_tupleAt (e := fun j => if j = 0 then x.1 == y.1 else x.2 == y.2) ht hv hu (fun j h1 h2 => ?_) ?_
  · have hj : j = 0 ∨ j = 1 := by simp at h1; omega
    rcases hj with rfl | rfl
    · have := EqAt.str_str (A := A.in1) (s := s) (S [x.1]) t (S [y.1]) u
      rw [sgOne] at this
      simpa using this
    · have := EqAt.bool_bool (A := A.in1) (s := s) x.2 y.2
      simpa using this
  · have e : ((List.range (min (#[Value.str (S [x.1]) t, .bool x.2] : Array Value).size (#[Value.str (S [y.1]) u, .bool y.2] : Array Value).size)).all (fun j => if j = 0 then x.1 == y.1 else x.2 == y.2) && (#[Value.str (S [x.1]) t, .bool x.2] : Array Value).size == (#[Value.str (S [y.1]) u, .bool y.2] : Array Value).size) = (x == y) := by
      rw [beq_sg]
      simp [List.range, List.range.loop]
    rw [e]; exact h
theorem sg_len (p : SgAt D as sg s.heap) (hl : sg.length < 2 ^ 62) (h : ∀ t k, Q (.int sg.length t) { s with toks := k }) : wpAny (model prog w) A (call (.builtin "len") [.ref D]) Q E s := by
  have e : (refV as).toArray.size = sg.length := by simp [p.2.1]
  refine PyProof.Rows.len_list p.isList (by rw [e]; omega) ?_
  rw [e]; exact h _ _
theorem sg_item {value slice : Expr} {k : Int} {u : Tok} (p : SgAt D as sg s.heap) (h0 : 0 ≤ k) (h1 : k < sg.length) (hl : sg.length < 2 ^ 62) (h : TupAt s.heap (as.getD k.toNat 0) (sg.getD k.toNat (0, false)) → Q (.ref (as.getD k.toNat 0)) s)
    (hs : subscripted slice false (.ref D) (.int k u) = operate [.ref D, .int k u] (getItem (.ref D) (.int k u)) := by with_unfolding_all rfl) :
    wpAny (model prog w) A (subscriptTail value slice (.ref D) (.int k u)) Q E s := by
  refine kba_turn (value' := PySem.Expr.Name (PySem.Str.ofString "_") ⟨0, 0, 0, 0⟩) (fun _ => rfl) ?_
  have hk : k.toNat < as.length := by rw [p.2.1]; omega
  refine item_list p.isList h0 (by omega) ?_ (h (p.2.get (by omega))) hs (fun _ => rfl)
  simp [List.getD, hk]
end
end Mine

end SND

section SNE
open PySem PySem.W PyProof.Rows PySem.Calls PySem.Spec
set_option Elab.async false
set_option maxRecDepth 100000
set_option maxHeartbeats 4000000
namespace Mine
open PySem.SeqAt
/-- a written tuple of a text of one sign and a truth value -/
theorem TupAt.lit {h₀ h : Heap} {L a : Addr} {news : List (Addr × Obj)} {x : Str} {t : Tok} {b : Bool} {c : Nat} (N : News h₀ L h news) (hm : (a, tupObj [.str x t, .bool b]) ∈ news) (hx : x = S [c]) : TupAt h a (c, b) := by
  subst hx
  exact ⟨t, (N _ hm).1⟩
theorem sg_in_gap {prog : Program} {w : World} {A : Around} {E : Value → Shared → Prop} {s : Shared} {a D b1 b2 : Addr} {x : Nat × Bool} {Q : Value → Shared → Prop}
    (hl : s.heap.IsList D #[.ref b1, .ref b2]) (p1 : TupAt s.heap b1 (32, false)) (p2 : TupAt s.heap b2 (10, false)) (q : TupAt s.heap a x) (hu : A.in1.units < cLine) (h : Q (.bool (isGap x)) s) : wpAny (model prog w) A (compareOp .In (.ref a) (.ref D)) Q E s :=
  sg_in (as := [b1, b2]) (sg := [(32, false), (10, false)]) hl rfl (.cons p1 (.cons p2 .nil)) q hu h
theorem sg_notin_gap {prog : Program} {w : World} {A : Around} {E : Value → Shared → Prop} {s : Shared} {a D b1 b2 : Addr} {x : Nat × Bool} {Q : Value → Shared → Prop}
    (hl : s.heap.IsList D #[.ref b1, .ref b2]) (p1 : TupAt s.heap b1 (32, false)) (p2 : TupAt s.heap b2 (10, false)) (q : TupAt s.heap a x) (hu : A.in1.units < cLine) (h : Q (.bool (!isGap x)) s) : wpAny (model prog w) A (compareOp .NotIn (.ref a) (.ref D)) Q E s :=
  sg_notin (as := [b1, b2]) (sg := [(32, false), (10, false)]) hl rfl (.cons p1 (.cons p2 .nil)) q hu h
def isOpn (x : Nat × Bool) : Bool := [(34, false), (39, false), (40, false)].contains x
theorem sg_in_opn {prog : Program} {w : World} {A : Around} {E : Value → Shared → Prop} {s : Shared} {a D b1 b2 b3 : Addr} {x : Nat × Bool} {Q : Value → Shared → Prop}
    (hl : s.heap.IsList D #[.ref b1, .ref b2, .ref b3]) (p1 : TupAt s.heap b1 (34, false)) (p2 : TupAt s.heap b2 (39, false)) (p3 : TupAt s.heap b3 (40, false)) (q : TupAt s.heap a x) (hu : A.in1.units < cLine) (h : Q (.bool (isOpn x)) s) : wpAny (model prog w) A (compareOp .In (.ref a) (.ref D)) Q E s :=
  sg_in (as := [b1, b2, b3]) (sg := [(34, false), (39, false), (40, false)]) hl rfl (.cons p1 (.cons p2 (.cons p3 .nil))) q hu h
/-- the sign at a place of what stood ahead of the call -/
theorem SgAt.get {D : Addr} {as : List Addr} {sg : Sg} {g h : Heap} (p : SgAt D as sg g) (k : ∀ b o, g.get? b = some o → h.get? b = some o) {i : Nat} (hi : i < sg.length) : TupAt h (as.getD i 0) (sg.getD i (0, false)) := (SgAt.stays _ _ _ _ _ k p).2.get hi
/-- the level behind a sign -/
def lvN (c : Nat × Bool) (lv : Int) : Int := if (c == (40, false)) = true then lv + 1 else if (c == (41, false)) = true then lv - 1 else lv
/-- the bare address: the place and the level where it ends -/
def bareA (lim : Int) (j : Nat) (lv : Int) : Sg → Nat × Int
  | [] => (j, lv)
  | c :: r =>
    if isGap c = true then (j, lv)
    else if lvN c lv < 0 ∨ lim < lvN c lv then (j, lvN c lv) else bareA lim (j + 1) (lvN c lv) r
def bareI (lim : Int) (l : Sg) (i lv : Int) : Int × Int := (((bareA lim i.toNat lv (l.drop i.toNat)).1 : Nat), (bareA lim i.toNat lv (l.drop i.toNat)).2)
theorem bareI_end {lim : Int} {l : Sg} {i lv : Int} (h0 : 0 ≤ i) (h : l.length ≤ i) : bareI lim l i lv = (i, lv) := by
  unfold bareI; rw [List.drop_eq_nil_of_le (by omega)]; simp [bareA]; omega
theorem bareI_gap {lim : Int} {l : Sg} {i lv : Int} (h0 : 0 ≤ i) (h : i < l.length) (a : isGap (l.getD i.toNat (0, false)) = true) : bareI lim l i lv = (i, lv) := by
  unfold bareI; rw [drop_consS (show i.toNat < l.length by omega), bareA, if_pos a]
  have e : ((i.toNat : Nat) : Int) = i := by omega
  dsimp only; rw [e]
theorem bareI_stop {lim : Int} {l : Sg} {i lv : Int} (h0 : 0 ≤ i) (h : i < l.length) (a : isGap (l.getD i.toNat (0, false)) = false) (b : lvN (l.getD i.toNat (0, false)) lv < 0 ∨ lim < lvN (l.getD i.toNat (0, false)) lv) : bareI lim l i lv = (i, lvN (l.getD i.toNat (0, false)) lv) := by
  unfold bareI; rw [drop_consS (show i.toNat < l.length by omega), bareA, if_neg (by rw [a]; decide), if_pos b]
  have e : ((i.toNat : Nat) : Int) = i := by omega
  dsimp only; rw [e]
theorem bareI_next {lim : Int} {l : Sg} {i lv : Int} (h0 : 0 ≤ i) (h : i < l.length) (a : isGap (l.getD i.toNat (0, false)) = false) (b : ¬ (lvN (l.getD i.toNat (0, false)) lv < 0 ∨ lim < lvN (l.getD i.toNat (0, false)) lv)) : bareI lim l i lv = bareI lim l (i + 1) (lvN (l.getD i.toNat (0, false)) lv) := by
  unfold bareI; rw [show (i + 1).toNat = i.toNat + 1 by omega, drop_consS (show i.toNat < l.length by omega), bareA, if_neg (by rw [a]; decide), if_neg b]
theorem lvN_open {c : Nat × Bool} {lv : Int} (h : (c == (40, false)) = true) : lvN c lv = lv + 1 := by unfold lvN; rw [if_pos h]
theorem lvN_close {c : Nat × Bool} {lv : Int} (h : (c == (40, false)) = false) (h2 : (c == (41, false)) = true) : lvN c lv = lv - 1 := by unfold lvN; rw [if_neg (by rw [h]; decide), if_pos h2]
theorem lvN_one {c : Nat × Bool} {lv : Int} (h : (c == (40, false)) = false) (h2 : (c == (41, false)) = false) : lvN c lv = lv := by unfold lvN; rw [if_neg (by rw [h]; decide), if_neg (by rw [h2]; decide)]
theorem not_both {c : Nat × Bool} (h : (c == (40, false)) = true) (h2 : (c == (41, false)) = true) : False := by
  have a := eq_of_beq h
  have b := eq_of_beq h2
  rw [a] at b; cases b
theorem bareA_le (lim : Int) : ∀ (l : Sg) (j : Nat) (lv : Int), j ≤ (bareA lim j lv l).1 ∧ (bareA lim j lv l).1 ≤ j + l.length := by
  intro l
  induction l with
  | nil => intro j lv; simp [bareA]
  | cons c r ih =>
    intro j lv
    rw [bareA]
    split
    · simp
    · split
      · simp
      · have h := ih (j + 1) (lvN c lv)
        simp only [List.length_cons]
        omega
theorem bareI_le {lim : Int} {l : Sg} {i lv : Int} (h0 : 0 ≤ i) (h1 : i ≤ l.length) : i ≤ (bareI lim l i lv).1 ∧ (bareI lim l i lv).1 ≤ l.length := by
  have := bareA_le lim (l.drop i.toNat) i.toNat lv
  rw [List.length_drop] at this
  unfold bareI; dsimp only; omega
/-- tuples that a call has made -/
abbrev SgQ := List (Addr × Tok × Nat × Bool)
def tupL (q : SgQ) : List (Addr × Obj) := q.map fun p => (p.1, tupObj [.str (S [p.2.2.1]) p.2.1, .bool p.2.2.2])
abbrev qA (q : SgQ) : List Addr := q.map (·.1)
abbrev qS (q : SgQ) : Sg := q.map (·.2.2)
theorem tupL_at {h₀ h : Heap} {L : Addr} : ∀ {q : SgQ}, News h₀ L h (tupL q) → TupsAt h (qA q) (qS q)
  | [], _ => TupsAt.nil
  | (a, t, c, b) :: r, N => TupsAt.cons ⟨t, (N _ (.head _)).1⟩ (tupL_at fun p hp => N p (.tail _ hp))
theorem tupL_ne {h₀ h : Heap} {L D : Addr} {q : SgQ} {vs : List Value} {n : Nat} {all : List (Addr × Obj)} (N : News h₀ L h all) (h1 : (D, lstObj vs n) ∈ all) (h2 : ∀ p ∈ tupL q, p ∈ all) : ∀ p ∈ tupL q, p.1 ≠ D := by
  intro p hp e
  have a := (N p (h2 p hp)).1
  rw [e, (N _ h1).1] at a
  obtain ⟨x, hx, rfl⟩ := List.mem_map.mp hp
  exact absurd (congrArg (fun o => o.map Obj.cls) a) (by simp)
theorem tupL_snoc (q : SgQ) (a : Addr) (t : Tok) (c : Nat) (b : Bool) : tupL (q ++ [(a, t, c, b)]) = tupL q ++ [(a, tupObj [.str (S [c]) t, .bool b])] := by simp [tupL]
theorem sg_append {prog : Program} {w : World} {A : Around} {E : Value → Shared → Prop} {s : Shared} {h₀ : Heap} {L D a : Addr} {m : Str → Option Value} {q : SgQ} {n : Nat} {x : Str} {t : Tok} {c : Nat} {b : Bool} {Q : Value → Shared → Prop} (hx : x = S [c])
    (F : Fr h₀ L s.heap m) (N : News h₀ L s.heap ((a, tupObj [.str x t, .bool b]) :: (D, lstObj (refV (qA q)) n) :: tupL q)) (hz : q.length < 2 ^ 20)
    (h : ∀ h', Fr h₀ L h' m → News h₀ L h' ((D, lstObj (refV (qA (q ++ [(a, t, c, b)]))) (n + 1)) :: tupL (q ++ [(a, t, c, b)])) → Q .none { s with heap := h' }) :
    wpAny (model prog w) A (call (.builtin "list.append") [.ref D, .ref a]) Q E s := by
  subst hx
  have ha : a ≠ D := by
    intro e
    have h1 := (N _ (.head _)).1
    have h2 := (N _ (.tail _ (.head _))).1
    dsimp only at h1 h2
    rw [e, h2] at h1
    exact absurd (congrArg (fun o => o.map Obj.cls) h1) (by simp)
  have hne := tupL_ne (q := q) N (.tail _ (.head _)) (fun p hp => .tail _ (.tail _ hp))
  refine append_go (p := D) (vs := refV (qA q)) (n := n) (news := (a, tupObj [.str (S [c]) t, .bool b]) :: tupL q) F (fun p hp => N p ?_) ?_ (by simp; omega) fun h' F' N' => h h' F' fun p hp => N' p ?_
  · rcases List.mem_cons.mp hp with rfl | hp
    · exact .tail _ (.head _)
    · rcases List.mem_cons.mp hp with rfl | hp
      · exact .head _
      · exact .tail _ (.tail _ hp)
  · intro p hp
    rcases List.mem_cons.mp hp with rfl | hp
    · exact ha
    · exact hne p hp
  · have e : refV (qA q) ++ [.ref a] = refV (qA (q ++ [(a, t, c, b)])) := by simp
    rw [e]
    clear h N F hne
    rcases List.mem_cons.mp hp with rfl | hp
    · exact .head _
    · rw [tupL_snoc] at hp
      rcases List.mem_append.mp hp with hp | hp
      · exact .tail _ (.tail _ hp)
      · rw [List.mem_singleton.mp hp]; exact .tail _ (.head _)
/-- a text's signs, escaped or not -/
def nx (c : Nat) : Bool := [97, 98, 32, 10].contains c
def signsA (l : List Nat) : Sg :=
  match l with
  | [] => []
  | c :: r => if (c == 92) = true ∧ r ≠ [] ∧ nx (r.headD 0) = false then (r.headD 0, true) :: signsA r.tail else (c, false) :: signsA r
termination_by l.length
decreasing_by all_goals simp; try omega
theorem signs_esc {l : List Nat} {i : Int} (h0 : 0 ≤ i) (h : i + 1 < l.length) (a : (l.getD i.toNat 0 == 92) = true) (b : nx (l.getD (i + 1).toNat 0) = false) : signsA (l.drop i.toNat) = (l.getD (i + 1).toNat 0, true) :: signsA (l.drop (i + 2).toNat) := by
  rw [show (i + 2).toNat = i.toNat + 2 by omega, show (i + 1).toNat = i.toNat + 1 by omega] at *
  have ne : l.drop (i.toNat + 1) ≠ [] := by
    intro e
    have e2 := congrArg List.length e
    rw [List.length_drop, List.length_nil] at e2
    omega
  rw [drop_cons (show i.toNat < l.length by omega), signsA, if_pos ⟨a, ne, by rw [headD_drop]; exact b⟩, headD_drop, List.tail_drop]
theorem signs_one {l : List Nat} {i : Int} (h0 : 0 ≤ i) (h : i < l.length) (a : (l.getD i.toNat 0 == 92) = false ∨ nx (l.getD (i + 1).toNat 0) = true ∨ l.length ≤ i + 1) : signsA (l.drop i.toNat) = (l.getD i.toNat 0, false) :: signsA (l.drop (i + 1).toNat) := by
  rw [show (i + 1).toNat = i.toNat + 1 by omega] at *
  rw [drop_cons (show i.toNat < l.length by omega), signsA, if_neg]
  rintro ⟨x, y, z⟩
  rw [headD_drop] at z
  rcases a with a | a | a
  · rw [a] at x; cases x
  · rw [a] at z; cases z
  · exact y (List.drop_eq_nil_of_le (by omega))
theorem notin_nx {prog : Program} {w : World} {A : Around} {E : Value → Shared → Prop} {s : Shared} {c : Nat} {t u : Tok} {Q : Value → Shared → Prop} (h : Q (.bool (!nx c)) s) : wpAny (model prog w) A (compareOp .NotIn (.str (S [c]) u) (.str (Str.ofString "ab \n") t)) Q E s := by
  have hx : Str.ofString "ab \n" = S [97, 98, 32, 10] := by decide
  rw [hx]
  refine notIn_str ?_
  rw [show (S [c] : Str) = ⟨#[c]⟩ from rfl, StrLaws.found_one]
  have e : decide (c ∈ (S [97, 98, 32, 10]).cps.toList) = nx c := by
    rw [Bool.eq_iff_iff, decide_eq_true_eq]; simp [nx]
  rw [e]; exact h
theorem notT {b : Bool} (h : (!b) = true) : b = false := by simpa using h
theorem notF {b : Bool} (h : (!b) = false) : b = true := by simpa using h
section
variable {lim : Int} {l : Sg} {i lv : Int}
theorem bare_over (h0 : 0 ≤ i) (h : i < l.length) (a : isGap (l.getD i.toNat (0, false)) = false) (b : (l.getD i.toNat (0, false) == (40, false)) = true) (c : lim < lv + 1) : bareI lim l i lv = (i, lv + 1) := by
  have := bareI_stop (lim := lim) (lv := lv) h0 h a (by rw [lvN_open b]; exact .inr c)
  rwa [lvN_open b] at this
theorem bare_neg (h0 : 0 ≤ i) (h : i < l.length) (a : isGap (l.getD i.toNat (0, false)) = false) (b : (l.getD i.toNat (0, false) == (40, false)) = false) (b2 : (l.getD i.toNat (0, false) == (41, false)) = true) (c : lv - 1 < 0) : bareI lim l i lv = (i, lv - 1) := by
  have := bareI_stop (lim := lim) (lv := lv) h0 h a (by rw [lvN_close b b2]; exact .inl c)
  rwa [lvN_close b b2] at this
theorem bare_open (h0 : 0 ≤ i) (h : i < l.length) (hv : 0 ≤ lv) (a : isGap (l.getD i.toNat (0, false)) = false) (b : (l.getD i.toNat (0, false) == (40, false)) = true) (c : ¬ lim < lv + 1) : bareI lim l i lv = bareI lim l (i + 1) (lv + 1) := by
  have := bareI_next (lim := lim) (lv := lv) h0 h a (by rw [lvN_open b]; rintro (x | x) <;> omega)
  rwa [lvN_open b] at this
theorem bare_close (h0 : 0 ≤ i) (h : i < l.length) (hv : lv ≤ lim) (a : isGap (l.getD i.toNat (0, false)) = false) (b : (l.getD i.toNat (0, false) == (40, false)) = false) (b2 : (l.getD i.toNat (0, false) == (41, false)) = true) (c : ¬ lv - 1 < 0) : bareI lim l i lv = bareI lim l (i + 1) (lv - 1) := by
  have := bareI_next (lim := lim) (lv := lv) h0 h a (by rw [lvN_close b b2]; rintro (x | x) <;> omega)
  rwa [lvN_close b b2] at this
theorem bare_one (h0 : 0 ≤ i) (h : i < l.length) (hv0 : 0 ≤ lv) (hv : lv ≤ lim) (a : isGap (l.getD i.toNat (0, false)) = false) (b : (l.getD i.toNat (0, false) == (40, false)) = false) (b2 : (l.getD i.toNat (0, false) == (41, false)) = false) : bareI lim l i lv = bareI lim l (i + 1) lv := by
  have := bareI_next (lim := lim) (lv := lv) h0 h a (by rw [lvN_one b b2]; rintro (x | x) <;> omega)
  rwa [lvN_one b b2] at this
end
end Mine

end SNE

section SPA
open PySem PySem.W PyProof.Rows PySem.Calls PySem.Spec
theorem Mine.offPA : True := by w_top off; exact trivial
namespace Mine
section
local macro_rules | `(tactic| cell_enter) => `(tactic| (refine wpAny_call ?_; refine' con_code (by assumption) ?k1 ?k2 ?k3 ?k4 ?kz ?k5 ?kA ?kF ?kK ?k6 ?k7 ?k8 ?k9 ?kB (by assumption) ?kQ ?_ ?c2 ?c3 ?c4 ?c5; (case kA => exact rfl); (case kF => exact rfl); (case kK => assumption); (case k1 => k_asm); (case k2 => k_asm); (case k3 => k_asm); (case k4 => k_asm); (case kz => assumption); (case k5 => k_asm); (case k6 => k_is); (case k7 => k_is); (case k8 => ktr_room); (case k9 => (refine' kp_binds ?kx ?ke; (case kx => k_in); (case ke => exact fun _ => rfl))); (case kQ => exact fun _ _ q => q); (case c5 => decide); (case kB => exact locs rfl); (case c2 => exact rfl); (case c3 => exact rfl); (case c4 => exact rfl); k_whole; intro g' L' h' F' N' B' X' T' l0; (try k_lt l0); (try dsimp only); (try k_fold)))
local macro_rules | `(tactic| walk_at "subscriptTail") => `(tactic| ((with_reducible show wpAny _ _ (subscriptTail _ _ (Value.str (S _) _) (Value.int _ _)) _ _ _); refine sub_S (by omega) (by omega) (by omega) ?_))
local macro_rules | `(tactic| walk_at "subscriptTail Name Name str int") => `(tactic| (refine sub_S (by omega) (by omega) (by omega) ?_))
local macro_rules | `(tactic| walk_at "compareOp In str str") => `(tactic| first | refine in_ws ?_ | refine in_punct ?_ | refine in_blank ?_ | refine in_nl ?_ | refine in_ang ?_)
local macro_rules | `(tactic| walk_at "call builtin:len") => `(tactic| refine len_S (by omega) ?_)
local macro_rules | `(tactic| walk_at "call builtin:ord") => `(tactic| refine ord_ch ?_)
local macro_rules | `(tactic| walk_at "compareOp Eq str str") => `(tactic| first
  | refine eq_ch (d := 60) (by decide : Str.ofString "<" = S [60]) ?_
  | refine eq_ch (d := 62) (by decide : Str.ofString ">" = S [62]) ?_
  | refine eq_ch (d := 10) (by decide : Str.ofString "\n" = S [10]) ?_
  | refine eq_ch (d := 13) (by decide : Str.ofString "\x0d" = S [13]) ?_
  | refine eq_ch (d := 40) (by decide : Str.ofString "(" = S [40]) ?_
  | refine eq_ch (d := 41) (by decide : Str.ofString ")" = S [41]) ?_
  | refine eq_ch (d := 92) (by decide : Str.ofString "\\" = S [92]) ?_
  | refine eq_ch (d := 0) (by decide : Str.ofString "\x00" = S [0]) ?_
  | refine eq_ch (d := 127) (by decide : Str.ofString "\x7f" = S [127]) ?_)
local macro_rules | `(tactic| walk_at "compareOp NotEq str str") => `(tactic| first
  | refine ne_ch (d := 41) (by decide : Str.ofString ")" = S [41]) ?_)
local macro_rules | `(tactic| walk_at "subscriptTail Name Slice str ref") => `(tactic| ((with_reducible show wpAny _ _ (subscriptTail _ (Expr.Slice (some _) (some _) none _) (Value.str (S _) _) _) _ _ _); (refine slice_go (s := ⟨_, _, _, _, _⟩) (by assumption) (by assumption) (by omega) (by omega) (by omega) (by omega) ?_); intro h' t' tk' F' N'))
local macro_rules | `(tactic| walk_at "ite") => `(tactic| first
  | with_reducible refine ite_tt ?_ | with_reducible refine ite_ff ?_ | with_reducible refine split_not ?_
  | with_reducible refine boolT (by with_reducible assumption) ?_ | with_reducible refine boolF (by with_reducible assumption) ?_
  | with_reducible refine decT (by omega) ?_ | with_reducible refine decF (by omega) ?_
  | (with_reducible refine split_ine ?_ ?_ <;> intro _) | (with_reducible refine split_ieq ?_ ?_ <;> intro _)
  | (with_reducible refine PyProof.Rows.split_dec ?_ ?_ <;> intro _) | (with_reducible refine PyProof.Rows.split_bool ?_ ?_ <;> intro _))
local macro_rules | `(tactic| ksw_same) => `(tactic| (intro z h2 h3; (simp only [List.forall_mem_cons, List.not_mem_nil, false_implies, implies_true, and_true, ne_eq] at h2); (simp only [List.contains_cons, List.contains_nil, Bool.or_false, Bool.or_eq_false_iff, beq_eq_false_iff_ne, ne_eq] at h3); simp only [h2, h3, if_false, List.contains_cons, List.contains_nil, Bool.or_false, Bool.or_eq_true, beq_iff_eq, or_self, or_false, false_or, Bool.false_eq_true]))
local macro_rules | `(tactic| walk_at "MPost") => `(tactic| (dsimp only [MPost]))
local macro_rules | `(tactic| walk_at "truthy str") => `(tactic| first | refine truthy_cons (by simp only [List.length_nil]; omega) ?_ | refine truthy_S (by omega) ?_)
local macro_rules | `(tactic| walk_at "binaryOp Add str str") => `(tactic| first
  | (refine add_SS (a := []) (b := _) (by decide : Str.ofString "" = S []) rfl (by simp only [List.length_nil, List.length_cons]; omega) ?_; intro t' tk')
  | (refine add_SS rfl rfl (by simp only [List.length_nil, List.length_cons, List.length_append]; omega) ?_; intro t' tk'))
local macro_rules | `(tactic| walk_at "compareOp NotIn str str") => `(tactic| refine notin_ws ?_)
local macro_rules | `(tactic| cell_enter) => `(tactic| (refine wpAny_call ?_; refine' con_codeP (by assumption) (by assumption) ?k1 ?k2 ?k3 ?k4 (by first | assumption | exact True.intro) ?kst ?k5 ?kA ?kF ?kK ?k6 ?k7 ?k8 ?k9 ?kB (by assumption) ?kQ ?_ ?c2 ?c3 ?c4 ?c5; (case kA => exact rfl); (case kF => exact rfl); (case kK => assumption); (case k1 => k_asm); (case k2 => k_asm); (case k3 => k_asm); (case k4 => k_asm); (case kst => first | exact SgAt.stays _ _ _ | exact fun _ _ _ h => h); (case k5 => k_asm); (case k6 => k_is); (case k7 => k_is); (case k8 => ktr_room); (case k9 => (refine' kp_binds ?kx ?ke; (case kx => k_in); (case ke => exact fun _ => rfl))); (case kQ => exact fun _ _ q => q); (case c5 => decide); (case kB => exact locs rfl); (case c2 => exact rfl); (case c3 => exact rfl); (case c4 => exact rfl); k_whole; intro g' L' h' F' N' B' X' T' P' l0; (try dsimp only); (try k_fold)))

local macro_rules | `(tactic| walk_at "call builtin:len") => `(tactic| (refine sg_len (SgAt.stays _ _ _ _ _ (Fr.keep (by assumption)) (by assumption)) (by omega) ?_; intro tle kle))
local macro_rules | `(tactic| walk_at "subscriptTail Name Name ref int") => `(tactic| (k_dflt (refine sg_item (SgAt.stays _ _ _ _ _ (Fr.keep (by assumption)) (by assumption)) (by omega) (by omega) (by omega) ?_); intro tup'))
local macro_rules | `(tactic| walk_at "compareOp In ref ref") => `(tactic| (k_dflt (first
  | refine sg_in_gap (News.isList (by assumption) (by k_mem)) (TupAt.lit (by assumption) (by k_mem) (by decide)) (TupAt.lit (by assumption) (by k_mem) (by decide)) (SgAt.get (by assumption) (Fr.keep (by assumption)) (by omega)) (by ktr_units) ?_
  | refine sg_in_opn (News.isList (by assumption) (by k_mem)) (TupAt.lit (by assumption) (by k_mem) (by decide)) (TupAt.lit (by assumption) (by k_mem) (by decide)) (TupAt.lit (by assumption) (by k_mem) (by decide)) (SgAt.get (by assumption) (Fr.keep (by assumption)) (by omega)) (by ktr_units) ?_)))
local macro_rules | `(tactic| walk_at "compareOp NotIn ref ref") => `(tactic| (k_dflt (refine sg_notin_gap (News.isList (by assumption) (by k_mem)) (TupAt.lit (by assumption) (by k_mem) (by decide)) (TupAt.lit (by assumption) (by k_mem) (by decide)) (SgAt.get (by assumption) (Fr.keep (by assumption)) (by omega)) (by ktr_units) ?_)))
local macro_rules | `(tactic| walk_at "compareOp Eq ref ref") => `(tactic| (k_dflt (first
  | refine sg_eq (y := (40, false)) (SgAt.get (by assumption) (Fr.keep (by assumption)) (by omega)) (TupAt.lit (by assumption) (by k_mem) (by decide)) (by ktr_units) ?_
  | refine sg_eq (y := (41, false)) (SgAt.get (by assumption) (Fr.keep (by assumption)) (by omega)) (TupAt.lit (by assumption) (by k_mem) (by decide)) (by ktr_units) ?_
  | refine sg_eq (y := (60, false)) (SgAt.get (by assumption) (Fr.keep (by assumption)) (by omega)) (TupAt.lit (by assumption) (by k_mem) (by decide)) (by ktr_units) ?_)))

theorem c_gap (w : World) (D : Addr) (as : List Addr) (sg : Sg) (ti : Tok) (i : Int) (h0 : 0 ≤ i) (h1 : i ≤ sg.length) (h2 : sg.length < 2 ^ 20) :
    ConP PySem.Challenge.rw_ci0012_02.row.prog w (hd.heap_39 w.params) 1 168 [.ref D, .int i ti] [] (SgAt D as sg) (fun v new => (∃ t, v = .int (scanT isGap sg i) t) ∧ new = []) := by
  k_fill
  intro p loose mean mg mb dp un gd cn cs a ccd cl outer A₀ base h₀ L m rest s Q E B F X N hz T hk hdp hun hret
  k_with_none
  k_with "exec While BoolOp cons nil" => (refine scanS_while isGap sg (by assumption) rfl (by assumption) (by assumption) (fun j tj h tk hj0 hj1 FW NW => ?_) (fun tj h tk hl0 hl1 FW NW => ?_))
  k_with "ScanNextS" => exact ⟨⟨by assumption, by assumption⟩, _, _, _, _, rfl, by assumption, rfl, by intro z hz; simp [hz]⟩
  k_with "ScanStopS" => exact ⟨by first | exact Or.inr (by assumption) | exact Or.inl (by omega), _, _, rfl, by assumption⟩
  k_with "And" => (refine ⟨rfl, ?_⟩)
  have hb : BindsAre [(Str.ofString "signs", .ref D), (Str.ofString "k", .int i ti)] := trivial
  have hpi : PreIs (SgAt D as sg) := trivial
  k_dflt cell_enter
  clear B F X N hz T hret
  k_steps
  exact EndsP.mk [] (by assumption) (by assumption) (fun _ h => nomatch h) ⟨⟨_, rfl⟩, rfl⟩
end
end Mine

end SPA

section SPB
open PySem PySem.W PyProof.Rows PySem.Calls PySem.Spec
theorem Mine.offPB : True := by w_top off; exact trivial
namespace Mine
section
local macro_rules | `(tactic| cell_enter) => `(tactic| (refine wpAny_call ?_; refine' con_code (by assumption) ?k1 ?k2 ?k3 ?k4 ?kz ?k5 ?kA ?kF ?kK ?k6 ?k7 ?k8 ?k9 ?kB (by assumption) ?kQ ?_ ?c2 ?c3 ?c4 ?c5; (case kA => exact rfl); (case kF => exact rfl); (case kK => assumption); (case k1 => k_asm); (case k2 => k_asm); (case k3 => k_asm); (case k4 => k_asm); (case kz => assumption); (case k5 => k_asm); (case k6 => k_is); (case k7 => k_is); (case k8 => ktr_room); (case k9 => (refine' kp_binds ?kx ?ke; (case kx => k_in); (case ke => exact fun _ => rfl))); (case kQ => exact fun _ _ q => q); (case c5 => decide); (case kB => exact locs rfl); (case c2 => exact rfl); (case c3 => exact rfl); (case c4 => exact rfl); k_whole; intro g' L' h' F' N' B' X' T' l0; (try k_lt l0); (try dsimp only); (try k_fold)))
local macro_rules | `(tactic| walk_at "subscriptTail") => `(tactic| ((with_reducible show wpAny _ _ (subscriptTail _ _ (Value.str (S _) _) (Value.int _ _)) _ _ _); refine sub_S (by omega) (by omega) (by omega) ?_))
local macro_rules | `(tactic| walk_at "subscriptTail Name Name str int") => `(tactic| (refine sub_S (by omega) (by omega) (by omega) ?_))
local macro_rules | `(tactic| walk_at "compareOp In str str") => `(tactic| first | refine in_ws ?_ | refine in_punct ?_ | refine in_blank ?_ | refine in_nl ?_ | refine in_ang ?_)
local macro_rules | `(tactic| walk_at "call builtin:len") => `(tactic| refine len_S (by omega) ?_)
local macro_rules | `(tactic| walk_at "call builtin:ord") => `(tactic| refine ord_ch ?_)
local macro_rules | `(tactic| walk_at "compareOp Eq str str") => `(tactic| first
  | refine eq_ch (d := 60) (by decide : Str.ofString "<" = S [60]) ?_
  | refine eq_ch (d := 62) (by decide : Str.ofString ">" = S [62]) ?_
  | refine eq_ch (d := 10) (by decide : Str.ofString "\n" = S [10]) ?_
  | refine eq_ch (d := 13) (by decide : Str.ofString "\x0d" = S [13]) ?_
  | refine eq_ch (d := 40) (by decide : Str.ofString "(" = S [40]) ?_
  | refine eq_ch (d := 41) (by decide : Str.ofString ")" = S [41]) ?_
  | refine eq_ch (d := 92) (by decide : Str.ofString "\\" = S [92]) ?_
  | refine eq_ch (d := 0) (by decide : Str.ofString "\x00" = S [0]) ?_
  | refine eq_ch (d := 127) (by decide : Str.ofString "\x7f" = S [127]) ?_)
local macro_rules | `(tactic| walk_at "compareOp NotEq str str") => `(tactic| first
  | refine ne_ch (d := 41) (by decide : Str.ofString ")" = S [41]) ?_)
local macro_rules | `(tactic| walk_at "subscriptTail Name Slice str ref") => `(tactic| ((with_reducible show wpAny _ _ (subscriptTail _ (Expr.Slice (some _) (some _) none _) (Value.str (S _) _) _) _ _ _); (refine slice_go (s := ⟨_, _, _, _, _⟩) (by assumption) (by assumption) (by omega) (by omega) (by omega) (by omega) ?_); intro h' t' tk' F' N'))
local macro_rules | `(tactic| walk_at "ite") => `(tactic| first
  | with_reducible refine ite_tt ?_ | with_reducible refine ite_ff ?_ | with_reducible refine split_not ?_
  | with_reducible refine boolT (by with_reducible assumption) ?_ | with_reducible refine boolF (by with_reducible assumption) ?_
  | with_reducible refine decT (by omega) ?_ | with_reducible refine decF (by omega) ?_
  | (with_reducible refine split_ine ?_ ?_ <;> intro _) | (with_reducible refine split_ieq ?_ ?_ <;> intro _)
  | (with_reducible refine PyProof.Rows.split_dec ?_ ?_ <;> intro _) | (with_reducible refine PyProof.Rows.split_bool ?_ ?_ <;> intro _))
local macro_rules | `(tactic| ksw_same) => `(tactic| (intro z h2 h3; (simp only [List.forall_mem_cons, List.not_mem_nil, false_implies, implies_true, and_true, ne_eq] at h2); (simp only [List.contains_cons, List.contains_nil, Bool.or_false, Bool.or_eq_false_iff, beq_eq_false_iff_ne, ne_eq] at h3); simp only [h2, h3, if_false, List.contains_cons, List.contains_nil, Bool.or_false, Bool.or_eq_true, beq_iff_eq, or_self, or_false, false_or, Bool.false_eq_true]))
local macro_rules | `(tactic| walk_at "MPost") => `(tactic| (dsimp only [MPost]))
local macro_rules | `(tactic| walk_at "truthy str") => `(tactic| first | refine truthy_cons (by simp only [List.length_nil]; omega) ?_ | refine truthy_S (by omega) ?_)
local macro_rules | `(tactic| walk_at "binaryOp Add str str") => `(tactic| first
  | (refine add_SS (a := []) (b := _) (by decide : Str.ofString "" = S []) rfl (by simp only [List.length_nil, List.length_cons]; omega) ?_; intro t' tk')
  | (refine add_SS rfl rfl (by simp only [List.length_nil, List.length_cons, List.length_append]; omega) ?_; intro t' tk'))
local macro_rules | `(tactic| walk_at "compareOp NotIn str str") => `(tactic| refine notin_ws ?_)
local macro_rules | `(tactic| cell_enter) => `(tactic| (refine wpAny_call ?_; refine' con_codeP (by assumption) (by assumption) ?k1 ?k2 ?k3 ?k4 (by first | assumption | exact True.intro) ?kst ?k5 ?kA ?kF ?kK ?k6 ?k7 ?k8 ?k9 ?kB (by assumption) ?kQ ?_ ?c2 ?c3 ?c4 ?c5; (case kA => exact rfl); (case kF => exact rfl); (case kK => assumption); (case k1 => k_asm); (case k2 => k_asm); (case k3 => k_asm); (case k4 => k_asm); (case kst => first | exact SgAt.stays _ _ _ | exact fun _ _ _ h => h); (case k5 => k_asm); (case k6 => k_is); (case k7 => k_is); (case k8 => ktr_room); (case k9 => (refine' kp_binds ?kx ?ke; (case kx => k_in); (case ke => exact fun _ => rfl))); (case kQ => exact fun _ _ q => q); (case c5 => decide); (case kB => exact locs rfl); (case c2 => exact rfl); (case c3 => exact rfl); (case c4 => exact rfl); k_whole; intro g' L' h' F' N' B' X' T' P' l0; (try dsimp only); (try k_fold)))

local macro_rules | `(tactic| walk_at "call builtin:len") => `(tactic| refine len_S (by omega) ?_)
local macro_rules | `(tactic| walk_at "compareOp NotIn str str") => `(tactic| refine notin_nx ?_)
theorem c_signs (w : World) (l : List Nat) (tx : Tok) (h2 : l.length < 2 ^ 19) :
    ConP PySem.Challenge.rw_ci0012_02.row.prog w (hd.heap_39 w.params) 1 156 [.str (S l) tx] [] (fun _ => True) (fun v new => ∃ D q n, v = .ref D ∧ new = (D, lstObj (refV (qA q)) n) :: tupL q ∧ qS q = signsA l) := by
  k_fill
  intro p loose mean mg mb dp un gd cn cs a ccd cl outer A₀ base h₀ L m rest s Q E B F X N hz T hk hdp hun hret
  k_with_none
  k_with "exec While Compare cons nil" => (refine m_while (σ := Int × Tok × SgQ × Nat) (fun c => (_, lstObj (refV (qA c.2.2.1)) c.2.2.2) :: tupL c.2.2.1) (fun c => [(Str.ofString "k", .int c.1 c.2.1)]) [] (fun c => 0 ≤ c.1 ∧ c.1 ≤ l.length ∧ (c.2.2.1.length : Int) ≤ c.1 ∧ qS c.2.2.1 ++ signsA (l.drop c.1.toNat) = signsA l) (fun c => (l.length - c.1).toNat) (_, _, [], 0) (by assumption) (by assumption) (by kst_all) ⟨by dsimp only; omega, by dsimp only; omega, by simp, by simp⟩ ?_; rintro ⟨j, tj, q, n⟩ u h tk ⟨hj0, hj1, hq1, hJ⟩ FW NW; dsimp only at hj0 hj1 hq1 hJ; dsimp only [kstB] at FW; dsimp only at NW)
  k_with "call builtin:list.append" => (refine sg_append rfl (by assumption) (by assumption) (by omega) ?_; intro h' F' N')
  have hb : BindsAre [(Str.ofString "text", .str (S l) tx)] := trivial
  have hpi : PreIs (fun _ => True) := trivial
  k_dflt cell_enter
  clear B F X N hz T hret
  k_steps
  any_goals first
    | (refine m_end (j + 2, _, q ++ [(_, _, _, true)], n + 1) (by assumption) (by assumption) (fun _ h => h) (by kst_all) (by ksw_same) ⟨by dsimp only; omega, by dsimp only; omega, by dsimp only; rw [List.length_append, List.length_singleton]; omega, ?_⟩ (by dsimp only; omega)
       dsimp only
       rw [← hJ, signs_esc (i := j) (by omega) (by omega) (by assumption) (by first | assumption | exact notT (by assumption))]; simp; done)
    | (refine m_end (j + 1, _, q ++ [(_, _, _, false)], n + 1) (by assumption) (by assumption) (fun _ h => h) (by kst_all) (by ksw_same) ⟨by dsimp only; omega, by dsimp only; omega, by dsimp only; rw [List.length_append, List.length_singleton]; omega, ?_⟩ (by dsimp only; omega)
       dsimp only
       rw [← hJ, signs_one (i := j) (by omega) (by omega) (by first | exact .inl (by assumption) | exact .inr (.inl (by first | assumption | exact notF (by assumption))) | exact .inr (.inr (by omega)))]; simp; done)
  refine EndsP.mk _ (by assumption) (by assumption) (fun _ h => h) ⟨_, q, n, rfl, rfl, ?_⟩
  rw [← hJ, List.drop_eq_nil_of_le (by omega), signsA, List.append_nil]
end
end Mine

end SPB

section SPC
open PySem PySem.W PyProof.Rows PySem.Calls PySem.Spec
theorem Mine.offPC : True := by w_top off; exact trivial
namespace Mine
section
local macro_rules | `(tactic| cell_enter) => `(tactic| (refine wpAny_call ?_; refine' con_code (by assumption) ?k1 ?k2 ?k3 ?k4 ?kz ?k5 ?kA ?kF ?kK ?k6 ?k7 ?k8 ?k9 ?kB (by assumption) ?kQ ?_ ?c2 ?c3 ?c4 ?c5; (case kA => exact rfl); (case kF => exact rfl); (case kK => assumption); (case k1 => k_asm); (case k2 => k_asm); (case k3 => k_asm); (case k4 => k_asm); (case kz => assumption); (case k5 => k_asm); (case k6 => k_is); (case k7 => k_is); (case k8 => ktr_room); (case k9 => (refine' kp_binds ?kx ?ke; (case kx => k_in); (case ke => exact fun _ => rfl))); (case kQ => exact fun _ _ q => q); (case c5 => decide); (case kB => exact locs rfl); (case c2 => exact rfl); (case c3 => exact rfl); (case c4 => exact rfl); k_whole; intro g' L' h' F' N' B' X' T' l0; (try k_lt l0); (try dsimp only); (try k_fold)))
local macro_rules | `(tactic| walk_at "subscriptTail") => `(tactic| ((with_reducible show wpAny _ _ (subscriptTail _ _ (Value.str (S _) _) (Value.int _ _)) _ _ _); refine sub_S (by omega) (by omega) (by omega) ?_))
local macro_rules | `(tactic| walk_at "subscriptTail Name Name str int") => `(tactic| (refine sub_S (by omega) (by omega) (by omega) ?_))
local macro_rules | `(tactic| walk_at "compareOp In str str") => `(tactic| first | refine in_ws ?_ | refine in_punct ?_ | refine in_blank ?_ | refine in_nl ?_ | refine in_ang ?_)
local macro_rules | `(tactic| walk_at "call builtin:len") => `(tactic| refine len_S (by omega) ?_)
local macro_rules | `(tactic| walk_at "call builtin:ord") => `(tactic| refine ord_ch ?_)
local macro_rules | `(tactic| walk_at "compareOp Eq str str") => `(tactic| first
  | refine eq_ch (d := 60) (by decide : Str.ofString "<" = S [60]) ?_
  | refine eq_ch (d := 62) (by decide : Str.ofString ">" = S [62]) ?_
  | refine eq_ch (d := 10) (by decide : Str.ofString "\n" = S [10]) ?_
  | refine eq_ch (d := 13) (by decide : Str.ofString "\x0d" = S [13]) ?_
  | refine eq_ch (d := 40) (by decide : Str.ofString "(" = S [40]) ?_
  | refine eq_ch (d := 41) (by decide : Str.ofString ")" = S [41]) ?_
  | refine eq_ch (d := 92) (by decide : Str.ofString "\\" = S [92]) ?_
  | refine eq_ch (d := 0) (by decide : Str.ofString "\x00" = S [0]) ?_
  | refine eq_ch (d := 127) (by decide : Str.ofString "\x7f" = S [127]) ?_)
local macro_rules | `(tactic| walk_at "compareOp NotEq str str") => `(tactic| first
  | refine ne_ch (d := 41) (by decide : Str.ofString ")" = S [41]) ?_)
local macro_rules | `(tactic| walk_at "subscriptTail Name Slice str ref") => `(tactic| ((with_reducible show wpAny _ _ (subscriptTail _ (Expr.Slice (some _) (some _) none _) (Value.str (S _) _) _) _ _ _); (refine slice_go (s := ⟨_, _, _, _, _⟩) (by assumption) (by assumption) (by omega) (by omega) (by omega) (by omega) ?_); intro h' t' tk' F' N'))
local macro_rules | `(tactic| walk_at "ite") => `(tactic| first
  | with_reducible refine ite_tt ?_ | with_reducible refine ite_ff ?_ | with_reducible refine split_not ?_
  | with_reducible refine boolT (by with_reducible assumption) ?_ | with_reducible refine boolF (by with_reducible assumption) ?_
  | with_reducible refine decT (by omega) ?_ | with_reducible refine decF (by omega) ?_
  | (with_reducible refine split_ine ?_ ?_ <;> intro _) | (with_reducible refine split_ieq ?_ ?_ <;> intro _)
  | (with_reducible refine PyProof.Rows.split_dec ?_ ?_ <;> intro _) | (with_reducible refine PyProof.Rows.split_bool ?_ ?_ <;> intro _))
local macro_rules | `(tactic| ksw_same) => `(tactic| (intro z h2 h3; (simp only [List.forall_mem_cons, List.not_mem_nil, false_implies, implies_true, and_true, ne_eq] at h2); (simp only [List.contains_cons, List.contains_nil, Bool.or_false, Bool.or_eq_false_iff, beq_eq_false_iff_ne, ne_eq] at h3); simp only [h2, h3, if_false, List.contains_cons, List.contains_nil, Bool.or_false, Bool.or_eq_true, beq_iff_eq, or_self, or_false, false_or, Bool.false_eq_true]))
local macro_rules | `(tactic| walk_at "MPost") => `(tactic| (dsimp only [MPost]))
local macro_rules | `(tactic| walk_at "truthy str") => `(tactic| first | refine truthy_cons (by simp only [List.length_nil]; omega) ?_ | refine truthy_S (by omega) ?_)
local macro_rules | `(tactic| walk_at "binaryOp Add str str") => `(tactic| first
  | (refine add_SS (a := []) (b := _) (by decide : Str.ofString "" = S []) rfl (by simp only [List.length_nil, List.length_cons]; omega) ?_; intro t' tk')
  | (refine add_SS rfl rfl (by simp only [List.length_nil, List.length_cons, List.length_append]; omega) ?_; intro t' tk'))
local macro_rules | `(tactic| walk_at "compareOp NotIn str str") => `(tactic| refine notin_ws ?_)
local macro_rules | `(tactic| cell_enter) => `(tactic| (refine wpAny_call ?_; refine' con_codeP (by assumption) (by assumption) ?k1 ?k2 ?k3 ?k4 (by first | assumption | exact True.intro) ?kst ?k5 ?kA ?kF ?kK ?k6 ?k7 ?k8 ?k9 ?kB (by assumption) ?kQ ?_ ?c2 ?c3 ?c4 ?c5; (case kA => exact rfl); (case kF => exact rfl); (case kK => assumption); (case k1 => k_asm); (case k2 => k_asm); (case k3 => k_asm); (case k4 => k_asm); (case kst => first | exact SgAt.stays _ _ _ | exact fun _ _ _ h => h); (case k5 => k_asm); (case k6 => k_is); (case k7 => k_is); (case k8 => ktr_room); (case k9 => (refine' kp_binds ?kx ?ke; (case kx => k_in); (case ke => exact fun _ => rfl))); (case kQ => exact fun _ _ q => q); (case c5 => decide); (case kB => exact locs rfl); (case c2 => exact rfl); (case c3 => exact rfl); (case c4 => exact rfl); k_whole; intro g' L' h' F' N' B' X' T' P' l0; (try dsimp only); (try k_fold)))

local macro_rules | `(tactic| walk_at "call builtin:len") => `(tactic| (refine sg_len (SgAt.stays _ _ _ _ _ (Fr.keep (by assumption)) (by assumption)) (by omega) ?_; intro tle kle))
local macro_rules | `(tactic| walk_at "subscriptTail Name Name ref int") => `(tactic| (k_dflt (refine sg_item (SgAt.stays _ _ _ _ _ (Fr.keep (by assumption)) (by assumption)) (by omega) (by omega) (by omega) ?_); intro tup'))
local macro_rules | `(tactic| walk_at "compareOp In ref ref") => `(tactic| (k_dflt (first
  | refine sg_in_gap (News.isList (by assumption) (by k_mem)) (TupAt.lit (by assumption) (by k_mem) (by decide)) (TupAt.lit (by assumption) (by k_mem) (by decide)) (SgAt.get (by assumption) (Fr.keep (by assumption)) (by omega)) (by ktr_units) ?_
  | refine sg_in_opn (News.isList (by assumption) (by k_mem)) (TupAt.lit (by assumption) (by k_mem) (by decide)) (TupAt.lit (by assumption) (by k_mem) (by decide)) (TupAt.lit (by assumption) (by k_mem) (by decide)) (SgAt.get (by assumption) (Fr.keep (by assumption)) (by omega)) (by ktr_units) ?_)))
local macro_rules | `(tactic| walk_at "compareOp NotIn ref ref") => `(tactic| (k_dflt (refine sg_notin_gap (News.isList (by assumption) (by k_mem)) (TupAt.lit (by assumption) (by k_mem) (by decide)) (TupAt.lit (by assumption) (by k_mem) (by decide)) (SgAt.get (by assumption) (Fr.keep (by assumption)) (by omega)) (by ktr_units) ?_)))
local macro_rules | `(tactic| walk_at "compareOp Eq ref ref") => `(tactic| (k_dflt (first
  | refine sg_eq (y := (40, false)) (SgAt.get (by assumption) (Fr.keep (by assumption)) (by omega)) (TupAt.lit (by assumption) (by k_mem) (by decide)) (by ktr_units) ?_
  | refine sg_eq (y := (41, false)) (SgAt.get (by assumption) (Fr.keep (by assumption)) (by omega)) (TupAt.lit (by assumption) (by k_mem) (by decide)) (by ktr_units) ?_
  | refine sg_eq (y := (60, false)) (SgAt.get (by assumption) (Fr.keep (by assumption)) (by omega)) (TupAt.lit (by assumption) (by k_mem) (by decide)) (by ktr_units) ?_)))

theorem c_bare (w : World) (D : Addr) (as : List Addr) (sg : Sg) (ti tl : Tok) (i lim : Int) (h0 : 0 ≤ i) (h1 : i ≤ sg.length) (h2 : sg.length < 2 ^ 20) (hl0 : 0 ≤ lim) (hl1 : lim ≤ 100) :
    ConP PySem.Challenge.rw_ci0012_02.row.prog w (hd.heap_39 w.params) 1 175 [.ref D, .int i ti, .int lim tl] [] (SgAt D as sg) (fun v new => (if 0 < (bareI lim sg i 0).2 then v = .none else ∃ t, v = .int (bareI lim sg i 0).1 t) ∧ new = []) := by
  k_fill
  intro p loose mean mg mb dp un gd cn cs a ccd cl outer A₀ base h₀ L m rest s Q E B F X N hz T hk hdp hun hret
  k_with_none
  k_with "exec While BoolOp cons nil" => (refine m_while (σ := Int × Tok × Int × Tok) (fun _ => []) (fun c => [(Str.ofString "k", .int c.1 c.2.1), (Str.ofString "level", .int c.2.2.1 c.2.2.2)]) [] (fun c => 0 ≤ c.1 ∧ c.1 ≤ sg.length ∧ 0 ≤ c.2.2.1 ∧ c.2.2.1 ≤ lim ∧ bareI lim sg c.1 c.2.2.1 = bareI lim sg i 0) (fun c => (sg.length - c.1).toNat) (_, _, _, _) (by assumption) (by assumption) (by kst_all) ⟨by dsimp only; omega, by dsimp only; omega, by dsimp only; omega, by dsimp only; omega, rfl⟩ ?_; rintro ⟨j, tj, lv, tlv⟩ u h tk ⟨hj0, hj1, hv0, hv1, hJ⟩ FW NW; dsimp only at hj0 hj1 hv0 hv1 hJ; dsimp only [kstB] at FW)
  have hb : BindsAre [(Str.ofString "signs", .ref D), (Str.ofString "k", .int i ti), (Str.ofString "limit", .int lim tl)] := trivial
  have hpi : PreIs (SgAt D as sg) := trivial
  k_dflt cell_enter
  clear B F X N hz T hret
  k_steps
  all_goals first
    | exact (not_both (by assumption) (by assumption)).elim
    | (refine m_end (j + 1, _, lv + 1, _) (by assumption) (by assumption) (fun _ h => nomatch h) (by kst_all) (by ksw_same) ⟨by dsimp only; omega, by dsimp only; omega, by dsimp only; omega, by dsimp only; omega, ?_⟩ (by dsimp only; omega)
       rw [← hJ]; exact (bare_open (by omega) (by omega) (by omega) (by first | assumption | exact notT (by assumption)) (by assumption) (by omega)).symm)
    | (refine m_end (j + 1, _, lv - 1, _) (by assumption) (by assumption) (fun _ h => nomatch h) (by kst_all) (by ksw_same) ⟨by dsimp only; omega, by dsimp only; omega, by dsimp only; omega, by dsimp only; omega, ?_⟩ (by dsimp only; omega)
       rw [← hJ]; exact (bare_close (by omega) (by omega) (by omega) (by first | assumption | exact notT (by assumption)) (by assumption) (by assumption) (by omega)).symm)
    | (refine m_end (j + 1, _, lv, _) (by assumption) (by assumption) (fun _ h => nomatch h) (by kst_all) (by ksw_same) ⟨by dsimp only; omega, by dsimp only; omega, by dsimp only; omega, by dsimp only; omega, ?_⟩ (by dsimp only; omega)
       rw [← hJ]; exact (bare_one (by omega) (by omega) (by omega) (by omega) (by first | assumption | exact notT (by assumption)) (by assumption) (by assumption)).symm)
    | (refine EndsP.mk [] (by assumption) (by assumption) (fun _ h => nomatch h) ⟨?_, rfl⟩
       rw [← hJ, bareI_end (by omega) (by omega)]; dsimp only; first | (rw [if_pos (by omega)]; done) | (rw [if_neg (by omega)]; exact ⟨_, rfl⟩))
    | (refine EndsP.mk [] (by assumption) (by assumption) (fun _ h => nomatch h) ⟨?_, rfl⟩
       rw [← hJ, bareI_gap (by omega) (by omega) (by first | assumption | exact notF (by assumption))]; dsimp only; first | (rw [if_pos (by omega)]; done) | (rw [if_neg (by omega)]; exact ⟨_, rfl⟩))
    | (refine EndsP.mk [] (by assumption) (by assumption) (fun _ h => nomatch h) ⟨?_, rfl⟩
       rw [← hJ, bare_over (by omega) (by omega) (by first | assumption | exact notT (by assumption)) (by assumption) (by omega)]; dsimp only; first | (rw [if_pos (by omega)]; done) | (rw [if_neg (by omega)]; exact ⟨_, rfl⟩))
    | (refine EndsP.mk [] (by assumption) (by assumption) (fun _ h => nomatch h) ⟨?_, rfl⟩
       rw [← hJ, bare_neg (by omega) (by omega) (by first | assumption | exact notT (by assumption)) (by assumption) (by assumption) (by omega)]; dsimp only; first | (rw [if_pos (by omega)]; done) | (rw [if_neg (by omega)]; exact ⟨_, rfl⟩))
end
end Mine

end SPC

section SNF
open PySem PySem.W PyProof.Rows PySem.Calls PySem.Spec PyProof.Rows.LCg
set_option Elab.async false
set_option maxRecDepth 100000
set_option maxHeartbeats 4000000
namespace Mine
/-- not one of the stops -/
def offS (st : List Nat) (x : Nat × Bool) : Bool := !(st.map (fun c => (c, false))).contains x
section
variable {prog : Program} {w : World} {A : Around} {E : Value → Shared → Prop} {s : Shared} {h₀ : Heap} {L : Addr} {m : Str → Option Value} {env : Env}
def RowT (q : SgQ) (news : List (Addr × Obj)) (c : Nat) (y : Value) (news' : List (Addr × Obj)) : Prop := ∃ a t, y = .ref a ∧ news' = tupL (q ++ [(a, t, c, false)]) ++ news
theorem off3_app {I C D : Addr} {x y : List (Addr × Obj)} (h1 : Off3 I C D x) (h2 : Off3 I C D y) : Off3 I C D (x ++ y) := Off3.of fun p hp => by
  rcases List.mem_append.mp hp with hp | hp
  · exact h1.mem p hp
  · exact h2.mem p hp
theorem compEnd_tup {I C D a : Addr} {oI oC oD : Obj} {s₁ : Shared} {q : SgQ} {news : List (Addr × Obj)} {x : Str} {t : Tok} {c : Nat} {h' : Heap} {tk : Nat} (F : Fr h₀ L h' m)
    (N : News h₀ L h' ((a, tupObj [.str x t, .bool false]) :: (I, oI) :: (C, oC) :: (D, oD) :: (tupL q ++ news))) (hx : x = S [c]) (off : Off3 I C D (tupL q ++ news)) (h1 : @Ne Nat a I) (h2 : @Ne Nat a C) (h3 : @Ne Nat a D) :
    CompEnd h₀ L m s₁ I oI C oC D oD (fun _ => True) (RowT q news c) (.ref a) { s₁ with heap := h', toks := tk } := by
  subst hx
  refine CompEnd.intro F N (tupL (q ++ [(a, t, c, false)]) ++ news) ?_ ?_ trivial ⟨a, t, rfl, rfl⟩
  · intro p hp
    rw [tupL_snoc] at hp
    simp only [List.mem_cons, List.mem_append, List.not_mem_nil, or_false] at hp ⊢
    rcases hp with h | h | h | (h | h) | h <;> simp [h]
  · refine Off3.of fun p hp => ?_
    rw [tupL_snoc] at hp
    have o := fun p hp => off.mem p hp
    simp only [List.mem_append, List.mem_singleton] at hp o
    rcases hp with (h | h) | h
    · exact o p (.inl h)
    · rw [h]; exact ⟨h1, h2, h3⟩
    · exact o p (.inr h)
theorem turnsT {elt : Expr} {x : Str} {scope : Scope} {cl : List (Str × Addr)} {Fin : List Value → List (Addr × Obj) → Prop} {news : List (Addr × Obj)} {l : List Nat}
    (turn : ∀ (q : SgQ) c t I oI C oC D m₂ ys h tk (E' : Value → Shared → Prop), c ∈ l → NsObj oC m₂ → m₂ x = some (.str (S [c]) t) → Fr h₀ L h m → News h₀ L h ((I, oI) :: (C, oC) :: (D, lst ys) :: (tupL q ++ news)) → Off3 I C D (tupL q ++ news) → ((@Ne Nat I C) ∧ (@Ne Nat I D) ∧ (@Ne Nat C D)) →
      wpAny (model prog w) A (eval elt (compEnvC scope cl C env)) (CompEnd h₀ L m { s with heap := h, toks := tk } I oI C oC D (lst ys) (fun _ => True) (RowT q news c)) E' { s with heap := h, toks := tk })
    (fin : ∀ q : SgQ, qS q = l.map (fun c => (c, false)) → Fin (refV (qA q)) (tupL q ++ news)) : CompRest prog w A h₀ L m env elt x scope cl s (fun _ => True) (SignAt (S l)) Fin l.length 0 [] news := by
  have key : ∀ (j i : Nat) (q : SgQ), i + j = l.length → qS q = (l.take i).map (fun c => (c, false)) → CompRest prog w A h₀ L m env elt x scope cl s (fun _ => True) (SignAt (S l)) Fin j i (refV (qA q)) (tupL q ++ news) := by
    intro j
    induction j with
    | zero =>
      intro i q hi hp
      have e : i = l.length := by omega
      subst e
      rw [List.take_length] at hp
      exact CompRest.zero (fin q hp)
    | succ j ih =>
      intro i q hi hp
      refine CompRest.succ ?_
      intro v I oI C oC D m₂ h tk E' hv hC hx F N off ne
      obtain ⟨c, u, hc, rfl⟩ := hv
      have hc' : l[i]? = some c := by simpa [S] using hc
      refine wpAny_mono (turn q c u I oI C oC D m₂ (refV (qA q)) h tk E' (List.mem_of_getElem? hc') hC hx F N off ne) (fun y s₂ hq => ?_) fun _ _ e => e
      obtain ⟨h', tk', nw, e, F', N', off', hS, a, t, rfl, rfl⟩ := hq
      refine ⟨h', tk', _, e, F', N', off', hS, ?_⟩
      have e2 : refV (qA q) ++ [.ref a] = refV (qA (q ++ [(a, t, c, false)])) := by simp
      dsimp only
      rw [e2]
      refine ih (i + 1) _ (by omega) ?_
      show List.map _ (q ++ [(a, t, c, false)]) = _
      rw [List.take_add_one, hc', List.map_append, List.map_append, ← hp]
      simp [qS]
  exact key l.length 0 [] (by omega) rfl
theorem upto_in {a D : Addr} {x : Nat × Bool} {q : SgQ} {st : List Nat} {news all : List (Addr × Obj)} {Q : Value → Shared → Prop} (N : News h₀ L s.heap all) (hall : ∀ p ∈ (D, lst (refV (qA q))) :: (tupL q ++ news), p ∈ all) (hq : qS q = st.map (fun c => (c, false))) (hx : TupAt s.heap a x) (hu : A.in1.units < cLine)
    (h : Q (.bool (offS st x)) s) : wpAny (model prog w) A (compareOp .NotIn (.ref a) (.ref D)) Q E s := by
  have t := tupL_at (q := q) fun p hp => N p (hall p (.tail _ (List.mem_append_left _ hp)))
  rw [hq] at t
  exact sg_notin ⟨_, (N _ (hall _ (.head _))).1, rfl, _, rfl⟩ rfl t hx hu h
end
end Mine

end SNF

section SPD
open PySem PySem.W PyProof.Rows PySem.Calls PySem.Spec
theorem Mine.offPD : True := by w_top off; exact trivial
namespace Mine
section
open PyProof.Rows.LCg
local macro_rules | `(tactic| cell_enter) => `(tactic| (refine wpAny_call ?_; refine' con_code (by assumption) ?k1 ?k2 ?k3 ?k4 ?kz ?k5 ?kA ?kF ?kK ?k6 ?k7 ?k8 ?k9 ?kB (by assumption) ?kQ ?_ ?c2 ?c3 ?c4 ?c5; (case kA => exact rfl); (case kF => exact rfl); (case kK => assumption); (case k1 => k_asm); (case k2 => k_asm); (case k3 => k_asm); (case k4 => k_asm); (case kz => assumption); (case k5 => k_asm); (case k6 => k_is); (case k7 => k_is); (case k8 => ktr_room); (case k9 => (refine' kp_binds ?kx ?ke; (case kx => k_in); (case ke => exact fun _ => rfl))); (case kQ => exact fun _ _ q => q); (case c5 => decide); (case kB => exact locs rfl); (case c2 => exact rfl); (case c3 => exact rfl); (case c4 => exact rfl); k_whole; intro g' L' h' F' N' B' X' T' l0; (try k_lt l0); (try dsimp only); (try k_fold)))
local macro_rules | `(tactic| walk_at "subscriptTail") => `(tactic| ((with_reducible show wpAny _ _ (subscriptTail _ _ (Value.str (S _) _) (Value.int _ _)) _ _ _); refine sub_S (by omega) (by omega) (by omega) ?_))
local macro_rules | `(tactic| walk_at "subscriptTail Name Name str int") => `(tactic| (refine sub_S (by omega) (by omega) (by omega) ?_))
local macro_rules | `(tactic| walk_at "compareOp In str str") => `(tactic| first | refine in_ws ?_ | refine in_punct ?_ | refine in_blank ?_ | refine in_nl ?_ | refine in_ang ?_)
local macro_rules | `(tactic| walk_at "call builtin:len") => `(tactic| refine len_S (by omega) ?_)
local macro_rules | `(tactic| walk_at "call builtin:ord") => `(tactic| refine ord_ch ?_)
local macro_rules | `(tactic| walk_at "compareOp Eq str str") => `(tactic| first
  | refine eq_ch (d := 60) (by decide : Str.ofString "<" = S [60]) ?_
  | refine eq_ch (d := 62) (by decide : Str.ofString ">" = S [62]) ?_
  | refine eq_ch (d := 10) (by decide : Str.ofString "\n" = S [10]) ?_
  | refine eq_ch (d := 13) (by decide : Str.ofString "\x0d" = S [13]) ?_
  | refine eq_ch (d := 40) (by decide : Str.ofString "(" = S [40]) ?_
  | refine eq_ch (d := 41) (by decide : Str.ofString ")" = S [41]) ?_
  | refine eq_ch (d := 92) (by decide : Str.ofString "\\" = S [92]) ?_
  | refine eq_ch (d := 0) (by decide : Str.ofString "\x00" = S [0]) ?_
  | refine eq_ch (d := 127) (by decide : Str.ofString "\x7f" = S [127]) ?_)
local macro_rules | `(tactic| walk_at "compareOp NotEq str str") => `(tactic| first
  | refine ne_ch (d := 41) (by decide : Str.ofString ")" = S [41]) ?_)
local macro_rules | `(tactic| walk_at "subscriptTail Name Slice str ref") => `(tactic| ((with_reducible show wpAny _ _ (subscriptTail _ (Expr.Slice (some _) (some _) none _) (Value.str (S _) _) _) _ _ _); (refine slice_go (s := ⟨_, _, _, _, _⟩) (by assumption) (by assumption) (by omega) (by omega) (by omega) (by omega) ?_); intro h' t' tk' F' N'))
local macro_rules | `(tactic| walk_at "ite") => `(tactic| first
  | with_reducible refine ite_tt ?_ | with_reducible refine ite_ff ?_ | with_reducible refine split_not ?_
  | with_reducible refine boolT (by with_reducible assumption) ?_ | with_reducible refine boolF (by with_reducible assumption) ?_
  | with_reducible refine decT (by omega) ?_ | with_reducible refine decF (by omega) ?_
  | (with_reducible refine split_ine ?_ ?_ <;> intro _) | (with_reducible refine split_ieq ?_ ?_ <;> intro _)
  | (with_reducible refine PyProof.Rows.split_dec ?_ ?_ <;> intro _) | (with_reducible refine PyProof.Rows.split_bool ?_ ?_ <;> intro _))
local macro_rules | `(tactic| ksw_same) => `(tactic| (intro z h2 h3; (simp only [List.forall_mem_cons, List.not_mem_nil, false_implies, implies_true, and_true, ne_eq] at h2); (simp only [List.contains_cons, List.contains_nil, Bool.or_false, Bool.or_eq_false_iff, beq_eq_false_iff_ne, ne_eq] at h3); simp only [h2, h3, if_false, List.contains_cons, List.contains_nil, Bool.or_false, Bool.or_eq_true, beq_iff_eq, or_self, or_false, false_or, Bool.false_eq_true]))
local macro_rules | `(tactic| walk_at "MPost") => `(tactic| (dsimp only [MPost]))
local macro_rules | `(tactic| walk_at "truthy str") => `(tactic| first | refine truthy_cons (by simp only [List.length_nil]; omega) ?_ | refine truthy_S (by omega) ?_)
local macro_rules | `(tactic| walk_at "binaryOp Add str str") => `(tactic| first
  | (refine add_SS (a := []) (b := _) (by decide : Str.ofString "" = S []) rfl (by simp only [List.length_nil, List.length_cons]; omega) ?_; intro t' tk')
  | (refine add_SS rfl rfl (by simp only [List.length_nil, List.length_cons, List.length_append]; omega) ?_; intro t' tk'))
local macro_rules | `(tactic| walk_at "compareOp NotIn str str") => `(tactic| refine notin_ws ?_)
local macro_rules | `(tactic| cell_enter) => `(tactic| (refine wpAny_call ?_; refine' con_codeP (by assumption) (by assumption) ?k1 ?k2 ?k3 ?k4 (by first | assumption | exact True.intro) ?kst ?k5 ?kA ?kF ?kK ?k6 ?k7 ?k8 ?k9 ?kB (by assumption) ?kQ ?_ ?c2 ?c3 ?c4 ?c5; (case kA => exact rfl); (case kF => exact rfl); (case kK => assumption); (case k1 => k_asm); (case k2 => k_asm); (case k3 => k_asm); (case k4 => k_asm); (case kst => first | exact SgAt.stays _ _ _ | exact fun _ _ _ h => h); (case k5 => k_asm); (case k6 => k_is); (case k7 => k_is); (case k8 => ktr_room); (case k9 => (refine' kp_binds ?kx ?ke; (case kx => k_in); (case ke => exact fun _ => rfl))); (case kQ => exact fun _ _ q => q); (case c5 => decide); (case kB => exact locs rfl); (case c2 => exact rfl); (case c3 => exact rfl); (case c4 => exact rfl); k_whole; intro g' L' h' F' N' B' X' T' P' l0; (try dsimp only); (try k_fold)))

local macro_rules | `(tactic| walk_at "call builtin:len") => `(tactic| (refine sg_len (SgAt.stays _ _ _ _ _ (Fr.keep (by assumption)) (by assumption)) (by omega) ?_; intro tle kle))
local macro_rules | `(tactic| walk_at "subscriptTail Name Name ref int") => `(tactic| (k_dflt (refine sg_item (SgAt.stays _ _ _ _ _ (Fr.keep (by assumption)) (by assumption)) (by omega) (by omega) (by omega) ?_); intro tup'))
local macro_rules | `(tactic| walk_at "compareOp In ref ref") => `(tactic| (k_dflt (first
  | refine sg_in_gap (News.isList (by assumption) (by k_mem)) (TupAt.lit (by assumption) (by k_mem) (by decide)) (TupAt.lit (by assumption) (by k_mem) (by decide)) (SgAt.get (by assumption) (Fr.keep (by assumption)) (by omega)) (by ktr_units) ?_
  | refine sg_in_opn (News.isList (by assumption) (by k_mem)) (TupAt.lit (by assumption) (by k_mem) (by decide)) (TupAt.lit (by assumption) (by k_mem) (by decide)) (TupAt.lit (by assumption) (by k_mem) (by decide)) (SgAt.get (by assumption) (Fr.keep (by assumption)) (by omega)) (by ktr_units) ?_)))
local macro_rules | `(tactic| walk_at "compareOp NotIn ref ref") => `(tactic| (k_dflt (refine sg_notin_gap (News.isList (by assumption) (by k_mem)) (TupAt.lit (by assumption) (by k_mem) (by decide)) (TupAt.lit (by assumption) (by k_mem) (by decide)) (SgAt.get (by assumption) (Fr.keep (by assumption)) (by omega)) (by ktr_units) ?_)))
local macro_rules | `(tactic| walk_at "compareOp Eq ref ref") => `(tactic| (k_dflt (first
  | refine sg_eq (y := (40, false)) (SgAt.get (by assumption) (Fr.keep (by assumption)) (by omega)) (TupAt.lit (by assumption) (by k_mem) (by decide)) (by ktr_units) ?_
  | refine sg_eq (y := (41, false)) (SgAt.get (by assumption) (Fr.keep (by assumption)) (by omega)) (TupAt.lit (by assumption) (by k_mem) (by decide)) (by ktr_units) ?_
  | refine sg_eq (y := (60, false)) (SgAt.get (by assumption) (Fr.keep (by assumption)) (by omega)) (TupAt.lit (by assumption) (by k_mem) (by decide)) (by ktr_units) ?_)))

local macro_rules | `(tactic| walk_at "eval ListComp") => `(tactic| k_dflt (refine ListComp_G (by assumption) (by with_unfolding_all rfl) (by decide) (by rfl) (by decide) (by rfl) ?_))
local macro_rules | `(tactic| walk_at "SrcG") => `(tactic| ((with_reducible show SrcG _ _ _ _ _ _ _ _ _ _ _ _ (Value.str _ _) _); refine SrcG.str (by rfl) (by assumption) (by assumption) (by omega) ?_; intro g'; refine turnsT ?_ ?_; intro q' c' t' I' oI' C' oC' D' m' ys' h' tk' E' hc' hC' hx' F' N' off' ne'; (have off2' := off'); (try simp only [Off3, and_true] at off2')))
local macro_rules | `(tactic| walk_at "CompEnd") => `(tactic| (refine compEnd_tup (by assumption) (by assumption) rfl (by assumption) (by omega) (by omega) (by omega)))
local macro_rules | `(tactic| walk_at "compareOp NotIn ref ref") => `(tactic| (k_dflt (refine upto_in (by assumption) (fun _ hp => hp) (by assumption) (SgAt.get (by assumption) (Fr.keep (by assumption)) (by omega)) (by ktr_units) ?_)))
theorem c_upto (w : World) (D : Addr) (as : List Addr) (sg : Sg) (st : List Nat) (ti ts : Tok) (i : Int) (h0 : 0 ≤ i) (h1 : i ≤ sg.length) (h2 : sg.length < 2 ^ 20) (h3 : st.length < 2 ^ 19) :
    ConP PySem.Challenge.rw_ci0012_02.row.prog w (hd.heap_39 w.params) 1 161 [.ref D, .int i ti, .str (S st) ts] [] (SgAt D as sg) (fun v new => (∃ t, v = .int (scanT (offS st) sg i) t) ∧ new = []) := by
  k_fill
  intro p loose mean mg mb dp un gd cn cs a ccd cl outer A₀ base h₀ L m rest s Q E B F X N hz T hk hdp hun hret
  k_with_none
  k_with "exec While BoolOp cons nil" => (refine scanS_while (offS st) sg (by assumption) rfl (by assumption) (by assumption) (fun j tj h tk hj0 hj1 FW NW => ?_) (fun tj h tk hl0 hl1 FW NW => ?_))
  k_with "ScanNextS" => exact ⟨⟨by assumption, by assumption⟩, _, _, _, _, rfl, by assumption, rfl, by intro z hz; simp [hz]⟩
  k_with "ScanStopS" => exact ⟨by first | exact Or.inr (by assumption) | exact Or.inl (by omega), _, _, rfl, by assumption⟩
  k_with "And" => (refine ⟨rfl, ?_⟩)
  have hb : BindsAre [(Str.ofString "signs", .ref D), (Str.ofString "k", .int i ti), (Str.ofString "stops", .str (S st) ts)] := trivial
  have hpi : PreIs (SgAt D as sg) := trivial
  k_dflt cell_enter
  clear B F X N hz T hret
  k_steps
  exact EndsP.mk [] (by assumption) (by assumption) (fun _ h => nomatch h) ⟨⟨_, rfl⟩, rfl⟩
end
end Mine

end SPD

section SNG
open PySem PySem.W PyProof.Rows PySem.Calls PySem.Spec
set_option Elab.async false
set_option maxRecDepth 100000
set_option maxHeartbeats 4000000
namespace Mine
open PySem.SeqAt
/-- the part of a list from i up to j -/
def cutI {α : Type} (l : List α) (i j : Int) : List α := (l.drop i.toNat).take (j - i).toNat
theorem cutI_map {α β : Type} (f : α → β) (l : List α) (i j : Int) : (cutI l i j).map f = cutI (l.map f) i j := by simp [cutI]
theorem TupsAt.cut {h : Heap} {as : List Addr} {sg : Sg} (p : TupsAt h as sg) (i j : Int) : TupsAt h (cutI as i j) (cutI sg i j) := (p.drop i.toNat).take _
theorem cut_one {sg : Sg} {k : Int} (h0 : 0 ≤ k) : cutI sg k (k + 1) = if k < sg.length then [sg.getD k.toNat (0, false)] else [] := by
  unfold cutI
  rw [show (k + 1 - k).toNat = 1 by omega]
  split
  · rw [drop_consS (by omega)]; rfl
  · rw [List.drop_eq_nil_of_le (by omega)]; rfl
/-- the sign x stands at place k -/
def atS (sg : Sg) (k : Int) (x : Nat × Bool) : Bool := decide (k < sg.length) && (sg.getD k.toNat (0, false) == x)
section
variable {prog : Program} {w : World} {A : Around} {E : Value → Shared → Prop} {s : Shared} {h₀ : Heap} {L D b : Addr} {m : Str → Option Value} {news : List (Addr × Obj)} {as : List Addr} {sg : Sg} {Q : Value → Shared → Prop} {value slice : PySem.Expr}
theorem sg_slice {g : Heap} {i j : Int} {ti tj : Tok} (F : Fr h₀ L s.heap m) (N : News h₀ L s.heap news) (p : SgAt D as sg g) (k : ∀ b o, g.get? b = some o → s.heap.get? b = some o) (h0 : 0 ≤ i) (h1 : i ≤ j) (hi : i ≤ sg.length) (hz : sg.length < 2 ^ 20)
    (h : ∀ D' h', Fr h₀ L h' m → News h₀ L h' ((D', lstObj (refV (cutI as i j)) 0) :: news) → (∀ p ∈ news, p.1 < D') → Q (.ref D') { s with heap := h' })
    (hs : subscripted slice false (.ref D) (.ref s.heap.objs.size) = operate [.ref s.heap.objs.size, .ref D] (getItem (.ref D) (.ref s.heap.objs.size)) := by with_unfolding_all rfl) (ht : ∀ r, letTemporaryGo value (.ref D) r = pure () := by intro _; with_unfolding_all rfl) :
    wpAny (model prog w) A (subscriptTail value slice (.ref D) (.ref s.heap.objs.size)) Q E { s with heap := s.heap.push { cls := .type "slice", data := .fields #[.int i ti, .int j tj, .none] } } := by
  have hp := SgAt.stays _ _ _ _ _ k p
  have hlen : as.length = sg.length := hp.2.1
  refine kms_slice_lit F N hp.isList (.int i ti) (.int j tj) (zs := refV (cutI as i j)) ?_ h hs ht (by simp [sizeLine_eq]; omega)
  unfold kms_pick kms_lo kms_hi cutI
  simp only [List.length_map]
  rw [if_neg (by omega), if_neg (by omega)]
  rw [show min i.toNat as.length = i.toNat by omega]
  simp only [refV, ← List.map_drop, ← List.map_take]
  congr 1
  rcases Int.lt_or_le as.length j with q | q
  · rw [List.take_of_length_le (by simp; omega), List.take_of_length_le (by simp; omega)]
  · congr 1; omega
theorem one_ne {k : Int} {c : Nat} {D' : Addr} (h0 : 0 ≤ k) (hl : s.heap.IsList D (refV (cutI as k (k + 1))).toArray) (hl' : s.heap.IsList D' #[.ref b]) (p : TupsAt s.heap as sg) (q : TupAt s.heap b (c, false)) (hu : A.in1.units < cLine)
    (h : Q (.bool (!atS sg k (c, false))) s) : wpAny (model prog w) A (compareOp .NotEq (.ref D) (.ref D')) Q E s := by
  have pc := p.cut k (k + 1)
  have hu' : A.units < cLine := by have : A.in1.units = A.units + 1 := rfl; omega
  rw [cut_one h0] at pc
  have hlen := pc.1
  by_cases hk : k < sg.length
  · rw [if_pos hk] at pc hlen
    obtain ⟨a, ha⟩ : ∃ a, cutI as k (k + 1) = [a] := List.length_eq_one_iff.mp (by simpa using hlen)
    rw [ha] at hl pc
    have t := pc.get (i := 0) (by simp)
    simp only [List.getD_cons_zero] at t
    have r := RcNeAt.lists (A := A) (s := s) (e := fun _ => sg.getD k.toNat (0, false) == (c, false)) hl hl' rfl hu' (fun j h1 h2 => by
      have hj : j = 0 := by simp at h1; omega
      subst hj
      simpa using tup_eqAt hu t q)
    refine r prog w E Q ?_
    have e : (!(List.range (refV [a]).toArray.size).all fun _ => sg.getD k.toNat (0, false) == (c, false)) = !atS sg k (c, false) := by
      simp [atS, hk]
    rw [e]; exact h
  · rw [if_neg hk] at pc hlen
    have ha : cutI as k (k + 1) = [] := List.length_eq_zero_iff.mp (by simpa using hlen)
    rw [ha] at hl
    refine RcNeAt.lists_lengths hl hl' (by simp) hu' prog w E Q ?_
    have e : (!atS sg k (c, false)) = true := by simp [atS, hk]
    rw [e] at h; exact h
theorem tup_sign {a : Addr} {x : Nat × Bool} {u : Tok} (p : TupAt s.heap a x) (h : ∀ t, Q (.str (S [x.1]) t) s)
    (hs : subscripted slice false (.ref a) (.int 0 u) = operate [.ref a, .int 0 u] (getItem (.ref a) (.int 0 u)) := by with_unfolding_all rfl) :
    wpAny (model prog w) A (subscriptTail value slice (.ref a) (.int 0 u)) Q E s := by
  obtain ⟨t, e⟩ := p
  exact item_tupleT (l := [.str (S [x.1]) t, .bool x.2]) (j := 0) ⟨_, e, rfl, _, rfl⟩ (by omega) (by omega) rfl rfl (h t) hs
theorem tup_esc {a : Addr} {x : Nat × Bool} {u : Tok} (p : TupAt s.heap a x) (h : Q (.bool x.2) s)
    (hs : subscripted slice false (.ref a) (.int 1 u) = operate [.ref a, .int 1 u] (getItem (.ref a) (.int 1 u)) := by with_unfolding_all rfl) :
    wpAny (model prog w) A (subscriptTail value slice (.ref a) (.int 1 u)) Q E s := by
  obtain ⟨t, e⟩ := p
  exact item_tupleT (l := [.str (S [x.1]) t, .bool x.2]) (j := 1) ⟨_, e, rfl, _, rfl⟩ (by omega) (by omega) rfl rfl h hs
end
/-- what the law's reader tells: the address's part, the title's part, the place behind -/
def tailI (sg : Sg) (a b c d k : Int) : Option (Int × Int × Int × Int × Int) := if atS sg k (41, false) = true then some (a, b, c, d, k + 1) else none
def clO (c : Nat) : Nat := if (c == 40) = true then 41 else c
def stO (c : Nat) : List Nat := if (c == 40) = true then [40, 41] else [c]
def restI (sg : Sg) (a b e : Int) : Option (Int × Int × Int × Int × Int) :=
  let k := scanT isGap sg e
  if e < k ∧ k < sg.length ∧ isOpn (sg.getD k.toNat (0, false)) = true then
    let c := (sg.getD k.toNat (0, false)).1
    let e2 := scanT (offS (stO c)) sg (k + 1)
    if atS sg e2 (clO c, false) = true then tailI sg a b (k + 1) e2 (scanT isGap sg (e2 + 1)) else none
  else tailI sg a b 0 0 k
def readI (lim : Int) (sg : Sg) : Option (Int × Int × Int × Int × Int) :=
  let k := scanT isGap sg 0
  if k = sg.length then none
  else if (sg.getD k.toNat (0, false) == (60, false)) = true then
    let e := scanT (offS [60, 62, 10]) sg (k + 1)
    if atS sg e (62, false) = true then restI sg (k + 1) e (e + 1) else none
  else if 0 < (bareI lim sg k 0).2 then none else restI sg k (bareI lim sg k 0).1 (bareI lim sg k 0).1
section
variable {lim : Int} {sg : Sg} {a b c d e k : Int}
theorem readI_end (h : scanT isGap sg 0 = sg.length) : readI lim sg = none := by unfold readI; dsimp only; rw [if_pos h]
theorem readI_angN (h : ¬ scanT isGap sg 0 = sg.length) (h1 : (sg.getD (scanT isGap sg 0).toNat (0, false) == (60, false)) = true) (h2 : atS sg (scanT (offS [60, 62, 10]) sg (scanT isGap sg 0 + 1)) (62, false) = false) : readI lim sg = none := by
  unfold readI; dsimp only; rw [if_neg h, if_pos h1, if_neg (by rw [h2]; decide)]
theorem readI_ang (h : ¬ scanT isGap sg 0 = sg.length) (h1 : (sg.getD (scanT isGap sg 0).toNat (0, false) == (60, false)) = true) (h2 : atS sg (scanT (offS [60, 62, 10]) sg (scanT isGap sg 0 + 1)) (62, false) = true) :
    readI lim sg = restI sg (scanT isGap sg 0 + 1) (scanT (offS [60, 62, 10]) sg (scanT isGap sg 0 + 1)) (scanT (offS [60, 62, 10]) sg (scanT isGap sg 0 + 1) + 1) := by
  unfold readI; dsimp only; rw [if_neg h, if_pos h1, if_pos h2]
theorem readI_bareN (h : ¬ scanT isGap sg 0 = sg.length) (h1 : (sg.getD (scanT isGap sg 0).toNat (0, false) == (60, false)) = false) (h2 : 0 < (bareI lim sg (scanT isGap sg 0) 0).2) : readI lim sg = none := by
  unfold readI; dsimp only; rw [if_neg h, if_neg (by rw [h1]; decide), if_pos h2]
theorem readI_bare (h : ¬ scanT isGap sg 0 = sg.length) (h1 : (sg.getD (scanT isGap sg 0).toNat (0, false) == (60, false)) = false) (h2 : ¬ 0 < (bareI lim sg (scanT isGap sg 0) 0).2) :
    readI lim sg = restI sg (scanT isGap sg 0) (bareI lim sg (scanT isGap sg 0) 0).1 (bareI lim sg (scanT isGap sg 0) 0).1 := by
  unfold readI; dsimp only; rw [if_neg h, if_neg (by rw [h1]; decide), if_neg h2]
theorem restI_no (h : ¬ (e < scanT isGap sg e ∧ scanT isGap sg e < sg.length ∧ isOpn (sg.getD (scanT isGap sg e).toNat (0, false)) = true)) : restI sg a b e = tailI sg a b 0 0 (scanT isGap sg e) := by
  unfold restI; dsimp only; rw [if_neg h]
theorem restI_N {x : Nat} {st : List Nat} (h : e < scanT isGap sg e) (h1 : scanT isGap sg e < sg.length) (h2 : isOpn (sg.getD (scanT isGap sg e).toNat (0, false)) = true) (hx : clO (sg.getD (scanT isGap sg e).toNat (0, false)).1 = x) (hst : stO (sg.getD (scanT isGap sg e).toNat (0, false)).1 = st)
    (h3 : atS sg (scanT (offS st) sg (scanT isGap sg e + 1)) (x, false) = false) : restI sg a b e = none := by
  subst hx hst
  unfold restI; dsimp only; rw [if_pos ⟨h, h1, h2⟩, if_neg (by rw [h3]; decide)]
theorem restI_Y {x : Nat} {st : List Nat} (h : e < scanT isGap sg e) (h1 : scanT isGap sg e < sg.length) (h2 : isOpn (sg.getD (scanT isGap sg e).toNat (0, false)) = true) (hx : clO (sg.getD (scanT isGap sg e).toNat (0, false)).1 = x) (hst : stO (sg.getD (scanT isGap sg e).toNat (0, false)).1 = st)
    (h3 : atS sg (scanT (offS st) sg (scanT isGap sg e + 1)) (x, false) = true) :
    restI sg a b e = tailI sg a b (scanT isGap sg e + 1) (scanT (offS st) sg (scanT isGap sg e + 1)) (scanT isGap sg (scanT (offS st) sg (scanT isGap sg e + 1) + 1)) := by
  subst hx hst
  unfold restI; dsimp only; rw [if_pos ⟨h, h1, h2⟩, if_pos h3]
theorem tailI_N (h : atS sg k (41, false) = false) : tailI sg a b c d k = none := by unfold tailI; rw [if_neg (by rw [h]; decide)]
theorem tailI_Y (h : atS sg k (41, false) = true) : tailI sg a b c d k = some (a, b, c, d, k + 1) := by unfold tailI; rw [if_pos h]
theorem clO_par {x : Nat} (h : (x == 40) = true) : clO x = 41 := by unfold clO; rw [if_pos h]
theorem stO_par {x : Nat} (h : (x == 40) = true) : stO x = [40, 41] := by unfold stO; rw [if_pos h]
theorem clO_quo {x : Nat} (h : (x == 40) = false) : clO x = x := by unfold clO; rw [if_neg (by rw [h]; decide)]
theorem stO_quo {x : Nat} (h : (x == 40) = false) : stO x = [x] := by unfold stO; rw [if_neg (by rw [h]; decide)]
theorem opn_41 {x : Nat × Bool} (h : isOpn x = true) (h2 : (x.1 == 41) = true) : False := by
  unfold isOpn at h
  rw [List.contains_iff_mem] at h
  simp only [List.mem_cons, List.not_mem_nil, or_false] at h
  have := eq_of_beq h2
  rcases h with rfl | rfl | rfl <;> simp at this
theorem atS_lt (h : atS sg k (41, false) = true) : k < sg.length := by unfold atS at h; simp at h; exact h.1
theorem atS_lt' {x : Nat × Bool} (h : atS sg k x = true) : k < sg.length := by unfold atS at h; simp at h; exact h.1
end
theorem ConP.mono {prog : Program} {w : World} {K : Frag} {dep : Nat} {f : Addr} {vs : List Value} {kw : List (Str × Value)} {Pre : Heap → Prop} {Post Post' : Value → List (Addr × Obj) → Prop} (c : ConP prog w K dep f vs kw Pre Post) (hm : ∀ v new, Post v new → Post' v new) : ConP prog w K dep f vs kw Pre Post' :=
  fun p loose mean mg mb dp un gd cn cs a ccd cl outer A₀ base h₀ L m rest s Q E B F X N hp T hk hd hu h => c p loose mean mg mb dp un gd cn cs a ccd cl outer A₀ base h₀ L m rest s Q E B F X N hp T hk hd hu fun v h' tk' new hP => h v h' tk' new (hm v new hP)
theorem eq_lit {prog : Program} {w : World} {A : Around} {E : Value → Shared → Prop} {s : Shared} {x y : Str} {t u : Tok} {b : Bool} {Q : Value → Shared → Prop} (hb : (x == y) = b) (h : Q (.bool b) s) : wpAny (model prog w) A (compareOp .Eq (.str x t) (.str y u)) Q E s := by
  subst hb
  exact eq_str h
theorem ffT {b : Bool} (h : b = false) (h' : b = true) : False := by rw [h] at h'; cases h'
/-- what the law's reader gives back -/
def ReadPost (as : List Addr) (lim : Int) (sg : Sg) (v : Value) (new : List (Addr × Obj)) : Prop := match readI lim sg with
  | none => v = .none ∧ new = []
  | some (a, b, c, d, k) => ∃ r A1 A2 n1 n2 t, v = .ref r ∧ new = [(r, tupObj [.ref A1, .ref A2, .int k t]), (A1, lstObj (refV (cutI as a b)) n1), (A2, lstObj (refV (cutI as c d)) n2)]
theorem ends_none {g : Heap} {L' : Addr} {s : Shared} {as : List Addr} {lim : Int} {sg : Sg} {h' : Heap} {tk : Nat} {m' : Str → Option Value} {all : List (Addr × Obj)} (F : Fr g L' h' m') (N : News g L' h' all) (he : readI lim sg = none) :
    EndsP g L' s (ReadPost as lim sg) .none { s with heap := h', toks := tk } := EndsP.mk [] F N (fun _ h => nomatch h) (by unfold ReadPost; rw [he]; exact ⟨rfl, rfl⟩)
theorem ends_some {g : Heap} {L' : Addr} {s : Shared} {as : List Addr} {lim : Int} {sg : Sg} {h' : Heap} {tk : Nat} {m' : Str → Option Value} {all : List (Addr × Obj)} {r A1 A2 : Addr} {a b c d k : Int} {t : Tok} {n1 n2 : Nat} {vs : List Value} (F : Fr g L' h' m') (N : News g L' h' all)
    (h1 : (r, tupObj [.ref A1, .ref A2, .int k t]) ∈ all) (h2 : (A1, lstObj (refV (cutI as a b)) n1) ∈ all) (h3 : (A2, lstObj vs n2) ∈ all) (he : readI lim sg = some (a, b, c, d, k)) (hv : vs = refV (cutI as c d)) :
    EndsP g L' s (ReadPost as lim sg) (.ref r) { s with heap := h', toks := tk } := by
  subst hv
  refine EndsP.mk _ F N (List.forall_mem_cons.mpr ⟨h1, List.forall_mem_cons.mpr ⟨h2, List.forall_mem_cons.mpr ⟨h3, List.forall_mem_nil _⟩⟩⟩) ?_
  unfold ReadPost; rw [he]; exact ⟨_, _, _, _, _, _, rfl, rfl⟩
theorem cut00 (as : List Addr) : ([] : List Value) = refV (cutI as 0 0) := by simp [cutI]
end Mine

end SNG

section SPE
open PySem PySem.W PyProof.Rows PySem.Calls PySem.Spec
theorem Mine.offPE : True := by w_top off; exact trivial
namespace Mine
section
open PyProof.Rows.LCg
local macro_rules | `(tactic| cell_enter) => `(tactic| (refine wpAny_call ?_; refine' con_code (by assumption) ?k1 ?k2 ?k3 ?k4 ?kz ?k5 ?kA ?kF ?kK ?k6 ?k7 ?k8 ?k9 ?kB (by assumption) ?kQ ?_ ?c2 ?c3 ?c4 ?c5; (case kA => exact rfl); (case kF => exact rfl); (case kK => assumption); (case k1 => k_asm); (case k2 => k_asm); (case k3 => k_asm); (case k4 => k_asm); (case kz => assumption); (case k5 => k_asm); (case k6 => k_is); (case k7 => k_is); (case k8 => ktr_room); (case k9 => (refine' kp_binds ?kx ?ke; (case kx => k_in); (case ke => exact fun _ => rfl))); (case kQ => exact fun _ _ q => q); (case c5 => decide); (case kB => exact locs rfl); (case c2 => exact rfl); (case c3 => exact rfl); (case c4 => exact rfl); k_whole; intro g' L' h' F' N' B' X' T' l0; (try k_lt l0); (try dsimp only); (try k_fold)))
local macro_rules | `(tactic| walk_at "subscriptTail") => `(tactic| ((with_reducible show wpAny _ _ (subscriptTail _ _ (Value.str (S _) _) (Value.int _ _)) _ _ _); refine sub_S (by omega) (by omega) (by omega) ?_))
local macro_rules | `(tactic| walk_at "subscriptTail Name Name str int") => `(tactic| (refine sub_S (by omega) (by omega) (by omega) ?_))
local macro_rules | `(tactic| walk_at "compareOp In str str") => `(tactic| first | refine in_ws ?_ | refine in_punct ?_ | refine in_blank ?_ | refine in_nl ?_ | refine in_ang ?_)
local macro_rules | `(tactic| walk_at "call builtin:len") => `(tactic| refine len_S (by omega) ?_)
local macro_rules | `(tactic| walk_at "call builtin:ord") => `(tactic| refine ord_ch ?_)
local macro_rules | `(tactic| walk_at "compareOp Eq str str") => `(tactic| first
  | refine eq_ch (d := 60) (by decide : Str.ofString "<" = S [60]) ?_
  | refine eq_ch (d := 62) (by decide : Str.ofString ">" = S [62]) ?_
  | refine eq_ch (d := 10) (by decide : Str.ofString "\n" = S [10]) ?_
  | refine eq_ch (d := 13) (by decide : Str.ofString "\x0d" = S [13]) ?_
  | refine eq_ch (d := 40) (by decide : Str.ofString "(" = S [40]) ?_
  | refine eq_ch (d := 41) (by decide : Str.ofString ")" = S [41]) ?_
  | refine eq_ch (d := 92) (by decide : Str.ofString "\\" = S [92]) ?_
  | refine eq_ch (d := 0) (by decide : Str.ofString "\x00" = S [0]) ?_
  | refine eq_ch (d := 127) (by decide : Str.ofString "\x7f" = S [127]) ?_)
local macro_rules | `(tactic| walk_at "compareOp NotEq str str") => `(tactic| first
  | refine ne_ch (d := 41) (by decide : Str.ofString ")" = S [41]) ?_)
local macro_rules | `(tactic| walk_at "subscriptTail Name Slice str ref") => `(tactic| ((with_reducible show wpAny _ _ (subscriptTail _ (Expr.Slice (some _) (some _) none _) (Value.str (S _) _) _) _ _ _); (refine slice_go (s := ⟨_, _, _, _, _⟩) (by assumption) (by assumption) (by omega) (by omega) (by omega) (by omega) ?_); intro h' t' tk' F' N'))
local macro_rules | `(tactic| walk_at "ite") => `(tactic| first
  | with_reducible refine ite_tt ?_ | with_reducible refine ite_ff ?_ | with_reducible refine split_not ?_
  | with_reducible refine boolT (by with_reducible assumption) ?_ | with_reducible refine boolF (by with_reducible assumption) ?_
  | with_reducible refine decT (by omega) ?_ | with_reducible refine decF (by omega) ?_
  | (with_reducible refine split_ine ?_ ?_ <;> intro _) | (with_reducible refine split_ieq ?_ ?_ <;> intro _)
  | (with_reducible refine PyProof.Rows.split_dec ?_ ?_ <;> intro _) | (with_reducible refine PyProof.Rows.split_bool ?_ ?_ <;> intro _))
local macro_rules | `(tactic| ksw_same) => `(tactic| (intro z h2 h3; (simp only [List.forall_mem_cons, List.not_mem_nil, false_implies, implies_true, and_true, ne_eq] at h2); (simp only [List.contains_cons, List.contains_nil, Bool.or_false, Bool.or_eq_false_iff, beq_eq_false_iff_ne, ne_eq] at h3); simp only [h2, h3, if_false, List.contains_cons, List.contains_nil, Bool.or_false, Bool.or_eq_true, beq_iff_eq, or_self, or_false, false_or, Bool.false_eq_true]))
local macro_rules | `(tactic| walk_at "MPost") => `(tactic| (dsimp only [MPost]))
local macro_rules | `(tactic| walk_at "truthy str") => `(tactic| first | refine truthy_cons (by simp only [List.length_nil]; omega) ?_ | refine truthy_S (by omega) ?_)
local macro_rules | `(tactic| walk_at "binaryOp Add str str") => `(tactic| first
  | (refine add_SS (a := []) (b := _) (by decide : Str.ofString "" = S []) rfl (by simp only [List.length_nil, List.length_cons]; omega) ?_; intro t' tk')
  | (refine add_SS rfl rfl (by simp only [List.length_nil, List.length_cons, List.length_append]; omega) ?_; intro t' tk'))
local macro_rules | `(tactic| walk_at "compareOp NotIn str str") => `(tactic| refine notin_ws ?_)
local macro_rules | `(tactic| cell_enter) => `(tactic| (refine wpAny_call ?_; refine' con_codeP (by assumption) (by assumption) ?k1 ?k2 ?k3 ?k4 (by first | assumption | exact True.intro) ?kst ?k5 ?kA ?kF ?kK ?k6 ?k7 ?k8 ?k9 ?kB (by assumption) ?kQ ?_ ?c2 ?c3 ?c4 ?c5; (case kA => exact rfl); (case kF => exact rfl); (case kK => assumption); (case k1 => k_asm); (case k2 => k_asm); (case k3 => k_asm); (case k4 => k_asm); (case kst => first | exact SgAt.stays _ _ _ | exact fun _ _ _ h => h); (case k5 => k_asm); (case k6 => k_is); (case k7 => k_is); (case k8 => ktr_room); (case k9 => (refine' kp_binds ?kx ?ke; (case kx => k_in); (case ke => exact fun _ => rfl))); (case kQ => exact fun _ _ q => q); (case c5 => decide); (case kB => exact locs rfl); (case c2 => exact rfl); (case c3 => exact rfl); (case c4 => exact rfl); k_whole; intro g' L' h' F' N' B' X' T' P' l0; (try dsimp only); (try k_fold)))

local macro_rules | `(tactic| walk_at "call builtin:len") => `(tactic| (refine sg_len (SgAt.stays _ _ _ _ _ (Fr.keep (by assumption)) (by assumption)) (by omega) ?_; intro tle kle))
local macro_rules | `(tactic| walk_at "subscriptTail Name Name ref int") => `(tactic| (k_dflt (refine sg_item (SgAt.stays _ _ _ _ _ (Fr.keep (by assumption)) (by assumption)) (by omega) (by omega) (by omega) ?_); intro tup'))
local macro_rules | `(tactic| walk_at "compareOp In ref ref") => `(tactic| (k_dflt (first
  | refine sg_in_gap (News.isList (by assumption) (by k_mem)) (TupAt.lit (by assumption) (by k_mem) (by decide)) (TupAt.lit (by assumption) (by k_mem) (by decide)) (SgAt.get (by assumption) (Fr.keep (by assumption)) (by omega)) (by ktr_units) ?_
  | refine sg_in_opn (News.isList (by assumption) (by k_mem)) (TupAt.lit (by assumption) (by k_mem) (by decide)) (TupAt.lit (by assumption) (by k_mem) (by decide)) (TupAt.lit (by assumption) (by k_mem) (by decide)) (SgAt.get (by assumption) (Fr.keep (by assumption)) (by omega)) (by ktr_units) ?_)))
local macro_rules | `(tactic| walk_at "compareOp NotIn ref ref") => `(tactic| (k_dflt (refine sg_notin_gap (News.isList (by assumption) (by k_mem)) (TupAt.lit (by assumption) (by k_mem) (by decide)) (TupAt.lit (by assumption) (by k_mem) (by decide)) (SgAt.get (by assumption) (Fr.keep (by assumption)) (by omega)) (by ktr_units) ?_)))
local macro_rules | `(tactic| walk_at "compareOp Eq ref ref") => `(tactic| (k_dflt (first
  | refine sg_eq (y := (40, false)) (SgAt.get (by assumption) (Fr.keep (by assumption)) (by omega)) (TupAt.lit (by assumption) (by k_mem) (by decide)) (by ktr_units) ?_
  | refine sg_eq (y := (41, false)) (SgAt.get (by assumption) (Fr.keep (by assumption)) (by omega)) (TupAt.lit (by assumption) (by k_mem) (by decide)) (by ktr_units) ?_
  | refine sg_eq (y := (60, false)) (SgAt.get (by assumption) (Fr.keep (by assumption)) (by omega)) (TupAt.lit (by assumption) (by k_mem) (by decide)) (by ktr_units) ?_)))

local macro_rules | `(tactic| walk_at "subscriptTail Name Slice ref ref") => `(tactic| ((with_reducible show wpAny _ _ (subscriptTail _ (Expr.Slice (some _) (some _) none _) (Value.ref _) _) _ _ _); k_dflt (refine' sg_slice (s := ⟨_, _, _, _, _⟩) (by assumption) (by assumption) (by assumption) (Fr.keep (by assumption)) ?h0 ?h1 ?h2 ?h3 ?_ ?hs ?ht; (case hs => with_unfolding_all rfl); (case ht => (intro _; with_unfolding_all rfl)); (case h0 => omega); (case h1 => omega); (case h2 => omega); (case h3 => omega)); intro D' h' F' N' l1; k_lt l1))
local macro_rules | `(tactic| walk_at "compareOp NotEq ref ref") => `(tactic| (k_dflt (first
  | (refine' one_ne  ?h0 ?hl ?hl2 ?p ?q ?hu ?_; (case hl => exact News.isList (by assumption) (by k_mem)); (case hl2 => exact News.isList (by assumption) (by k_mem)); (case p => exact SgAt.at (SgAt.stays _ _ _ _ _ (Fr.keep (by assumption)) (by assumption))); (case q => exact TupAt.lit (by assumption) (by k_mem) (by with_reducible exact rfl)); (case hu => ktr_units); (case h0 => omega))
  | (refine' one_ne (c := 62) ?h0 ?hl ?hl2 ?p ?q ?hu ?_; (case hl => exact News.isList (by assumption) (by k_mem)); (case hl2 => exact News.isList (by assumption) (by k_mem)); (case p => exact SgAt.at (SgAt.stays _ _ _ _ _ (Fr.keep (by assumption)) (by assumption))); (case q => exact TupAt.lit (by assumption) (by k_mem) (by decide)); (case hu => ktr_units); (case h0 => omega))
  | (refine' one_ne (c := 41) ?h0 ?hl ?hl2 ?p ?q ?hu ?_; (case hl => exact News.isList (by assumption) (by k_mem)); (case hl2 => exact News.isList (by assumption) (by k_mem)); (case p => exact SgAt.at (SgAt.stays _ _ _ _ _ (Fr.keep (by assumption)) (by assumption))); (case q => exact TupAt.lit (by assumption) (by k_mem) (by decide)); (case hu => ktr_units); (case h0 => omega)))))
local macro_rules | `(tactic| walk_at "subscriptTail Name Constant ref int") => `(tactic| (k_dflt (refine tup_sign (SgAt.get (by assumption) (Fr.keep (by assumption)) (by omega)) ?_); intro tsg))
local macro_rules | `(tactic| walk_at "compareOp Eq str str") => `(tactic| ((with_reducible show wpAny _ _ (compareOp CmpOp.Eq (Value.str (Str.ofString _) _) (Value.str (Str.ofString _) _)) _ _ _); refine eq_lit (b := true) (by decide) ?_))
theorem c_uptoX (w : World) (D : Addr) (as : List Addr) (sg : Sg) (st : List Nat) (ti ts : Tok) (i : Int) (x : Str) (hx : x = S st) (h0 : 0 ≤ i) (h1 : i ≤ sg.length) (h2 : sg.length < 2 ^ 20) (h3 : st.length < 2 ^ 19) :
    ConP PySem.Challenge.rw_ci0012_02.row.prog w (hd.heap_39 w.params) 1 161 [.ref D, .int i ti, .str x ts] [] (SgAt D as sg) (fun v new => (∃ t, v = .int (scanT (offS st) sg i) t) ∧ new = [] ∧ i ≤ scanT (offS st) sg i ∧ scanT (offS st) sg i ≤ sg.length) := by
  subst hx
  exact (c_upto w D as sg st ti ts i h0 h1 h2 h3).mono fun v new h => ⟨h.1, h.2, scanT_le _ h0 h1⟩
theorem c_gapX (w : World) (D : Addr) (as : List Addr) (sg : Sg) (ti : Tok) (i : Int) (h0 : 0 ≤ i) (h1 : i ≤ sg.length) (h2 : sg.length < 2 ^ 20) :
    ConP PySem.Challenge.rw_ci0012_02.row.prog w (hd.heap_39 w.params) 1 168 [.ref D, .int i ti] [] (SgAt D as sg) (fun v new => (∃ t, v = .int (scanT isGap sg i) t) ∧ new = [] ∧ i ≤ scanT isGap sg i ∧ scanT isGap sg i ≤ sg.length) :=
  (c_gap w D as sg ti i h0 h1 h2).mono fun v new h => ⟨h.1, h.2, scanT_le _ h0 h1⟩
theorem c_bareX (w : World) (D : Addr) (as : List Addr) (sg : Sg) (ti tl : Tok) (i lim : Int) (h0 : 0 ≤ i) (h1 : i ≤ sg.length) (h2 : sg.length < 2 ^ 20) (hl0 : 0 ≤ lim) (hl1 : lim ≤ 100) :
    ConP PySem.Challenge.rw_ci0012_02.row.prog w (hd.heap_39 w.params) 1 175 [.ref D, .int i ti, .int lim tl] [] (SgAt D as sg) (fun v new => (if 0 < (bareI lim sg i 0).2 then v = .none else ∃ t, v = .int (bareI lim sg i 0).1 t) ∧ new = [] ∧ i ≤ (bareI lim sg i 0).1 ∧ (bareI lim sg i 0).1 ≤ sg.length) :=
  (c_bare w D as sg ti tl i lim h0 h1 h2 hl0 hl1).mono fun v new h => ⟨h.1, h.2, bareI_le h0 h1⟩
theorem c_read (w : World) (D : Addr) (as : List Addr) (sg : Sg) (tl : Tok) (lim : Int) (h2 : sg.length < 2 ^ 19) (hl0 : 0 ≤ lim) (hl1 : lim ≤ 100) :
    ConP PySem.Challenge.rw_ci0012_02.row.prog w (hd.heap_39 w.params) 2 182 [.ref D, .int lim tl] [] (SgAt D as sg) (ReadPost as lim sg) := by
  k_fill
  intro p loose mean mg mb dp un gd cn cs a ccd cl outer A₀ base h₀ L m rest s Q E B F X N hz T hk hdp hun hret
  k_with_none
  k_with "call ref" => (refine ConP.use (c_gapX w D as sg _ _ (by omega) (by first | omega | (have h9 := atS_lt' (by assumption); omega)) (by omega)) (by assumption) (by assumption) (by assumption) (by assumption) (SgAt.stays _ _ _ _ _ (Fr.keep (by assumption)) (by assumption)) (by assumption) (by first | assumption | rfl) (by ktr_room) (by ktr_units) ?_; rintro v h' tk' new ⟨⟨t, rfl⟩, rfl, bd1, bd2⟩ hne F' N'; (try simp only [List.nil_append] at N'))
  k_with "call ref" => (refine ConP.use (c_bareX w D as sg _ _ _ _ (by omega) (by omega) (by omega) (by omega) (by omega)) (by assumption) (by assumption) (by assumption) (by assumption) (SgAt.stays _ _ _ _ _ (Fr.keep (by assumption)) (by assumption)) (by assumption) (by first | assumption | rfl) (by ktr_room) (by ktr_units) ?_; rintro v h' tk' new ⟨hP9, rfl, bd1, bd2⟩ hne F' N'; (try simp only [List.nil_append] at N'); split at hP9 <;> (first | subst hP9 | obtain ⟨t9, rfl⟩ := hP9))
  k_with "call ref" => (refine ConP.use (c_uptoX w D as sg _ _ _ _ _ (by first | exact (by decide : Str.ofString "<>\n" = S [60, 62, 10]) | exact (by decide : Str.ofString "()" = S [40, 41]) | rfl) (by omega) (by omega) (by omega) (by simp)) (by assumption) (by assumption) (by assumption) (by assumption) (SgAt.stays _ _ _ _ _ (Fr.keep (by assumption)) (by assumption)) (by assumption) (by first | assumption | rfl) (by ktr_room) (by ktr_units) ?_; rintro v h' tk' new ⟨⟨t, rfl⟩, rfl, bd1, bd2⟩ hne F' N'; (try simp only [List.nil_append] at N'))
  have hb : BindsAre [(Str.ofString "signs", .ref D), (Str.ofString "limit", .int lim tl)] := trivial
  have hpi : PreIs (SgAt D as sg) := trivial
  k_dflt cell_enter
  clear B F X N hz T hret
  k_steps
  all_goals first
    | exact (opn_41 (by assumption) (by assumption)).elim
    | (refine ends_none (by assumption) (by assumption) ?_; rw [readI_end (by assumption)])
    | (refine ends_none (by assumption) (by assumption) ?_; rw [readI_angN (by assumption) (by assumption) (by assumption)])
    | (refine ends_none (by assumption) (by assumption) ?_; rw [readI_bareN (by assumption) (by assumption) (by assumption)])
    | (refine ends_none (by assumption) (by assumption) ?_; rw [(show readI lim sg = restI sg _ _ _ from by first | exact readI_ang (by assumption) (by assumption) (by assumption) | exact readI_bare (by assumption) (by assumption) (by assumption)), restI_N (by omega) (by omega) (by assumption) (by first | exact clO_par (by assumption) | exact clO_quo (by assumption)) (by first | exact stO_par (by assumption) | exact stO_quo (by assumption)) (by assumption)])
    | (refine ends_none (by assumption) (by assumption) ?_; rw [(show readI lim sg = restI sg _ _ _ from by first | exact readI_ang (by assumption) (by assumption) (by assumption) | exact readI_bare (by assumption) (by assumption) (by assumption)), restI_no (by rintro ⟨x1, y1, z1⟩; first | omega | exact ffT (by assumption) z1), tailI_N (by assumption)])
    | (refine ends_none (by assumption) (by assumption) ?_; rw [(show readI lim sg = restI sg _ _ _ from by first | exact readI_ang (by assumption) (by assumption) (by assumption) | exact readI_bare (by assumption) (by assumption) (by assumption)), restI_Y (by omega) (by omega) (by assumption) (by first | exact clO_par (by assumption) | exact clO_quo (by assumption)) (by first | exact stO_par (by assumption) | exact stO_quo (by assumption)) (by assumption), tailI_N (by assumption)])
    | (refine ends_some (by assumption) (by assumption) (by k_mem) (by k_mem) (by k_mem) (by rw [(show readI lim sg = restI sg _ _ _ from by first | exact readI_ang (by assumption) (by assumption) (by assumption) | exact readI_bare (by assumption) (by assumption) (by assumption)), restI_Y (by omega) (by omega) (by assumption) (by first | exact clO_par (by assumption) | exact clO_quo (by assumption)) (by first | exact stO_par (by assumption) | exact stO_quo (by assumption)) (by assumption), tailI_Y (by assumption)]) rfl)
    | (refine' ends_some (c := 0) (d := 0) (by assumption) (by assumption) (by k_mem) (by k_mem) (by k_mem) ?_ ?_; (rw [(show readI lim sg = restI sg _ _ _ from by first | exact readI_ang (by assumption) (by assumption) (by assumption) | exact readI_bare (by assumption) (by assumption) (by assumption)), restI_no (by rintro ⟨x1, y1, z1⟩; first | omega | exact ffT (by assumption) z1), tailI_Y (by assumption)]); exact cut00 as)
end
end Mine

end SPE

section SNH
open PySem PySem.W PyProof.Rows PySem.Calls PySem.Spec PyProof.Rows.LCg
set_option Elab.async false
set_option maxRecDepth 100000
set_option maxHeartbeats 4000000
namespace Mine
/-- the law's table of codes -/
abbrev codesD : List (PyData × PyData) := [(.str (Str.ofString "\""), .str (Str.ofString "22")), (.str (Str.ofString "'"), .str (Str.ofString "27")), (.str (Str.ofString "<"), .str (Str.ofString "3C")), (.str (Str.ofString ">"), .str (Str.ofString "3E")), (.str (Str.ofString "\\"), .str (Str.ofString "5C")), (.str (Str.ofString "["), .str (Str.ofString "5B")), (.str (Str.ofString " "), .str (Str.ofString "20"))]
abbrev codesE : List (PyData × PyData) := [(.str (S [34]), .str (S [50, 50])), (.str (S [39]), .str (S [50, 55])), (.str (S [60]), .str (S [51, 67])), (.str (S [62]), .str (S [51, 69])), (.str (S [92]), .str (S [53, 67])), (.str (S [91]), .str (S [53, 66])), (.str (S [32]), .str (S [50, 48]))]
theorem codes_eq : codesD = codesE := by
  have h : ∀ a b c d : Str, a = c → b = d → (PyData.str a, PyData.str b) = (PyData.str c, PyData.str d) := by rintro _ _ _ _ rfl rfl; rfl
  unfold codesD codesE
  rw [h (Str.ofString "\"") (Str.ofString "22") (S [34]) (S [50, 50]) (by decide) (by decide), h (Str.ofString "'") (Str.ofString "27") (S [39]) (S [50, 55]) (by decide) (by decide), h (Str.ofString "<") (Str.ofString "3C") (S [60]) (S [51, 67]) (by decide) (by decide),
    h (Str.ofString ">") (Str.ofString "3E") (S [62]) (S [51, 69]) (by decide) (by decide), h (Str.ofString "\\") (Str.ofString "5C") (S [92]) (S [53, 67]) (by decide) (by decide), h (Str.ofString "[") (Str.ofString "5B") (S [91]) (S [53, 66]) (by decide) (by decide), h (Str.ofString " ") (Str.ofString "20") (S [32]) (S [50, 48]) (by decide) (by decide)]
theorem codes_look (c : Nat) : Spec.lookup (.str (S [c])) codesD = (hexOf c).map (fun d => PyData.str (S d)) := by
  rw [codes_eq]
  have q : ∀ a b : Nat, (S [a] == S [b]) = (a == b) := fun a b => by rw [Bool.eq_iff_iff, beq_iff_eq, beq_iff_eq]; simp
  by_cases h1 : c = 34
  · subst h1; rfl
  by_cases h2 : c = 39
  · subst h2; rfl
  by_cases h3 : c = 60
  · subst h3; rfl
  by_cases h4 : c = 62
  · subst h4; rfl
  by_cases h5 : c = 92
  · subst h5; rfl
  by_cases h6 : c = 91
  · subst h6; rfl
  by_cases h7 : c = 32
  · subst h7; rfl
  have e : hexOf c = none := by unfold hexOf; simp [h1, h2, h3, h4, h5, h6, h7]
  rw [e]
  unfold codesE
  simp only [Spec.lookup, Spec.same, q, Option.map_none]
  rw [if_neg (by simp; omega), if_neg (by simp; omega), if_neg (by simp; omega), if_neg (by simp; omega), if_neg (by simp; omega), if_neg (by simp; omega), if_neg (by simp; omega)]
def CodesObj (prog : Program) (w : World) (od : Obj) : Prop := ∃ ps, Obj.IsDictOf (strKind prog w) od ps ∧ PyProof.V.FlatPairs PyData.str ps codesD
section
variable {prog : Program} {w : World} {A : Around} {E : Value → Shared → Prop} {s : Shared} {d : Addr} {od : Obj} {c : Nat} {t : Tok} {Q : Value → Shared → Prop} {value slice : PySem.Expr}
theorem codes_tab (hc : CodesObj prog w od) (hm : s.heap.get? d = some od) (hy : (d == sysModules) = false) : StrTab prog w s.heap d codesD := by
  obtain ⟨ps, h1, h2⟩ := hc
  exact ⟨hy, ps, Heap.dictOf_iff.mpr ⟨od, hm, h1⟩, h2⟩
theorem codes_in (hc : CodesObj prog w od) (hm : s.heap.get? d = some od) (hy : (d == sysModules) = false) (h : ∀ k, Q (.bool (hexOf c).isSome) { s with toks := k }) : wpAny (model prog w) A (compareOp .In (.str (S [c]) t) (.ref d)) Q E s := by
  refine in_strTab (codes_tab hc hm hy) ?_
  rw [codes_look]
  have e : ((hexOf c).map (fun d => PyData.str (S d))).isSome = (hexOf c).isSome := by cases hexOf c <;> rfl
  rw [e]; exact h _
theorem codes_item (hc : CodesObj prog w od) (hm : s.heap.get? d = some od) (hy : (d == sysModules) = false) (hi : (hexOf c).isSome = true) (h : ∀ a t k, hexOf c = some a → Q (.str (S a) t) { s with toks := k })
    (hs : subscripted slice false (.ref d) (.str (S [c]) t) = operate [.ref d, .str (S [c]) t] (getItem (.ref d) (.str (S [c]) t)) := by with_unfolding_all rfl) :
    wpAny (model prog w) A (subscriptTail value slice (.ref d) (.str (S [c]) t)) Q E s := by
  refine kba_turn (value' := PySem.Expr.Name (PySem.Str.ofString "_") ⟨0, 0, 0, 0⟩) (fun _ => rfl) ?_
  obtain ⟨a, ha⟩ := Option.isSome_iff_exists.mp hi
  refine item_strTab (dv := .str (S a)) (codes_tab hc hm hy) (by rw [codes_look, ha]; rfl) (fun v hv => ?_) hs (fun _ => rfl)
  obtain ⟨t', rfl⟩ := PyProof.V.Flat.str_inv hv
  exact h a t' _ ha
end
/-- a sign of an address, as the law writes it -/
def addrC (c : Nat) : List Nat := match hexOf c with | some d => 37 :: d | none => [c]
def addrL (sg : Sg) : List Nat := (sg.map fun x => addrC x.1).flatten
theorem addrC_hex {c : Nat} {d : List Nat} (h : hexOf c = some d) : addrC c = 37 :: d := by unfold addrC; rw [h]
theorem addrC_one {c : Nat} (h : (hexOf c).isSome = false) : addrC c = [c] := by
  unfold addrC
  cases e : hexOf c with
  | none => rfl
  | some d => rw [e] at h; cases h
theorem addrC_le (c : Nat) : (addrC c).length ≤ 3 := by
  unfold addrC
  split
  · rename_i d h; simp [hex_len h]
  · simp
theorem addrL_le (sg : Sg) : (addrL sg).length ≤ 3 * sg.length := by
  unfold addrL
  induction sg with
  | nil => simp
  | cons x r ih =>
    have := addrC_le x.1
    simp only [List.map_cons, List.flatten_cons, List.length_append, List.length_cons] at ih ⊢
    omega
theorem TupAt.up {g h : Heap} {a : Addr} {x : Nat × Bool} (p : TupAt g a x) (k : ∀ b o, g.get? b = some o → h.get? b = some o) : TupAt h a x := by
  obtain ⟨t, e⟩ := p
  exact ⟨t, k _ _ e⟩
inductive All2 {α β : Type} (R : α → β → Prop) : List α → List β → Prop
  | nil : All2 R [] []
  | cons {a b as bs} : R a b → All2 R as bs → All2 R (a :: as) (b :: bs)
theorem All2.snoc {α β : Type} {R : α → β → Prop} {as : List α} {bs : List β} {a : α} {b : β} (h : All2 R as bs) (r : R a b) : All2 R (as ++ [a]) (bs ++ [b]) := by
  induction h with
  | nil => exact .cons r .nil
  | cons r' _ ih => exact .cons r' ih
theorem All2.len {α β : Type} {R : α → β → Prop} {as : List α} {bs : List β} (h : All2 R as bs) : as.length = bs.length := by
  induction h with
  | nil => rfl
  | cons _ _ ih => simp [ih]
theorem all2_str {g : Nat × Bool → List Nat} {sg : Sg} {ys : List Value} (h : All2 (fun x v => ∃ t, v = .str (S (g x)) t) sg ys) : ∃ pl : List (List Nat × Tok), ys = strV pl ∧ pl.map (·.1) = sg.map g := by
  induction h with
  | nil => exact ⟨[], rfl, rfl⟩
  | cons r _ ih =>
    obtain ⟨t, rfl⟩ := r
    obtain ⟨pl, rfl, e⟩ := ih
    exact ⟨(_, t) :: pl, rfl, by simp [e]⟩
theorem all2_int {g : Nat × Bool → Int} {sg : Sg} {ys : List Value} (h : All2 (fun x v => ∃ t, v = .int (g x) t) sg ys) : IntsAre ys (sg.map g) := by
  induction h with
  | nil => exact .nil
  | cons r _ ih =>
    obtain ⟨t, rfl⟩ := r
    exact .cons _ _ ih
section
variable {prog : Program} {w : World} {A : Around} {E : Value → Shared → Prop} {s : Shared} {h₀ : Heap} {L : Addr} {m : Str → Option Value} {env : Env}
def RowG (R : Value → Prop) (news : List (Addr × Obj)) (y : Value) (news' : List (Addr × Obj)) : Prop := news' = news ∧ R y
theorem turnsG {ax : Addr} {elt : Expr} {xn : Str} {scope : Scope} {cl : List (Str × Addr)} {Fin : List Value → List (Addr × Obj) → Prop} {news : List (Addr × Obj)} {as : List Addr} {sg : Sg} (R : Nat × Bool → Value → Prop)
    (hS : SrcAt h₀ ax (refV as).toArray news) (hlen : as.length = sg.length) (hT : ∀ h, (∀ b o, h₀.get? b = some o → h.get? b = some o) → News h₀ L h news → TupsAt h as sg)
    (turn : ∀ (x : Nat × Bool) a I oI C oC D m₂ ys h tk (E' : Value → Shared → Prop), x ∈ sg → (∀ h, (∀ b o, h₀.get? b = some o → h.get? b = some o) → News h₀ L h news → TupAt h a x) → SrcAt h₀ ax (refV as).toArray news → NsObj oC m₂ → m₂ xn = some (.ref a) → Fr h₀ L h m → News h₀ L h ((I, oI) :: (C, oC) :: (D, lst ys) :: news) → Off3 I C D news → ((@Ne Nat I C) ∧ (@Ne Nat I D) ∧ (@Ne Nat C D)) →
      wpAny (model prog w) A (eval elt (compEnvC scope cl C env)) (CompEnd h₀ L m { s with heap := h, toks := tk } I oI C oC D (lst ys) (SrcAt h₀ ax (refV as).toArray) (RowG (R x) news)) E' { s with heap := h, toks := tk })
    (fin : ∀ ys, All2 R sg ys → Fin ys news) : CompRest prog w A h₀ L m env elt xn scope cl s (SrcAt h₀ ax (refV as).toArray) (fun i v => (refV as).toArray[i]? = some v) Fin (refV as).toArray.size 0 [] news := by
  have key : ∀ (j i : Nat) (ys : List Value), i + j = sg.length → All2 R (sg.take i) ys → CompRest prog w A h₀ L m env elt xn scope cl s (SrcAt h₀ ax (refV as).toArray) (fun i v => (refV as).toArray[i]? = some v) Fin j i ys news := by
    intro j
    induction j with
    | zero =>
      intro i ys hi hp
      have e : i = sg.length := by omega
      subst e
      rw [List.take_length] at hp
      exact CompRest.zero (fin ys hp)
    | succ j ih =>
      intro i ys hi hp
      refine CompRest.succ ?_
      intro v I oI C oC D m₂ h tk E' hv hC hx F N off ne
      have hi' : i < as.length := by omega
      have hv' : v = .ref (as.getD i 0) := by
        have e : (refV as).toArray[i]? = some (.ref (as.getD i 0)) := by simp [List.getD, hi']
        rw [e] at hv; injection hv with hv; exact hv.symm
      subst hv'
      have hi2 : i < sg.length := by omega
      have hmem : sg.getD i (0, false) ∈ sg := by simp [List.getD, hi2]
      refine wpAny_mono (turn (sg.getD i (0, false)) (as.getD i 0) I oI C oC D m₂ ys h tk E' hmem (fun h k N => (hT h k N).get hi2) hS hC hx F N off ne) (fun y s₂ hq => ?_) fun _ _ e => e
      obtain ⟨h', tk', nw, e, F', N', off', hS', hn, r⟩ := hq
      rw [hn] at N' off' hS'
      refine ⟨h', tk', news, e, F', N', off', hS', ?_⟩
      dsimp only
      refine ih (i + 1) _ (by omega) ?_
      have e2 : sg.take (i + 1) = sg.take i ++ [sg.getD i (0, false)] := by
        rw [List.take_add_one]; simp [List.getD, hi2]
      rw [e2]
      exact hp.snoc r
  have hsz : (refV as).toArray.size = sg.length := by simp [hlen]
  rw [hsz]
  exact key sg.length 0 [] (by omega) .nil
end
section
variable {prog : Program} {w : World} {A : Around} {E : Value → Shared → Prop} {s : Shared} {h₀ : Heap} {L : Addr} {m : Str → Option Value} {news all : List (Addr × Obj)} {a : Addr} {x : Nat × Bool} {u : Tok} {Q : Value → Shared → Prop} {value slice : PySem.Expr}
theorem tup_signU (hT : ∀ h, (∀ b o, h₀.get? b = some o → h.get? b = some o) → News h₀ L h news → TupAt h a x) (F : Fr h₀ L s.heap m) (N : News h₀ L s.heap all) (hsub : ∀ p ∈ news, p ∈ all) (h : ∀ t, Q (.str (S [x.1]) t) s)
    (hs : subscripted slice false (.ref a) (.int 0 u) = operate [.ref a, .int 0 u] (getItem (.ref a) (.int 0 u)) := by with_unfolding_all rfl) :
    wpAny (model prog w) A (subscriptTail value slice (.ref a) (.int 0 u)) Q E s := tup_sign (hT _ F.keep fun p hp => N p (hsub p hp)) h hs
theorem tup_escU (hT : ∀ h, (∀ b o, h₀.get? b = some o → h.get? b = some o) → News h₀ L h news → TupAt h a x) (F : Fr h₀ L s.heap m) (N : News h₀ L s.heap all) (hsub : ∀ p ∈ news, p ∈ all) (h : Q (.bool x.2) s)
    (hs : subscripted slice false (.ref a) (.int 1 u) = operate [.ref a, .int 1 u] (getItem (.ref a) (.int 1 u)) := by with_unfolding_all rfl) :
    wpAny (model prog w) A (subscriptTail value slice (.ref a) (.int 1 u)) Q E s := tup_esc (hT _ F.keep fun p hp => N p (hsub p hp)) h hs
theorem join_all2 {g : Nat × Bool → List Nat} {sg : Sg} {ys : List Value} {p : Addr} {y : Str} {t : Tok} (hy : y = S []) (hA : All2 (fun x v => ∃ t, v = .str (S (g x)) t) sg ys) (N : News h₀ L s.heap ((p, lst ys) :: news)) (hz : (sg.map g).flatten.length ≤ 2 ^ 21)
    (hq : ∀ t' k, Q (.str (S (sg.map g).flatten) t') { s with toks := k }) : wpAny (model prog w) A (call (.builtin "str.join") [.str y t, .ref p]) Q E s := by
  obtain ⟨pl, rfl, e⟩ := all2_str hA
  refine join_lit hy N (by rw [e]; exact hz) ?_
  rw [e]; exact hq
theorem join_addr {sg : Sg} {ys : List Value} {p : Addr} {y : Str} {t : Tok} (hy : y = S []) (hA : All2 (fun x v => ∃ t, v = .str (S (addrC x.1)) t) sg ys) (N : News h₀ L s.heap ((p, lst ys) :: news)) (hz : sg.length < 2 ^ 19)
    (hq : ∀ t' k, Q (.str (S (addrL sg)) t') { s with toks := k }) : wpAny (model prog w) A (call (.builtin "str.join") [.str y t, .ref p]) Q E s :=
  join_all2 (g := fun x => addrC x.1) hy hA N (by have h9 := addrL_le sg; unfold addrL at h9; omega) hq
end
end Mine

end SNH

section SPF
open PySem PySem.W PyProof.Rows PySem.Calls PySem.Spec
theorem Mine.offPF : True := by w_top off; exact trivial
namespace Mine
section
open PyProof.Rows.LCg
local macro_rules | `(tactic| cell_enter) => `(tactic| (refine wpAny_call ?_; refine' con_code (by assumption) ?k1 ?k2 ?k3 ?k4 ?kz ?k5 ?kA ?kF ?kK ?k6 ?k7 ?k8 ?k9 ?kB (by assumption) ?kQ ?_ ?c2 ?c3 ?c4 ?c5; (case kA => exact rfl); (case kF => exact rfl); (case kK => assumption); (case k1 => k_asm); (case k2 => k_asm); (case k3 => k_asm); (case k4 => k_asm); (case kz => assumption); (case k5 => k_asm); (case k6 => k_is); (case k7 => k_is); (case k8 => ktr_room); (case k9 => (refine' kp_binds ?kx ?ke; (case kx => k_in); (case ke => exact fun _ => rfl))); (case kQ => exact fun _ _ q => q); (case c5 => decide); (case kB => exact locs rfl); (case c2 => exact rfl); (case c3 => exact rfl); (case c4 => exact rfl); k_whole; intro g' L' h' F' N' B' X' T' l0; (try k_lt l0); (try dsimp only); (try k_fold)))
local macro_rules | `(tactic| walk_at "subscriptTail") => `(tactic| ((with_reducible show wpAny _ _ (subscriptTail _ _ (Value.str (S _) _) (Value.int _ _)) _ _ _); refine sub_S (by omega) (by omega) (by omega) ?_))
local macro_rules | `(tactic| walk_at "subscriptTail Name Name str int") => `(tactic| (refine sub_S (by omega) (by omega) (by omega) ?_))
local macro_rules | `(tactic| walk_at "compareOp In str str") => `(tactic| first | refine in_ws ?_ | refine in_punct ?_ | refine in_blank ?_ | refine in_nl ?_ | refine in_ang ?_)
local macro_rules | `(tactic| walk_at "call builtin:len") => `(tactic| refine len_S (by omega) ?_)
local macro_rules | `(tactic| walk_at "call builtin:ord") => `(tactic| refine ord_ch ?_)
local macro_rules | `(tactic| walk_at "compareOp Eq str str") => `(tactic| first
  | refine eq_ch (d := 60) (by decide : Str.ofString "<" = S [60]) ?_
  | refine eq_ch (d := 62) (by decide : Str.ofString ">" = S [62]) ?_
  | refine eq_ch (d := 10) (by decide : Str.ofString "\n" = S [10]) ?_
  | refine eq_ch (d := 13) (by decide : Str.ofString "\x0d" = S [13]) ?_
  | refine eq_ch (d := 40) (by decide : Str.ofString "(" = S [40]) ?_
  | refine eq_ch (d := 41) (by decide : Str.ofString ")" = S [41]) ?_
  | refine eq_ch (d := 92) (by decide : Str.ofString "\\" = S [92]) ?_
  | refine eq_ch (d := 0) (by decide : Str.ofString "\x00" = S [0]) ?_
  | refine eq_ch (d := 127) (by decide : Str.ofString "\x7f" = S [127]) ?_)
local macro_rules | `(tactic| walk_at "compareOp NotEq str str") => `(tactic| first
  | refine ne_ch (d := 41) (by decide : Str.ofString ")" = S [41]) ?_)
local macro_rules | `(tactic| walk_at "subscriptTail Name Slice str ref") => `(tactic| ((with_reducible show wpAny _ _ (subscriptTail _ (Expr.Slice (some _) (some _) none _) (Value.str (S _) _) _) _ _ _); (refine slice_go (s := ⟨_, _, _, _, _⟩) (by assumption) (by assumption) (by omega) (by omega) (by omega) (by omega) ?_); intro h' t' tk' F' N'))
local macro_rules | `(tactic| walk_at "ite") => `(tactic| first
  | with_reducible refine ite_tt ?_ | with_reducible refine ite_ff ?_ | with_reducible refine split_not ?_
  | with_reducible refine boolT (by with_reducible assumption) ?_ | with_reducible refine boolF (by with_reducible assumption) ?_
  | with_reducible refine decT (by omega) ?_ | with_reducible refine decF (by omega) ?_
  | (with_reducible refine split_ine ?_ ?_ <;> intro _) | (with_reducible refine split_ieq ?_ ?_ <;> intro _)
  | (with_reducible refine PyProof.Rows.split_dec ?_ ?_ <;> intro _) | (with_reducible refine PyProof.Rows.split_bool ?_ ?_ <;> intro _))
local macro_rules | `(tactic| ksw_same) => `(tactic| (intro z h2 h3; (simp only [List.forall_mem_cons, List.not_mem_nil, false_implies, implies_true, and_true, ne_eq] at h2); (simp only [List.contains_cons, List.contains_nil, Bool.or_false, Bool.or_eq_false_iff, beq_eq_false_iff_ne, ne_eq] at h3); simp only [h2, h3, if_false, List.contains_cons, List.contains_nil, Bool.or_false, Bool.or_eq_true, beq_iff_eq, or_self, or_false, false_or, Bool.false_eq_true]))
local macro_rules | `(tactic| walk_at "MPost") => `(tactic| (dsimp only [MPost]))
local macro_rules | `(tactic| walk_at "truthy str") => `(tactic| first | refine truthy_cons (by simp only [List.length_nil]; omega) ?_ | refine truthy_S (by omega) ?_)
local macro_rules | `(tactic| walk_at "binaryOp Add str str") => `(tactic| first
  | (refine add_SS (a := []) (b := _) (by decide : Str.ofString "" = S []) rfl (by simp only [List.length_nil, List.length_cons]; omega) ?_; intro t' tk')
  | (refine add_SS rfl rfl (by simp only [List.length_nil, List.length_cons, List.length_append]; omega) ?_; intro t' tk'))
local macro_rules | `(tactic| walk_at "compareOp NotIn str str") => `(tactic| refine notin_ws ?_)
local macro_rules | `(tactic| cell_enter) => `(tactic| (refine wpAny_call ?_; refine' con_codeP (by assumption) (by assumption) ?k1 ?k2 ?k3 ?k4 (by first | assumption | exact True.intro) ?kst ?k5 ?kA ?kF ?kK ?k6 ?k7 ?k8 ?k9 ?kB (by assumption) ?kQ ?_ ?c2 ?c3 ?c4 ?c5; (case kA => exact rfl); (case kF => exact rfl); (case kK => assumption); (case k1 => k_asm); (case k2 => k_asm); (case k3 => k_asm); (case k4 => k_asm); (case kst => first | exact SgAt.stays _ _ _ | exact fun _ _ _ h => h); (case k5 => k_asm); (case k6 => k_is); (case k7 => k_is); (case k8 => ktr_room); (case k9 => (refine' kp_binds ?kx ?ke; (case kx => k_in); (case ke => exact fun _ => rfl))); (case kQ => exact fun _ _ q => q); (case c5 => decide); (case kB => exact locs rfl); (case c2 => exact rfl); (case c3 => exact rfl); (case c4 => exact rfl); k_whole; intro g' L' h' F' N' B' X' T' P' l0; (try dsimp only); (try k_fold)))

theorem c_codes (w : World) :
    ConP PySem.Challenge.rw_ci0012_02.row.prog w (hd.heap_39 w.params) 1 149 [] [] (fun _ => True) (fun v new => ∃ d od, v = .ref d ∧ new = [(d, od)] ∧ CodesObj PySem.Challenge.rw_ci0012_02.row.prog w od ∧ (d == sysModules) = false) := by
  k_fill
  intro p loose mean mg mb dp un gd cn cs a ccd cl outer A₀ base h₀ L m rest s Q E B F X N hz T hk hdp hun hret
  k_with_none
  have hb : BindsAre [] := trivial
  have hpi : PreIs (fun _ => True) := trivial
  k_dflt cell_enter
  clear B F X N hz T hret
  k_steps
  exact EndsP.mk _ (by assumption) (by assumption) (fun _ h => h) ⟨_, _, rfl, rfl, ⟨_, by assumption, by assumption⟩, by assumption⟩
local macro_rules | `(tactic| walk_at "eval ListComp") => `(tactic| k_dflt (refine LCg.ListComp_U (F₀ := by assumption) (by with_unfolding_all rfl) (by decide) (by rfl) (by decide) (by rfl) ?_))
local macro_rules | `(tactic| walk_at "CompSrc") => `(tactic| (refine LCg.CompSrc.base (by rfl) (by assumption) (by assumption) (SgAt.isList (by assumption)) (by simp [sizeLine_eq]; omega) ?_; intro g'; refine turnsG (fun x v => ∃ t, v = .str (S (addrC x.1)) t) (Or.inl (SgAt.isList (by assumption))) (by assumption) (fun _ k9 _ => SgAt.at (SgAt.stays _ _ _ _ _ k9 (by assumption))) ?_ ?_; intro x' a' I' oI' C' oC' D' m' ys' h' tk' E' hc' hT' hS' hC' hx' F' N' off' ne'; (have off2' := off'); (try simp only [Off3, and_true] at off2')))
local macro_rules | `(tactic| walk_at "subscriptTail Name Constant ref int") => `(tactic| (k_dflt (refine tup_signU (by assumption) (by assumption) (by assumption) (by intro p9 hp9; cases hp9) ?_); intro tsg))
local macro_rules | `(tactic| walk_at "call builtin:str.join") => `(tactic| (refine join_addr (by decide) (by assumption) (by assumption) (by omega) ?_; intro tjo kjo))
local macro_rules | `(tactic| walk_at "CompEnd") => `(tactic| (refine CompEnd.intro (by assumption) (by assumption) _ ?sub (by assumption) (by assumption) ⟨rfl, ?row⟩; (case sub => lcg_sub); (case row => first | exact ⟨_, congrArg (fun z => Value.str (S z) _) (addrC_hex (by assumption)).symm⟩ | exact ⟨_, congrArg (fun z => Value.str (S z) _) (addrC_one (by assumption)).symm⟩)))
local macro_rules | `(tactic| walk_at "compareOp In str ref") => `(tactic| (refine codes_in (by assumption) (News.get (by assumption) (by k_mem)) (by assumption) ?_; intro k9))
local macro_rules | `(tactic| walk_at "binaryOp Add str str") => `(tactic| (refine add_SS (a := [37]) (by first | rfl | decide) rfl (by first | (have h9 := hex_len (by assumption); simp only [List.length_cons, List.length_nil, h9]; omega) | (simp; omega)) ?_; intro t' tk'))
local macro_rules | `(tactic| walk_at "subscriptTail") => `(tactic| ((with_reducible show wpAny _ _ (subscriptTail _ _ (Value.ref _) (Value.str (S _) _)) _ _ _); k_dflt (refine codes_item (by assumption) (News.get (by assumption) (by k_mem)) (by assumption) (by assumption) ?_); intro aci tci kci hci))
theorem c_address (w : World) (D : Addr) (as : List Addr) (sg : Sg) (h2 : sg.length < 2 ^ 19) (hlen : as.length = sg.length) :
    ConP PySem.Challenge.rw_ci0012_02.row.prog w (hd.heap_39 w.params) 2 187 [.ref D] [] (SgAt D as sg) (fun v new => (∃ t, v = .str (S (addrL sg)) t) ∧ new = []) := by
  k_fill
  intro p loose mean mg mb dp un gd cn cs a ccd cl outer A₀ base h₀ L m rest s Q E B F X N hz T hk hdp hun hret
  k_with_none
  k_with "call ref" => (refine ConP.use (c_codes w) (by assumption) (by assumption) (by assumption) (by assumption) True.intro (by assumption) (by first | assumption | rfl) (by ktr_room) (by ktr_units) ?_; rintro v h' tk' new ⟨d9, od9, rfl, rfl, hco9, hsy9⟩ hne F' N'; (try simp only [List.nil_append, List.cons_append] at N'))
  have hb : BindsAre [(Str.ofString "signs", .ref D)] := trivial
  have hpi : PreIs (SgAt D as sg) := trivial
  k_dflt cell_enter
  clear B F X N hz T hret
  k_steps
  exact EndsP.mk [] (by assumption) (by assumption) (fun _ h => nomatch h) ⟨⟨_, rfl⟩, rfl⟩
end
end Mine

end SPF

section SNI
open PySem PySem.W PyProof.Rows PySem.Calls PySem.Spec
set_option Elab.async false
set_option maxRecDepth 100000
set_option maxHeartbeats 4000000
namespace Mine
open PySem.SeqAt
/-- the signs of a laid text -/
def Al (c : Nat) : Prop := [97, 98, 46, 32, 40, 41, 60, 62, 34, 39, 92, 10, 38, 91].contains c = true
def isSN (c : Nat) : Bool := [32, 10].contains c
/-- no blank and no line's end behind a line's end -/
def Nb : List Nat → Prop
  | [] => True
  | c :: r => (c = 10 → isSN (r.headD 0) = false) ∧ Nb r
def lastL (p : List Nat) : List Nat := p.drop (p.length - 1)
structure Good (p : List Nat) : Prop where
  al : ∀ c ∈ p, Al c
  nb : Nb p
theorem lastL_cons (c d : Nat) (r : List Nat) : lastL (c :: d :: r) = lastL (d :: r) := by
  unfold lastL
  simp only [List.length_cons]
  rw [show r.length + 1 + 1 - 1 = (r.length + 1 - 1) + 1 by omega, List.drop_succ_cons]
theorem Nb.app : ∀ {p q : List Nat}, Nb p → Nb q → (lastL p = [10] → isSN (q.headD 0) = false) → Nb (p ++ q)
  | [], _, _, hq, _ => hq
  | [c], q, hp, hq, h => ⟨fun e => h (by rw [e]; rfl), hq⟩
  | c :: d :: r, q, hp, hq, h => ⟨fun e => hp.1 e, Nb.app hp.2 hq fun e => h (by rw [lastL_cons]; exact e)⟩
theorem Good.app {p q : List Nat} (hp : Good p) (hq : Good q) (h : lastL p = [10] → isSN (q.headD 0) = false) : Good (p ++ q) :=
  ⟨fun c hc => (List.mem_append.mp hc).elim (hp.al c) (hq.al c), hp.nb.app hq.nb h⟩
theorem Good.nil : Good [] := ⟨(fun _ h => nomatch h), trivial⟩
theorem Good.one {c : Nat} (h : Al c) : Good [c] := ⟨fun d hd => by rw [List.mem_singleton.mp hd]; exact h, ⟨(fun _ => rfl), trivial⟩⟩
/-- the law's pieces -/
def pieceX (j : Int) : List Nat := [[97], [98], [46], [32], [40], [41], [60], [62], [34], [39], [92], [92, 41], [32, 34], [34, 32, 41], [32, 40], [41, 41], [10], [38], [92, 92], [91], [92, 60]].getD j.toNat []
theorem in21 {P : Int → Prop} (h : ∀ n : Nat, n < 21 → P n) {j : Int} (h0 : 0 ≤ j) (h1 : j < 21) : P j := by
  have := h j.toNat (by omega)
  rwa [show ((j.toNat : Nat) : Int) = j by omega] at this
def goodB (p : List Nat) : Bool := p.all (fun c => [97, 98, 46, 32, 40, 41, 60, 62, 34, 39, 92, 10, 38, 91].contains c) && (p.zip (p.drop 1)).all (fun x => x.1 != 10 || !isSN x.2)
theorem nb_of : ∀ {p : List Nat}, ((p.zip (p.drop 1)).all (fun x => x.1 != 10 || !isSN x.2)) = true → Nb p
  | [], _ => trivial
  | [c], _ => ⟨fun _ => rfl, trivial⟩
  | c :: d :: r, h => by
    simp only [List.drop_succ_cons, List.drop_zero, List.zip_cons_cons, List.all_cons, Bool.and_eq_true] at h
    refine ⟨fun e => ?_, nb_of (by simpa using h.2)⟩
    have := h.1
    subst e
    simpa using this
theorem good_of {p : List Nat} (h : goodB p = true) : Good p := by
  unfold goodB at h
  rw [Bool.and_eq_true] at h
  exact ⟨fun c hc => List.all_eq_true.mp h.1 c hc, nb_of h.2⟩
theorem pieceX_good {j : Int} (h0 : 0 ≤ j) (h1 : j < 21) : Good (pieceX j) ∧ 1 ≤ (pieceX j).length ∧ (pieceX j).length ≤ 3 := by
  refine in21 (P := fun j => Good (pieceX j) ∧ 1 ≤ (pieceX j).length ∧ (pieceX j).length ≤ 3) (fun n hn => ?_) h0 h1
  have key : ∀ n : Nat, n < 21 → goodB (pieceX (n : Int)) = true ∧ 1 ≤ (pieceX (n : Int)).length ∧ (pieceX (n : Int)).length ≤ 3 := by decide
  exact ⟨good_of (key n hn).1, (key n hn).2⟩
def PiecesAre (items : Array Value) : Prop := ∀ j : Int, 0 ≤ j → j < 21 → ∃ t, items[j.toNat]? = some (.str (S (pieceX j)) t)
theorem fm21 (x : Int) : 0 ≤ x.fmod 21 ∧ x.fmod 21 < 21 := ⟨Int.fmod_nonneg_of_pos x (by decide), Int.fmod_lt_of_pos x (by decide)⟩
section
variable {prog : Program} {w : World} {A : Around} {E : Value → Shared → Prop} {s : Shared} {h₀ : Heap} {L D : Addr} {m : Str → Option Value} {news : List (Addr × Obj)} {p : List Nat} {t u : Tok} {Q : Value → Shared → Prop} {value slice : PySem.Expr}
theorem piece_item {items : Array Value} {k : Int} (hl : s.heap.IsList D items) (hp : PiecesAre items) (h0 : 0 ≤ k) (h1 : k < 21) (h : ∀ t, Good (pieceX k) → 1 ≤ (pieceX k).length → (pieceX k).length ≤ 3 → Q (.str (S (pieceX k)) t) s)
    (hs : subscripted slice false (.ref D) (.int k u) = operate [.ref D, .int k u] (getItem (.ref D) (.int k u)) := by with_unfolding_all rfl) :
    wpAny (model prog w) A (subscriptTail value slice (.ref D) (.int k u)) Q E s := by
  refine kba_turn (value' := PySem.Expr.Name (PySem.Str.ofString "_") ⟨0, 0, 0, 0⟩) (fun _ => rfl) ?_
  obtain ⟨t, ht⟩ := hp k h0 h1
  have g := pieceX_good h0 h1
  exact item_list hl h0 (by omega) ht (h t g.1 g.2.1 g.2.2) hs (fun _ => rfl)
theorem slice_last {uu : Tok} (hF : Fr h₀ L s.heap m) (hN : News h₀ L s.heap news) (hz : p.length < 2 ^ 20) (h : ∀ h' t' k, Fr h₀ L h' m → News h₀ L h' news → Q (.str (S (lastL p)) t') { s with heap := h', toks := k })
    (hs : subscripted slice false (.str (S p) t) (.ref s.heap.objs.size) = operate [.ref s.heap.objs.size, .str (S p) t] (getItem (.str (S p) t) (.ref s.heap.objs.size)) := by with_unfolding_all rfl) :
    wpAny (model prog w) A (subscriptTail value slice (.str (S p) t) (.ref s.heap.objs.size)) Q E { s with heap := s.heap.push { cls := .type "slice", data := .fields #[.int (-1) uu, .none, .none] } } := by
  refine kba_turn (value' := PySem.Expr.Name (PySem.Str.ofString "_") ⟨0, 0, 0, 0⟩) (fun _ => rfl) ?_
  have e : Txt.slice (S p) (some (-1)) none = S (lastL p) := by
    cases p with
    | nil => rfl
    | cons c r =>
      have := slice_closes_from_neg (x := S (c :: r)) (i := -1) (a := (-1 : Int) + (S (c :: r)).length) (b := (S (c :: r)).length) (by decide) (by rw [S_len]; simp; omega) rfl rfl
      rw [beq_iff_eq] at this
      rw [this, S_len, S_cps]
      unfold lastL
      show S _ = S _
      congr 1
      rw [show ((-1 : Int) + ((c :: r).length : Int)).toNat = (c :: r).length - 1 by simp; omega]
      rw [List.take_of_length_le]
      rw [List.length_drop]; simp; omega
  exact slice_strN_sn hF hN (fun h' t' k a b => by rw [e]; exact h h' t' k a b) hs (fun _ => rfl) (by rw [S_len, sizeLine_eq]; omega)
/-- a text in a list of two texts -/
theorem in_two {a b : List Nat} {x y : Str} {t1 t2 : Tok} (hl : s.heap.IsList D #[.str x t1, .str y t2]) (hx : x = S a) (hy : y = S b) (h : Q (.bool (decide (p = a) || decide (p = b))) s) : wpAny (model prog w) A (compareOp .In (.str (S p) u) (.ref D)) Q E s := by
  subst hx hy
  have q : ∀ a b : List Nat, ((S a : Str) == S b) = decide (a = b) := fun a b => by rw [Bool.eq_iff_iff, beq_iff_eq, decide_eq_true_eq]; simp
  refine in_listAt (fun v => match v with | .str z _ => z == S p | _ => false) hl (fun v hv => ?_) ?_
  · simp only [List.mem_toArray, List.mem_cons, List.not_mem_nil, or_false] at hv
    rcases hv with rfl | rfl
    · exact EqAt.str_str _ _ _ _
    · exact EqAt.str_str _ _ _ _
  · have e : (#[Value.str (S a) t1, .str (S b) t2] : Array Value).any (fun v => match v with | .str z _ => z == S p | _ => false) = (decide (p = a) || decide (p = b)) := by
      simp [q]
      have f : ∀ z : List Nat, decide (z = p) = decide (p = z) := fun z => by simp [eq_comm]
      rw [f a, f b]
    rw [e]; exact h
end
end Mine

end SNI

section SPG
open PySem PySem.W PyProof.Rows PySem.Calls PySem.Spec
theorem Mine.offPG : True := by w_top off; exact trivial
namespace Mine
section
local macro_rules | `(tactic| cell_enter) => `(tactic| (refine wpAny_call ?_; refine' con_code (by assumption) ?k1 ?k2 ?k3 ?k4 ?kz ?k5 ?kA ?kF ?kK ?k6 ?k7 ?k8 ?k9 ?kB (by assumption) ?kQ ?_ ?c2 ?c3 ?c4 ?c5; (case kA => exact rfl); (case kF => exact rfl); (case kK => assumption); (case k1 => k_asm); (case k2 => k_asm); (case k3 => k_asm); (case k4 => k_asm); (case kz => assumption); (case k5 => k_asm); (case k6 => k_is); (case k7 => k_is); (case k8 => ktr_room); (case k9 => (refine' kp_binds ?kx ?ke; (case kx => k_in); (case ke => exact fun _ => rfl))); (case kQ => exact fun _ _ q => q); (case c5 => decide); (case kB => exact locs rfl); (case c2 => exact rfl); (case c3 => exact rfl); (case c4 => exact rfl); k_whole; intro g' L' h' F' N' B' X' T' l0; (try k_lt l0); (try dsimp only); (try k_fold)))
local macro_rules | `(tactic| walk_at "subscriptTail") => `(tactic| ((with_reducible show wpAny _ _ (subscriptTail _ _ (Value.str (S _) _) (Value.int _ _)) _ _ _); refine sub_S (by omega) (by omega) (by omega) ?_))
local macro_rules | `(tactic| walk_at "subscriptTail Name Name str int") => `(tactic| (refine sub_S (by omega) (by omega) (by omega) ?_))
local macro_rules | `(tactic| walk_at "compareOp In str str") => `(tactic| first | refine in_ws ?_ | refine in_punct ?_ | refine in_blank ?_ | refine in_nl ?_ | refine in_ang ?_)
local macro_rules | `(tactic| walk_at "call builtin:len") => `(tactic| refine len_S (by omega) ?_)
local macro_rules | `(tactic| walk_at "call builtin:ord") => `(tactic| refine ord_ch ?_)
local macro_rules | `(tactic| walk_at "compareOp Eq str str") => `(tactic| first
  | refine eq_ch (d := 60) (by decide : Str.ofString "<" = S [60]) ?_
  | refine eq_ch (d := 62) (by decide : Str.ofString ">" = S [62]) ?_
  | refine eq_ch (d := 10) (by decide : Str.ofString "\n" = S [10]) ?_
  | refine eq_ch (d := 13) (by decide : Str.ofString "\x0d" = S [13]) ?_
  | refine eq_ch (d := 40) (by decide : Str.ofString "(" = S [40]) ?_
  | refine eq_ch (d := 41) (by decide : Str.ofString ")" = S [41]) ?_
  | refine eq_ch (d := 92) (by decide : Str.ofString "\\" = S [92]) ?_
  | refine eq_ch (d := 0) (by decide : Str.ofString "\x00" = S [0]) ?_
  | refine eq_ch (d := 127) (by decide : Str.ofString "\x7f" = S [127]) ?_)
local macro_rules | `(tactic| walk_at "compareOp NotEq str str") => `(tactic| first
  | refine ne_ch (d := 41) (by decide : Str.ofString ")" = S [41]) ?_)
local macro_rules | `(tactic| walk_at "subscriptTail Name Slice str ref") => `(tactic| ((with_reducible show wpAny _ _ (subscriptTail _ (Expr.Slice (some _) (some _) none _) (Value.str (S _) _) _) _ _ _); (refine slice_go (s := ⟨_, _, _, _, _⟩) (by assumption) (by assumption) (by omega) (by omega) (by omega) (by omega) ?_); intro h' t' tk' F' N'))
local macro_rules | `(tactic| walk_at "ite") => `(tactic| first
  | with_reducible refine ite_tt ?_ | with_reducible refine ite_ff ?_ | with_reducible refine split_not ?_
  | with_reducible refine boolT (by with_reducible assumption) ?_ | with_reducible refine boolF (by with_reducible assumption) ?_
  | with_reducible refine decT (by omega) ?_ | with_reducible refine decF (by omega) ?_
  | (with_reducible refine split_ine ?_ ?_ <;> intro _) | (with_reducible refine split_ieq ?_ ?_ <;> intro _)
  | (with_reducible refine PyProof.Rows.split_dec ?_ ?_ <;> intro _) | (with_reducible refine PyProof.Rows.split_bool ?_ ?_ <;> intro _))
local macro_rules | `(tactic| ksw_same) => `(tactic| (intro z h2 h3; (simp only [List.forall_mem_cons, List.not_mem_nil, false_implies, implies_true, and_true, ne_eq] at h2); (simp only [List.contains_cons, List.contains_nil, Bool.or_false, Bool.or_eq_false_iff, beq_eq_false_iff_ne, ne_eq] at h3); simp only [h2, h3, if_false, List.contains_cons, List.contains_nil, Bool.or_false, Bool.or_eq_true, beq_iff_eq, or_self, or_false, false_or, Bool.false_eq_true]))
local macro_rules | `(tactic| walk_at "MPost") => `(tactic| (dsimp only [MPost]))
local macro_rules | `(tactic| walk_at "truthy str") => `(tactic| first | refine truthy_cons (by simp only [List.length_nil]; omega) ?_ | refine truthy_S (by omega) ?_)
local macro_rules | `(tactic| walk_at "binaryOp Add str str") => `(tactic| first
  | (refine add_SS (a := []) (b := _) (by decide : Str.ofString "" = S []) rfl (by simp only [List.length_nil, List.length_cons]; omega) ?_; intro t' tk')
  | (refine add_SS rfl rfl (by simp only [List.length_nil, List.length_cons, List.length_append]; omega) ?_; intro t' tk'))
local macro_rules | `(tactic| walk_at "compareOp NotIn str str") => `(tactic| refine notin_ws ?_)
local macro_rules | `(tactic| cell_enter) => `(tactic| (refine wpAny_call ?_; refine' con_codeP (by assumption) (by assumption) ?k1 ?k2 ?k3 ?k4 (by first | assumption | exact True.intro) ?kst ?k5 ?kA ?kF ?kK ?k6 ?k7 ?k8 ?k9 ?kB (by assumption) ?kQ ?_ ?c2 ?c3 ?c4 ?c5; (case kA => exact rfl); (case kF => exact rfl); (case kK => assumption); (case k1 => k_asm); (case k2 => k_asm); (case k3 => k_asm); (case k4 => k_asm); (case kst => first | exact SgAt.stays _ _ _ | exact fun _ _ _ h => h); (case k5 => k_asm); (case k6 => k_is); (case k7 => k_is); (case k8 => ktr_room); (case k9 => (refine' kp_binds ?kx ?ke; (case kx => k_in); (case ke => exact fun _ => rfl))); (case kQ => exact fun _ _ q => q); (case c5 => decide); (case kB => exact locs rfl); (case c2 => exact rfl); (case c3 => exact rfl); (case c4 => exact rfl); k_whole; intro g' L' h' F' N' B' X' T' P' l0; (try dsimp only); (try k_fold)))

theorem c_pieces (w : World) :
    ConP PySem.Challenge.rw_ci0012_02.row.prog w (hd.heap_39 w.params) 1 142 [] [] (fun _ => True) (fun v new => ∃ d items n, v = .ref d ∧ new = [(d, W.listOf items n)] ∧ PiecesAre items) := by
  k_fill
  intro p loose mean mg mb dp un gd cn cs a ccd cl outer A₀ base h₀ L m rest s Q E B F X N hz T hk hdp hun hret
  k_with_none
  have hb : BindsAre [] := trivial
  have hpi : PreIs (fun _ => True) := trivial
  k_dflt cell_enter
  clear B F X N hz T hret
  k_steps
  refine EndsP.mk _ (by assumption) (by assumption) (fun _ h => h) ⟨_, _, _, rfl, rfl, ?_⟩
  intro j h0 h1
  rcases (by omega : j = 0 ∨ j = 1 ∨ j = 2 ∨ j = 3 ∨ j = 4 ∨ j = 5 ∨ j = 6 ∨ j = 7 ∨ j = 8 ∨ j = 9 ∨ j = 10 ∨ j = 11 ∨ j = 12 ∨ j = 13 ∨ j = 14 ∨ j = 15 ∨ j = 16 ∨ j = 17 ∨ j = 18 ∨ j = 19 ∨ j = 20) with rfl | rfl | rfl | rfl | rfl | rfl | rfl | rfl | rfl | rfl | rfl | rfl | rfl | rfl | rfl | rfl | rfl | rfl | rfl | rfl | rfl <;> exact ⟨_, rfl⟩
end
end Mine

end SPG

section SNJ
open PySem PySem.W PyProof.Rows PySem.Calls PySem.Spec
set_option Elab.async false
set_option maxRecDepth 100000
set_option maxHeartbeats 4000000
namespace Mine
abbrev LNames : List Str := [Str.ofString "k", Str.ofString "number", Str.ofString "piece", Str.ofString "half"]
def LOk (k : Nat) (p0 p1 : List Nat) : Prop := Good p0 ∧ Good p1 ∧ p0.length ≤ 3 * k ∧ p1.length ≤ 3 * k
/-- a turn's end of the loop that lays the pieces -/
def LaidEnd (h₀ : Heap) (L : Addr) (s₁ : Shared) (its : List (Addr × Obj)) (P R : Addr) (lo : Obj) (m₀ : Str → Option Value) (k : Nat) (s₂ : Shared) : Prop :=
  ∃ h' tk m' p0 p1 t0 t1 n, s₂ = { s₁ with heap := h', toks := tk } ∧ Fr h₀ L h' m' ∧ (∀ z, LNames.contains z = false → m' z = m₀ z) ∧ News h₀ L h' (its ++ [(P, lstObj [.str (S p0) t0, .str (S p1) t1] n), (R, lo)]) ∧ LOk k p0 p1
def LaidPost (h₀ : Heap) (L : Addr) (s₁ : Shared) (its : List (Addr × Obj)) (P R : Addr) (lo : Obj) (m₀ : Str → Option Value) (k : Nat) (Q : Flow → Shared → Prop) (f : Flow) (s₂ : Shared) : Prop :=
  match f with
  | .ret v => Q (.ret v) s₂
  | .brk => Q .next s₂
  | _ => LaidEnd h₀ L s₁ its P R lo m₀ k s₂
theorem LaidEnd.mk {h₀ : Heap} {L : Addr} {s₁ : Shared} {its all : List (Addr × Obj)} {P R : Addr} {lo : Obj} {m₀ m' : Str → Option Value} {k : Nat} {h' : Heap} {tk n : Nat} {p0 p1 : List Nat} {t0 t1 : Tok} (F : Fr h₀ L h' m') (N : News h₀ L h' all) (hs : ∀ p ∈ its ++ [(P, lstObj [.str (S p0) t0, .str (S p1) t1] n), (R, lo)], p ∈ all)
    (hr : ∀ z, LNames.contains z = false → m' z = m₀ z) (hk : LOk k p0 p1) : LaidEnd h₀ L s₁ its P R lo m₀ k { s₁ with heap := h', toks := tk } :=
  ⟨h', tk, m', p0, p1, t0, t1, n, rfl, F, hr, fun p hp => N p (hs p hp), hk⟩
theorem fr_names {h₀ h : Heap} {L : Addr} {m m₀ : Str → Option Value} (F : Fr h₀ L h m) (hr : ∀ z, LNames.contains z = false → m z = m₀ z) : Fr h₀ L h (fun z => if LNames.contains z = true then m z else m₀ z) := by
  have e : (fun z => if LNames.contains z = true then m z else m₀ z) = m := by
    funext z
    cases q : LNames.contains z with
    | true => rw [if_pos rfl]
    | false => rw [if_neg (by decide)]; exact (hr z q).symm
  rw [e]; exact F
section
variable {prog : Program} {w : World} {A : Around} {E : Value → Shared → Prop} {s : Shared} {h₀ : Heap} {env : Env}
theorem laid_for {elts : List Expr} {kk : Nat} {pos : Pos} {body : List Stmt} {Q : Flow → Shared → Prop} {P R : Addr} {vs : List Value} {ns : List Int} {n nr : Nat} {m₀ : Str → Option Value} {all : List (Addr × Obj)} {t0 t1 : Tok}
    (hh : A.handled = none) (F : Fr h₀ env.locals s.heap m₀) (N : News h₀ env.locals s.heap all) (h1 : (P, W.listOf #[.str (Str.ofString "") t0, .str (Str.ofString "") t1] n) ∈ all) (h2 : (R, W.listOf vs.toArray nr) ∈ all) (hi : IntsAre vs ns) (hl : ns.length ≤ 18)
    (turn : ∀ (i : Nat) ti x tx p0 p1 t0 t1 n (u : Str → Option Value) h tk T I oe oi, i < 18 → LOk i p0 p1 → (@LT.lt Nat _ P I) → (@LT.lt Nat _ R I) → IsTup h T #[.int (i : Int) ti, .int x tx] → Fr h₀ env.locals h (fun z => if LNames.contains z = true then u z else m₀ z) →
      News h₀ env.locals h [(I + 1, oe), (I, oi), (P, lstObj [.str (S p0) t0, .str (S p1) t1] n), (R, W.listOf vs.toArray nr)] →
      wpAny (model prog w) A (assign (.Tuple elts kk pos) env (.ref T)) (fun _ s₂ => wpAny (model prog w) A (execs body env) (LaidPost h₀ env.locals { s with heap := h, toks := tk } [(I + 1, oe), (I, oi)] P R (W.listOf vs.toArray nr) m₀ (i + 1) Q) E s₂) E { s with heap := h, toks := tk })
    (done : ∀ p0 p1 t0 t1 n (u : Str → Option Value) h tk, LOk 18 p0 p1 → Fr h₀ env.locals h (fun z => if LNames.contains z = true then u z else m₀ z) → News h₀ env.locals h [(P, lstObj [.str (S p0) t0, .str (S p1) t1] n), (R, W.listOf vs.toArray nr)] → Q .next { s with heap := h, toks := tk }) :
    wpAny (model prog w) A (call (.type "enumerate") [.ref R]) (fun xv s₁ => wpAny (model prog w) A (pyIter xv) (fun it s₂ => TurnsAt prog w A h₀ env (.Tuple elts kk pos) body Q E it s₂) E s₁) E s := by
  have he : Str.ofString "" = S [] := by decide
  rw [he] at h1
  have h1' : (P, lstObj [.str (S []) t0, .str (S []) t1] n) ∈ all := h1
  have N2 : News h₀ env.locals s.heap [(P, lstObj [.str (S []) t0, .str (S []) t1] n), (R, W.listOf vs.toArray nr)] := fun p hp => by
    rcases List.mem_cons.mp hp with rfl | hp
    · exact N _ h1'
    · rw [List.mem_singleton.mp hp]; exact N _ h2
  refine ktu_enum hh F N2 (.tail _ (.head _)) rfl rfl rfl fun I hI => ?_
  have hPI : @LT.lt Nat _ P I := hI _ (.head _)
  have hRI : @LT.lt Nat _ R I := hI _ (.tail _ (.head _))
  have key : ∀ (vs' : List Value) (ns' : List Int), IntsAre vs' ns' → ∀ (i : Nat) (m : Str → Option Value) (p0 p1 : List Nat) (t0 t1 : Tok) (n : Nat), i + ns'.length ≤ 18 → (∀ z, LNames.contains z = false → m z = m₀ z) → LOk i p0 p1 →
      ItemsRest prog w A E h₀ env (.Tuple elts kk pos) body Q s [(I + 1, "enumerate"), (I, "list_iterator")] [(R, W.listOf vs.toArray nr)] (enumItems i vs') m [(P, lstObj [.str (S p0) t0, .str (S p1) t1] n), (R, W.listOf vs.toArray nr)] := by
    intro vs' ns' hi'
    induction hi' with
    | nil =>
      intro i m p0 p1 t0 t1 n hle hr ho
      refine ItemsRest.zero fun h tk F' N' => done p0 p1 t0 t1 n m h tk ?_ (fr_names F' hr) N'
      simp only [List.length_nil] at hle
      exact ⟨ho.1, ho.2.1, by have := ho.2.2.1; omega, by have := ho.2.2.2; omega⟩
    | cons x tx hr' ih =>
      rename_i vr nsr
      intro i m p0 p1 t0 t1 n hle hr ho
      simp only [List.length_cons] at hle
      refine ItemsRest.pair (fun T t' h tk hT F' => AllObj.cons fun oe hce => AllObj.cons fun oi hci => AllObj.nil fun N' => ?_)
      simp only [List.cons_append, List.nil_append] at N'
      have fin : ∀ s₃, LaidEnd h₀ env.locals { s with heap := h, toks := tk } [(I + 1, oe), (I, oi)] P R (W.listOf vs.toArray nr) m₀ (i + 1) s₃ →
          UnrEndW h₀ env.locals { s with heap := h, toks := tk } [(I + 1, oe), (I, oi)] (fun m' n' => SubL [(R, W.listOf vs.toArray nr)] n' ∧ ItemsRest prog w A E h₀ env (.Tuple elts kk pos) body Q s [(I + 1, "enumerate"), (I, "list_iterator")] [(R, W.listOf vs.toArray nr)] (enumItems (i + 1) vr) m' n') s₃ := by
        rintro s₃ ⟨h', tk', m', q0, q1, u0, u1, n', rfl, F'', hr'', N'', ho''⟩
        refine ⟨h', tk', m', [(P, lstObj [.str (S q0) u0, .str (S q1) u1] n'), (R, W.listOf vs.toArray nr)], rfl, F'', N'', ?_, ⟨.tail _ (.head _), trivial⟩, ih (i + 1) m' q0 q1 u0 u1 n' (by omega) hr'' ho''⟩
        intro p hp q hq
        simp only [List.mem_cons, List.not_mem_nil, or_false] at hp hq
        rcases hp with rfl | rfl <;> rcases hq with rfl | rfl
        · exact ktu_ne 1 hPI
        · exact Nat.ne_of_lt hPI
        · exact ktu_ne 1 hRI
        · exact Nat.ne_of_lt hRI
      refine wpAny_mono (turn i t' x tx p0 p1 t0 t1 n m h tk T I oe oi (by omega) ho hPI hRI hT (fr_names F' hr) N') (fun _ s₂ h₂ => wpAny_mono h₂ (fun f s₃ p => ?_) fun _ _ e => e) fun _ _ e => e
      cases f with
      | ret v => exact p
      | brk => exact p
      | next => exact fin _ p
      | cont => exact fin _ p
  exact key vs ns hi 0 m₀ [] [] t0 t1 n (by omega) (fun _ _ => rfl) ⟨Good.nil, Good.nil, by simp, by simp⟩
end
section
variable {prog : Program} {w : World} {A : Around} {E : Value → Shared → Prop} {s : Shared} {h₀ : Heap} {L P I R : Addr} {m : Str → Option Value} {all : List (Addr × Obj)} {a b v : Value} {n : Nat} {t : Tok} {Q : Unit → Shared → Prop} {oe oi lo : Obj}
theorem set_two (k : Nat) (hk : k = 0 ∨ k = 1) (F : Fr h₀ L s.heap m) (N : News h₀ L s.heap all) (hm : (P, lstObj [a, b] n) ∈ all) (h1 : (I + 1, oe) ∈ all) (h2 : (I, oi) ∈ all) (h3 : (R, lo) ∈ all) (l1 : @LT.lt Nat _ P I) (l2 : @LT.lt Nat _ R P)
    (h : ∀ h', Fr h₀ L h' m → News h₀ L h' [(I + 1, oe), (I, oi), (P, lstObj (if k = 0 then [v, b] else [a, v]) n), (R, lo)] → Q () { s with heap := h' }) : wpAny (model prog w) A (setItem (.ref P) (.int (k : Int) t) v) Q E s := by
  have N' : News h₀ L s.heap ([(I + 1, oe), (I, oi)] ++ (P, W.listOf #[a, b] n) :: [(R, lo)]) := fun p hp => by
    simp only [List.cons_append, List.nil_append, List.mem_cons, List.not_mem_nil, or_false] at hp
    rcases hp with rfl | rfl | rfl | rfl
    · exact N _ h1
    · exact N _ h2
    · exact N _ hm
    · exact N _ h3
  have z := N' (P, W.listOf #[a, b] n) (List.mem_append.mpr (.inr (.head _)))
  refine ki_setAt z.1 (by omega) (by omega) (by rcases hk with rfl | rfl <;> simp) (h _ (F.change (Heap.SameBut.update ..) z.2.1 z.2.2) ?_)
  have hpre : ∀ p ∈ [(I + 1, oe), (I, oi)], p.1 ≠ P := by
    intro p hp
    simp only [List.mem_cons, List.not_mem_nil, or_false] at hp
    rcases hp with rfl | rfl
    · exact Nat.ne_of_gt (Nat.lt_succ_of_lt l1)
    · exact Nat.ne_of_gt l1
  have hpost : ∀ p ∈ [(R, lo)], p.1 ≠ P := by
    intro p hp
    rw [List.mem_singleton.mp hp]
    exact Nat.ne_of_lt l2
  rcases hk with rfl | rfl
  · exact ki_turn (its' := #[v, b]) (n' := n) (fun x => x.setIfInBounds (((0 : Nat) : Int).toNat) v) N' hpre hpost (by rfl) (by rfl)
  · exact ki_turn (its' := #[a, v]) (n' := n) (fun x => x.setIfInBounds (((1 : Nat) : Int).toNat) v) N' hpre hpost (by rfl) (by rfl)
theorem set_p0 (F : Fr h₀ L s.heap m) (N : News h₀ L s.heap all) (hm : (P, lstObj [a, b] n) ∈ all) (h1 : (I + 1, oe) ∈ all) (h2 : (I, oi) ∈ all) (h3 : (R, lo) ∈ all) (l1 : @LT.lt Nat _ P I) (l2 : @LT.lt Nat _ R P)
    (h : ∀ h', Fr h₀ L h' m → News h₀ L h' [(I + 1, oe), (I, oi), (P, lstObj [v, b] n), (R, lo)] → Q () { s with heap := h' }) : wpAny (model prog w) A (setItem (.ref P) (.int 0 t) v) Q E s :=
  set_two 0 (.inl rfl) F N hm h1 h2 h3 l1 l2 h
theorem set_p1 (F : Fr h₀ L s.heap m) (N : News h₀ L s.heap all) (hm : (P, lstObj [a, b] n) ∈ all) (h1 : (I + 1, oe) ∈ all) (h2 : (I, oi) ∈ all) (h3 : (R, lo) ∈ all) (l1 : @LT.lt Nat _ P I) (l2 : @LT.lt Nat _ R P)
    (h : ∀ h', Fr h₀ L h' m → News h₀ L h' [(I + 1, oe), (I, oi), (P, lstObj [a, v] n), (R, lo)] → Q () { s with heap := h' }) : wpAny (model prog w) A (setItem (.ref P) (.int 1 t) v) Q E s :=
  set_two 1 (.inr rfl) F N hm h1 h2 h3 l1 l2 h
end
theorem lastL_snoc : ∀ (p : List Nat) (c : Nat), lastL (p ++ [c]) = [c] := by
  intro p c
  unfold lastL
  simp
theorem Good.appc {p : List Nat} {c : Nat} (hp : Good p) (hc : Al c) (hs : isSN c = false) : Good (p ++ [c]) := hp.app (Good.one hc) (fun _ => hs)
theorem Good.blank {p : List Nat} (hp : Good p) (h : ¬ lastL p = [10]) : Good (p ++ [32]) := hp.app (Good.one (by unfold Al; decide)) (fun e => absurd e h)
theorem Good.blankc {p : List Nat} {c : Nat} (hp : Good (p ++ [c])) (h : c ≠ 10) : Good (p ++ [c] ++ [32]) := hp.blank (by rw [lastL_snoc]; intro e; injection e with e _; exact h e)
theorem Good.after {p q : List Nat} {c : Nat} (hp : Good (p ++ [c])) (h : c ≠ 10) (hq : Good q) : Good (p ++ [c] ++ q) := hp.app hq (fun e => by rw [lastL_snoc] at e; injection e with e _; exact absurd e h)
theorem Good.angle {q : List Nat} (hq : Good q) : Good ([60] ++ q) := Good.after (p := []) (c := 60) (Good.one (by unfold Al; decide)) (by decide) hq
theorem Good.piece1 {p q : List Nat} (hp : Good p) (hq : Good q) (h : [32, 10].contains (q.getD (Int.toNat 0) 0) = false) : Good (p ++ q) := hp.app hq (fun _ => by
  have e : q.headD 0 = q.getD (Int.toNat 0) 0 := by cases q <;> rfl
  rw [e]; exact h)
theorem Good.piece2 {p q : List Nat} (hp : Good p) (hq : Good q) (h : ¬ lastL p = [10]) : Good (p ++ q) := hp.app hq (fun e => absurd e h)
theorem Al.a : Al 97 := by unfold Al; decide
theorem names_not {z : Str} (hz : LNames.contains z = false) : z ≠ Str.ofString "k" ∧ z ≠ Str.ofString "number" ∧ z ≠ Str.ofString "piece" ∧ z ≠ Str.ofString "half" := by
  simp only [LNames, List.contains_cons, List.contains_nil, Bool.or_false, Bool.or_eq_false_iff, beq_eq_false_iff_ne, ne_eq] at hz
  exact hz
end Mine

end SNJ

section SLW
open PySem PySem.W PyProof.Rows PySem.Calls PySem.Spec
set_option Elab.async false
set_option maxRecDepth 100000
set_option maxHeartbeats 4000000
namespace Mine
section
variable {prog : Program} {w : World} {A : Around} {E : Value → Shared → Prop} {s : Shared} {h₀ : Heap} {L l : Addr} {m : Str → Option Value} {news : List (Addr × Obj)} {value slice : PySem.Expr}
theorem slice_two {k : Int} {t0 t1 u : Tok} {Q : Value → Shared → Prop} {n : Nat} (F : Fr h₀ L s.heap m) (N : News h₀ L s.heap news) (hm : (l, listOf #[.int 0 t0, .int 146 t1] n) ∈ news) (k0 : 0 ≤ k) (k2 : k ≤ 2)
    (h : ∀ D h' zs, Fr h₀ L h' m → News h₀ L h' ((D, listOf (List.toArray zs) 0) :: news) → (∀ p ∈ news, p.1 < D) → IntsAre zs (([0, 146] : List Int).drop k.toNat) → Q (.ref D) { s with heap := h' })
    (hs : subscripted slice false (.ref l) (.ref s.heap.objs.size) = operate [.ref s.heap.objs.size, .ref l] (getItem (.ref l) (.ref s.heap.objs.size)) := by with_unfolding_all rfl) :
    wpAny (model prog w) A (subscriptTail value slice (.ref l) (.ref s.heap.objs.size)) Q E { s with heap := s.heap.push { cls := .type "slice", data := .fields #[.int k u, .none, .none] } } := by
  refine kba_turn (value' := PySem.Expr.Name (PySem.Str.ofString "_") ⟨0, 0, 0, 0⟩) (fun _ => rfl) ?_
  have key : ∀ zs, kms_pick [.int 0 t0, .int 146 t1] (some k) none = zs → IntsAre zs (([0, 146] : List Int).drop k.toNat) → _ := fun zs e hi =>
    kms_slice_lit (Q := Q) (E := E) (value := PySem.Expr.Name (PySem.Str.ofString "_") ⟨0, 0, 0, 0⟩) (slice := slice) (A := A) (prog := prog) (w := w) (vu := .none) (vl := .int k u) F N (⟨_, N.get hm, rfl, _, rfl⟩ : s.heap.IsList l #[.int 0 t0, .int 146 t1]) (.int k u) .none e (fun D h' F' N' l1 => h D h' zs F' N' l1 hi) hs (fun _ => rfl) (by rw [sizeLine_eq]; simp)
  rcases (show k = 0 ∨ k = 1 ∨ k = 2 by omega) with rfl | rfl | rfl
  · exact key _ rfl (.cons _ _ (.cons _ _ .nil))
  · exact key _ rfl (.cons _ _ .nil)
  · exact key _ rfl .nil
end
end Mine
namespace Mine
/-- a turn of the law's loop over a cell variable: its end -/
def CTurn (h₀ : Heap) (L I ax c : Addr) (oI oax : Obj) (ln : Str) (lv : Value) (TM : List (Addr × Obj) → Prop) (s : Shared) (Q : Flow → Shared → Prop) (f : Flow) (s₃ : Shared) : Prop :=
  match f with
  | .ret v => Q (.ret v) s₃
  | .brk => Q .next s₃
  | _ => ∃ h' tk' m' mt' v oc', s₃ = { s with heap := h', toks := tk' } ∧ Fr h₀ L h' m' ∧ m' ln = some lv ∧ News h₀ L h' ((I, oI) :: (ax, oax) :: (c, oc') :: mt') ∧ oc'.data = .cell v ∧ TM mt' ∧ (∀ p ∈ mt', p.1 ≠ I ∧ p.1 ≠ ax ∧ p.1 ≠ c)
def CFor (prog : Program) (w : World) (A : Around) (h₀ : Heap) (env : Env) (body : List Stmt) (c : Addr) (ln : Str) (lv : Value) (TM : List (Addr × Obj) → Prop) (Q : Flow → Shared → Prop) (E : Value → Shared → Prop) (xv : Value) (s₁ : Shared) : Prop :=
  ∃ ax vs ns n oc v₀ mt m, xv = .ref ax ∧ A.handled = none ∧ IntsAre vs ns ∧ Fr h₀ env.locals s₁.heap m ∧ m ln = some lv ∧ News h₀ env.locals s₁.heap ((ax, listOf (List.toArray vs) n) :: (c, oc) :: mt) ∧ oc.data = .cell v₀ ∧ TM mt ∧ ax ≠ c ∧ (∀ p ∈ mt, p.1 ≠ ax ∧ p.1 ≠ c) ∧
    (∀ k t (u : Str → Option Value) h tk mt oc I oI, TM mt → oc.data = .cell (some (.int k t)) → (@Ne Nat I ax ∧ @Ne Nat I c ∧ @Ne Nat ax c) → (∀ p ∈ mt, p.1 ≠ I ∧ p.1 ≠ ax ∧ p.1 ≠ c) → Fr h₀ env.locals h (fun z => if z = ln then some lv else u z) → News h₀ env.locals h ((I, oI) :: (ax, listOf (List.toArray vs) n) :: (c, oc) :: mt) →
      wpAny (model prog w) A (execs body env) (CTurn h₀ env.locals I ax c oI (listOf (List.toArray vs) n) ln lv TM { s₁ with heap := h, toks := tk } Q) E { s₁ with heap := h, toks := tk }) ∧
    (∀ h' tk m' mt', TM mt' → Fr h₀ env.locals h' m' → News h₀ env.locals h' mt' → Q .next { s₁ with heap := h', toks := tk })
section
variable {prog : Program} {w : World} {A : Around} {E : Value → Shared → Prop} {s : Shared} {h₀ : Heap} {env : Env}
theorem for_cell {x ln : Str} {lv : Value} {px pos : Pos} {iter : Expr} {body : List Stmt} {c : Addr} (TM : List (Addr × Obj) → Prop) {Q : Flow → Shared → Prop} {m₀ : Str → Option Value} (_F : Fr h₀ env.locals s.heap m₀) (_hm : m₀ ln = some lv)
    (hk : env.scope.kind = .function) (hl : env.kindOf x = some .cell) (hc : env.cells.lookup x = some c)
    (h : wpAny (model prog w) A (eval iter env) (CFor prog w A h₀ env body c ln lv TM Q E) E s)
    (hs : ∀ x, foldedSetIterable iter env x = pure x := by intro _; rfl)
    (hE : PassesOwn (model prog w) A env E := by passes_own) :
    wpAny (model prog w) A (exec (.For (.Name x px) iter body [] pos) env) Q E s := by
  refine wpAny_For (wpAny_mono h (fun xv s₁ h₁ => ?_) fun _ _ e => e) hs
  obtain ⟨ax, vs, ns, n, oc, v₀, mt, m, rfl, hh, hi, F, hm, N, hoc, hT, hac, hoff, turn, done⟩ := h₁
  have hl' : s₁.heap.IsList ax vs.toArray := ⟨_, (N _ (.head _)).1, rfl, _, rfl⟩
  refine wpAny_pyIter_list hl' ?_
  have hlt : ax < s₁.heap.objs.size := by obtain ⟨_, e, _⟩ := hl'; exact Heap.lt_size e
  have W := Walks.list (prog := prog) (w := w) hh s₁.heap.objs.size ax (Nat.ne_of_lt hlt) vs.toArray
  have hIL : s₁.heap.objs.size ≠ env.locals := Ne.symm (Nat.ne_of_lt F.ns.lt)
  have hI0 := next_is_new F
  refine codeAny_forLoop (R := fun r s' => match r with | .ok f => Q f s' | .error e => cameBackBy (model prog w) A env E e s')
    (fun j s' => ∃ h' tk m' mt' i oI oc' v, s' = { s₁ with heap := h', toks := tk } ∧ (h'.IsListIter s₁.heap.objs.size ax i ∧ h'.IsList ax vs.toArray) ∧ Fr h₀ env.locals h' m' ∧ m' ln = some lv ∧
      News h₀ env.locals h' ((s₁.heap.objs.size, oI) :: (ax, listOf vs.toArray n) :: (c, oc') :: mt') ∧ oc'.data = .cell v ∧ TM mt' ∧ (∀ p ∈ mt', p.1 ≠ s₁.heap.objs.size ∧ p.1 ≠ ax ∧ p.1 ≠ c) ∧ i ≤ vs.length ∧ j = vs.length + 1 - i) ?_ (vs.length + 1)
    ⟨_, _, m, mt, 0, _, oc, v₀, rfl, ⟨⟨_, Heap.get?_push_size _ rfl, rfl, rfl⟩, hl'.push _⟩, F.push _, hm, N.push F _, hoc, hT, fun p hp => ⟨Nat.ne_of_lt (Heap.lt_size (N p (.tail _ (.tail _ hp))).1), hoff p hp⟩, Nat.zero_le _, rfl⟩
  rintro j s' ⟨h', tk, m', mt', i, oI, oc', v, rfl, hst, F', hm', N', hoc', hT', hoff', hi', rfl⟩
  have cI : c ≠ s₁.heap.objs.size := Nat.ne_of_lt (Heap.lt_size (N (c, oc) (.tail _ (.head _))).1)
  have cL := (N' (c, oc') (.tail _ (.tail _ (.head _)))).2
  by_cases hlt' : i < vs.length
  · refine W.item i _ _ _ (by simpa using hlt') hst fun vv h₁ tk₁ hP hst₁ hk₁ => ?_
    have F₁ : Fr h₀ env.locals h₁ m' := LCg.fr_but F' hk₁ (Ne.symm hIL) hI0
    obtain ⟨oI₁, heI, hclsI, hdatI⟩ := hst₁.1
    have N₁ : News h₀ env.locals h₁ ((s₁.heap.objs.size, oI₁) :: (ax, listOf vs.toArray n) :: (c, oc') :: mt') := by
      intro p hp
      rcases List.mem_cons.mp hp with rfl | hp
      · exact ⟨heI, hIL, hI0⟩
      · have hne : p.1 ≠ s₁.heap.objs.size := by
          rcases List.mem_cons.mp hp with rfl | hp
          · exact Nat.ne_of_lt hlt
          · rcases List.mem_cons.mp hp with rfl | hp
            · exact cI
            · exact (hoff' p hp).1
        have := N' p (.tail _ hp)
        exact ⟨hk₁ _ _ (by simpa using hne) this.1, this.2⟩
    obtain ⟨k, t, hv, -⟩ := IntsAre.at hi i vv (by simpa using hP)
    subst hv
    refine wpAny_assign_Name (wpAny_storeName_cell hk hl hc ⟨oc', (N₁ (c, oc') (.tail _ (.tail _ (.head _)))).1, hoc'⟩ (fun h₂ hc₂ hs₂ => ?_))
    obtain ⟨oc₂, hec, hdc⟩ := hc₂
    have F₂ : Fr h₀ env.locals h₂ m' := F₁.change hs₂ cL.1 cL.2
    have N₂ : News h₀ env.locals h₂ ((s₁.heap.objs.size, oI₁) :: (ax, listOf vs.toArray n) :: (c, oc₂) :: mt') := by
      intro p hp
      rcases List.mem_cons.mp hp with rfl | hp
      · exact ⟨hs₂.extBut _ _ (Ne.symm cI) heI, hIL, hI0⟩
      · rcases List.mem_cons.mp hp with rfl | hp
        · have := N₁ _ (.tail _ (.head _)); exact ⟨hs₂.extBut _ _ hac this.1, this.2⟩
        · rcases List.mem_cons.mp hp with rfl | hp
          · exact ⟨hec, cL⟩
          · have := N₁ _ (.tail _ (.tail _ (.tail _ hp))); exact ⟨hs₂.extBut _ _ (hoff' p hp).2.2 this.1, this.2⟩
    have F₂' : Fr h₀ env.locals h₂ (fun z => if z = ln then some lv else m' z) := by
      have e : (fun z => if z = ln then some lv else m' z) = m' := by
        funext z
        by_cases hz : z = ln
        · subst hz; rw [if_pos rfl, hm']
        · rw [if_neg hz]
      rw [e]; exact F₂
    refine wpAny_mono (wpAny_passesOwn hE (turn k t m' h₂ tk₁ mt' oc₂ s₁.heap.objs.size oI₁ hT' hdc ⟨Ne.symm (Nat.ne_of_lt hlt), Ne.symm cI, hac⟩ hoff' F₂' N₂)) (fun f s₃ hq => ?_) fun _ _ e => e
    have go : (∃ h' tk' m'' mt'' v oc'', s₃ = { s₁ with heap := h', toks := tk' } ∧ Fr h₀ env.locals h' m'' ∧ m'' ln = some lv ∧ News h₀ env.locals h' ((s₁.heap.objs.size, oI₁) :: (ax, listOf vs.toArray n) :: (c, oc'') :: mt'') ∧ oc''.data = .cell v ∧ TM mt'' ∧ (∀ p ∈ mt'', p.1 ≠ s₁.heap.objs.size ∧ p.1 ≠ ax ∧ p.1 ≠ c)) →
        ∃ j', j' < vs.length + 1 - i ∧ ∃ h' tk m' mt' i oI oc' v, s₃ = { s₁ with heap := h', toks := tk } ∧ (h'.IsListIter s₁.heap.objs.size ax i ∧ h'.IsList ax vs.toArray) ∧ Fr h₀ env.locals h' m' ∧ m' ln = some lv ∧
      News h₀ env.locals h' ((s₁.heap.objs.size, oI) :: (ax, listOf vs.toArray n) :: (c, oc') :: mt') ∧ oc'.data = .cell v ∧ TM mt' ∧ (∀ p ∈ mt', p.1 ≠ s₁.heap.objs.size ∧ p.1 ≠ ax ∧ p.1 ≠ c) ∧ i ≤ vs.length ∧ j' = vs.length + 1 - i := by
      rintro ⟨h₃, tk₃, m₃, mt₃, v₃, oc₃, rfl, F₃, hm₃, N₃, hoc₃, hT₃, hoff₃⟩
      exact ⟨vs.length + 1 - (i + 1), by omega, h₃, tk₃, m₃, mt₃, i + 1, oI₁, oc₃, v₃, rfl, ⟨⟨oI₁, (N₃ _ (.head _)).1, hclsI, hdatI⟩, ⟨_, (N₃ _ (.tail _ (.head _))).1, rfl, _, rfl⟩⟩, F₃, hm₃, N₃, hoc₃, hT₃, hoff₃, hlt', rfl⟩
    cases f with
    | ret v => exact hq
    | brk => exact hq
    | cont => exact go hq
    | next => exact go hq
  · have hin : i = vs.length := by omega
    subst hin
    refine W.done _ _ _ (by simpa using hst) fun h₁ tk₁ hk₁ => wpAny_execs_nil ?_
    exact done h₁ tk₁ m' mt' hT' (LCg.fr_but F' hk₁ (Ne.symm hIL) hI0) fun p hp => by
      have := N' p (.tail _ (.tail _ (.tail _ hp)))
      exact ⟨hk₁ _ _ (by simpa using (hoff' p hp).1) this.1, this.2⟩
end
end Mine
namespace Mine
theorem CFor.intro {prog : Program} {w : World} {A : Around} {h₀ : Heap} {env : Env} {body : List Stmt} {c ax : Addr} {ln : Str} {lv : Value} {TM : List (Addr × Obj) → Prop} {Q : Flow → Shared → Prop} {E : Value → Shared → Prop} {s₁ : Shared}
    {vs : List Value} {ns : List Int} {n : Nat} {oc : Obj} {v₀ : Option Value} {m : Str → Option Value} {all : List (Addr × Obj)} (mt : List (Addr × Obj)) (hh : A.handled = none) (hi : IntsAre vs ns) (F : Fr h₀ env.locals s₁.heap m) (hm : m ln = some lv)
    (N : News h₀ env.locals s₁.heap all) (h1 : (ax, listOf (List.toArray vs) n) ∈ all) (h2 : (c, oc) ∈ all) (h3 : ∀ p ∈ mt, p ∈ all) (hoc : oc.data = .cell v₀) (hT : TM mt) (hne : @Ne Nat ax c) (hoff : ∀ p ∈ mt, @Ne Nat p.1 ax ∧ @Ne Nat p.1 c)
    (turn : ∀ k t (u : Str → Option Value) h tk mt oc I oI, TM mt → oc.data = .cell (some (.int k t)) → (@Ne Nat I ax ∧ @Ne Nat I c ∧ @Ne Nat ax c) → (∀ p ∈ mt, p.1 ≠ I ∧ p.1 ≠ ax ∧ p.1 ≠ c) → Fr h₀ env.locals h (fun z => if z = ln then some lv else u z) → News h₀ env.locals h ((I, oI) :: (ax, listOf (List.toArray vs) n) :: (c, oc) :: mt) →
      wpAny (model prog w) A (execs body env) (CTurn h₀ env.locals I ax c oI (listOf (List.toArray vs) n) ln lv TM { s₁ with heap := h, toks := tk } Q) E { s₁ with heap := h, toks := tk })
    (done : ∀ h' tk m' mt', TM mt' → Fr h₀ env.locals h' m' → News h₀ env.locals h' mt' → Q .next { s₁ with heap := h', toks := tk }) : CFor prog w A h₀ env body c ln lv TM Q E (.ref ax) s₁ :=
  ⟨ax, vs, ns, n, oc, v₀, mt, m, rfl, hh, hi, F, hm, fun p hp => by
    rcases List.mem_cons.mp hp with rfl | hp
    · exact N _ h1
    · rcases List.mem_cons.mp hp with rfl | hp
      · exact N _ h2
      · exact N _ (h3 p hp), hoc, hT, hne, hoff, turn, done⟩
theorem lim_le (x : Int) : 1 ≤ 1 + x.fmod 5 ∧ 1 + x.fmod 5 ≤ 5 := by
  have h1 := Int.fmod_nonneg_of_pos x (show (0 : Int) < 5 by decide)
  have h2 := Int.fmod_lt_of_pos x (show (0 : Int) < 5 by decide)
  omega
end Mine
namespace Mine
open PyProof.Rows.LCg
theorem ints_snoc {vs : List Value} {ds : List Int} {d : Int} {t : Tok} (hv : IntsAre vs ds) : IntsAre (vs ++ [.int d t]) (ds ++ [d]) := by
  induction hv with
  | nil => exact .cons _ _ .nil
  | cons n t _ ih => exact .cons n t ih
theorem fm9 (x : Int) : 0 ≤ x.fmod 9 ∧ x.fmod 9 < 9 := ⟨Int.fmod_nonneg_of_pos x (by decide), Int.fmod_lt_of_pos x (by decide)⟩
theorem fm9n (x : Int) : (x.fmod 9).toNat ≤ 8 := by have := fm9 x; omega
theorem fm8 (x : Int) : 0 ≤ x.fmod 8 ∧ x.fmod 8 < 8 := ⟨Int.fmod_nonneg_of_pos x (by decide), Int.fmod_lt_of_pos x (by decide)⟩
def RowD (news : List (Addr × Obj)) (y : Value) (news' : List (Addr × Obj)) : Prop := news' = news ∧ ∃ d t, y = .int d t ∧ 0 ≤ d ∧ d < 8
theorem RowD.mk {news : List (Addr × Obj)} {d : Int} {t : Tok} : RowD news (.int (d.fmod 8) t) news := ⟨rfl, _, _, rfl, fm8 d⟩
section
variable {prog : Program} {w : World} {A : Around} {E : Value → Shared → Prop} {s : Shared} {h₀ : Heap} {L : Addr} {m : Str → Option Value} {env : Env}
theorem draws_range {r : Addr} {b : Int} {t u v : Tok} (hh : A.handled = none) (hr : IsRange s.heap r 0 b 1 t u v) (h0 : 0 ≤ b) (h9 : b < 9) : DrawsOf prog w A (.ref r) b.toNat (fun i v => ∃ t, v = .int (0 + (i : Int)) t) s := by
  intro Q E hQ
  have hn : Builtin.Range.rangeSize 0 b 1 = ((b.toNat : Nat) : Int) := by
    rcases (show b = 0 ∨ b = 1 ∨ b = 2 ∨ b = 3 ∨ b = 4 ∨ b = 5 ∨ b = 6 ∨ b = 7 ∨ b = 8 by omega) with rfl | rfl | rfl | rfl | rfl | rfl | rfl | rfl | rfl <;> rfl
  have hsm : Builtin.Range.small 0 b 1 = true := by
    rcases (show b = 0 ∨ b = 1 ∨ b = 2 ∨ b = 3 ∨ b = 4 ∨ b = 5 ∨ b = 6 ∨ b = 7 ∨ b = 8 by omega) with rfl | rfl | rfl | rfl | rfl | rfl | rfl | rfl | rfl <;> rfl
  refine wpAny_pyIter_range hr hsm (hQ _ _ (range_walks hh 0 b.toNat) (fun i h st => ⟨_, st⟩) ?_)
  show IsRangeIter _ _ _ _ _
  rw [hn]; simpa using Heap.get?_push_size _ rfl
theorem turnsD {elt : Expr} {x : Str} {scope : Scope} {cl : List (Str × Addr)} {Fin : List Value → List (Addr × Obj) → Prop} {news : List (Addr × Obj)} {n : Nat} (hn : n ≤ 8)
    (turn : ∀ k t I oI C oC D m₂ ys h tk (E' : Value → Shared → Prop), 0 ≤ k → k < 8 → NsObj oC m₂ → m₂ x = some (.int k t) → Fr h₀ L h m → News h₀ L h ((I, oI) :: (C, oC) :: (D, lst ys) :: news) → Off3 I C D news → ((@Ne Nat I C) ∧ (@Ne Nat I D) ∧ (@Ne Nat C D)) →
      wpAny (model prog w) A (eval elt (compEnvC scope cl C env)) (CompEnd h₀ L m { s with heap := h, toks := tk } I oI C oC D (lst ys) (fun _ => True) (RowD news)) E' { s with heap := h, toks := tk })
    (fin : ∀ vs ds, IntsAre vs ds → ds.length ≤ 8 → (∀ d ∈ ds, 0 ≤ d ∧ d < 8) → Fin vs news) : CompRest prog w A h₀ L m env elt x scope cl s (fun _ => True) (fun i v => ∃ t, v = .int (0 + (i : Int)) t) Fin n 0 [] news := by
  have key : ∀ (j i : Nat) (vs : List Value) (ds : List Int), i + j = n → IntsAre vs ds → ds.length = i → (∀ d ∈ ds, 0 ≤ d ∧ d < 8) → CompRest prog w A h₀ L m env elt x scope cl s (fun _ => True) (fun i v => ∃ t, v = .int (0 + (i : Int)) t) Fin j i vs news := by
    intro j
    induction j with
    | zero => intro i vs ds hi hv hl hd; exact CompRest.zero (fin vs ds hv (by omega) hd)
    | succ j ih =>
      intro i vs ds hi hv hl hd
      refine CompRest.succ ?_
      intro v I oI C oC D m₂ h tk E' hv' hC hx F N off ne
      obtain ⟨t, rfl⟩ := hv'
      refine wpAny_mono (turn (0 + (i : Int)) t I oI C oC D m₂ vs h tk E' (by omega) (by omega) hC hx F N off ne) (fun y s₂ hq => ?_) fun _ _ e => e
      obtain ⟨h', tk', nw, e, F', N', off', hS, hn', d, t', rfl, hd0, hd8⟩ := hq
      rw [hn'] at N' off'
      refine ⟨h', tk', news, e, F', N', off', hS, ?_⟩
      refine ih (i + 1) _ (ds ++ [d]) (by omega) ?_ (by simp [hl]) ?_
      · exact ints_snoc hv
      · intro d' hd'
        rcases List.mem_append.mp hd' with h | h
        · exact hd d' h
        · rw [List.mem_singleton.mp h]; exact ⟨hd0, hd8⟩
  exact key n 0 [] [] (by omega) .nil rfl (fun d hd => nomatch hd)
theorem SrcG.range {elt : Expr} {x : Str} {scope : Scope} {cl : List (Str × Addr)} {Fin : Shared → List Value → List (Addr × Obj) → Prop} {r : Addr} {k : Int} {t u v : Tok} {news : List (Addr × Obj)} {s₁ : Shared}
    (hh : A.handled = none) (F : Fr h₀ L s₁.heap m) (N : News h₀ L s₁.heap news) (hr : IsRange s₁.heap r 0 (k.fmod 9) 1 t u v)
    (h : ∀ g, CompRest prog w A h₀ L m env elt x scope cl { s₁ with heap := g } (fun _ => True) (fun i v => ∃ t, v = .int (0 + (i : Int)) t) (Fin { s₁ with heap := g }) (k.fmod 9).toNat 0 [] news) :
    SrcG prog w A h₀ L m env elt x scope cl Fin (.ref r) s₁ := ⟨_, _, news, F, N, by have := fm9 k; rw [sizeLine_eq]; omega, draws_range hh hr (fm9 k).1 (fm9 k).2, fun _ ⟨g, e⟩ => e ▸ h g⟩
end
end Mine
namespace Mine
/-- what the law's inner loop carries: the word, the target, the level, whether it is a link, the place -/
structure DSt where
  word : List Nat
  targ : List Nat
  lev : Int
  link : Bool
  place : Int
def pieceL (k : Int) : List Nat := if k = 0 then [40] else if k = 1 then [41] else if k = 2 then [97] else if k = 3 then [92, 40] else if k = 4 then [92, 41] else if k = 5 then [91] else if k = 6 then [40] else [41]
def targL (k : Int) : List Nat := if k = 0 then [40] else if k = 1 then [41] else if k = 2 then [97] else if k = 3 then [40] else if k = 4 then [41] else if k = 5 then [37, 53, 66] else if k = 6 then [40] else [41]
/-- one digit's turn -/
def digG (lim : Int) (a : DSt) (k : Int) : DSt :=
  let w := a.word ++ pieceL k
  let b : DSt :=
    if a.place < 0 ∧ a.link = true then
      (if pieceL k = [40] then { a with lev := a.lev + 1, link := decide (a.lev + 1 ≤ lim) }
       else if pieceL k = [41] ∧ a.lev = 0 then { a with place := a.word.length + 2 }
       else if pieceL k = [41] then { a with lev := a.lev - 1 } else a)
    else a
  { b with word := w, targ := if b.place < 0 then a.targ ++ targL k else a.targ }
def digs0 : DSt := ⟨[97], [97], 0, true, -1⟩
def DFrm (a : DSt) (t1 t2 t3 t5 : Tok) (u m₀ : Str → Option Value) (z : Str) : Option Value :=
  if z = Str.ofString "word" then some (.str (S a.word) t1) else if z = Str.ofString "target" then some (.str (S a.targ) t2) else if z = Str.ofString "level" then some (.int a.lev t3) else if z = Str.ofString "link" then some (.bool a.link)
  else if z = Str.ofString "place" then some (.int a.place t5) else if [Str.ofString "digit", Str.ofString "piece"].contains z then u z else m₀ z
def DRel (a : DSt) (m₀ m : Str → Option Value) : Prop := ∃ t1 t2 t3 t5 u, m = DFrm a t1 t2 t3 t5 u m₀
theorem DRel.mk {a : DSt} {m₀ m : Str → Option Value} {t1 t2 t3 t5 : Tok} (h1 : m (Str.ofString "word") = some (.str (S a.word) t1)) (h2 : m (Str.ofString "target") = some (.str (S a.targ) t2)) (h3 : m (Str.ofString "level") = some (.int a.lev t3))
    (h4 : m (Str.ofString "link") = some (.bool a.link)) (h5 : m (Str.ofString "place") = some (.int a.place t5))
    (hr : ∀ z, z ≠ Str.ofString "word" → z ≠ Str.ofString "target" → z ≠ Str.ofString "level" → z ≠ Str.ofString "link" → z ≠ Str.ofString "place" → [Str.ofString "digit", Str.ofString "piece"].contains z = false → m z = m₀ z) : DRel a m₀ m := by
  refine ⟨t1, t2, t3, t5, m, ?_⟩
  funext z
  unfold DFrm
  by_cases e1 : z = Str.ofString "word"
  · rw [if_pos e1, e1, h1]
  · rw [if_neg e1]
    by_cases e2 : z = Str.ofString "target"
    · rw [if_pos e2, e2, h2]
    · rw [if_neg e2]
      by_cases e3 : z = Str.ofString "level"
      · rw [if_pos e3, e3, h3]
      · rw [if_neg e3]
        by_cases e4 : z = Str.ofString "link"
        · rw [if_pos e4, e4, h4]
        · rw [if_neg e4]
          by_cases e5 : z = Str.ofString "place"
          · rw [if_pos e5, e5, h5]
          · rw [if_neg e5]
            cases e6 : [Str.ofString "digit", Str.ofString "piece"].contains z
            · rw [if_neg (by decide)]; exact hr z e1 e2 e3 e4 e5 e6
            · rw [if_pos rfl]
theorem digG_word (lim : Int) (a : DSt) (k : Int) : (digG lim a k).word = a.word ++ pieceL k := rfl
theorem pieceL_le (k : Int) : (pieceL k).length ≤ 2 := by unfold pieceL; (repeat' split) <;> simp
theorem targL_le (k : Int) : (targL k).length ≤ 3 := by unfold targL; (repeat' split) <;> simp
theorem digG_targ (lim : Int) (a : DSt) (k : Int) : (digG lim a k).targ.length ≤ a.targ.length + 3 := by
  have := targL_le k
  have key : ∀ p : Prop, [Decidable p] → (if p then a.targ ++ targL k else a.targ).length ≤ a.targ.length + 3 := by
    intro p _
    split
    · rw [List.length_append]; omega
    · omega
  exact key _
theorem fold_len (lim : Int) : ∀ (ds : List Int) (a : DSt), (ds.foldl (digG lim) a).word.length ≤ a.word.length + 2 * ds.length ∧ (ds.foldl (digG lim) a).targ.length ≤ a.targ.length + 3 * ds.length := by
  intro ds
  induction ds with
  | nil => intro a; simp
  | cons k r ih =>
    intro a
    have h1 := ih (digG lim a k)
    have h2 := digG_targ lim a k
    have h3 := pieceL_le k
    rw [digG_word, List.length_append] at h1
    simp only [List.foldl_cons, List.length_cons]
    omega
section
variable {prog : Program} {w : World} {A : Around} {E : Value → Shared → Prop} {s : Shared} {h₀ : Heap} {env : Env}
theorem dig_iter {x : Str} {body : List Stmt} {Q : Flow → Shared → Prop} {D : Addr} {vs : List Value} {ds : List Int} {n : Nat} {m₀ : Str → Option Value} {all : List (Addr × Obj)} {t1 t2 t3 t5 : Tok} (lim : Int) (rest : List (Addr × Obj))
    (hh : A.handled = none) (F : Fr h₀ env.locals s.heap m₀) (N : News h₀ env.locals s.heap all) (hD : (D, listOf (List.toArray vs) n) ∈ all) (hrest : ∀ p ∈ rest, p ∈ all) (hne : ∀ p ∈ rest, @Ne Nat p.1 D) (hi : IntsAre vs ds) (hl : ds.length ≤ 8) (hd : ∀ d ∈ ds, 0 ≤ d ∧ d < 8)
    (h1 : m₀ (Str.ofString "word") = some (.str (Str.ofString "a") t1)) (h2 : m₀ (Str.ofString "target") = some (.str (Str.ofString "a") t2)) (h3 : m₀ (Str.ofString "level") = some (.int 0 t3)) (h4 : m₀ (Str.ofString "link") = some (.bool true)) (h5 : m₀ (Str.ofString "place") = some (.int (-1) t5))
    (turn : ∀ k t (a : DSt) t1 t2 t3 t5 (u : Str → Option Value) h tk own, 0 ≤ k → k < 8 → a.word.length ≤ 17 → a.targ.length ≤ 25 → Fr h₀ env.locals h (fun y => if y = x then some (.int k t) else DFrm a t1 t2 t3 t5 u m₀ y) → News h₀ env.locals h (rest ++ own) →
      wpAny (model prog w) A (execs body env) (InvPostN h₀ env.locals (fun m nx => nx = rest ∧ DRel (digG lim a k) m₀ m) own (rest.map (·.1)) { s with heap := h, toks := tk } Q) E { s with heap := h, toks := tk })
    (done : ∀ t1 t2 t3 t5 (u : Str → Option Value) h tk, (ds.foldl (digG lim) digs0).word.length ≤ 17 → (ds.foldl (digG lim) digs0).targ.length ≤ 25 → Fr h₀ env.locals h (DFrm (ds.foldl (digG lim) digs0) t1 t2 t3 t5 u m₀) → News h₀ env.locals h rest → Q .next { s with heap := h, toks := tk }) :
    wpAny (model prog w) A (pyIter (.ref D)) (fun it s₂ => LoopAtV prog w A h₀ env x body Q E it s₂) E s := by
  have hls : s.heap.IsList D vs.toArray := ⟨_, (N _ hD).1, rfl, _, rfl⟩
  have hlt : D < s.heap.objs.size := by obtain ⟨_, e, _⟩ := hls; exact Heap.lt_size e
  have Nr : News h₀ env.locals s.heap rest := fun p hp => N p (hrest p hp)
  have bound : ∀ i, i ≤ ds.length → ((ds.take i).foldl (digG lim) digs0).word.length ≤ 17 ∧ ((ds.take i).foldl (digG lim) digs0).targ.length ≤ 25 := by
    intro i hi'
    have := fold_len lim (ds.take i) digs0
    rw [List.length_take, Nat.min_eq_left hi'] at this
    have e1 : digs0.word.length = 1 := rfl
    have e2 : digs0.targ.length = 1 := rfl
    omega
  refine wpAny_pyIter_list hls ?_
  refine loop_invN (fun i m nx => nx = rest ∧ DRel ((ds.take i).foldl (digG lim) digs0) m₀ m) (Walks.list (prog := prog) (w := w) hh s.heap.objs.size D (Nat.ne_of_lt hlt) vs.toArray) ?_ ?_ ?_ ?_ ⟨⟨_, Heap.get?_push_size _ rfl, rfl, rfl⟩, hls.push _⟩ (F.push _) (Nr.grown fun _ _ e => Heap.get?_push_of_some _ e) ⟨rfl, DRel.mk h1 h2 h3 h4 h5 fun _ _ _ _ _ _ _ => rfl⟩ ?_ ?_
  · intro hm
    rcases List.mem_cons.mp hm with e | hm
    · exact absurd F.ns.lt (e ▸ Nat.lt_irrefl _)
    · exact (N _ hD).2.1 (List.mem_singleton.mp hm).symm
  · intro b hb; rw [List.mem_singleton.mp hb]; exact next_is_new F
  · intro p hp hI
    exact absurd (Heap.lt_size (Nr p hp).1) ((List.mem_singleton.mp hI) ▸ Nat.lt_irrefl _)
  · intro p hp hI
    rcases List.mem_cons.mp hI with e | hI
    · exact absurd (Heap.lt_size (Nr p hp).1) (e ▸ Nat.lt_irrefl _)
    · exact hne p hp (List.mem_singleton.mp hI)
  · rintro i v m₁ nx h tk own hin hP - hoff ⟨rfl, hR⟩ F₁ N₁
    have hin' : i < vs.length := by simpa using hin
    obtain ⟨k, t, hv, hk⟩ := IntsAre.at hi i v (by simpa using hP)
    subst hv
    obtain ⟨t1, t2, t3, t5, u, rfl⟩ := hR
    have hb := bound i (by have := hi.length; omega)
    have hs : (ds.take (i + 1)).foldl (digG lim) digs0 = digG lim ((ds.take i).foldl (digG lim) digs0) k := by
      rw [List.take_add_one, hk]; simp
    rw [hs]
    exact turn k t _ t1 t2 t3 t5 u h tk own (hd k (List.mem_of_getElem? hk)).1 (hd k (List.mem_of_getElem? hk)).2 hb.1 hb.2 F₁ N₁
  · rintro m₁ nx h tk ⟨rfl, hR⟩ F₁ N₁
    have e : (ds.take vs.toArray.size) = ds := by rw [List.size_toArray, hi.length, List.take_length]
    rw [e] at hR
    obtain ⟨t1, t2, t3, t5, u, rfl⟩ := hR
    have hb := bound ds.length (Nat.le_refl _)
    rw [List.take_length] at hb
    exact done t1 t2 t3 t5 u h tk hb.1 hb.2 F₁ N₁
/-- a turn's end -/
theorem dig_end {L : Addr} {a : DSt} {m₀ m' : Str → Option Value} {rest own all : List (Addr × Obj)} {h' : Heap} {tk : Nat} {t1 t2 t3 t5 : Tok} {Q : Flow → Shared → Prop} (F : Fr h₀ L h' m') (N : News h₀ L h' all) (hs : ∀ p ∈ rest ++ own, p ∈ all)
    (h1 : m' (Str.ofString "word") = some (.str (S a.word) t1)) (h2 : m' (Str.ofString "target") = some (.str (S a.targ) t2)) (h3 : m' (Str.ofString "level") = some (.int a.lev t3))
    (h4 : m' (Str.ofString "link") = some (.bool a.link)) (h5 : m' (Str.ofString "place") = some (.int a.place t5))
    (hr : ∀ z, z ≠ Str.ofString "word" → z ≠ Str.ofString "target" → z ≠ Str.ofString "level" → z ≠ Str.ofString "link" → z ≠ Str.ofString "place" → [Str.ofString "digit", Str.ofString "piece"].contains z = false → m' z = m₀ z) :
    InvPostN h₀ L (fun m nx => nx = rest ∧ DRel a m₀ m) own (rest.map (·.1)) s Q .next { s with heap := h', toks := tk } :=
  InvEndN.intro F N ⟨rfl, DRel.mk h1 h2 h3 h4 h5 hr⟩ rfl (fun p hp => hs p (List.mem_append_left _ hp)) (fun p hp => hs p (List.mem_append_right _ hp))
end
end Mine
namespace Mine
open PyProof.Rows.LCg
theorem Off1.mem {D : Addr} : ∀ {l : List (Addr × Obj)}, Off1 D l → ∀ p ∈ l, p.1 ≠ D
  | [], _, _, h => nomatch h
  | _ :: _, x, p, h => by
    rcases List.mem_cons.mp h with rfl | h
    · exact x.1
    · exact Off1.mem x.2 p h
theorem dig_iter3 {prog : Program} {w : World} {A : Around} {E : Value → Shared → Prop} {s : Shared} {h₀ : Heap} {env : Env} {x : Str} {body : List Stmt} {Q : Flow → Shared → Prop} {D I ax c : Addr} {oI oax oc : Obj} {cmt : List (Addr × Obj)} {vs : List Value} {ds : List Int} {n : Nat} {m₀ : Str → Option Value} {all : List (Addr × Obj)} {t1 t2 t3 t5 tl : Tok} {lim : Int}
    (hoff : ∀ p ∈ cmt, p.1 ≠ I ∧ p.1 ≠ ax ∧ p.1 ≠ c) (hh : A.handled = none) (F : Fr h₀ env.locals s.heap m₀) (N : News h₀ env.locals s.heap all) (hD : (D, listOf (List.toArray vs) n) ∈ all) (hI : (I, oI) ∈ all) (hax : (ax, oax) ∈ all) (hc : (c, oc) ∈ all) (hsub : ∀ p ∈ cmt, p ∈ all)
    (ho1 : (@Ne Nat I D) ∧ (@Ne Nat ax D) ∧ (@Ne Nat c D) ∧ Off1 D cmt) (hi : IntsAre vs ds) (hl : ds.length ≤ 8) (hd : ∀ d ∈ ds, 0 ≤ d ∧ d < 8) (_hlim : m₀ (Str.ofString "limit") = some (.int lim tl))
    (h1 : m₀ (Str.ofString "word") = some (.str (Str.ofString "a") t1)) (h2 : m₀ (Str.ofString "target") = some (.str (Str.ofString "a") t2)) (h3 : m₀ (Str.ofString "level") = some (.int 0 t3)) (h4 : m₀ (Str.ofString "link") = some (.bool true)) (h5 : m₀ (Str.ofString "place") = some (.int (-1) t5))
    (turn : ∀ k t (a : DSt) t1 t2 t3 t5 (u : Str → Option Value) h tk own, 0 ≤ k → k < 8 → a.word.length ≤ 17 → a.targ.length ≤ 25 → Fr h₀ env.locals h (fun y => if y = x then some (.int k t) else DFrm a t1 t2 t3 t5 u m₀ y) → News h₀ env.locals h ((I, oI) :: (ax, oax) :: (c, oc) :: (cmt ++ own)) →
      wpAny (model prog w) A (execs body env) (InvPostN h₀ env.locals (fun m nx => nx = (I, oI) :: (ax, oax) :: (c, oc) :: cmt ∧ DRel (digG lim a k) m₀ m) own (((I, oI) :: (ax, oax) :: (c, oc) :: cmt).map (·.1)) { s with heap := h, toks := tk } Q) E { s with heap := h, toks := tk })
    (done : ∀ t1 t2 t3 t5 (u : Str → Option Value) h tk, (ds.foldl (digG lim) digs0).word.length ≤ 17 → (ds.foldl (digG lim) digs0).targ.length ≤ 25 → Fr h₀ env.locals h (DFrm (ds.foldl (digG lim) digs0) t1 t2 t3 t5 u m₀) → News h₀ env.locals h ((I, oI) :: (ax, oax) :: (c, oc) :: cmt) → Q .next { s with heap := h, toks := tk }) :
    wpAny (model prog w) A (pyIter (.ref D)) (fun it s₂ => LoopAtV prog w A h₀ env x body Q E it s₂) E s := by
  refine dig_iter lim ((I, oI) :: (ax, oax) :: (c, oc) :: cmt) hh F N hD ?_ ?_ hi hl hd h1 h2 h3 h4 h5 turn done
  · exact List.forall_mem_cons.mpr ⟨hI, List.forall_mem_cons.mpr ⟨hax, List.forall_mem_cons.mpr ⟨hc, hsub⟩⟩⟩
  · exact List.forall_mem_cons.mpr ⟨ho1.1, List.forall_mem_cons.mpr ⟨ho1.2.1, List.forall_mem_cons.mpr ⟨ho1.2.2.1, Off1.mem ho1.2.2.2⟩⟩⟩
end Mine
namespace Mine
section
variable {prog : Program} {w : World} {A : Around} {E : Value → Shared → Prop} {s : Shared}
theorem item_tab {value slice : Expr} {l : Addr} {items : Array Value} {k : Int} {u : Tok} {Q : Value → Shared → Prop} (f : Int → List Nat) (hl : s.heap.IsList l items) (hit : ∀ j : Int, 0 ≤ j → j < 8 → ∃ t, items[j.toNat]? = some (.str (S (f j)) t)) (h0 : 0 ≤ k) (h8 : k < 8)
    (h : ∀ t, Q (.str (S (f k)) t) s) (hs : subscripted slice false (.ref l) (.int k u) = operate [.ref l, .int k u] (getItem (.ref l) (.int k u)) := by with_unfolding_all rfl) :
    wpAny (model prog w) A (subscriptTail value slice (.ref l) (.int k u)) Q E s := by
  refine kba_turn (value' := PySem.Expr.Name (PySem.Str.ofString "_") ⟨0, 0, 0, 0⟩) (fun _ => rfl) ?_
  obtain ⟨t, ht⟩ := hit k h0 h8
  exact item_list hl h0 (by omega) ht (h t) hs (fun _ => rfl)
theorem eq_SL {a b : List Nat} {y : Str} {t u : Tok} {Q : Value → Shared → Prop} (hy : y = S b) (h : Q (.bool (decide (a = b))) s) : wpAny (model prog w) A (compareOp .Eq (.str (S a) t) (.str y u)) Q E s := by
  subst hy
  refine eq_str ?_
  have e : ((S a : Str) == S b) = decide (a = b) := by
    rw [Bool.eq_iff_iff, beq_iff_eq, decide_eq_true_eq]; simp
  rw [e]; exact h
theorem iadd_SS {x y : Str} {a b : List Nat} {t u : Tok} {Q : Value → Shared → Prop} (hx : x = S a) (hy : y = S b) (hl : a.length + b.length ≤ 2 ^ 22) (h : ∀ t' tk, Q (.str (S (a ++ b)) t') { s with toks := tk }) : wpAny (model prog w) A (inplaceOp .Add (.str x t) (.str y u)) Q E s := by
  subst hx hy
  refine PyProof.Rows.iadd_str (fun t' tk => ?_) (by rw [S_len, S_len, sizeLine_eq]; omega)
  have e : S a ++ S b = S (a ++ b) := by show Str.append _ _ = _; simp [Str.append, S]
  rw [e]; exact h t' tk
end
theorem eight {P : Int → Prop} (h0 : P 0) (h1 : P 1) (h2 : P 2) (h3 : P 3) (h4 : P 4) (h5 : P 5) (h6 : P 6) (h7 : P 7) : ∀ j : Int, 0 ≤ j → j < 8 → P j := by
  intro j a b
  rcases (show j = 0 ∨ j = 1 ∨ j = 2 ∨ j = 3 ∨ j = 4 ∨ j = 5 ∨ j = 6 ∨ j = 7 by omega) with rfl | rfl | rfl | rfl | rfl | rfl | rfl | rfl <;> assumption
end Mine
namespace Mine
theorem dig_end2 {L : Addr} {lim k : Int} {a : DSt} (b : DSt) {m₀ m' : Str → Option Value} {rest own all : List (Addr × Obj)} {h' : Heap} {tk : Nat} {t1 t2 t3 t5 : Tok} {h₀ : Heap} {s : Shared} {Q : Flow → Shared → Prop} (F : Fr h₀ L h' m') (N : News h₀ L h' all) (hs : ∀ p ∈ rest ++ own, p ∈ all)
    (h1 : m' (Str.ofString "word") = some (.str (S b.word) t1)) (h2 : m' (Str.ofString "target") = some (.str (S b.targ) t2)) (h3 : m' (Str.ofString "level") = some (.int b.lev t3))
    (h4 : m' (Str.ofString "link") = some (.bool b.link)) (h5 : m' (Str.ofString "place") = some (.int b.place t5)) (he : digG lim a k = b)
    (hr : ∀ z, z ≠ Str.ofString "word" → z ≠ Str.ofString "target" → z ≠ Str.ofString "level" → z ≠ Str.ofString "link" → z ≠ Str.ofString "place" → [Str.ofString "digit", Str.ofString "piece"].contains z = false → m' z = m₀ z) :
    InvPostN h₀ L (fun m nx => nx = rest ∧ DRel (digG lim a k) m₀ m) own (rest.map (·.1)) s Q .next { s with heap := h', toks := tk } := by
  rw [he]; exact dig_end F N hs h1 h2 h3 h4 h5 hr
section
variable {lim k : Int} {a : DSt}
theorem dg_1 (x : a.place < 0) (y : a.link = true) (p : pieceL k = [40]) : digG lim a k = ⟨a.word ++ pieceL k, a.targ ++ targL k, a.lev + 1, decide (a.lev + 1 ≤ lim), a.place⟩ := by
  simp [digG, x, y, p]
theorem dg_2 (x : a.place < 0) (y : a.link = true) (p : ¬ pieceL k = [40]) (q : pieceL k = [41]) (z : a.lev = 0) : digG lim a k = ⟨a.word ++ pieceL k, a.targ, a.lev, a.link, a.word.length + 2⟩ := by
  have n : ¬ ((a.word.length : Int) + 2 < 0) := by omega
  simp [digG, x, y, q, z, n]
theorem dg_3 (x : a.place < 0) (y : a.link = true) (p : ¬ pieceL k = [40]) (q : pieceL k = [41]) (z : ¬ a.lev = 0) : digG lim a k = ⟨a.word ++ pieceL k, a.targ ++ targL k, a.lev - 1, a.link, a.place⟩ := by
  simp [digG, x, y, q, z]
theorem dg_4 (x : a.place < 0) (y : a.link = true) (p : ¬ pieceL k = [40]) (q : ¬ pieceL k = [41]) : digG lim a k = ⟨a.word ++ pieceL k, a.targ ++ targL k, a.lev, a.link, a.place⟩ := by
  simp [digG, x, y, p, q]
theorem dg_5 (x : a.place < 0) (y : a.link = false) : digG lim a k = ⟨a.word ++ pieceL k, a.targ ++ targL k, a.lev, a.link, a.place⟩ := by
  simp [digG, x, y]
theorem dg_6 (x : ¬ a.place < 0) : digG lim a k = ⟨a.word ++ pieceL k, a.targ, a.lev, a.link, a.place⟩ := by
  simp [digG, x]
end
end Mine

end SLW

section SPH
open PySem PySem.W PyProof.Rows PySem.Calls PySem.Spec
theorem Mine.offPH : True := by w_top off; exact trivial
namespace Mine
section
local macro_rules | `(tactic| cell_enter) => `(tactic| (refine wpAny_call ?_; refine' con_code (by assumption) ?k1 ?k2 ?k3 ?k4 ?kz ?k5 ?kA ?kF ?kK ?k6 ?k7 ?k8 ?k9 ?kB (by assumption) ?kQ ?_ ?c2 ?c3 ?c4 ?c5; (case kA => exact rfl); (case kF => exact rfl); (case kK => assumption); (case k1 => k_asm); (case k2 => k_asm); (case k3 => k_asm); (case k4 => k_asm); (case kz => assumption); (case k5 => k_asm); (case k6 => k_is); (case k7 => k_is); (case k8 => ktr_room); (case k9 => (refine' kp_binds ?kx ?ke; (case kx => k_in); (case ke => exact fun _ => rfl))); (case kQ => exact fun _ _ q => q); (case c5 => decide); (case kB => exact locs rfl); (case c2 => exact rfl); (case c3 => exact rfl); (case c4 => exact rfl); k_whole; intro g' L' h' F' N' B' X' T' l0; (try k_lt l0); (try dsimp only); (try k_fold)))
local macro_rules | `(tactic| walk_at "subscriptTail") => `(tactic| ((with_reducible show wpAny _ _ (subscriptTail _ _ (Value.str (S _) _) (Value.int _ _)) _ _ _); refine sub_S (by omega) (by omega) (by omega) ?_))
local macro_rules | `(tactic| walk_at "subscriptTail Name Name str int") => `(tactic| (refine sub_S (by omega) (by omega) (by omega) ?_))
local macro_rules | `(tactic| walk_at "compareOp In str str") => `(tactic| first | refine in_ws ?_ | refine in_punct ?_ | refine in_blank ?_ | refine in_nl ?_ | refine in_ang ?_)
local macro_rules | `(tactic| walk_at "call builtin:len") => `(tactic| refine len_S (by omega) ?_)
local macro_rules | `(tactic| walk_at "call builtin:ord") => `(tactic| refine ord_ch ?_)
local macro_rules | `(tactic| walk_at "compareOp Eq str str") => `(tactic| first
  | refine eq_ch (d := 60) (by decide : Str.ofString "<" = S [60]) ?_
  | refine eq_ch (d := 62) (by decide : Str.ofString ">" = S [62]) ?_
  | refine eq_ch (d := 10) (by decide : Str.ofString "\n" = S [10]) ?_
  | refine eq_ch (d := 13) (by decide : Str.ofString "\x0d" = S [13]) ?_
  | refine eq_ch (d := 40) (by decide : Str.ofString "(" = S [40]) ?_
  | refine eq_ch (d := 41) (by decide : Str.ofString ")" = S [41]) ?_
  | refine eq_ch (d := 92) (by decide : Str.ofString "\\" = S [92]) ?_
  | refine eq_ch (d := 0) (by decide : Str.ofString "\x00" = S [0]) ?_
  | refine eq_ch (d := 127) (by decide : Str.ofString "\x7f" = S [127]) ?_)
local macro_rules | `(tactic| walk_at "compareOp NotEq str str") => `(tactic| first
  | refine ne_ch (d := 41) (by decide : Str.ofString ")" = S [41]) ?_)
local macro_rules | `(tactic| walk_at "subscriptTail Name Slice str ref") => `(tactic| ((with_reducible show wpAny _ _ (subscriptTail _ (Expr.Slice (some _) (some _) none _) (Value.str (S _) _) _) _ _ _); (refine slice_go (s := ⟨_, _, _, _, _⟩) (by assumption) (by assumption) (by omega) (by omega) (by omega) (by omega) ?_); intro h' t' tk' F' N'))
local macro_rules | `(tactic| walk_at "ite") => `(tactic| first
  | with_reducible refine ite_tt ?_ | with_reducible refine ite_ff ?_ | with_reducible refine split_not ?_
  | with_reducible refine boolT (by with_reducible assumption) ?_ | with_reducible refine boolF (by with_reducible assumption) ?_
  | with_reducible refine decT (by omega) ?_ | with_reducible refine decF (by omega) ?_
  | (with_reducible refine split_ine ?_ ?_ <;> intro _) | (with_reducible refine split_ieq ?_ ?_ <;> intro _)
  | (with_reducible refine PyProof.Rows.split_dec ?_ ?_ <;> intro _) | (with_reducible refine PyProof.Rows.split_bool ?_ ?_ <;> intro _))
local macro_rules | `(tactic| ksw_same) => `(tactic| (intro z h2 h3; (simp only [List.forall_mem_cons, List.not_mem_nil, false_implies, implies_true, and_true, ne_eq] at h2); (simp only [List.contains_cons, List.contains_nil, Bool.or_false, Bool.or_eq_false_iff, beq_eq_false_iff_ne, ne_eq] at h3); simp only [h2, h3, if_false, List.contains_cons, List.contains_nil, Bool.or_false, Bool.or_eq_true, beq_iff_eq, or_self, or_false, false_or, Bool.false_eq_true]))
local macro_rules | `(tactic| walk_at "MPost") => `(tactic| (dsimp only [MPost]))
local macro_rules | `(tactic| walk_at "truthy str") => `(tactic| first | refine truthy_cons (by simp only [List.length_nil]; omega) ?_ | refine truthy_S (by omega) ?_)
local macro_rules | `(tactic| walk_at "binaryOp Add str str") => `(tactic| first
  | (refine add_SS (a := []) (b := _) (by decide : Str.ofString "" = S []) rfl (by simp only [List.length_nil, List.length_cons]; omega) ?_; intro t' tk')
  | (refine add_SS rfl rfl (by simp only [List.length_nil, List.length_cons, List.length_append]; omega) ?_; intro t' tk'))
local macro_rules | `(tactic| walk_at "compareOp NotIn str str") => `(tactic| refine notin_ws ?_)

local macro_rules | `(tactic| walk_at "call type:enumerate") => `(tactic| ((with_reducible show wpAny _ _ (call (Value.type _) [Value.ref _]) (fun xv s₁ => wpAny _ _ (pyIter xv) (fun it s₂ => TurnsAt _ _ _ _ _ _ _ _ _ it s₂) _ s₁) _ _); k_dflt (focus (refine' laid_for ?hh ?F ?N ?h1 ?h2 ?hi ?hl ?_ ?_; (case hh => rfl); (case F => assumption); (case N => assumption); (case h1 => k_mem); (case h2 => k_mem); (case hi => assumption); (case hl => assumption); all_goals (first | (intro i' ti' x' tx' p0' p1' t0' t1' n' u' h' tk' T' I' oe' oi' hi18' hok' hPI' hRI' hT' F' N'; (try dsimp only [envOf] at F' N'); (have hok2' := hok'); (obtain ⟨hg0', hg1', hl0', hl1'⟩ := hok2')) | (intro p0' p1' t0' t1' n' u' h' tk' hok' F' N'; (try dsimp only [envOf] at F' N'); (obtain ⟨hg0', hg1', hl0', hl1'⟩ := hok')))))))
local macro_rules | `(tactic| walk_at "exec For Tuple Call cons nil") => `(tactic| (k_dflt (refine For_turns (by assumption) ?_)))
local macro_rules | `(tactic| walk_at "binaryOp Add str str") => `(tactic| (first
  | (refine add_SS (by with_reducible exact rfl) (by with_reducible exact rfl) (by (try simp only [List.length_append, List.length_cons, List.length_nil]); omega) ?_; intro t' tk')
  | (refine add_SS (b := [41]) (by with_reducible exact rfl) (by decide : Str.ofString ")" = S [41]) (by (try simp only [List.length_append, List.length_cons, List.length_nil]); omega) ?_; intro t' tk')
  | (refine add_SS (b := []) (by with_reducible exact rfl) (by decide : Str.ofString "" = S []) (by (try simp only [List.length_append, List.length_cons, List.length_nil]); omega) ?_; intro t' tk')
  | (refine add_SS (b := [97]) (by with_reducible exact rfl) (by decide : Str.ofString "a" = S [97]) (by (try simp only [List.length_append, List.length_cons, List.length_nil]); omega) ?_; intro t' tk')
  | (refine add_SS (b := [32]) (by with_reducible exact rfl) (by decide : Str.ofString " " = S [32]) (by (try simp only [List.length_append, List.length_cons, List.length_nil]); omega) ?_; intro t' tk')
  | (refine add_SS (b := [39]) (by with_reducible exact rfl) (by decide : Str.ofString "'" = S [39]) (by (try simp only [List.length_append, List.length_cons, List.length_nil]); omega) ?_; intro t' tk')
  | (refine add_SS (b := [34]) (by with_reducible exact rfl) (by decide : Str.ofString "\"" = S [34]) (by (try simp only [List.length_append, List.length_cons, List.length_nil]); omega) ?_; intro t' tk')
  | (refine add_SS (b := [62]) (by with_reducible exact rfl) (by decide : Str.ofString ">" = S [62]) (by (try simp only [List.length_append, List.length_cons, List.length_nil]); omega) ?_; intro t' tk')
  | (refine add_SS (a := [60]) (by decide : Str.ofString "<" = S [60]) (by with_reducible exact rfl) (by (try simp only [List.length_append, List.length_cons, List.length_nil]); omega) ?_; intro t' tk')))
local macro_rules | `(tactic| walk_at "subscriptTail") => `(tactic| ((with_reducible show wpAny _ _ (subscriptTail _ (Expr.Slice (some _) none none _) (Value.str (S _) _) _) _ _ _); k_dflt (refine' slice_last (s := ⟨_, _, _, _, _⟩) (by assumption) (by assumption) ?hz ?_ ?hs; (case hs => with_unfolding_all rfl); (case hz => first | omega | (simp only [List.length_append, List.length_cons, List.length_nil]; omega))); intro h' t' k' F' N'))
local macro_rules | `(tactic| walk_at "compareOp In str ref") => `(tactic| (refine in_two (a := []) (b := [32]) (News.isList (by assumption) (by k_mem)) (by decide) (by decide) ?_))
local macro_rules | `(tactic| walk_at "compareOp In str str") => `(tactic| (refine in_ch (L := [32, 10]) (by decide) ?_))
local macro_rules | `(tactic| walk_at "compareOp Eq str str") => `(tactic| (refine eq_SL (b := [10]) (by decide : Str.ofString "\n" = S [10]) ?_))
local macro_rules | `(tactic| walk_at "subscriptTail") => `(tactic| ((with_reducible show wpAny _ _ (subscriptTail _ _ (Value.ref _) (Value.int (Int.fmod _ 21) _)) _ _ _); k_dflt (refine piece_item (News.isList (by assumption) (by k_mem)) (by assumption) (fm21 _).1 (fm21 _).2 ?_); intro tpi hgp hlp1 hlp2))
local macro_rules | `(tactic| walk_at "setItem ref int") => `(tactic| (k_dflt (first
  | ((with_reducible show wpAny _ _ (setItem (Value.ref _) (Value.int 0 _) _) _ _ _); refine' set_p0 ?F ?N ?hm ?h1 ?h2 ?h3 ?l1 ?l2 ?_; (case F => assumption); (case N => assumption); (case hm => k_mem); (case l1 => assumption); (case l2 => assumption); (case h1 => k_mem); (case h2 => k_mem); (case h3 => k_mem); intro h' F' N')
  | ((with_reducible show wpAny _ _ (setItem (Value.ref _) (Value.int 1 _) _) _ _ _); refine' set_p1 ?F ?N ?hm ?h1 ?h2 ?h3 ?l1 ?l2 ?_; (case F => assumption); (case N => assumption); (case hm => k_mem); (case l1 => assumption); (case l2 => assumption); (case h1 => k_mem); (case h2 => k_mem); (case h3 => k_mem); intro h' F' N'))))
theorem c_laid (w : World) (R : Addr) (vs : List Value) (ns : List Int) (nr : Nat) (form : Int) (tf : Tok) (hi : IntsAre vs ns) (hl : ns.length ≤ 18) (hf0 : 0 ≤ form) (hf1 : form ≤ 3) :
    Con PySem.Challenge.rw_ci0012_02.row.prog w (hd.heap_39 w.params) 2 194 [.ref R, .int form tf] [] [(R, W.listOf vs.toArray nr)] (fun v new mt' => (∃ T t, v = .str (S T) t ∧ Good T ∧ T.length ≤ 200) ∧ new = [] ∧ mt' = [(R, W.listOf vs.toArray nr)]) := by
  k_fill
  intro p loose mean mg mb dp un gd cn cs a ccd cl outer A₀ base h₀ L m rest s Q E B F X N hz T hk hdp hun hret
  k_with_none
  k_with "call ref" => (refine ConP.use (c_pieces w) (by assumption) (by assumption) (by assumption) (by assumption) True.intro (by assumption) (by first | assumption | rfl) (by ktr_room) (by ktr_units) ?_; rintro v h' tk' new ⟨d9, it9, n9, rfl, rfl, hp9⟩ hne F' N'; (try simp only [List.nil_append, List.cons_append] at N'))
  have hb : BindsAre [(Str.ofString "row", .ref R), (Str.ofString "form", .int form tf)] := trivial
  k_dflt cell_enter
  clear B F X N hz T hret
  k_steps
  any_goals (first | (show LaidEnd _ _ _ _ _ _ _ _ _ _) | skip)
  all_goals first
    | (refine LaidEnd.mk (by assumption) (by assumption) (fun _ h => h) (by intro z hz; have hz2 := names_not hz; obtain ⟨e1, e2, e3, e4⟩ := hz2; simp only [e1, e2, e3, e4, hz, if_false, Bool.false_eq_true]) ⟨(by first | exact Good.appc (by assumption) Al.a (by decide) | exact Good.piece1 (by assumption) (by assumption) (by assumption) | exact Good.piece2 (by assumption) (by assumption) (by assumption)), (by assumption), (by first | omega | (simp only [List.length_append, List.length_cons, List.length_nil]; omega)), (by first | omega | (simp only [List.length_append, List.length_cons, List.length_nil]; omega))⟩)
    | (refine LaidEnd.mk (by assumption) (by assumption) (fun _ h => h) (by intro z hz; have hz2 := names_not hz; obtain ⟨e1, e2, e3, e4⟩ := hz2; simp only [e1, e2, e3, e4, hz, if_false, Bool.false_eq_true]) ⟨(by assumption), (by first | exact Good.appc (by assumption) Al.a (by decide) | exact Good.piece1 (by assumption) (by assumption) (by assumption) | exact Good.piece2 (by assumption) (by assumption) (by assumption)), (by first | omega | (simp only [List.length_append, List.length_cons, List.length_nil]; omega)), (by first | omega | (simp only [List.length_append, List.length_cons, List.length_nil]; omega))⟩)
    | (refine Ends.mk [] [(R, W.listOf vs.toArray nr)] (by assumption) (by assumption) (by intro p hp; rw [List.nil_append, List.mem_singleton] at hp; subst hp; k_mem) ⟨⟨_, _, rfl, ?_, by simp only [List.length_append, List.length_cons, List.length_nil]; omega⟩, rfl, rfl⟩
       repeat' (first | assumption | exact Good.nil | refine Good.appc ?_ (by unfold Al; decide) (by decide) | refine Good.blankc ?_ (by decide) | refine Good.blank ?_ (by assumption) | refine Good.after ?_ (by decide) ?_ | refine Good.angle ?_ | refine Good.app ?_ Good.nil (fun _ => rfl) | (exfalso; omega)))
end
end Mine

end SPH

section SLE
open PySem PySem.W PyProof.Rows PySem.Calls PySem.Spec
set_option Elab.async false
set_option maxRecDepth 100000
set_option maxHeartbeats 4000000
namespace Mine
/-- two values compared by one model -/
def EqM (prog : Program) (w : World) (A : Around) (s : Shared) (x y : Value) (b : Bool) : Prop :=
  ∀ (E : Value → Shared → Prop) (Q : Bool → Shared → Prop), Q b s → wpAny (model prog w) A (eqBool x y) Q E s
section
variable {prog : Program} {w : World} {A : Around} {E : Value → Shared → Prop} {s : Shared} {a b : Addr} {x1 x2 y1 y2 : Value} {b1 b2 : Bool}
theorem EqM.of {x y : Value} {c : Bool} (h : PySem.SeqAt.EqAt A s x y c) : EqM prog w A s x y c := fun E Q hq => h prog w E Q hq
theorem EqM.int {i j : Int} {t u : Tok} : EqM prog w A s (.int i t) (.int j u) (i == j) := EqM.of (PySem.SeqAt.EqAt.int_int i t j u)
theorem EqM.none : EqM prog w A s .none .none true := EqM.of (PySem.SeqAt.EqAt.same _)
theorem EqM.refs {l b : Addr} {k : Bool} (hne : @Ne Nat l b) (h : ∀ (E : Value → Shared → Prop) (Q : Value → Shared → Prop), Q (.bool k) s → wpAny (model prog w) A (compareOp .Eq (.ref l) (.ref b)) Q E s) : EqM prog w A s (.ref l) (.ref b) k := fun E Q hq => by
  unfold eqBool
  refine wpAny_holding ?_
  refine wpAny_ite_split (fun hab => absurd (by have := eq_of_beq hab; injection this) hne) (fun _ => ?_)
  exact wpAny_bind (h E _ (wpAny_truthy_bool hq))
theorem eq_pair {Q : Value → Shared → Prop} (ha : s.heap.get? a = some (tupObj [x1, x2])) (hb : s.heap.get? b = some (tupObj [y1, y2])) (hu : A.units < cLine)
    (h1 : EqM prog w A.in1 s x1 y1 b1) (h2 : b1 = true → EqM prog w A.in1 s x2 y2 b2) (h : Q (.bool (b1 && b2)) s) : wpAny (model prog w) A (compareOp .Eq (.ref a) (.ref b)) Q E s := by
  refine wpAny_richCompare_same_room (op := .Eq) ⟨_, ha, rfl⟩ ⟨_, hb, rfl⟩ PySem.F.slot_tuple_eq (wpAny_call_entry PySem.F.slot_tuple_eq ⟨_, ha, rfl⟩ PySem.F.entry_tuple_eq ?_ (PySem.F.args_tuple_eq_2 _ _)) hu
  show wpAny _ _ (isInstance (.ref b) (.type "tuple") >>= _) _ _ s
  refine wpAny_bind (wpAny_isInstance (T := "tuple") ⟨_, hb, rfl⟩ isSubtype_tuple_tuple ?_)
  simp only [Bool.not_true, Bool.false_eq_true, if_false]
  refine wpAny_bind (wpAny_tupleItemsOf ha rfl ?_)
  refine wpAny_bind (wpAny_tupleItemsOf hb rfl ?_)
  refine wpAny_bind ?_
  simp only [List.zip_cons_cons, List.zip_nil_right, List.forIn_cons, List.forIn_nil]
  refine wpAny_bind (wpAny_bind (h1 _ _ ?_))
  cases b1 with
  | false =>
    simp only [Bool.not_false, if_true]
    exact wpAny_bind (wpAny_pure (wpAny_pure (wpAny_pure (wpAny_pure ⟨_, rfl, (fun x => nomatch x), h⟩))))
  | true =>
    simp only [Bool.not_true, Bool.false_eq_true, if_false]
    refine wpAny_pure ?_
    refine wpAny_bind (wpAny_bind (h2 rfl _ _ ?_))
    cases b2 with
    | false =>
      simp only [Bool.not_false, if_true]
      exact wpAny_bind (wpAny_pure (wpAny_pure (wpAny_pure (wpAny_pure ⟨_, rfl, (fun x => nomatch x), h⟩))))
    | true =>
      simp only [Bool.not_true, Bool.false_eq_true, if_false]
      exact wpAny_pure (wpAny_pure (wpAny_pure ⟨_, rfl, (fun x => nomatch x), h⟩))
theorem ne_pair {Q : Value → Shared → Prop} (ha : s.heap.get? a = some (tupObj [x1, x2])) (hb : s.heap.get? b = some (tupObj [y1, y2])) (hu : A.units < cLine)
    (h1 : EqM prog w A.in1 s x1 y1 b1) (h2 : b1 = true → EqM prog w A.in1 s x2 y2 b2) (h : Q (.bool (!(b1 && b2))) s) : wpAny (model prog w) A (compareOp .NotEq (.ref a) (.ref b)) Q E s := by
  refine wpAny_richCompare_same_room (op := .NotEq) ⟨_, ha, rfl⟩ ⟨_, hb, rfl⟩ PySem.F.slot_tuple_ne (wpAny_call_entry PySem.F.slot_tuple_ne ⟨_, ha, rfl⟩ PySem.F.entry_tuple_ne ?_ (PySem.F.args_tuple_ne_2 _ _)) hu
  show wpAny _ _ (isInstance (.ref b) (.type "tuple") >>= _) _ _ s
  refine wpAny_bind (wpAny_isInstance (T := "tuple") ⟨_, hb, rfl⟩ isSubtype_tuple_tuple ?_)
  simp only [Bool.not_true, Bool.false_eq_true, if_false]
  refine wpAny_bind (wpAny_tupleItemsOf ha rfl ?_)
  refine wpAny_bind (wpAny_tupleItemsOf hb rfl ?_)
  refine wpAny_bind ?_
  simp only [List.zip_cons_cons, List.zip_nil_right, List.forIn_cons, List.forIn_nil]
  refine wpAny_bind (wpAny_bind (h1 _ _ ?_))
  cases b1 with
  | false =>
    simp only [Bool.not_false, if_true]
    exact wpAny_bind (wpAny_pure (wpAny_pure (wpAny_pure (wpAny_pure ⟨_, rfl, (fun x => nomatch x), h⟩))))
  | true =>
    simp only [Bool.not_true, Bool.false_eq_true, if_false]
    refine wpAny_pure ?_
    refine wpAny_bind (wpAny_bind (h2 rfl _ _ ?_))
    cases b2 with
    | false =>
      simp only [Bool.not_false, if_true]
      exact wpAny_bind (wpAny_pure (wpAny_pure (wpAny_pure (wpAny_pure ⟨_, rfl, (fun x => nomatch x), h⟩))))
    | true =>
      simp only [Bool.not_true, Bool.false_eq_true, if_false]
      exact wpAny_pure (wpAny_pure (wpAny_pure ⟨_, rfl, (fun x => nomatch x), h⟩))
end

theorem dict_rows (u a : List Nat) : KeqRows (dictD u a) (dictD u a) true := by
  unfold dictD
  split
  · have := KeqRows.hit (Db := [(PyData.str (Str.ofString "url"), PyData.str (S u))]) (k := .str (Str.ofString "url")) (v := .str (S u)) (u := .str (S u)) (r := []) (b := true) (by rfl) .nil
    simpa [PyData.eqv] using this
  · have := KeqRows.hit (Db := [(PyData.str (Str.ofString "url"), PyData.str (S u)), (PyData.str (Str.ofString "title"), PyData.str (S a))]) (k := .str (Str.ofString "url")) (v := .str (S u)) (u := .str (S u)) (by rfl)
      (KeqRows.hit (k := .str (Str.ofString "title")) (v := .str (S a)) (u := .str (S a)) (r := []) (b := true) (by rfl) .nil)
    simpa [PyData.eqv] using this
section
variable {prog : Program} {w : World} {A : Around} {E : Value → Shared → Prop} {s : Shared}
theorem EqM.links {d d2 : Addr} {od od2 : Obj} {u a : List Nat} (hd : s.heap.get? d = some od) (hd2 : s.heap.get? d2 = some od2) (lo : (d == sysModules) = false) (lo2 : (d2 == sysModules) = false) (h1 : LinkObj prog w od u a) (h2 : LinkObj prog w od2 u a) (hne : @Ne Nat d d2) (hu : A.units < cLine) :
    EqM prog w A s (.ref d) (.ref d2) true := by
  refine EqM.refs hne fun E Q hq => ?_
  obtain ⟨ps, hi, hf⟩ := h1
  obtain ⟨ps2, hi2, hf2⟩ := h2
  exact keq_tabs (knd := PySem.strKind _ _) (enc := PyData.str) PyProof.V.same_str ⟨lo, ps, Heap.dictOf_iff.mpr ⟨od, hd, hi⟩, hf⟩ ⟨lo2, ps2, Heap.dictOf_iff.mpr ⟨od2, hd2, hi2⟩, hf2⟩ rfl hu (dict_rows u a) hq
end
end Mine
namespace Mine
theorem LinkObj.yesX {prog : Program} {w : World} {od : Obj} {u a : List Nat} {x : Str} {t1 t2 t3 : Tok} (hd : Obj.IsDictOf (strKind prog w) od (stored (strPairs [(Value.str (Str.ofString "url") t1, Value.str (S u) t2)]) (Str.ofString "title") (Value.str x t3)))
    (hf : PyProof.V.FlatPairs PyData.str (stored (strPairs [(Value.str (Str.ofString "url") t1, Value.str (S u) t2)]) (Str.ofString "title") (Value.str x t3)) (PyProof.V.putD (PyData.str (Str.ofString "title")) (PyData.str x) (strData [(Value.str (Str.ofString "url") t1, Value.str (S u) t2)]))) (hx : x = S a) (ha : a.isEmpty = false) : LinkObj prog w od u a := by
  subst hx; exact LinkObj.yes hd hf ha
section
variable {prog : Program} {w : World} {A : Around} {E : Value → Shared → Prop} {s : Shared} {a b : Addr} {x1 x2 y1 y2 : Value} {Q : Value → Shared → Prop}
theorem EqM.int_same {i : Int} {t u : Tok} : EqM prog w A s (.int i t) (.int i u) true := by
  have := EqM.int (prog := prog) (w := w) (A := A) (s := s) (i := i) (j := i) (t := t) (u := u)
  rwa [beq_self_eq_true] at this
theorem ne_pair_same (ha : s.heap.get? a = some (tupObj [x1, x2])) (hb : s.heap.get? b = some (tupObj [y1, y2])) (hu : A.units < cLine) (h1 : EqM prog w A.in1 s x1 y1 true) (h2 : EqM prog w A.in1 s x2 y2 true) (h : Q (.bool false) s) :
    wpAny (model prog w) A (compareOp .NotEq (.ref a) (.ref b)) Q E s := ne_pair ha hb hu h1 (fun _ => h2) h
end
end Mine

end SLE

section SQA
open PySem PySem.W PyProof.Rows PySem.Calls PySem.Spec
set_option Elab.async false
set_option maxRecDepth 100000
set_option maxHeartbeats 4000000
namespace Mine
def flat1 (x : Nat × Bool) : List Nat := if x.2 = true then [92, x.1] else [x.1]
def flat : Sg → List Nat
  | [] => []
  | x :: r => flat1 x ++ flat r
theorem flat_app : ∀ a b : Sg, flat (a ++ b) = flat a ++ flat b
  | [], b => rfl
  | x :: r, b => by simp [flat, flat_app r b]
def sz1 (x : Nat × Bool) : Nat := if x.2 = true then 2 else 1
theorem flat1_len (x : Nat × Bool) : (flat1 x).length = sz1 x := by unfold flat1 sz1; split <;> rfl
theorem flat_signs : ∀ (n : Nat) (T : List Nat), T.length ≤ n → flat (signsA T) = T := by
  intro n
  induction n with
  | zero =>
    intro T h
    have : T = [] := List.length_eq_zero_iff.mp (by omega)
    subst this
    rw [signsA]; rfl
  | succ n ih =>
    intro T h
    cases T with
    | nil => rw [signsA]; rfl
    | cons c r =>
      simp only [List.length_cons] at h
      rw [signsA]
      split
      · rename_i hc
        have hr : r = r.headD 0 :: r.tail := by
          cases r with
          | nil => exact absurd rfl hc.2.1
          | cons d q => rfl
        have hc' := eq_of_beq hc.1
        show flat1 (r.headD 0, true) ++ flat (signsA r.tail) = c :: r
        rw [ih r.tail (by simp; omega)]
        show 92 :: r.headD 0 :: r.tail = c :: r
        rw [← hr, hc']
      · show flat1 (c, false) ++ flat (signsA r) = c :: r
        rw [ih r (by omega)]; rfl
/-- signs that a text gives -/
def WF : Sg → Prop
  | [] => True
  | x :: r => (x.2 = true → isPunct x.1 = true) ∧ (x = (92, false) → isPunct ((flat r).headD 0) = false) ∧ Al x.1 ∧ WF r
theorem al_punct {c : Nat} (h : Al c) (hn : nx c = false) : isPunct c = true := by
  unfold Al at h
  rw [List.contains_iff_mem] at h
  simp only [List.mem_cons, List.not_mem_nil, or_false] at h
  rcases h with rfl | rfl | rfl | rfl | rfl | rfl | rfl | rfl | rfl | rfl | rfl | rfl | rfl | rfl <;> first | rfl | (exact absurd hn (by decide))
theorem al_nx {c : Nat} (hn : nx c = true) : isPunct c = false := by
  unfold nx at hn
  rw [List.contains_iff_mem] at hn
  simp only [List.mem_cons, List.not_mem_nil, or_false] at hn
  rcases hn with rfl | rfl | rfl | rfl <;> rfl
theorem wf_signs : ∀ (n : Nat) (T : List Nat), T.length ≤ n → (∀ c ∈ T, Al c) → WF (signsA T) := by
  intro n
  induction n with
  | zero =>
    intro T h _
    have : T = [] := List.length_eq_zero_iff.mp (by omega)
    subst this
    rw [signsA]; trivial
  | succ n ih =>
    intro T h ha
    cases T with
    | nil => rw [signsA]; trivial
    | cons c r =>
      simp only [List.length_cons] at h
      rw [signsA]
      split
      · rename_i hc
        have hr : r = r.headD 0 :: r.tail := by
          cases r with
          | nil => exact absurd rfl hc.2.1
          | cons d q => rfl
        have hm : r.headD 0 ∈ c :: r := by
          rw [hr]; simp
        refine ⟨(fun _ => al_punct (ha _ hm) hc.2.2), (fun e => by injection e with _ e2; exact absurd e2 (by decide)), ha _ hm, ih r.tail (by simp; omega) fun d hd => ha d ?_⟩
        exact List.mem_cons_of_mem _ (List.mem_of_mem_tail hd)
      · rename_i hc
        refine ⟨(fun e => absurd e (by simp)), (fun e => ?_), ha c (.head _), ih r (by omega) fun d hd => ha d (.tail _ hd)⟩
        rw [flat_signs _ r (Nat.le_refl _)]
        have e1 : c = 92 := by injection e
        cases hr : r with
        | nil => rfl
        | cons d q =>
          have : nx d = true := by
            cases hn : nx d with
            | true => rfl
            | false => exact absurd ⟨by rw [e1]; rfl, by rw [hr]; simp, by rw [hr]; exact hn⟩ hc
          exact al_nx this
/-- the place in the text of the k-th sign -/
def posN (B : Nat) (sg : Sg) (k : Nat) : Nat := B + (flat (sg.take k)).length
theorem posN_zero (B : Nat) (sg : Sg) : posN B sg 0 = B := by simp [posN, flat]
section
variable {B : Nat} {sg : Sg} {k : Nat}
theorem take_succS (h : k < sg.length) : sg.take (k + 1) = sg.take k ++ [sg.getD k (0, false)] := by
  rw [List.take_add_one]; simp [List.getD, h]
theorem posN_succ (h : k < sg.length) : posN B sg (k + 1) = posN B sg k + sz1 (sg.getD k (0, false)) := by
  unfold posN
  rw [take_succS h, flat_app, List.length_append]
  have : (flat [sg.getD k (0, false)]).length = sz1 (sg.getD k (0, false)) := by simp [flat, flat1_len]
  omega
theorem posN_of_le (h : sg.length ≤ k) : posN B sg k = posN B sg sg.length := by
  unfold posN; rw [List.take_of_length_le h, List.take_of_length_le (Nat.le_refl _)]
theorem drop_pos {P : List Nat} (k : Nat) : (P ++ flat sg).drop (posN P.length sg k) = flat (sg.drop k) := by
  have e : P ++ flat sg = (P ++ flat (sg.take k)) ++ flat (sg.drop k) := by
    rw [List.append_assoc, ← flat_app, List.take_append_drop]
  rw [e]
  have : posN P.length sg k = (P ++ flat (sg.take k)).length := by simp [posN]
  rw [this, List.drop_left]
theorem WF.get : ∀ {sg : Sg} {k : Nat}, WF sg → k < sg.length → ((sg.getD k (0, false)).2 = true → isPunct (sg.getD k (0, false)).1 = true) ∧ (sg.getD k (0, false) = (92, false) → isPunct ((flat (sg.drop (k + 1))).headD 0) = false) ∧ Al (sg.getD k (0, false)).1
  | [], _, _, h => absurd h (by simp)
  | x :: r, 0, w, _ => ⟨w.1, w.2.1, w.2.2.1⟩
  | x :: r, k + 1, w, h => by
    have := WF.get (k := k) w.2.2.2 (by simpa using h)
    simpa using this
end
/-- a text that is its signs behind a prefix -/
structure Lay (l : List Nat) (B : Nat) (sg : Sg) : Prop where
  one : ∀ k, k < sg.length → (sg.getD k (0, false)).2 = false → l.getD (posN B sg k) 0 = (sg.getD k (0, false)).1
  two : ∀ k, k < sg.length → (sg.getD k (0, false)).2 = true → l.getD (posN B sg k) 0 = 92 ∧ l.getD (posN B sg k + 1) 0 = (sg.getD k (0, false)).1 ∧ isPunct (sg.getD k (0, false)).1 = true
  bs : ∀ k, k < sg.length → sg.getD k (0, false) = (92, false) → isPunct (l.getD (posN B sg k + 1) 0) = false
  al : ∀ k, k < sg.length → Al (sg.getD k (0, false)).1
  len : l.length = posN B sg sg.length
theorem lay_of {P : List Nat} {sg : Sg} (w : WF sg) : Lay (P ++ flat sg) P.length sg := by
  have hd : ∀ k, (P ++ flat sg).getD (posN P.length sg k) 0 = (flat (sg.drop k)).headD 0 := fun k => by
    rw [← drop_pos (P := P) k, headD_drop]
  have hd1 : ∀ k, (P ++ flat sg).getD (posN P.length sg k + 1) 0 = ((flat (sg.drop k)).drop 1).headD 0 := fun k => by
    rw [← drop_pos (P := P) k, List.drop_drop, headD_drop]
  have hc : ∀ k, k < sg.length → flat (sg.drop k) = flat1 (sg.getD k (0, false)) ++ flat (sg.drop (k + 1)) := fun k h => by
    rw [drop_consS h]; rfl
  refine ⟨fun k h e => ?_, fun k h e => ?_, fun k h e => ?_, fun k h => (w.get h).2.2, ?_⟩
  · rw [hd, hc k h]; unfold flat1; rw [if_neg (by rw [e]; decide)]; rfl
  · rw [hd, hd1, hc k h]; unfold flat1; rw [if_pos e]
    exact ⟨rfl, rfl, (w.get h).1 e⟩
  · rw [hd1, hc k h]; unfold flat1; rw [if_neg (by rw [e]; decide)]
    exact (w.get h).2.1 e
  · simp [posN]
section
variable {l : List Nat} {B : Nat} {sg : Sg}
theorem Lay.lt (y : Lay l B sg) {k : Nat} (h : k < sg.length) : posN B sg k < l.length := by
  have key : ∀ d k, k + d = sg.length → posN B sg k + d ≤ posN B sg sg.length := by
    intro d
    induction d with
    | zero => intro k hk; rw [show k = sg.length by omega]; omega
    | succ d ih =>
      intro k hk
      have h1 := ih (k + 1) (by omega)
      have h2 := posN_succ (B := B) (sg := sg) (k := k) (by omega)
      have h3 : 1 ≤ sz1 (sg.getD k (0, false)) := by unfold sz1; split <;> omega
      omega
  have := key (sg.length - k) k (by omega)
  rw [y.len]; omega
theorem Lay.end_ (y : Lay l B sg) {k : Nat} (h : sg.length ≤ k) : posN B sg k = l.length := by rw [y.len, posN_of_le h]
theorem gap_esc {x : Nat × Bool} (h : x.2 = true) : isGap x = false := by
  obtain ⟨c, b⟩ := x
  simp only at h
  subst h
  unfold isGap
  simp
theorem gap_one {x : Nat × Bool} (h : x.2 = false) (ha : Al x.1) : isGap x = isWs x.1 := by
  obtain ⟨c, b⟩ := x
  simp only at h ha
  subst h
  unfold Al at ha
  rw [List.contains_iff_mem] at ha
  simp only [List.mem_cons, List.not_mem_nil, or_false] at ha
  rcases ha with rfl | rfl | rfl | rfl | rfl | rfl | rfl | rfl | rfl | rfl | rfl | rfl | rfl | rfl <;> rfl
/-- blanks of the text, blanks of the signs -/
theorem scan_gap (y : Lay l B sg) : ∀ (d k : Nat), k + d = sg.length → scanI isWs l (posN B sg k : Nat) = (posN B sg (scanT isGap sg (k : Nat)).toNat : Nat) := by
  intro d
  induction d with
  | zero =>
    intro k hk
    rw [scanT_end (by omega), scanI_end (by rw [y.end_ (by omega)]; omega)]
    simp
  | succ d ih =>
    intro k hk
    have hlt := y.lt (k := k) (by omega)
    have hp := posN_succ (B := B) (sg := sg) (k := k) (by omega)
    cases hb : (sg.getD k (0, false)).2 with
    | true =>
      have h2 := y.two k (by omega) hb
      rw [scanT_no (by omega) (by rw [show ((k : Nat) : Int).toNat = k by omega]; exact gap_esc hb), scanI_no (by omega) (by rw [show ((posN B sg k : Nat) : Int).toNat = posN B sg k by omega, h2.1]; rfl)]
      simp
    | false =>
      have h1 := y.one k (by omega) hb
      have hg := gap_one hb (y.al k (by omega))
      cases hw : isWs (sg.getD k (0, false)).1 with
      | false =>
        rw [hw] at hg
        rw [scanT_no (by omega) (by rw [show ((k : Nat) : Int).toNat = k by omega]; exact hg), scanI_no (by omega) (by rw [show ((posN B sg k : Nat) : Int).toNat = posN B sg k by omega, h1]; exact hw)]
        simp
      | true =>
        rw [hw] at hg
        rw [scanT_yes (by omega) (by omega) (by rw [show ((k : Nat) : Int).toNat = k by omega]; exact hg), scanI_yes (by omega) (by omega) (by rw [show ((posN B sg k : Nat) : Int).toNat = posN B sg k by omega, h1]; exact hw)]
        have := ih (k + 1) (by omega)
        rw [hp] at this
        have e1 : sz1 (sg.getD k (0, false)) = 1 := by unfold sz1; rw [if_neg (by rw [hb]; decide)]
        rw [e1] at this
        exact_mod_cast this
end
end Mine

end SQA

section SQB
open PySem PySem.W PyProof.Rows PySem.Calls PySem.Spec
set_option Elab.async false
set_option maxRecDepth 100000
set_option maxHeartbeats 4000000
namespace Mine
section
variable {l : List Nat} {B : Nat} {sg : Sg}
theorem al_facts {c : Nat} (h : Al c) : ¬ ((c : Nat) : Int) < 32 ∨ c = 10 := by
  unfold Al at h
  rw [List.contains_iff_mem] at h
  simp only [List.mem_cons, List.not_mem_nil, or_false] at h
  omega
theorem al_127 {c : Nat} (h : Al c) : (c == 127) = false ∧ (c == 0) = false := by
  unfold Al at h
  rw [List.contains_iff_mem] at h
  simp only [List.mem_cons, List.not_mem_nil, or_false] at h
  constructor <;> (rw [beq_eq_false_iff_ne]; omega)
theorem al_ang {c : Nat} (h : Al c) (h1 : c ≠ 60) (h2 : c ≠ 10) : isAng c = false := by
  unfold Al at h
  rw [List.contains_iff_mem] at h
  simp only [List.mem_cons, List.not_mem_nil, or_false] at h
  unfold isAng
  rw [Bool.eq_false_iff]
  intro e
  rw [List.contains_iff_mem] at e
  simp only [List.mem_cons, List.not_mem_nil, or_false] at e
  omega
theorem sz_one {x : Nat × Bool} (h : x.2 = false) : sz1 x = 1 := by unfold sz1; rw [if_neg (by rw [h]; decide)]
theorem sz_two {x : Nat × Bool} (h : x.2 = true) : sz1 x = 2 := by unfold sz1; rw [if_pos h]
theorem Lay.next1 {k : Nat} (h : k < sg.length) (hb : (sg.getD k (0, false)).2 = false) : ((posN B sg k : Nat) : Int) + 1 = (posN B sg (k + 1) : Nat) := by
  rw [posN_succ h, sz_one hb]; omega
theorem Lay.next2 {k : Nat} (h : k < sg.length) (hb : (sg.getD k (0, false)).2 = true) : ((posN B sg k : Nat) : Int) + 2 = (posN B sg (k + 1) : Nat) := by
  rw [posN_succ h, sz_two hb]; omega
theorem Lay.le (y : Lay l B sg) (k : Nat) : posN B sg k ≤ l.length := by
  rcases Nat.lt_or_ge k sg.length with q | q
  · exact Nat.le_of_lt (y.lt q)
  · rw [y.end_ q]; omega
theorem Lay.notEsc (y : Lay l B sg) {k : Nat} (h : k < sg.length) (hb : (sg.getD k (0, false)).2 = false) : notEsc l (posN B sg k : Nat) := by
  unfold Mine.notEsc
  rw [Int.toNat_natCast, y.one k h hb, show (((posN B sg k : Nat) : Int) + 1).toNat = posN B sg k + 1 by omega]
  by_cases e : (sg.getD k (0, false)).1 = 92
  · right; left
    refine y.bs k h ?_
    exact Prod.ext e hb
  · left; rw [beq_eq_false_iff_ne]; exact e
theorem off_esc {st : List Nat} {x : Nat × Bool} (h : x.2 = true) : offS st x = true := by
  obtain ⟨c, b⟩ := x
  simp only at h
  subst h
  unfold offS
  rw [Bool.not_eq_true', Bool.eq_false_iff]
  intro e
  rw [List.contains_iff_mem] at e
  obtain ⟨d, _, e2⟩ := List.mem_map.mp e
  cases e2
theorem off_one {st : List Nat} {c : Nat} : offS st (c, false) = !st.contains c := by
  unfold offS
  congr 1
  rw [Bool.eq_iff_iff, List.contains_iff_mem, List.contains_iff_mem]
  constructor
  · intro e
    obtain ⟨d, hd, e2⟩ := List.mem_map.mp e
    injection e2 with e3 _
    rw [← e3]; exact hd
  · intro e; exact List.mem_map.mpr ⟨c, e, rfl⟩
theorem atS_at {k : Nat} {x : Nat × Bool} (h : k < sg.length) : atS sg (k : Nat) x = (sg.getD k (0, false) == x) := by
  unfold atS; rw [Int.toNat_natCast, decide_eq_true (by omega)]; rfl
theorem atS_end {k : Nat} {x : Nat × Bool} (h : sg.length ≤ k) : atS sg (k : Nat) x = false := by
  unfold atS; rw [decide_eq_false (by omega)]; rfl
theorem eta {x : Nat × Bool} (h : x.2 = false) : x = (x.1, false) := Prod.ext rfl h
/-- the destination in pointed brackets -/
theorem ang_signs (y : Lay l B sg) : ∀ (d k : Nat), k + d = sg.length → angI l (posN B sg k : Nat) = if atS sg (scanT (offS [60, 62, 10]) sg (k : Nat)) (62, false) = true then some (posN B sg (scanT (offS [60, 62, 10]) sg (k : Nat)).toNat : Int) else none := by
  intro d
  induction d with
  | zero =>
    intro k hk
    rw [scanT_end (by omega), angI_end (by rw [y.end_ (by omega)]; omega), atS_end (by omega)]
    rfl
  | succ d ih =>
    intro k hk
    have hk' : k < sg.length := by omega
    have hlt := y.lt hk'
    have hle := y.le (k + 1)
    have ha := y.al k hk'
    cases hb : (sg.getD k (0, false)).2 with
    | true =>
      have h2 := y.two k hk' hb
      have n2 := Lay.next2 (B := B) hk' hb
      rw [scanT_yes (by omega) (by omega) (by rw [Int.toNat_natCast]; exact off_esc hb)]
      rw [angI_esc (by omega) (by omega) (by rw [Int.toNat_natCast, h2.1]; rfl) (by rw [Int.toNat_natCast, h2.1]; rfl) (by rw [show (((posN B sg k : Nat) : Int) + 1).toNat = posN B sg k + 1 by omega, h2.2.1]; exact h2.2.2), n2]
      exact ih (k + 1) (by omega)
    | false =>
      have h1 := y.one k hk' hb
      have n1 := Lay.next1 (B := B) hk' hb
      have he := eta hb
      by_cases c1 : (sg.getD k (0, false)).1 = 62
      · rw [scanT_no (by omega) (by rw [Int.toNat_natCast, he, off_one, c1]; rfl), atS_at hk', he, c1, angI_found (by omega) (by omega) (by rw [Int.toNat_natCast, h1, c1]; rfl)]
        rfl
      · by_cases c2 : (sg.getD k (0, false)).1 = 60 ∨ (sg.getD k (0, false)).1 = 10
        · have ho : offS [60, 62, 10] (sg.getD k (0, false)) = false := by rw [he, off_one]; rcases c2 with c2 | c2 <;> (rw [c2]; rfl)
          rw [scanT_no (by omega) (by rw [Int.toNat_natCast]; exact ho), atS_at hk']
          rw [angI_bad (by omega) (by rw [Int.toNat_natCast, h1]; simpa using c1) (y.notEsc hk' hb) (by rw [Int.toNat_natCast, h1]; rcases c2 with c2 | c2 <;> (rw [c2]; rfl))]
          rw [if_neg]
          intro e
          have := eq_of_beq e
          rw [this] at c1
          exact c1 rfl
        · have ho : offS [60, 62, 10] (sg.getD k (0, false)) = true := by
            rw [he, off_one, Bool.not_eq_true', Bool.eq_false_iff]
            intro e
            rw [List.contains_iff_mem] at e
            simp only [List.mem_cons, List.not_mem_nil, or_false] at e
            omega
          rw [scanT_yes (by omega) (by omega) (by rw [Int.toNat_natCast]; exact ho)]
          rw [angI_one (by omega) (by rw [Int.toNat_natCast, h1]; simpa using c1) (y.notEsc hk' hb) (by rw [Int.toNat_natCast, h1]; exact al_ang ha (by omega) (by omega)), n1]
          exact ih (k + 1) (by omega)
/-- the bare destination -/
theorem hrf_signs (y : Lay l B sg) (lim : Int) (hlim : 0 ≤ lim) : ∀ (d k : Nat) (lv : Int), k + d = sg.length → 0 ≤ lv → lv ≤ lim →
    hrfI lim l (posN B sg k : Nat) lv = if lim < (bareI lim sg (k : Nat) lv).2 then none else some ((posN B sg (bareI lim sg (k : Nat) lv).1.toNat : Int), if (bareI lim sg (k : Nat) lv).2 < 0 then 0 else (bareI lim sg (k : Nat) lv).2) := by
  intro d
  induction d with
  | zero =>
    intro k lv hk h0 h1
    rw [bareI_end (by omega) (by omega), hrfI_end (by omega) (by rw [y.end_ (by omega)]; omega)]
    dsimp only
    rw [if_neg (by omega), if_neg (by omega), Int.toNat_natCast]
  | succ d ih =>
    intro k lv hk h0 h1
    have hk' : k < sg.length := by omega
    have hlt := y.lt hk'
    have hle := y.le (k + 1)
    have ha := y.al k hk'
    have t1 : (((posN B sg k : Nat) : Int) + 1).toNat = posN B sg k + 1 := by omega
    cases hb : (sg.getD k (0, false)).2 with
    | true =>
      have h2 := y.two k hk' hb
      have n2 := Lay.next2 (B := B) hk' hb
      have ne : ∀ c, (sg.getD k (0, false) == (c, false)) = false := fun c => by
        rw [beq_eq_false_iff_ne]; intro e; rw [e] at hb; cases hb
      rw [bare_one (by omega) (by omega) h0 h1 (by rw [Int.toNat_natCast]; exact gap_esc hb) (by rw [Int.toNat_natCast]; exact ne 40) (by rw [Int.toNat_natCast]; exact ne 41)]
      rw [hrf_esc (by omega) (by omega) (by rw [Int.toNat_natCast, h2.1]; rfl) (by rw [Int.toNat_natCast, h2.1]; decide) (by rw [Int.toNat_natCast, h2.1]; rfl) (by rw [Int.toNat_natCast, h2.1]; rfl) (by rw [t1, h2.2.1]; exact h2.2.2), n2]
      exact ih (k + 1) lv (by omega) h0 h1
    | false =>
      have hc := y.one k hk' hb
      have n1 := Lay.next1 (B := B) hk' hb
      have he := eta hb
      have hg := gap_one hb ha
      have e40 : ∀ c, (sg.getD k (0, false) == (c, false)) = ((sg.getD k (0, false)).1 == c) := fun c => by
        rw [Bool.eq_iff_iff, beq_iff_eq, beq_iff_eq]
        constructor
        · intro e; rw [e]
        · intro e; rw [he, e]
      cases hw : isWs (sg.getD k (0, false)).1 with
      | true =>
        rw [hw] at hg
        rw [bareI_gap (by omega) (by omega) (by rw [Int.toNat_natCast]; exact hg), hrf_ws (by omega) (by omega) (by rw [Int.toNat_natCast, hc]; exact hw)]
        dsimp only
        rw [if_neg (by omega), if_neg (by omega), Int.toNat_natCast]
      | false =>
        rw [hw] at hg
        have hg' : isGap (sg.getD ((k : Nat) : Int).toNat (0, false)) = false := by rw [Int.toNat_natCast]; exact hg
        have hw' : isWs (l.getD ((posN B sg k : Nat) : Int).toNat 0) = false := by rw [Int.toNat_natCast, hc]; exact hw
        have h32 : ¬ ((l.getD ((posN B sg k : Nat) : Int).toNat 0 : Nat) : Int) < 32 := by
          rw [Int.toNat_natCast, hc]
          rcases al_facts ha with q | q
          · exact q
          · rw [q] at hw; cases hw
        have h127 : (l.getD ((posN B sg k : Nat) : Int).toNat 0 == 127) = false := by rw [Int.toNat_natCast, hc]; exact (al_127 ha).1
        have hne := y.notEsc hk' hb
        cases c1 : ((sg.getD k (0, false)).1 == 40) with
        | true =>
          have b1 : (sg.getD ((k : Nat) : Int).toNat (0, false) == (40, false)) = true := by rw [Int.toNat_natCast, e40]; exact c1
          have l1 : (l.getD ((posN B sg k : Nat) : Int).toNat 0 == 40) = true := by rw [Int.toNat_natCast, hc]; exact c1
          by_cases ho : lim < lv + 1
          · rw [bare_over (by omega) (by omega) hg' b1 ho, hrf_over (by omega) (by omega) hw' h32 h127 hne l1 ho]
            dsimp only
            rw [if_pos ho]
          · rw [bare_open (by omega) (by omega) h0 hg' b1 ho, hrf_open (by omega) (by omega) hw' h32 h127 hne l1 ho, n1]
            exact ih (k + 1) (lv + 1) (by omega) (by omega) (by omega)
        | false =>
          have b1 : (sg.getD ((k : Nat) : Int).toNat (0, false) == (40, false)) = false := by rw [Int.toNat_natCast, e40]; exact c1
          have l1 : (l.getD ((posN B sg k : Nat) : Int).toNat 0 == 40) = false := by rw [Int.toNat_natCast, hc]; exact c1
          cases c2 : ((sg.getD k (0, false)).1 == 41) with
          | true =>
            have b2 : (sg.getD ((k : Nat) : Int).toNat (0, false) == (41, false)) = true := by rw [Int.toNat_natCast, e40]; exact c2
            have l2 : (l.getD ((posN B sg k : Nat) : Int).toNat 0 == 41) = true := by rw [Int.toNat_natCast, hc]; exact c2
            by_cases hz : lv = 0
            · subst hz
              rw [bare_neg (by omega) (by omega) hg' b1 b2 (by omega), hrf_stop (by omega) (by omega) hw' h32 h127 hne l1 l2 rfl]
              dsimp only
              rw [if_neg (by omega), if_pos (by omega), Int.toNat_natCast]
            · rw [bare_close (by omega) (by omega) h1 hg' b1 b2 (by omega), hrf_close (by omega) (by omega) hw' h32 h127 hne l1 l2 hz, n1]
              exact ih (k + 1) (lv - 1) (by omega) (by omega) (by omega)
          | false =>
            have b2 : (sg.getD ((k : Nat) : Int).toNat (0, false) == (41, false)) = false := by rw [Int.toNat_natCast, e40]; exact c2
            have l2 : (l.getD ((posN B sg k : Nat) : Int).toNat 0 == 41) = false := by rw [Int.toNat_natCast, hc]; exact c2
            rw [bare_one (by omega) (by omega) h0 h1 hg' b1 b2, hrf_one (by omega) (by omega) hw' h32 h127 hne l1 l2, n1]
            exact ih (k + 1) lv (by omega) h0 h1
end
end Mine

end SQB

section SQC
open PySem PySem.W PyProof.Rows PySem.Calls PySem.Spec
set_option Elab.async false
set_option maxRecDepth 100000
set_option maxHeartbeats 4000000
namespace Mine
section
variable {l : List Nat} {B : Nat} {sg : Sg}
theorem cut_self {k : Int} : cutI sg k k = [] := by unfold cutI; rw [Int.sub_self]; rfl
theorem cut_step {k : Nat} {e : Int} (h : k < sg.length) (he : (k : Int) + 1 ≤ e) : cutI sg (k : Nat) e = sg.getD k (0, false) :: cutI sg ((k + 1 : Nat) : Int) e := by
  unfold cutI
  rw [Int.toNat_natCast, Int.toNat_natCast, drop_consS h]
  obtain ⟨n, hn⟩ : ∃ n, (e - (k : Int)).toNat = n + 1 := ⟨(e - (k : Int)).toNat - 1, by omega⟩
  rw [hn, List.take_succ_cons]
  congr 2
  omega
theorem flat1_two {x : Nat × Bool} (h : x.2 = true) : flat1 x = [92, x.1] := by unfold flat1; rw [if_pos h]
theorem flat1_one {x : Nat × Bool} (h : x.2 = false) : flat1 x = [x.1] := by unfold flat1; rw [if_neg (by rw [h]; decide)]
theorem addP_some (a b : List Nat) (e : Int) : addP a (some (b, e)) = some (a ++ b, e) := rfl
theorem addP_none (a : List Nat) : addP a none = none := rfl
/-- the title -/
theorem ttl_signs (y : Lay l B sg) {op cl : Nat} {st : List Nat} (hst : ∀ c, st.contains c = ((c == cl) || ((op == 40) && (c == 40)))) (h40 : cl ≠ 40) : ∀ (d k : Nat), k + d = sg.length →
    ttlI op cl l (posN B sg k : Nat) = if atS sg (scanT (offS st) sg (k : Nat)) (cl, false) = true then some (flat (cutI sg (k : Nat) (scanT (offS st) sg (k : Nat))), (posN B sg (scanT (offS st) sg (k : Nat)).toNat : Int) + 1) else none := by
  intro d
  induction d with
  | zero =>
    intro k hk
    rw [scanT_end (by omega), ttl_end (by rw [y.end_ (by omega)]; omega), atS_end (by omega)]
    rfl
  | succ d ih =>
    intro k hk
    have hk' : k < sg.length := by omega
    have hlt := y.lt hk'
    have hle := y.le (k + 1)
    have ha := y.al k hk'
    have t1 : (((posN B sg k : Nat) : Int) + 1).toNat = posN B sg k + 1 := by omega
    have hs := scanT_le (offS st) (l := sg) (i := ((k + 1 : Nat) : Int)) (by omega) (by omega)
    have step : ∀ (a : List Nat), a = flat1 (sg.getD k (0, false)) → addP a (ttlI op cl l (posN B sg (k + 1) : Nat)) = if atS sg (scanT (offS st) sg ((k + 1 : Nat) : Int)) (cl, false) = true then some (flat (cutI sg (k : Nat) (scanT (offS st) sg ((k + 1 : Nat) : Int))), (posN B sg (scanT (offS st) sg ((k + 1 : Nat) : Int)).toNat : Int) + 1) else none := by
      intro a e
      rw [ih (k + 1) (by omega), cut_step hk' (by omega), e]
      split
      · rfl
      · rfl
    cases hb : (sg.getD k (0, false)).2 with
    | true =>
      have h2 := y.two k hk' hb
      have n2 := Lay.next2 (B := B) hk' hb
      rw [scanT_yes (by omega) (by omega) (by rw [Int.toNat_natCast]; exact off_esc hb)]
      rw [ttl_esc (by omega) (by omega) (by rw [Int.toNat_natCast, h2.1]; rfl) (.inr (by rw [Int.toNat_natCast, h2.1]; rfl)) (by rw [Int.toNat_natCast, h2.1]; rfl) (by rw [t1, h2.2.1]; exact h2.2.2), n2, Int.toNat_natCast, h2.1, t1, h2.2.1]
      exact step _ (flat1_two hb).symm
    | false =>
      have hc := y.one k hk' hb
      have n1 := Lay.next1 (B := B) hk' hb
      have he := eta hb
      have h0 : (l.getD ((posN B sg k : Nat) : Int).toNat 0 == 0) = false := by rw [Int.toNat_natCast, hc]; exact (al_127 ha).2
      have hne := y.notEsc hk' hb
      by_cases c1 : (sg.getD k (0, false)).1 = cl
      · have ho : offS st (sg.getD k (0, false)) = false := by rw [he, off_one, hst, c1]; simp
        rw [scanT_no (by omega) (by rw [Int.toNat_natCast]; exact ho), atS_at hk', cut_self]
        rw [ttl_close (by omega) (by omega) h0 (.inr (by rw [Int.toNat_natCast, hc, c1]; simpa using h40)) hne (by rw [Int.toNat_natCast, hc, c1]; simp)]
        rw [if_pos (by rw [beq_iff_eq, he, c1]), Int.toNat_natCast]
        rfl
      · by_cases c2 : (op == 40) = true ∧ (sg.getD k (0, false)).1 = 40
        · have ho : offS st (sg.getD k (0, false)) = false := by rw [he, off_one, hst, c2.1, c2.2]; simp
          rw [scanT_no (by omega) (by rw [Int.toNat_natCast]; exact ho), atS_at hk']
          rw [ttl_open (by omega) (by omega) h0 c2.1 (by rw [Int.toNat_natCast, hc, c2.2]; rfl), if_neg]
          intro e
          have := eq_of_beq e
          rw [this] at c1
          exact c1 rfl
        · have ho : offS st (sg.getD k (0, false)) = true := by
            rw [he, off_one, hst, Bool.not_eq_true', Bool.or_eq_false_iff, Bool.and_eq_false_iff, beq_eq_false_iff_ne]
            refine ⟨c1, ?_⟩
            cases q : (op == 40) with
            | false => exact .inl rfl
            | true => exact .inr (by rw [beq_eq_false_iff_ne]; exact fun e => c2 ⟨q, e⟩)
          rw [scanT_yes (by omega) (by omega) (by rw [Int.toNat_natCast]; exact ho)]
          have hop : (op == 40) = false ∨ (l.getD ((posN B sg k : Nat) : Int).toNat 0 == 40) = false := by
            rw [Int.toNat_natCast, hc]
            cases q : (op == 40) with
            | false => exact .inl rfl
            | true => exact .inr (by rw [beq_eq_false_iff_ne]; exact fun e => c2 ⟨q, e⟩)
          rw [ttl_one (by omega) (by omega) h0 hop hne (by rw [Int.toNat_natCast, hc]; simpa using c1), n1, Int.toNat_natCast, hc]
          exact step _ (flat1_one hb).symm
end
/-- the head of a link: one line's end at most, for none stands behind another -/
theorem start_ws {l : List Nat} (hn : NoBlank l) (hw : ∀ j, isWs (l.getD j 0) = true → l.getD j 0 = 32 ∨ l.getD j 0 = 10) : ∀ (d i : Nat), i + d = l.length → startI l (i : Nat) = scanI isWs l (i : Nat) := by
  have bl : ∀ c, isBl c = true → c = 32 ∨ c = 9 := fun c h => by
    unfold isBl at h
    rw [List.contains_iff_mem] at h
    simpa using h
  intro d
  induction d with
  | zero =>
    intro i hi
    unfold startI
    dsimp only
    rw [scanI_end (p := isBl) (by omega), scanI_end (p := isWs) (by omega), if_neg (by omega)]
  | succ d ih =>
    intro i hi
    cases hb : isBl (l.getD i 0) with
    | true =>
      have e1 : scanI isBl l (i : Nat) = scanI isBl l ((i + 1 : Nat) : Int) := by
        rw [scanI_yes (by omega) (by omega) (by rw [Int.toNat_natCast]; exact hb)]; rfl
      have e2 : startI l (i : Nat) = startI l ((i + 1 : Nat) : Int) := by unfold startI; rw [e1]
      have hws : isWs (l.getD i 0) = true := by rcases bl _ hb with q | q <;> (rw [q]; rfl)
      rw [e2, ih (i + 1) (by omega), scanI_yes (i := (i : Nat)) (by omega) (by omega) (by rw [Int.toNat_natCast]; exact hws)]
      rfl
    | false =>
      have e1 : scanI isBl l (i : Nat) = (i : Nat) := scanI_no (by omega) (by rw [Int.toNat_natCast]; exact hb)
      cases hws : isWs (l.getD i 0) with
      | false =>
        have hnl : isNl (l.getD i 0) = false := by
          rw [Bool.eq_false_iff]
          intro e
          unfold isNl at e
          rw [List.contains_iff_mem] at e
          simp only [List.mem_cons, List.not_mem_nil, or_false] at e
          rcases e with q | q <;> (rw [q] at hws; cases hws)
        unfold startI
        dsimp only
        rw [e1, Int.toNat_natCast, hnl, if_neg (by simp), scanI_no (by omega) (by rw [Int.toNat_natCast]; exact hws)]
      | true =>
        have h10 : l.getD i 0 = 10 := by
          rcases hw i hws with q | q
          · rw [q] at hb; cases hb
          · exact q
        have nb := hn (i : Nat) (by omega) (by rw [Int.toNat_natCast, h10]; rfl)
        have t1 : (((i : Nat) : Int) + 1).toNat = i + 1 := by omega
        rw [t1] at nb
        have e3 : isBl (l.getD (i + 1) 0) = false := by
          rw [Bool.eq_false_iff]; intro e
          rcases bl _ e with q | q
          · exact nb.2.1 q
          · exact nb.2.2.1 q
        have e4 : isWs (l.getD (i + 1) 0) = false := by
          rw [Bool.eq_false_iff]; intro e
          rcases hw _ e with q | q
          · exact nb.2.1 q
          · exact nb.2.2.2 q
        have s1 : scanI isBl l (((i : Nat) : Int) + 1) = ((i : Nat) : Int) + 1 := scanI_no (by omega) (by rw [t1]; exact e3)
        unfold startI
        dsimp only
        rw [e1, Int.toNat_natCast, h10, if_pos ⟨by omega, rfl⟩, if_neg (by omega), s1, scanI_yes (by omega) (by omega) (by rw [Int.toNat_natCast]; exact hws), scanI_no (by omega) (by rw [t1]; exact e4)]
theorem wf_drop : ∀ (k : Nat) {sg : Sg}, WF sg → WF (sg.drop k)
  | 0, _, w => w
  | _ + 1, [], w => w
  | k + 1, _ :: r, w => wf_drop k (sg := r) w.2.2.2
theorem wf_take : ∀ (k : Nat) {sg : Sg}, WF sg → WF (sg.take k)
  | 0, _, _ => trivial
  | _ + 1, [], w => w
  | k + 1, x :: r, w => by
    refine ⟨w.1, fun e => ?_, w.2.2.1, wf_take k w.2.2.2⟩
    have h := w.2.1 e
    cases k with
    | zero => rfl
    | succ k =>
      cases r with
      | nil => exact h
      | cons z q =>
        show isPunct ((flat1 z ++ flat (q.take k)).headD 0) = false
        have h' : isPunct ((flat1 z ++ flat q).headD 0) = false := h
        cases hz : z.2 with
        | true => rw [flat1_two hz] at h' ⊢; exact h'
        | false => rw [flat1_one hz] at h' ⊢; exact h'
theorem wf_cut {sg : Sg} (w : WF sg) (a b : Int) : WF (cutI sg a b) := wf_take _ (wf_drop _ w)
theorem unesc_flat : ∀ {u : Sg}, WF u → unescL (flat u) = u.map (·.1)
  | [], _ => rfl
  | x :: r, w => by
    have ih := unesc_flat w.2.2.2
    cases hb : x.2 with
    | true =>
      show unescL (flat1 x ++ flat r) = _
      rw [flat1_two hb]
      show unescL (92 :: x.1 :: flat r) = _
      rw [unescL_cons, if_pos ⟨rfl, w.1 hb⟩]
      show x.1 :: unescL (flat r) = _
      rw [ih]; rfl
    | false =>
      show unescL (flat1 x ++ flat r) = _
      rw [flat1_one hb]
      show unescL (x.1 :: flat r) = _
      rw [unescL_cons, if_neg]
      · rw [ih]; rfl
      · rintro ⟨e1, e2⟩
        have := w.2.1 (Prod.ext (eq_of_beq e1) hb)
        rw [this] at e2; cases e2
theorem al_quote {c : Nat} (h : Al c) (h10 : c ≠ 10) : quoteC c = addrC c ∧ (isKept c = true ∨ ∃ d, hexOf c = some d) := by
  unfold Al at h
  rw [List.contains_iff_mem] at h
  simp only [List.mem_cons, List.not_mem_nil, or_false] at h
  rcases h with rfl | rfl | rfl | rfl | rfl | rfl | rfl | rfl | rfl | rfl | rfl | rfl | rfl | rfl
  all_goals first
    | exact absurd rfl h10
    | exact ⟨rfl, .inl rfl⟩
    | exact ⟨rfl, .inr ⟨_, rfl⟩⟩
theorem quote_addr {u : Sg} (h : ∀ x ∈ u, Al x.1 ∧ x.1 ≠ 10) : quoteL (u.map (·.1)) = addrL u := by
  unfold quoteL addrL
  rw [List.map_map]
  congr 1
  apply List.map_congr_left
  intro x hx
  exact (al_quote (h x hx).1 (h x hx).2).1
theorem quotable_of {u : Sg} (h : ∀ x ∈ u, Al x.1 ∧ x.1 ≠ 10) : Quotable (u.map (·.1)) := by
  intro c hc
  obtain ⟨x, hx, rfl⟩ := List.mem_map.mp hc
  exact (al_quote (h x hx).1 (h x hx).2).2
theorem noref_of {u : Sg} (h : ∀ x ∈ u, Al x.1 ∧ x.1 ≠ 10) : NoRef (u.map (·.1)) := by
  intro c hc
  obtain ⟨x, hx, rfl⟩ := List.mem_map.mp hc
  have := (h x hx).1
  unfold Al at this
  rw [List.contains_iff_mem] at this
  simp only [List.mem_cons, List.not_mem_nil, or_false] at this
  omega
end Mine

end SQC

section SQD
open PySem PySem.W PyProof.Rows PySem.Calls PySem.Spec
set_option Elab.async false
set_option maxRecDepth 100000
set_option maxHeartbeats 4000000
namespace Mine
/-- the size of the text of some signs -/
def szL (u : Sg) : Nat := (flat u).length
section
variable {l : List Nat} {B : Nat} {sg : Sg}
theorem scanT_all (p : Nat × Bool → Bool) : ∀ (d k : Nat), k + d = sg.length → ∀ x ∈ cutI sg (k : Nat) (scanT p sg (k : Nat)), p x = true := by
  intro d
  induction d with
  | zero =>
    intro k hk x hx
    rw [scanT_end (by omega), cut_self] at hx
    cases hx
  | succ d ih =>
    intro k hk x hx
    have hk' : k < sg.length := by omega
    cases hp : p (sg.getD k (0, false)) with
    | false =>
      rw [scanT_no (by omega) (by rw [Int.toNat_natCast]; exact hp), cut_self] at hx
      cases hx
    | true =>
      rw [scanT_yes (by omega) (by omega) (by rw [Int.toNat_natCast]; exact hp)] at hx
      have hs := scanT_le p (l := sg) (i := ((k + 1 : Nat) : Int)) (by omega) (by omega)
      have e : scanT p sg (((k : Nat) : Int) + 1) = scanT p sg ((k + 1 : Nat) : Int) := rfl
      rw [e, cut_step hk' (by omega)] at hx
      rcases List.mem_cons.mp hx with rfl | hx
      · exact hp
      · exact ih (k + 1) (by omega) x hx
theorem bare_all (lim : Int) : ∀ (d k : Nat) (lv : Int), k + d = sg.length → 0 ≤ lv → lv ≤ lim → ∀ x ∈ cutI sg (k : Nat) (bareI lim sg (k : Nat) lv).1, isGap x = false := by
  intro d
  induction d with
  | zero =>
    intro k lv hk h0 h1 x hx
    rw [bareI_end (by omega) (by omega), cut_self] at hx
    cases hx
  | succ d ih =>
    intro k lv hk h0 h1 x hx
    have hk' : k < sg.length := by omega
    cases hp : isGap (sg.getD k (0, false)) with
    | true =>
      rw [bareI_gap (by omega) (by omega) (by rw [Int.toNat_natCast]; exact hp), cut_self] at hx
      cases hx
    | false =>
      by_cases hb : lvN (sg.getD k (0, false)) lv < 0 ∨ lim < lvN (sg.getD k (0, false)) lv
      · rw [bareI_stop (by omega) (by omega) (by rw [Int.toNat_natCast]; exact hp) (by rw [Int.toNat_natCast]; exact hb)] at hx
        dsimp only at hx
        rw [cut_self] at hx
        cases hx
      · rw [bareI_next (by omega) (by omega) (by rw [Int.toNat_natCast]; exact hp) (by rw [Int.toNat_natCast]; exact hb), Int.toNat_natCast] at hx
        have e : bareI lim sg (((k : Nat) : Int) + 1) (lvN (sg.getD k (0, false)) lv) = bareI lim sg ((k + 1 : Nat) : Int) (lvN (sg.getD k (0, false)) lv) := rfl
        have hs := bareI_le (lim := lim) (l := sg) (i := ((k + 1 : Nat) : Int)) (lv := lvN (sg.getD k (0, false)) lv) (by omega) (by omega)
        rw [e, cut_step hk' (by omega)] at hx
        rcases List.mem_cons.mp hx with rfl | hx
        · exact hp
        · exact ih (k + 1) _ (by omega) (by omega) (by omega) x hx
end
section
variable {P : List Nat} {sg : Sg}
theorem sub_cut (a b : Nat) (hab : a ≤ b) : subI (P ++ flat sg) (posN P.length sg a : Nat) (posN P.length sg b : Nat) = flat (cutI sg (a : Nat) (b : Nat)) := by
  unfold subI cutI
  rw [Int.toNat_natCast, Int.toNat_natCast, drop_pos]
  have e : sg.drop a = (sg.drop a).take (b - a) ++ (sg.drop a).drop (b - a) := (List.take_append_drop _ _).symm
  have hlen : posN P.length sg b = posN P.length sg a + (flat ((sg.drop a).take (b - a))).length := by
    unfold posN
    have : sg.take b = sg.take a ++ (sg.drop a).take (b - a) := by
      have h2 := List.take_add (l := sg) (i := a) (j := b - a)
      rw [show a + (b - a) = b by omega] at h2
      exact h2
    rw [this, flat_app, List.length_append]; omega
  rw [show ((b : Int) - (a : Int)).toNat = b - a by omega]
  rw [show (((posN P.length sg b : Nat) : Int) - ((posN P.length sg a : Nat) : Int)).toNat = (flat ((sg.drop a).take (b - a))).length by omega]
  rw [show flat (sg.drop a) = flat ((sg.drop a).take (b - a)) ++ flat ((sg.drop a).drop (b - a)) by rw [← flat_app, ← e], List.take_left]
end
end Mine

end SQD

section SQE
open PySem PySem.W PyProof.Rows PySem.Calls PySem.Spec
set_option Elab.async false
set_option maxRecDepth 100000
set_option maxHeartbeats 4000000
namespace Mine
theorem nb_at : ∀ {l : List Nat} (j : Nat), Nb l → l.getD j 0 = 10 → isSN (l.getD (j + 1) 0) = false
  | [], _, _, h => by simp at h
  | c :: r, 0, w, h => by
    have := w.1 (by simpa using h)
    cases r with
    | nil => rfl
    | cons d q => simpa using this
  | c :: r, j + 1, w, h => by
    have := nb_at (l := r) j w.2 (by simpa using h)
    simpa using this
theorem noBlank_of {l : List Nat} (w : Nb l) (h9 : ∀ c ∈ l, c ≠ 9) : NoBlank l := by
  intro j h0 h
  have e := eq_of_beq h
  have t1 : (j + 1).toNat = j.toNat + 1 := by omega
  have s := nb_at j.toNat w e
  rw [t1]
  refine ⟨e, ?_, ?_, ?_⟩
  · intro q; rw [q] at s; cases s
  · rcases Nat.lt_or_ge (j.toNat + 1) l.length with q | q
    · have : l.getD (j.toNat + 1) 0 ∈ l := by simp [List.getD, q]
      exact h9 _ this
    · rw [getD_of_le q]; decide
  · intro q; rw [q] at s; cases s
section
variable {l : List Nat} {B : Nat} {sg : Sg} {lim : Int}
theorem chr_at (y : Lay l B sg) {k x : Nat} (h : k < sg.length) (hx : x ≠ 92) : (l.getD (posN B sg k) 0 == x) = (sg.getD k (0, false) == (x, false)) := by
  cases hb : (sg.getD k (0, false)).2 with
  | true =>
    rw [(y.two k h hb).1]
    have e1 : ((92 : Nat) == x) = false := by rw [beq_eq_false_iff_ne]; exact fun e => hx e.symm
    have e2 : (sg.getD k (0, false) == (x, false)) = false := by
      rw [beq_eq_false_iff_ne]; intro e; rw [e] at hb; cases hb
    rw [e1, e2]
  | false =>
    rw [y.one k h hb, Bool.eq_iff_iff, beq_iff_eq, beq_iff_eq]
    constructor
    · intro e; rw [eta hb, e]
    · intro e; rw [e]
theorem pos_len (y : Lay l B sg) {k : Nat} (_h : k ≤ sg.length) : (l.length : Int) ≤ (posN B sg k : Nat) ↔ k = sg.length := by
  constructor
  · intro e
    rcases Nat.lt_or_ge k sg.length with q | q
    · have := y.lt q; omega
    · omega
  · intro e; rw [y.end_ (by omega)]; omega
theorem nat_of {x : Int} (h : 0 ≤ x) : ∃ n : Nat, x = n := ⟨x.toNat, by omega⟩
/-- the destination by signs -/
def hrefS (lim : Int) (sg : Sg) : Option (Int × Int × Int) :=
  if scanT isGap sg 0 = sg.length then none
  else if (sg.getD (scanT isGap sg 0).toNat (0, false) == (60, false)) = true then
    (if atS sg (scanT (offS [60, 62, 10]) sg (scanT isGap sg 0 + 1)) (62, false) = true then some (scanT isGap sg 0 + 1, scanT (offS [60, 62, 10]) sg (scanT isGap sg 0 + 1), scanT (offS [60, 62, 10]) sg (scanT isGap sg 0 + 1) + 1) else none)
  else if 0 < (bareI lim sg (scanT isGap sg 0) 0).2 then none else some (scanT isGap sg 0, (bareI lim sg (scanT isGap sg 0) 0).1, (bareI lim sg (scanT isGap sg 0) 0).1)
theorem readI_href : readI lim sg = match hrefS lim sg with | none => none | some (a, b, e) => restI sg a b e := by
  unfold readI hrefS
  dsimp only
  split
  · rfl
  · split
    · split <;> rfl
    · split <;> rfl
/-- the title by signs -/
def titleS (sg : Sg) (e : Int) : Option (Int × Int × Int) :=
  if e < scanT isGap sg e ∧ scanT isGap sg e < sg.length ∧ isOpn (sg.getD (scanT isGap sg e).toNat (0, false)) = true then
    (if atS sg (scanT (offS (stO (sg.getD (scanT isGap sg e).toNat (0, false)).1)) sg (scanT isGap sg e + 1)) (clO (sg.getD (scanT isGap sg e).toNat (0, false)).1, false) = true then
      some (scanT isGap sg e + 1, scanT (offS (stO (sg.getD (scanT isGap sg e).toNat (0, false)).1)) sg (scanT isGap sg e + 1), scanT (offS (stO (sg.getD (scanT isGap sg e).toNat (0, false)).1)) sg (scanT isGap sg e + 1) + 1) else none)
  else none
theorem restI_some {a b e c d q : Int} (h : titleS sg e = some (c, d, q)) : restI sg a b e = tailI sg a b c d (scanT isGap sg q) := by
  unfold titleS at h
  split at h
  · rename_i h1
    split at h
    · rename_i h2
      injection h with h
      injection h with e1 h
      injection h with e2 e3
      subst e1 e2 e3
      unfold restI
      dsimp only
      rw [if_pos h1, if_pos h2]
    · cases h
  · cases h
theorem restI_noneO {a b e : Int} (h : titleS sg e = none) (ho : e < scanT isGap sg e ∧ scanT isGap sg e < sg.length ∧ isOpn (sg.getD (scanT isGap sg e).toNat (0, false)) = true) : restI sg a b e = none := by
  unfold titleS at h
  rw [if_pos ho] at h
  split at h
  · cases h
  · rename_i h2
    unfold restI
    dsimp only
    rw [if_pos ho, if_neg h2]
theorem stO_con {c : Nat} (h : c = 34 ∨ c = 39 ∨ c = 40) : ∀ d, (stO c).contains d = ((d == clO c) || ((c == 40) && (d == 40))) := by
  intro d
  rcases h with rfl | rfl | rfl
  · show ([34] : List Nat).contains d = (d == 34 || (false && (d == 40)))
    rw [Bool.eq_iff_iff]; simp
  · show ([39] : List Nat).contains d = (d == 39 || (false && (d == 40)))
    rw [Bool.eq_iff_iff]; simp
  · show ([40, 41] : List Nat).contains d = (d == 41 || (true && (d == 40)))
    rw [Bool.eq_iff_iff]; simp; omega
theorem opn_is {x : Nat × Bool} (h : isOpn x = true) : x.2 = false ∧ (x.1 = 34 ∨ x.1 = 39 ∨ x.1 = 40) := by
  unfold isOpn at h
  rw [List.contains_iff_mem] at h
  simp only [List.mem_cons, List.not_mem_nil, or_false] at h
  rcases h with rfl | rfl | rfl <;> simp
theorem closer_is {c : Nat} (h : c = 34 ∨ c = 39 ∨ c = 40) : closerOf c = some (clO c) ∧ clO c ≠ 40 := by
  rcases h with rfl | rfl | rfl <;> exact ⟨rfl, by decide⟩
theorem opn_no {x : Nat × Bool} (ha : x.2 = true → isPunct x.1 = true) (h : isOpn x = false) : closerOf (if x.2 = true then 92 else x.1) = none := by
  obtain ⟨c, b⟩ := x
  cases b with
  | true => rfl
  | false =>
    show closerOf c = none
    unfold closerOf
    have n1 : c ≠ 39 := by rintro rfl; cases h
    have n2 : c ≠ 34 := by rintro rfl; cases h
    have n3 : c ≠ 40 := by rintro rfl; cases h
    rw [if_neg n1, if_neg n2, if_neg n3]
theorem title_signs (y : Lay l B sg) (w : WF sg) {e : Nat} (he : e ≤ sg.length) :
    titleR l (posN B sg e : Nat) = (titleS sg (e : Nat)).map fun q => ((cutI sg q.1 q.2.1).map (·.1), (posN B sg q.2.2.toNat : Int)) := by
  have g := scan_gap y (sg.length - e) e (by omega)
  have gl := scanT_le isGap (l := sg) (i := ((e : Nat) : Int)) (by omega) (by omega)
  obtain ⟨k, hk⟩ := nat_of (x := scanT isGap sg (e : Nat)) (by omega)
  rw [hk, Int.toNat_natCast] at g
  rw [hk] at gl
  unfold titleR titleS
  rw [hk, Int.toNat_natCast, g, Int.toNat_natCast, Int.toNat_natCast]
  by_cases h1 : (l.length : Int) ≤ (posN B sg e : Nat)
  · have := (pos_len y he).mp h1
    rw [if_pos h1, if_neg (by omega)]; rfl
  · have he' : e < sg.length := by
      rcases Nat.lt_or_ge e sg.length with q | q
      · exact q
      · exact absurd ((pos_len y he).mpr (by omega)) h1
    rw [if_neg h1]
    cases hw : isWs (l.getD (posN B sg e) 0) with
    | false =>
      have hg : isGap (sg.getD e (0, false)) = false := by
        cases hb : (sg.getD e (0, false)).2 with
        | true => exact gap_esc hb
        | false => rw [gap_one hb (y.al e he'), ← y.one e he' hb]; exact hw
      have : scanT isGap sg (e : Nat) = (e : Nat) := scanT_no (by omega) (by rw [Int.toNat_natCast]; exact hg)
      rw [if_pos rfl, if_neg (by omega)]; rfl
    | true =>
      rw [if_neg (by simp)]
      have hke : e < k := by
        have hg : isGap (sg.getD e (0, false)) = true := by
          cases hb : (sg.getD e (0, false)).2 with
          | true => rw [(y.two e he' hb).1] at hw; cases hw
          | false => rw [gap_one hb (y.al e he'), ← y.one e he' hb]; exact hw
        have h2 : scanT isGap sg (e : Nat) = scanT isGap sg ((e + 1 : Nat) : Int) := scanT_yes (by omega) (by omega) (by rw [Int.toNat_natCast]; exact hg)
        have h3 := scanT_le isGap (l := sg) (i := ((e + 1 : Nat) : Int)) (by omega) (by omega)
        omega
      by_cases h2 : (l.length : Int) ≤ (posN B sg k : Nat)
      · have := (pos_len y (by omega)).mp h2
        rw [if_pos h2, if_neg (by omega)]; rfl
      · have hk' : k < sg.length := by
          rcases Nat.lt_or_ge k sg.length with q | q
          · exact q
          · exact absurd ((pos_len y (by omega)).mpr (by omega)) h2
        rw [if_neg h2]
        cases ho : isOpn (sg.getD k (0, false)) with
        | false =>
          have hc : closerOf (l.getD (posN B sg k) 0) = none := by
            have := opn_no (w.get hk').1 ho
            cases hb : (sg.getD k (0, false)).2 with
            | true => rw [(y.two k hk' hb).1]; rfl
            | false => rw [hb] at this; rw [y.one k hk' hb]; exact this
          rw [hc, if_neg (by rintro ⟨_, _, q⟩; cases q)]; rfl
        | true =>
          obtain ⟨hb, hcs⟩ := opn_is ho
          have hc := y.one k hk' hb
          obtain ⟨c1, c2⟩ := closer_is hcs
          have n1 := Lay.next1 (B := B) hk' hb
          rw [hc, c1, if_pos ⟨by omega, by omega, rfl⟩, n1]
          dsimp only
          have tt := ttl_signs y (op := (sg.getD k (0, false)).1) (cl := clO (sg.getD k (0, false)).1) (st := stO (sg.getD k (0, false)).1) (stO_con hcs) c2 (sg.length - (k + 1)) (k + 1) (by omega)
          rw [tt]
          have e1 : ((k + 1 : Nat) : Int) = ((k : Nat) : Int) + 1 := rfl
          rw [e1]
          have sl := scanT_le (offS (stO (sg.getD k (0, false)).1)) (l := sg) (i := ((k : Nat) : Int) + 1) (by omega) (by omega)
          obtain ⟨n, hn⟩ := nat_of (x := scanT (offS (stO (sg.getD k (0, false)).1)) sg (((k : Nat) : Int) + 1)) (by omega)
          rw [hn] at sl ⊢
          cases ha : atS sg (n : Nat) (clO (sg.getD k (0, false)).1, false) with
          | false => rw [if_neg (by decide), if_neg (by decide)]; rfl
          | true =>
            rw [if_pos rfl, if_pos rfl]
            have hn' := atS_lt' ha
            have hsn : sg.getD n (0, false) = (clO (sg.getD k (0, false)).1, false) := by
              rw [atS_at (by omega)] at ha; exact eq_of_beq ha
            have n3 := Lay.next1 (B := B) (sg := sg) (k := n) (by omega) (by rw [hsn])
            dsimp only [Option.map]
            rw [unesc_flat (wf_cut w _ _), Int.toNat_natCast, n3, show (((n : Nat) : Int) + 1).toNat = n + 1 by omega]
end
end Mine

end SQE

section SQF
open PySem PySem.W PyProof.Rows PySem.Calls PySem.Spec
set_option Elab.async false
set_option maxRecDepth 100000
set_option maxHeartbeats 4000000
namespace Mine
section
variable {P : List Nat} {sg : Sg} {lim : Int}
theorem mem_cut {x : Nat × Bool} {a b : Int} (h : x ∈ cutI sg a b) : x ∈ sg := List.mem_of_mem_drop (List.mem_of_mem_take h)
theorem wf_mem : ∀ {sg : Sg} {x : Nat × Bool}, WF sg → x ∈ sg → Al x.1 ∧ (x.2 = true → isPunct x.1 = true)
  | y :: r, x, w, h => by
    rcases List.mem_cons.mp h with rfl | h
    · exact ⟨w.2.2.1, w.1⟩
    · exact wf_mem w.2.2.2 h
theorem no10 {x : Nat × Bool} (w : WF sg) (hx : x ∈ sg) (h : x ≠ (10, false)) : Al x.1 ∧ x.1 ≠ 10 := by
  have a := wf_mem w hx
  refine ⟨a.1, fun e => ?_⟩
  cases hb : x.2 with
  | true =>
    have := a.2 hb
    rw [e] at this
    exact absurd this (by decide)
  | false => exact h (Prod.ext e hb)
theorem hrefS_facts (w : WF sg) (hlim : 0 ≤ lim) {a b e : Int} (h : hrefS lim sg = some (a, b, e)) : 0 ≤ a ∧ a ≤ b ∧ b ≤ e ∧ e ≤ sg.length ∧ ∀ x ∈ cutI sg a b, Al x.1 ∧ x.1 ≠ 10 := by
  have gl := scanT_le isGap (l := sg) (i := 0) (by omega) (by omega)
  obtain ⟨k, hk⟩ := nat_of gl.1
  unfold hrefS at h
  rw [hk] at h gl
  split at h
  · cases h
  · rename_i hne
    split at h
    · split at h
      · rename_i ha
        injection h with h
        injection h with e1 h
        injection h with e2 e3
        subst e1 e2 e3
        have sl := scanT_le (offS [60, 62, 10]) (l := sg) (i := ((k : Nat) : Int) + 1) (by omega) (by omega)
        have hl := atS_lt' ha
        refine ⟨by omega, by omega, by omega, by omega, fun x hx => no10 w (mem_cut hx) ?_⟩
        rintro rfl
        have := scanT_all (offS [60, 62, 10]) (sg.length - (k + 1)) (k + 1) (by omega) _ hx
        exact absurd this (by decide)
      · cases h
    · split at h
      · cases h
      · injection h with h
        injection h with e1 h
        injection h with e2 e3
        subst e1 e2 e3
        have bl := bareI_le (lim := lim) (l := sg) (i := ((k : Nat) : Int)) (lv := 0) (by omega) (by omega)
        refine ⟨by omega, by omega, by omega, by omega, fun x hx => no10 w (mem_cut hx) ?_⟩
        rintro rfl
        have := bare_all lim (sg.length - k) k 0 (by omega) (by omega) hlim _ hx
        exact absurd this (by decide)
theorem href_signs (w : WF sg) (hlim : 0 ≤ lim) (hs : startI (P ++ flat sg) (P.length : Nat) = scanI isWs (P ++ flat sg) (P.length : Nat)) :
    hrefR lim (P ++ flat sg) (P.length : Nat) = (hrefS lim sg).map fun q => (flat (cutI sg q.1 q.2.1), (posN P.length sg q.2.2.toNat : Int)) := by
  have y := lay_of (P := P) w
  have g := scan_gap y sg.length 0 (by omega)
  rw [posN_zero] at g
  have gl := scanT_le isGap (l := sg) (i := ((0 : Nat) : Int)) (by omega) (by omega)
  obtain ⟨k, hk⟩ := nat_of (x := scanT isGap sg ((0 : Nat) : Int)) (by omega)
  rw [hk] at gl g
  rw [Int.toNat_natCast] at g
  have hk0 : scanT isGap sg 0 = (k : Nat) := hk
  unfold hrefR hrefS
  dsimp only
  rw [hs, g, hk0, Int.toNat_natCast, Int.toNat_natCast]
  by_cases h1 : ((P ++ flat sg).length : Int) ≤ (posN P.length sg k : Nat)
  · have := (pos_len y (by omega)).mp h1
    rw [if_pos h1, if_pos (by omega)]; rfl
  · have hk' : k < sg.length := by
      rcases Nat.lt_or_ge k sg.length with q | q
      · exact q
      · exact absurd ((pos_len y (by omega)).mpr (by omega)) h1
    rw [if_neg h1, if_neg (show ¬ ((k : Nat) : Int) = ((sg.length : Nat) : Int) by omega), chr_at y hk' (by decide)]
    cases c1 : (sg.getD k (0, false) == (60, false)) with
    | true =>
      have hb : (sg.getD k (0, false)).2 = false := by rw [eq_of_beq c1]
      have n1 := Lay.next1 (B := P.length) hk' hb
      rw [if_pos rfl, if_pos rfl, n1, ang_signs y (sg.length - (k + 1)) (k + 1) (by omega)]
      have e1 : ((k + 1 : Nat) : Int) = ((k : Nat) : Int) + 1 := rfl
      rw [e1]
      have sl := scanT_le (offS [60, 62, 10]) (l := sg) (i := ((k : Nat) : Int) + 1) (by omega) (by omega)
      obtain ⟨n, hn⟩ := nat_of (x := scanT (offS [60, 62, 10]) sg (((k : Nat) : Int) + 1)) (by omega)
      rw [hn] at sl ⊢
      cases ha : atS sg (n : Nat) (62, false) with
      | false => rw [if_neg (by decide), if_neg (by decide)]; rfl
      | true =>
        have hn' := atS_lt' ha
        have hsn : sg.getD n (0, false) = (62, false) := by
          rw [atS_at (by omega)] at ha; exact eq_of_beq ha
        have n3 := Lay.next1 (B := P.length) (sg := sg) (k := n) (by omega) (by rw [hsn])
        rw [if_pos rfl, if_pos rfl]
        dsimp only [Option.map]
        rw [Int.toNat_natCast, sub_cut (k + 1) n (by omega), n3, show (((n : Nat) : Int) + 1).toNat = n + 1 by omega, e1]
    | false =>
      rw [if_neg (by decide), if_neg (by decide), hrf_signs y lim hlim (sg.length - k) k 0 (by omega) (by omega) hlim]
      have bl := bareI_le (lim := lim) (l := sg) (i := ((k : Nat) : Int)) (lv := 0) (by omega) (by omega)
      obtain ⟨n, hn⟩ := nat_of (x := (bareI lim sg ((k : Nat) : Int) 0).1) (by omega)
      rw [hn] at bl ⊢
      by_cases c2 : 0 < (bareI lim sg ((k : Nat) : Int) 0).2
      · rw [if_pos c2]
        by_cases c3 : lim < (bareI lim sg ((k : Nat) : Int) 0).2
        · rw [if_pos c3]; rfl
        · rw [if_neg c3]
          dsimp only
          rw [if_neg (by omega)]; rfl
      · rw [if_neg c2, if_neg (by omega)]
        dsimp only [Option.map]
        by_cases c4 : (bareI lim sg ((k : Nat) : Int) 0).2 < 0
        · rw [if_pos c4, if_pos rfl, Int.toNat_natCast, sub_cut k n (by omega)]
        · rw [if_neg c4, if_pos (by omega), Int.toNat_natCast, sub_cut k n (by omega)]
theorem tail_signs (w : WF sg) {q : Nat} (hq : q ≤ sg.length) (h t : List Nat) :
    (if ((P ++ flat sg).length : Int) ≤ scanI isWs (P ++ flat sg) (posN P.length sg q : Nat) then (none : Option (List Nat × List Nat × Int))
      else if ((P ++ flat sg).getD (scanI isWs (P ++ flat sg) (posN P.length sg q : Nat)).toNat 0 == 41) = true then some (h, t, scanI isWs (P ++ flat sg) (posN P.length sg q : Nat) + 1) else none) =
    if atS sg (scanT isGap sg (q : Nat)) (41, false) = true then some (h, t, (posN P.length sg (scanT isGap sg (q : Nat) + 1).toNat : Int)) else none := by
  have y := lay_of (P := P) w
  have g := scan_gap y (sg.length - q) q (by omega)
  have gl := scanT_le isGap (l := sg) (i := ((q : Nat) : Int)) (by omega) (by omega)
  obtain ⟨k, hk⟩ := nat_of (x := scanT isGap sg (q : Nat)) (by omega)
  rw [hk] at gl g ⊢
  rw [Int.toNat_natCast] at g
  rw [g, Int.toNat_natCast]
  by_cases h1 : ((P ++ flat sg).length : Int) ≤ (posN P.length sg k : Nat)
  · have := (pos_len y (by omega)).mp h1
    rw [if_pos h1, atS_end (by omega)]; rfl
  · have hk' : k < sg.length := by
      rcases Nat.lt_or_ge k sg.length with q | q
      · exact q
      · exact absurd ((pos_len y (by omega)).mpr (by omega)) h1
    rw [if_neg h1, chr_at y hk' (by decide), atS_at hk']
    cases c1 : (sg.getD k (0, false) == (41, false)) with
    | true =>
      have hb : (sg.getD k (0, false)).2 = false := by rw [eq_of_beq c1]
      have n1 := Lay.next1 (B := P.length) hk' hb
      rw [if_pos rfl, if_pos rfl, n1, show (((k : Nat) : Int) + 1).toNat = k + 1 by omega]
    | false => rfl
theorem link_signs (w : WF sg) (hlim : 0 ≤ lim) (hs : startI (P ++ flat sg) (P.length : Nat) = scanI isWs (P ++ flat sg) (P.length : Nat)) :
    linkR lim (P ++ flat sg) (P.length : Nat) = (readI lim sg).map fun q => (flat (cutI sg q.1 q.2.1), (cutI sg q.2.2.1 q.2.2.2.1).map (·.1), (posN P.length sg q.2.2.2.2.toNat : Int)) := by
  have y := lay_of (P := P) w
  rw [readI_href]
  unfold linkR
  rw [href_signs w hlim hs]
  cases hh : hrefS lim sg with
  | none => rfl
  | some v =>
    obtain ⟨a, b, e⟩ := v
    have f := hrefS_facts w hlim hh
    obtain ⟨n, hn⟩ := nat_of (x := e) (by omega)
    subst hn
    dsimp only [Option.map]
    rw [Int.toNat_natCast, title_signs y w (by omega)]
    cases ht : titleS sg (n : Nat) with
    | some v =>
      obtain ⟨c, d, q⟩ := v
      have hq : 0 ≤ q ∧ q ≤ sg.length := by
        unfold titleS at ht
        split at ht
        · rename_i h1
          split at ht
          · rename_i h2
            have hl := atS_lt' h2
            injection ht with ht
            injection ht with e1 ht
            injection ht with e2 e3
            have sl := scanT_le (offS (stO (sg.getD (scanT isGap sg (n : Nat)).toNat (0, false)).1)) (l := sg) (i := scanT isGap sg (n : Nat) + 1) (by omega) (by omega)
            omega
          · cases ht
        · cases ht
      obtain ⟨m, hm⟩ := nat_of hq.1
      subst hm
      rw [restI_some ht]
      dsimp only [Option.map]
      simp only [Int.toNat_natCast]
      rw [tail_signs w (by omega)]
      unfold tailI
      split <;> rfl
    | none =>
      dsimp only [Option.map]
      rw [tail_signs w (by omega)]
      by_cases ho : ((n : Nat) : Int) < scanT isGap sg (n : Nat) ∧ scanT isGap sg (n : Nat) < sg.length ∧ isOpn (sg.getD (scanT isGap sg (n : Nat)).toNat (0, false)) = true
      · rw [restI_noneO ht ho]
        have gl := scanT_le isGap (l := sg) (i := ((n : Nat) : Int)) (by omega) (by omega)
        obtain ⟨k, hk⟩ := nat_of (x := scanT isGap sg (n : Nat)) (by omega)
        rw [hk] at ho ⊢
        rw [Int.toNat_natCast] at ho
        have h41 : atS sg (k : Nat) (41, false) = false := by
          rw [atS_at (by omega), beq_eq_false_iff_ne]
          intro e9
          have := ho.2.2
          rw [e9] at this
          exact absurd this (by decide)
        rw [h41]; rfl
      · rw [restI_no ho]
        unfold tailI
        split
        · have c0 : cutI sg 0 0 = [] := cut_self
          dsimp only
          rw [c0]; rfl
        · rfl
end
/-- what parse_link tells of a laid text, by the law's own reader -/
theorem law2_plain {T P : List Nat} {lim : Int} (hT : Good T) (hP : ∀ c ∈ P, isWs c = false) (hlim : 0 ≤ lim) :
    NoBlank (P ++ T) ∧
    (∀ h e, hrefR lim (P ++ T) (P.length : Nat) = some (h, e) → Quotable (unescL h) ∧ NoRef (unescL h)) ∧
    (match readI lim (signsA T) with
      | none => linkR lim (P ++ T) (P.length : Nat) = none
      | some (a, b, c, d, k) => ∃ h, linkR lim (P ++ T) (P.length : Nat) = some (h, (cutI (signsA T) c d).map (·.1), (P.length : Int) + (flat ((signsA T).take k.toNat)).length) ∧ quoteL (unescL h) = addrL (cutI (signsA T) a b)) := by
  have w := wf_signs _ T (Nat.le_refl _) hT.al
  have eT := flat_signs _ T (Nat.le_refl _)
  have h10 : ∀ c ∈ P, c ≠ 10 ∧ c ≠ 9 := fun c hc => by
    have := hP c hc
    constructor <;> (rintro rfl; cases this)
  have h9 : ∀ c ∈ P ++ T, c ≠ 9 := fun c hc => by
    rcases List.mem_append.mp hc with q | q
    · exact (h10 c q).2
    · rintro rfl
      exact absurd (hT.al _ q) (by unfold Al; decide)
  have nbP : ∀ {P : List Nat}, (∀ c ∈ P, c ≠ 10 ∧ c ≠ 9) → Nb P ∧ lastL P ≠ [10] := by
    intro P
    induction P with
    | nil => intro _; exact ⟨trivial, by decide⟩
    | cons c r ih =>
      intro h
      have i2 := ih fun d hd => h d (.tail _ hd)
      refine ⟨⟨fun e => absurd e (h c (.head _)).1, i2.1⟩, ?_⟩
      cases r with
      | nil => intro e; injection e with e _; exact (h c (.head _)).1 e
      | cons d q => rw [lastL_cons]; exact i2.2
  have nb : Nb (P ++ T) := (nbP h10).1.app hT.nb fun e => absurd e (nbP h10).2
  have nB := noBlank_of nb h9
  have hw : ∀ j, isWs ((P ++ T).getD j 0) = true → (P ++ T).getD j 0 = 32 ∨ (P ++ T).getD j 0 = 10 := by
    intro j hj
    rcases Nat.lt_or_ge j (P ++ T).length with q | q
    · have hm : (P ++ T).getD j 0 ∈ P ++ T := by simp only [List.getD, q, List.getElem?_eq_getElem, Option.getD_some]; exact List.getElem_mem q
      rcases List.mem_append.mp hm with p | p
      · rw [hP _ p] at hj; cases hj
      · have := hT.al _ p
        unfold Al at this
        rw [List.contains_iff_mem] at this
        simp only [List.mem_cons, List.not_mem_nil, or_false] at this
        rcases this with e | e | e | e | e | e | e | e | e | e | e | e | e | e <;> rw [e] at hj ⊢ <;> first | exact .inl rfl | exact .inr rfl | (cases hj)
    · rw [getD_of_le q] at hj; cases hj
  have hs : startI (P ++ T) (P.length : Nat) = scanI isWs (P ++ T) (P.length : Nat) := start_ws nB hw T.length P.length (by simp)
  have hh := href_signs (P := P) (lim := lim) w hlim (by rw [eT]; exact hs)
  have hl := link_signs (P := P) (lim := lim) w hlim (by rw [eT]; exact hs)
  rw [eT] at hh hl
  have hq : ∀ a b e, hrefS lim (signsA T) = some (a, b, e) → quoteL (unescL (flat (cutI (signsA T) a b))) = addrL (cutI (signsA T) a b) ∧ Quotable (unescL (flat (cutI (signsA T) a b))) ∧ NoRef (unescL (flat (cutI (signsA T) a b))) := by
    intro a b e he
    have f := (hrefS_facts w hlim he).2.2.2.2
    rw [unesc_flat (wf_cut w a b)]
    exact ⟨quote_addr f, quotable_of f, noref_of f⟩
  refine ⟨nB, fun h e he => ?_, ?_⟩
  · rw [hh] at he
    cases hS : hrefS lim (signsA T) with
    | none => rw [hS] at he; cases he
    | some v =>
      obtain ⟨a, b, e'⟩ := v
      rw [hS] at he
      injection he with he
      injection he with e1 _
      subst e1
      exact (hq a b e' hS).2
  · rw [hl]
    cases hR : readI lim (signsA T) with
    | none => rfl
    | some v =>
      obtain ⟨a, b, c, d, k⟩ := v
      refine ⟨_, rfl, ?_⟩
      rw [readI_href] at hR
      cases hS : hrefS lim (signsA T) with
      | none => rw [hS] at hR; cases hR
      | some v =>
        obtain ⟨a', b', e'⟩ := v
        rw [hS] at hR
        dsimp only at hR
        have hab : a = a' ∧ b = b' := by
          unfold restI tailI at hR
          dsimp only at hR
          split at hR
          · split at hR
            · split at hR
              · injection hR with hR
                injection hR with e1 hR
                injection hR with e2 _
                exact ⟨e1.symm, e2.symm⟩
              · cases hR
            · cases hR
          · split at hR
            · injection hR with hR
              injection hR with e1 hR
              injection hR with e2 _
              exact ⟨e1.symm, e2.symm⟩
            · cases hR
        rw [hab.1, hab.2]
        exact (hq a' b' e' hS).1
end Mine

end SQF

section SNK
open PySem PySem.W PyProof.Rows PySem.Calls PySem.Spec PyProof.Rows.LCg
set_option Elab.async false
set_option maxRecDepth 100000
set_option maxHeartbeats 4000000
namespace Mine
section
variable {prog : Program} {w : World} {A : Around} {E : Value → Shared → Prop} {s : Shared} {h₀ : Heap} {L D : Addr} {m : Str → Option Value} {news all : List (Addr × Obj)} {t u : Tok} {Q : Value → Shared → Prop} {value slice : PySem.Expr} {k : Int}
theorem fm3 (x : Int) : 0 ≤ x.fmod 3 ∧ x.fmod 3 < 3 := ⟨Int.fmod_nonneg_of_pos x (by decide), Int.fmod_lt_of_pos x (by decide)⟩
theorem fm4 (x : Int) : 0 ≤ x.fmod 4 ∧ x.fmod 4 < 4 := ⟨Int.fmod_nonneg_of_pos x (by decide), Int.fmod_lt_of_pos x (by decide)⟩
theorem lim_item {t0 t1 t2 : Tok} (hl : s.heap.IsList D #[.int 20 t0, .int 1 t1, .int 2 t2]) (h0 : 0 ≤ k) (h1 : k < 3) (h : ∀ n t, 1 ≤ n → n ≤ 20 → Q (.int n t) s)
    (hs : subscripted slice false (.ref D) (.int k u) = operate [.ref D, .int k u] (getItem (.ref D) (.int k u)) := by with_unfolding_all rfl) :
    wpAny (model prog w) A (subscriptTail value slice (.ref D) (.int k u)) Q E s := by
  refine kba_turn (value' := PySem.Expr.Name (PySem.Str.ofString "_") ⟨0, 0, 0, 0⟩) (fun _ => rfl) ?_
  rcases (by omega : k = 0 ∨ k = 1 ∨ k = 2) with rfl | rfl | rfl
  · exact item_list hl (by omega) (by omega) rfl (h _ _ (by omega) (by omega)) hs (fun _ => rfl)
  · exact item_list hl (by omega) (by omega) rfl (h _ _ (by omega) (by omega)) hs (fun _ => rfl)
  · exact item_list hl (by omega) (by omega) rfl (h _ _ (by omega) (by omega)) hs (fun _ => rfl)
theorem form_item {t0 t1 t2 t3 : Tok} (hl : s.heap.IsList D #[.int 1 t0, .int 2 t1, .int 3 t2, .int 0 t3]) (h0 : 0 ≤ k) (h1 : k < 4) (h : ∀ n t, 0 ≤ n → n ≤ 3 → Q (.int n t) s)
    (hs : subscripted slice false (.ref D) (.int k u) = operate [.ref D, .int k u] (getItem (.ref D) (.int k u)) := by with_unfolding_all rfl) :
    wpAny (model prog w) A (subscriptTail value slice (.ref D) (.int k u)) Q E s := by
  refine kba_turn (value' := PySem.Expr.Name (PySem.Str.ofString "_") ⟨0, 0, 0, 0⟩) (fun _ => rfl) ?_
  rcases (by omega : k = 0 ∨ k = 1 ∨ k = 2 ∨ k = 3) with rfl | rfl | rfl | rfl
  · exact item_list hl (by omega) (by omega) rfl (h _ _ (by omega) (by omega)) hs (fun _ => rfl)
  · exact item_list hl (by omega) (by omega) rfl (h _ _ (by omega) (by omega)) hs (fun _ => rfl)
  · exact item_list hl (by omega) (by omega) rfl (h _ _ (by omega) (by omega)) hs (fun _ => rfl)
  · exact item_list hl (by omega) (by omega) rfl (h _ _ (by omega) (by omega)) hs (fun _ => rfl)
theorem bef_item {t0 t1 t2 : Tok} (hl : s.heap.IsList D #[.str (Str.ofString "") t0, .str (Str.ofString "](") t1, .str (Str.ofString "a") t2]) (h0 : 0 ≤ k) (h1 : k < 3) (h : ∀ P t, (∀ c ∈ P, isWs c = false) → P.length ≤ 2 → Q (.str (S P) t) s)
    (hs : subscripted slice false (.ref D) (.int k u) = operate [.ref D, .int k u] (getItem (.ref D) (.int k u)) := by with_unfolding_all rfl) :
    wpAny (model prog w) A (subscriptTail value slice (.ref D) (.int k u)) Q E s := by
  refine kba_turn (value' := PySem.Expr.Name (PySem.Str.ofString "_") ⟨0, 0, 0, 0⟩) (fun _ => rfl) ?_
  have e0 : Str.ofString "" = S [] := by decide
  have e1 : Str.ofString "](" = S [93, 40] := by decide
  have e2 : Str.ofString "a" = S [97] := by decide
  rw [e0, e1, e2] at hl
  rcases (by omega : k = 0 ∨ k = 1 ∨ k = 2) with rfl | rfl | rfl
  · exact item_list hl (by omega) (by omega) rfl (h [] _ (by decide) (by decide)) hs (fun _ => rfl)
  · exact item_list hl (by omega) (by omega) rfl (h [93, 40] _ (by decide) (by decide)) hs (fun _ => rfl)
  · exact item_list hl (by omega) (by omega) rfl (h [97] _ (by decide) (by decide)) hs (fun _ => rfl)
end
end Mine

end SNK

section SNL
open PySem PySem.W PyProof.Rows PySem.Calls PySem.Spec PyProof.Rows.LCg
set_option Elab.async false
set_option maxRecDepth 100000
set_option maxHeartbeats 4000000
namespace Mine
section
variable {prog : Program} {w : World} {K : Frag} {dep : Nat} {f : Addr} {p : Program} {loose : List Str} {mean : ExcName → Option Value} {mg mb : Str → Option Value} {dp un : Nat} {gd : Option (List Code)} {cn : Str} {cs : Scope} {a : Addr} {ccd : Value} {cl : List (Str × Addr)} {outer : List Env} {A₀ : Around} {base h₀ : Heap} {L : Addr} {m : Str → Option Value} {s : Shared} {Q E : Value → Shared → Prop} {all : List (Addr × Obj)}
abbrev tab76 : Addr × Obj := (76, tabObj #[])
theorem law_laid {R : Addr} {vs : List Value} {ns : List Int} {nr : Nat} {form : Int} {tf : Tok}
    (hc : ∀ (R : Addr) (vs : List Value) (ns : List Int) (nr : Nat) (form : Int) (tf : Tok), IntsAre vs ns → ns.length ≤ 18 → 0 ≤ form → form ≤ 3 → Con prog w K dep f [.ref R, .int form tf] [] [(R, W.listOf vs.toArray nr)] (fun v new mt' => (∃ T t, v = .str (S T) t ∧ Good T ∧ T.length ≤ 200) ∧ new = [] ∧ mt' = [(R, W.listOf vs.toArray nr)]))
    (B : Below A₀ base outer h₀) (F : Fr h₀ L s.heap m) (X : K.In h₀) (N : News h₀ L s.heap all) (T' : Top p loose mean mg mb h₀) (hk : cs.kind = .function) (hd : dp + dep < recursionLimit) (hu : un + 8 * dep < cLine)
    (hR : (R, W.listOf vs.toArray nr) ∈ all) (h76 : tab76 ∈ all) (hne : @LT.lt Nat _ 76 R) (hi : IntsAre vs ns) (hl : ns.length ≤ 18) (hf0 : 0 ≤ form) (hf1 : form ≤ 3)
    (h : ∀ T t h' tk', Good T → T.length ≤ 200 → Fr h₀ L h' m → News h₀ L h' [tab76] → Q (.str (S T) t) { s with heap := h', toks := tk' }) :
    wpAny (model prog w) (ktrTop dp un gd cn cs L a ccd cl outer) (call (.ref f) [.ref R, .int form tf] []) Q E s := by
  refine Con.useM [tab76] (hc R vs ns nr form tf hi hl hf0 hf1) B F X N (List.forall_mem_cons.mpr ⟨hR, List.forall_mem_cons.mpr ⟨h76, List.forall_mem_nil _⟩⟩) ?_ T' hk hd hu ?_
  · intro q hq r hr
    rw [List.mem_singleton.mp hq, List.mem_singleton.mp hr]
    exact Nat.ne_of_gt hne
  · rintro v h' tk' new mt' ⟨⟨T, t, rfl, hg, hlen⟩, rfl, rfl⟩ _ F' N'
    exact h T t h' tk' hg hlen F' fun q hq => N' q (.tail _ hq)
theorem law_signs {T : List Nat} {tx : Tok}
    (hc : ∀ (l : List Nat) (tx : Tok), l.length < 2 ^ 19 → ConP prog w K dep f [.str (S l) tx] [] (fun _ => True) (fun v new => ∃ D q n, v = .ref D ∧ new = (D, lstObj (refV (qA q)) n) :: tupL q ∧ qS q = signsA l))
    (B : Below A₀ base outer h₀) (F : Fr h₀ L s.heap m) (X : K.In h₀) (N : News h₀ L s.heap all) (T' : Top p loose mean mg mb h₀) (hk : cs.kind = .function) (hd : dp + dep < recursionLimit) (hu : un + 8 * dep < cLine)
    (h76 : tab76 ∈ all) (hl : T.length ≤ 200)
    (h : ∀ D q n h' tk', qS q = signsA T → Fr h₀ L h' m → News h₀ L h' ((D, lstObj (refV (qA q)) n) :: tab76 :: tupL q) → Q (.ref D) { s with heap := h', toks := tk' }) :
    wpAny (model prog w) (ktrTop dp un gd cn cs L a ccd cl outer) (call (.ref f) [.str (S T) tx] []) Q E s := by
  refine ConP.use (hc T tx (by omega)) B F X N trivial T' hk hd hu ?_
  rintro v h' tk' new ⟨D, q, n, rfl, rfl, hq⟩ _ F' N'
  refine h D q n h' tk' hq F' fun r hr => N' r ?_
  simp only [List.mem_cons, List.mem_append, List.cons_append] at hr ⊢
  rcases hr with e | e | e
  · exact .inl e
  · exact .inr (.inr (e ▸ h76))
  · exact .inr (.inl e)
theorem sg_pre {h : Heap} {D : Addr} {q : SgQ} {n : Nat} (N : News h₀ L h all) (hD : (D, lstObj (refV (qA q)) n) ∈ all) (hq : ∀ r ∈ tupL q, r ∈ all) : SgAt D (qA q) (qS q) h :=
  ⟨⟨n, (N _ hD).1⟩, tupL_at fun r hr => N r (hq r hr)⟩
theorem sg_preC {h : Heap} {D : Addr} {q : SgQ} {n : Nat} {x y : Int} (N : News h₀ L h all) (hD : (D, lstObj (refV (cutI (qA q) x y)) n) ∈ all) (hq : ∀ r ∈ tupL q, r ∈ all) : SgAt D (cutI (qA q) x y) (cutI (qS q) x y) h :=
  ⟨⟨n, (N _ hD).1⟩, (tupL_at fun r hr => N r (hq r hr)).cut x y⟩
theorem signs_len : ∀ (n : Nat) (T : List Nat), T.length ≤ n → (signsA T).length ≤ T.length := by
  intro n
  induction n with
  | zero =>
    intro T h
    have : T = [] := List.length_eq_zero_iff.mp (by omega)
    subst this
    rw [signsA]; simp
  | succ n ih =>
    intro T h
    cases T with
    | nil => rw [signsA]; simp
    | cons c r =>
      simp only [List.length_cons] at h
      rw [signsA]
      split
      · rename_i hc
        have hr : 0 < r.length := by
          cases r with
          | nil => exact absurd rfl hc.2.1
          | cons _ _ => simp
        have := ih r.tail (by simp; omega)
        simp only [List.length_cons, List.length_tail] at this ⊢; omega
      · have := ih r (by omega); simp only [List.length_cons]; omega
theorem law_read {D : Addr} {q : SgQ} {n : Nat} {T : List Nat} {lim : Int} {tl : Tok}
    (hc : ∀ (D : Addr) (as : List Addr) (sg : Sg) (tl : Tok) (lim : Int), sg.length < 2 ^ 19 → 0 ≤ lim → lim ≤ 100 → ConP prog w K dep f [.ref D, .int lim tl] [] (SgAt D as sg) (ReadPost as lim sg))
    (B : Below A₀ base outer h₀) (F : Fr h₀ L s.heap m) (X : K.In h₀) (N : News h₀ L s.heap ((D, lstObj (refV (qA q)) n) :: tab76 :: tupL q)) (T' : Top p loose mean mg mb h₀) (hk : cs.kind = .function) (hd : dp + dep < recursionLimit) (hu : un + 8 * dep < cLine)
    (hq : qS q = signsA T) (hl : T.length ≤ 200) (h0 : 1 ≤ lim) (h1 : lim ≤ 20)
    (g1 : readI lim (signsA T) = none → ∀ h' tk', Fr h₀ L h' m → News h₀ L h' ((D, lstObj (refV (qA q)) n) :: tab76 :: tupL q) → Q .none { s with heap := h', toks := tk' })
    (g2 : ∀ x y c d k, readI lim (signsA T) = some (x, y, c, d, k) → ∀ r A1 A2 n1 n2 t h' tk', Fr h₀ L h' m → News h₀ L h' ((r, tupObj [.ref A1, .ref A2, .int k t]) :: (A1, lstObj (refV (cutI (qA q) x y)) n1) :: (A2, lstObj (refV (cutI (qA q) c d)) n2) :: (D, lstObj (refV (qA q)) n) :: tab76 :: tupL q) → Q (.ref r) { s with heap := h', toks := tk' }) :
    wpAny (model prog w) (ktrTop dp un gd cn cs L a ccd cl outer) (call (.ref f) [.ref D, .int lim tl] []) Q E s := by
  have sl := signs_len _ T (Nat.le_refl _)
  have P := sg_pre N (.head _) (fun r hr => .tail _ (.tail _ hr))
  rw [hq] at P
  refine ConP.use (hc D (qA q) (signsA T) tl lim (by omega) (by omega) (by omega)) B F X N P T' hk hd hu ?_
  rintro v h' tk' new hP _ F' N'
  unfold ReadPost at hP
  cases hr : readI lim (signsA T) with
  | none =>
    rw [hr] at hP
    obtain ⟨rfl, rfl⟩ := hP
    exact g1 hr h' tk' F' N'
  | some v =>
    obtain ⟨x, y, c, d, k⟩ := v
    rw [hr] at hP
    obtain ⟨r, A1, A2, n1, n2, t, rfl, rfl⟩ := hP
    exact g2 x y c d k hr r A1 A2 n1 n2 t h' tk' F' N'
abbrev LinkCon2 (TL : List (Addr × Obj) → Prop) (prog : Program) (w : World) (K : Frag) (dep : Nat) (f : Addr) : Prop :=
  ∀ (l : List Nat) (tx ti tl : Tok) (i lim : Int) (mt : List (Addr × Obj)), 0 ≤ i → i ≤ l.length → l.length < 2 ^ 19 → 0 ≤ lim → lim ≤ 100 → NoBlank l → TL mt →
    (∀ h e, hrefR lim l i = some (h, e) → Quotable (unescL h) ∧ NoRef (unescL h)) →
    Con prog w K dep f [.str (S l) tx, .int i ti] [(Str.ofString "max_nested_level", .int lim tl)] mt (fun v new mt' => (∃ r, v = .ref r ∧ match linkR lim l i with
      | some (h, a, n) => ∃ d od t1, new = [(r, tupObj [.ref d, .int n t1]), (d, od)] ∧ (LinkObj prog w od (quoteL (unescL h)) a ∧ (d == sysModules) = false)
      | none => new = [(r, tupObj [.none, .none])]) ∧ TL mt')
/-- parse_link, where the law's reader refuses -/
theorem law_linkN (TL : List (Addr × Obj) → Prop) {P T : List Nat} {lim : Int} {tx ti tl : Tok} (hc : LinkCon2 TL prog w K dep f) (B : Below A₀ base outer h₀) (F : Fr h₀ L s.heap m) (X : K.In h₀) (N : News h₀ L s.heap all) (T' : Top p loose mean mg mb h₀) (hk : cs.kind = .function) (hd : dp + dep < recursionLimit) (hu : un + 8 * dep < cLine)
    (h76 : tab76 ∈ all) (hTL : TL [tab76]) (hg : Good T) (hl : T.length ≤ 200) (hP : ∀ c ∈ P, isWs c = false) (hPl : P.length ≤ 2) (h0 : 1 ≤ lim) (h1 : lim ≤ 20) (hr : readI lim (signsA T) = none)
    (g : ∀ r (mt1 : List (Addr × Obj)) h' tk', TL mt1 → Fr h₀ L h' m → News h₀ L h' ((r, tupObj [.none, .none]) :: mt1) → Q (.ref r) { s with heap := h', toks := tk' }) :
    wpAny (model prog w) (ktrTop dp un gd cn cs L a ccd cl outer) (call (.ref f) [.str (S (P ++ T)) tx, .int (P.length : Nat) ti] [(Str.ofString "max_nested_level", .int lim tl)]) Q E s := by
  obtain ⟨nb, hq, hl2⟩ := law2_plain (T := T) (P := P) (lim := lim) hg hP (by omega)
  rw [hr] at hl2
  dsimp only at hl2
  refine Con.useM [] (hc (P ++ T) tx ti tl (P.length : Nat) lim [tab76] (by omega) (by rw [List.length_append]; omega) (by rw [List.length_append]; omega) (by omega) (by omega) nb hTL hq) B F X N (fun z hz => ?_) (fun z hz y hy => nomatch hy) T' hk hd hu ?_
  · rw [List.append_nil, List.mem_singleton] at hz; rw [hz]; exact h76
  · rintro v h' tk' new mt1 ⟨⟨r, rfl, hm1⟩, hTab1⟩ _ F' N'
    rw [hl2] at hm1
    dsimp only at hm1
    subst hm1
    exact g r mt1 h' tk' hTab1 F' fun z hz => N' z (by simpa using hz)
/-- parse_link, where the law's reader tells a link -/
theorem law_linkS (TL : List (Addr × Obj) → Prop) {P T : List Nat} {lim : Int} {tx ti tl : Tok} {r0 A1 A2 D : Addr} {v0 v1 v2 v3 : List Value} {n1 n2 n3 : Nat} {q : SgQ} {x y c d k : Int} (hc : LinkCon2 TL prog w K dep f) (B : Below A₀ base outer h₀) (F : Fr h₀ L s.heap m) (X : K.In h₀)
    (N : News h₀ L s.heap ((r0, tupObj v0) :: (A1, lstObj v1 n1) :: (A2, lstObj v2 n2) :: (D, lstObj v3 n3) :: tab76 :: tupL q)) (T' : Top p loose mean mg mb h₀) (hk : cs.kind = .function) (hd : dp + dep < recursionLimit) (hu : un + 8 * dep < cLine)
    (hTL : TL [tab76]) (hg : Good T) (hl : T.length ≤ 200) (hP : ∀ c ∈ P, isWs c = false) (hPl : P.length ≤ 2) (h0 : 1 ≤ lim) (h1 : lim ≤ 20) (hr : readI lim (signsA T) = some (x, y, c, d, k))
    (g : ∀ r dd od t1 (mt1 : List (Addr × Obj)) h' tk', LinkObj prog w od (addrL (cutI (signsA T) x y)) ((cutI (signsA T) c d).map (·.1)) → (dd == sysModules) = false → TL mt1 → Fr h₀ L h' m →
      News h₀ L h' ((r, tupObj [.ref dd, .int ((P.length : Int) + (flat ((signsA T).take k.toNat)).length) t1]) :: (dd, od) :: (r0, tupObj v0) :: (A1, lstObj v1 n1) :: (A2, lstObj v2 n2) :: (D, lstObj v3 n3) :: (tupL q ++ mt1)) → Q (.ref r) { s with heap := h', toks := tk' }) :
    wpAny (model prog w) (ktrTop dp un gd cn cs L a ccd cl outer) (call (.ref f) [.str (S (P ++ T)) tx, .int (P.length : Nat) ti] [(Str.ofString "max_nested_level", .int lim tl)]) Q E s := by
  obtain ⟨nb, hq, hl2⟩ := law2_plain (T := T) (P := P) (lim := lim) hg hP (by omega)
  rw [hr] at hl2
  dsimp only at hl2
  obtain ⟨h, hl3, hl4⟩ := hl2
  have cl76 : ∀ (z : Addr × Obj) (t : String), z ∈ ((r0, tupObj v0) :: (A1, lstObj v1 n1) :: (A2, lstObj v2 n2) :: (D, lstObj v3 n3) :: tab76 :: tupL q) → z.2.cls = .type t → z.1 ≠ 76 := by
    intro z t hz hcl e
    have e1 := (N z hz).1
    have e2 := (N tab76 (by simp)).1
    rw [e] at e1
    dsimp only [tab76] at e2
    rw [e1] at e2
    injection e2 with e2
    rw [e2] at hcl
    cases hcl
  refine Con.useM ((r0, tupObj v0) :: (A1, lstObj v1 n1) :: (A2, lstObj v2 n2) :: (D, lstObj v3 n3) :: tupL q) (hc (P ++ T) tx ti tl (P.length : Nat) lim [tab76] (by omega) (by rw [List.length_append]; omega) (by rw [List.length_append]; omega) (by omega) (by omega) nb hTL hq) B F X N (fun z hz => ?_) (fun z hz y hy => ?_) T' hk hd hu ?_
  · simp only [List.cons_append, List.nil_append, List.mem_cons] at hz ⊢
    rcases hz with e | e | e | e | e | e <;> simp [e]
  · rw [List.mem_singleton.mp hz]
    simp only [List.mem_cons] at hy
    rcases hy with rfl | rfl | rfl | rfl | hy
    · exact (cl76 _ "tuple" (by simp) rfl).symm
    · exact (cl76 _ "list" (by simp) rfl).symm
    · exact (cl76 _ "list" (by simp) rfl).symm
    · exact (cl76 _ "list" (by simp) rfl).symm
    · refine (cl76 y "tuple" (by simp [hy]) ?_).symm
      obtain ⟨z, _, rfl⟩ := List.mem_map.mp hy
      rfl
  · rintro v h' tk' new mt1 ⟨⟨r, rfl, hm1⟩, hTab1⟩ hdis F' N'
    rw [hl3] at hm1
    dsimp only at hm1
    obtain ⟨dd, od, t1, rfl, hlo, hsy⟩ := hm1
    rw [hl4] at hlo
    refine g r dd od t1 mt1 h' tk' hlo hsy hTab1 F' fun z hz => N' z ?_
    simp only [List.cons_append, List.nil_append, List.mem_cons, List.mem_append] at hz ⊢
    rcases hz with e | e | e | e | e | e | e | e <;> simp [e]
/-- the address, as the law writes it -/
theorem law_addr {A1 : Addr} {q : SgQ} {T : List Nat} {n1 : Nat} {x y : Int}
    (hc : ∀ (D : Addr) (as : List Addr) (sg : Sg), sg.length < 2 ^ 19 → as.length = sg.length → ConP prog w K dep f [.ref D] [] (SgAt D as sg) (fun v new => (∃ t, v = .str (S (addrL sg)) t) ∧ new = []))
    (B : Below A₀ base outer h₀) (F : Fr h₀ L s.heap m) (X : K.In h₀) (N : News h₀ L s.heap all) (T' : Top p loose mean mg mb h₀) (hk : cs.kind = .function) (hd : dp + dep < recursionLimit) (hu : un + 8 * dep < cLine)
    (hA : (A1, lstObj (refV (cutI (qA q) x y)) n1) ∈ all) (hT : ∀ z ∈ tupL q, z ∈ all) (hq : qS q = signsA T) (hl : T.length ≤ 200)
    (h : ∀ t h' tk', Fr h₀ L h' m → News h₀ L h' all → Q (.str (S (addrL (cutI (signsA T) x y))) t) { s with heap := h', toks := tk' }) :
    wpAny (model prog w) (ktrTop dp un gd cn cs L a ccd cl outer) (call (.ref f) [.ref A1] []) Q E s := by
  have sl := signs_len _ T (Nat.le_refl _)
  have P := sg_preC (q := q) N hA hT
  rw [hq] at P
  have hlen := P.2.1
  have hz : (cutI (signsA T) x y).length ≤ (signsA T).length := by unfold cutI; rw [List.length_take, List.length_drop]; omega
  refine ConP.use (hc A1 (cutI (qA q) x y) (cutI (signsA T) x y) (by omega) hlen) B F X N P T' hk hd hu ?_
  rintro v h' tk' new ⟨⟨t, rfl⟩, rfl⟩ _ F' N'
  exact h t h' tk' F' N'
end
end Mine

end SNL

section SNM
open PySem PySem.W PyProof.Rows PySem.Calls PySem.Spec PyProof.Rows.LCg
set_option Elab.async false
set_option maxRecDepth 100000
set_option maxHeartbeats 4000000
namespace Mine
section
variable {prog : Program} {w : World} {A : Around} {E : Value → Shared → Prop} {s : Shared} {a b : Addr} {x1 x2 y1 y2 : Value}
theorem eq_pair_same {Q : Value → Shared → Prop} (ha : s.heap.get? a = some (tupObj [x1, x2])) (hb : s.heap.get? b = some (tupObj [y1, y2])) (hu : A.units < cLine) (h1 : EqM prog w A.in1 s x1 y1 true) (h2 : EqM prog w A.in1 s x2 y2 true) (h : Q (.bool true) s) :
    wpAny (model prog w) A (compareOp .Eq (.ref a) (.ref b)) Q E s := eq_pair ha hb hu h1 (fun _ => h2) h
theorem EqM.int_eq {i j : Int} {t u : Tok} (h : i = j) : EqM prog w A s (.int i t) (.int j u) true := by subst h; exact EqM.int_same
end
section
variable {prog : Program} {w : World} {A : Around} {E : Value → Shared → Prop} {s : Shared} {h₀ : Heap} {L : Addr} {m : Str → Option Value} {env : Env} {all : List (Addr × Obj)} {q : SgQ} {T : List Nat} {A2 D : Addr} {c d : Int} {n2 n : Nat}
theorem cut_len {α : Type} (l : List α) (x y : Int) : (cutI l x y).length ≤ l.length := by unfold cutI; rw [List.length_take, List.length_drop]; omega
theorem q_lens (hq : qS q = signsA T) (hl : T.length ≤ 200) (x y : Int) : (cutI (qA q) x y).length = (cutI (signsA T) x y).length ∧ (cutI (signsA T) x y).length ≤ 200 := by
  have e : (qA q).length = (qS q).length := by simp
  have sl := signs_len _ T (Nat.le_refl _)
  have c1 := cut_len (signsA T) x y
  refine ⟨?_, by omega⟩
  rw [← hq]
  unfold cutI
  rw [List.length_take, List.length_drop, List.length_take, List.length_drop, e]
theorem title_truthy {Q : Bool → Shared → Prop} (N : News h₀ L s.heap all) (hA : (A2, lstObj (refV (cutI (qA q) c d)) n2) ∈ all) (hq : qS q = signsA T) (hl : T.length ≤ 200) (h : ∀ k, Q (!((cutI (signsA T) c d).map (·.1)).isEmpty) { s with toks := k }) : wpAny (model prog w) A (truthy (.ref A2)) Q E s := by
  have ql := q_lens hq hl c d
  refine wpAny_truthy_list (News.isList N hA) (by simp; omega) ?_
  have e : (!(refV (cutI (qA q) c d)).toArray.isEmpty) = !((cutI (signsA T) c d).map (·.1)).isEmpty := by
    congr 1
    rw [Bool.eq_iff_iff]
    simp only [List.isEmpty_toArray, List.isEmpty_iff, List.map_eq_nil_iff]
    rw [← List.length_eq_zero_iff, ← List.length_eq_zero_iff, ql.1]
  rw [e]; exact h _
theorem cut_comp {elt : Expr} {xn : Str} {scope : Scope} {cl : List (Str × Addr)} {Fin : Shared → List Value → List (Addr × Obj) → Prop} (R : Nat × Bool → Value → Prop) (hh : A.handled = none) (F : Fr h₀ L s.heap m) (N : News h₀ L s.heap all)
    (hA : (A2, lstObj (refV (cutI (qA q) c d)) n2) ∈ all) (hT : ∀ z ∈ tupL q, z ∈ all) (hq : qS q = signsA T) (hl : T.length ≤ 200)
    (turn : ∀ (x : Nat × Bool) a I oI C oC D m₂ ys h tk (E' : Value → Shared → Prop), x ∈ cutI (signsA T) c d → (∀ h, (∀ b o, h₀.get? b = some o → h.get? b = some o) → News h₀ L h all → TupAt h a x) → SrcAt h₀ A2 (refV (cutI (qA q) c d)).toArray all → NsObj oC m₂ → m₂ xn = some (.ref a) → Fr h₀ L h m → News h₀ L h ((I, oI) :: (C, oC) :: (D, lst ys) :: all) → Off3 I C D all → ((@Ne Nat I C) ∧ (@Ne Nat I D) ∧ (@Ne Nat C D)) →
      wpAny (model prog w) A (eval elt (compEnvC scope cl C env)) (CompEnd h₀ L m { s with heap := h, toks := tk } I oI C oC D (lst ys) (SrcAt h₀ A2 (refV (cutI (qA q) c d)).toArray) (RowG (R x) all)) E' { s with heap := h, toks := tk })
    (fin : ∀ g ys, All2 R (cutI (signsA T) c d) ys → Fin { s with heap := g } ys all) : CompSrc prog w A h₀ L m env elt xn scope cl Fin (.ref A2) s := by
  have ql := q_lens hq hl c d
  refine LCg.CompSrc.ledger hh F N hA (by simp [sizeLine_eq]; omega) fun g => ?_
  refine turnsG (s := { s with heap := g }) (as := cutI (qA q) c d) (sg := cutI (signsA T) c d) R (Or.inr ⟨_, hA, rfl, _, rfl⟩) ql.1 (fun h _ N' => ?_) turn (fin g)
  have t := (tupL_at (q := q) fun z hz => N' z (hT z hz)).cut c d
  rw [hq] at t
  exact t
theorem join_title {ys : List Value} {p : Addr} {y : Str} {t : Tok} {news : List (Addr × Obj)} {Q : Value → Shared → Prop} (hy : y = S []) (hA : All2 (fun x v => ∃ t, v = .str (S [x.1]) t) (cutI (signsA T) c d) ys) (N : News h₀ L s.heap ((p, lst ys) :: news)) (hl : T.length ≤ 200)
    (hq : ∀ t' k, Q (.str (S ((cutI (signsA T) c d).map (·.1))) t') { s with toks := k }) : wpAny (model prog w) A (call (.builtin "str.join") [.str y t, .ref p]) Q E s := by
  have sl := signs_len _ T (Nat.le_refl _)
  have c1 := cut_len (signsA T) c d
  have e : ((cutI (signsA T) c d).map fun x => [x.1]).flatten = (cutI (signsA T) c d).map (·.1) := by
    generalize cutI (signsA T) c d = u
    induction u with
    | nil => rfl
    | cons z r ih => simp [ih]
  refine join_all2 (g := fun x => [x.1]) hy hA N (by rw [e, List.length_map]; omega) ?_
  rw [e]; exact hq
theorem sum_sz {ys : List Value} {p : Addr} {news : List (Addr × Obj)} {k : Int} {Q : Value → Shared → Prop} (hh : A.handled = none) (F : Fr h₀ L s.heap m) (N : News h₀ L s.heap ((p, lst ys) :: news)) (hA : All2 (fun x v => ∃ t, v = .int (sz1 x : Nat) t) (cutI (signsA T) 0 k) ys)
    (h : ∀ h' tk t', Fr h₀ L h' m → News h₀ L h' ((p, lst ys) :: news) → Q (.int (flat ((signsA T).take k.toNat)).length t') { s with heap := h', toks := tk }) : wpAny (model prog w) A (call (.builtin "sum") [.ref p]) Q E s := by
  have hi := all2_int (g := fun x => ((sz1 x : Nat) : Int)) hA
  refine LSm.sum_ints F N hh ⟨_, (N _ (.head _)).1, rfl, _, rfl⟩ hi fun h' tk t' F' N' => ?_
  have e : ((cutI (signsA T) 0 k).map fun x => ((sz1 x : Nat) : Int)).sum = (flat ((signsA T).take k.toNat)).length := by
    have e0 : cutI (signsA T) 0 k = (signsA T).take k.toNat := by unfold cutI; simp
    rw [e0]
    generalize (signsA T).take k.toNat = u
    induction u with
    | nil => rfl
    | cons z r ih =>
      show (((sz1 z : Nat) : Int) :: r.map _).sum = ((flat1 z ++ flat r).length : Nat)
      rw [List.sum_cons, ih, List.length_append, flat1_len]; omega
  rw [e]; exact h h' tk t' F' N'
theorem slice_place {k : Int} {uk : Tok} {value slice : PySem.Expr} {Q : Value → Shared → Prop} (F : Fr h₀ L s.heap m) (N : News h₀ L s.heap all) (hD : (D, lstObj (refV (qA q)) n) ∈ all) (hq : qS q = signsA T) (hl : T.length ≤ 200) (h0 : 0 ≤ k)
    (h : ∀ D' h', Fr h₀ L h' m → News h₀ L h' ((D', lstObj (refV (cutI (qA q) 0 k)) 0) :: all) → (∀ p ∈ all, p.1 < D') → Q (.ref D') { s with heap := h' })
    (hs : subscripted slice false (.ref D) (.ref s.heap.objs.size) = operate [.ref s.heap.objs.size, .ref D] (getItem (.ref D) (.ref s.heap.objs.size)) := by with_unfolding_all rfl) (ht : ∀ r, letTemporaryGo value (.ref D) r = pure () := by intro _; with_unfolding_all rfl) :
    wpAny (model prog w) A (subscriptTail value slice (.ref D) (.ref s.heap.objs.size)) Q E { s with heap := s.heap.push { cls := .type "slice", data := .fields #[.none, .int k uk, .none] } } := by
  have e : (qA q).length = (qS q).length := by simp
  have sl := signs_len _ T (Nat.le_refl _)
  rw [hq] at e
  refine kms_slice_lit F N (News.isList N hD) .none (.int k uk) (zs := refV (cutI (qA q) 0 k)) ?_ h hs ht (by rw [sizeLine_eq]; simp at e ⊢; omega)
  unfold kms_pick kms_lo kms_hi cutI
  simp only [List.length_map]
  rw [if_neg (by omega)]
  simp only [refV, ← List.map_drop, ← List.map_take]
  congr 1
  have key : ∀ (z : List Addr) (n : Nat), z.take (min n z.length) = z.take n := by
    intro z n
    rcases Nat.le_total n z.length with r | r
    · rw [Nat.min_eq_left r]
    · rw [Nat.min_eq_right r, List.take_length, List.take_of_length_le r]
  have k2 := key (qA q) k.toNat
  simpa using k2
end
theorem scanT_nn (p : Nat × Bool → Bool) (l : Sg) (i : Int) : 0 ≤ scanT p l i := by unfold scanT; omega
theorem readI_nn {lim : Int} {sg : Sg} {a b c d k : Int} (h : readI lim sg = some (a, b, c, d, k)) : 0 ≤ k := by
  have t : ∀ {a' b' c' d' z : Int}, 0 ≤ z → tailI sg a' b' c' d' z = some (a, b, c, d, k) → 0 ≤ k := by
    intro a' b' c' d' z hz e
    unfold tailI at e
    split at e
    · injection e with e
      injection e with _ e
      injection e with _ e
      injection e with _ e
      injection e with _ e
      omega
    · cases e
  have r : ∀ {a' b' z : Int}, restI sg a' b' z = some (a, b, c, d, k) → 0 ≤ k := by
    intro a' b' z e
    unfold restI at e
    dsimp only at e
    split at e
    · split at e
      · exact t (scanT_nn _ _ _) e
      · cases e
    · exact t (scanT_nn _ _ _) e
  unfold readI at h
  dsimp only at h
  split at h
  · cases h
  · split at h
    · split at h
      · exact r h
      · cases h
    · split at h
      · cases h
      · exact r h
/-- the law's first two lines, each one path -/
def HeadEnd (s : Shared) (v : Value) (s' : Shared) : Prop := ∃ h t tk, v = .int h t ∧ s' = { s with toks := tk }
theorem head_if {M : Model} {A : Around} {E : Value → Shared → Prop} {s : Shared} {env : Env} {test body orelse : Expr} {pos : Pos} {Q : Value → Shared → Prop}
    (h1 : wpAny M A (isTrue test env (eval test env)) (fun c s₂ => if c then wpAny M A (eval body env) (HeadEnd s) E s₂ else wpAny M A (eval orelse env) (HeadEnd s) E s₂) E s)
    (h2 : ∀ h t tk, Q (.int h t) { s with toks := tk }) : wpAny M A (eval (.IfExp test body orelse pos) env) Q E s :=
  wpAny_mono (IfExp_ h1) (fun v s' h => by obtain ⟨x, t, tk, rfl, rfl⟩ := h; exact h2 x t tk) (fun _ _ e => e)
def RowEnd (h₀ : Heap) (L : Addr) (m : Str → Option Value) (s : Shared) (v : Value) (s' : Shared) : Prop :=
  ∃ R vs ns nr h' tk, v = .ref R ∧ s' = { s with heap := h', toks := tk } ∧ Fr h₀ L h' m ∧ News h₀ L h' [(R, W.listOf (List.toArray vs) nr), tab76] ∧ IntsAre vs ns ∧ ns.length ≤ 18 ∧ (@LT.lt Nat _ 76 R)
theorem RowEnd.mk {h₀ : Heap} {L R : Addr} {m : Str → Option Value} {s : Shared} {vs : List Value} {ns : List Int} {nr : Nat} {h' : Heap} {tk : Nat} {all : List (Addr × Obj)} (F : Fr h₀ L h' m) (N : News h₀ L h' all) (h1 : (R, W.listOf (List.toArray vs) nr) ∈ all) (h2 : tab76 ∈ all) (hi : IntsAre vs ns) (hl : ns.length ≤ 18) (hlt : @LT.lt Nat _ 76 R) :
    RowEnd h₀ L m s (.ref R) { s with heap := h', toks := tk } :=
  ⟨R, vs, ns, nr, h', tk, rfl, rfl, F, fun p hp => by
    rcases List.mem_cons.mp hp with rfl | hp
    · exact N _ h1
    · rw [List.mem_singleton.mp hp]; exact N _ h2, hi, hl, hlt⟩
theorem row_or {M : Model} {A : Around} {E : Value → Shared → Prop} {s : Shared} {env : Env} {e₁ e₂ : Expr} {pos : Pos} {Q : Value → Shared → Prop} {h₀ : Heap} {L : Addr} {m : Str → Option Value} (_F : Fr h₀ L s.heap m)
    (h1 : wpAny M A (eval e₁ env) (fun v s₁ => wpAny M A (truthy v) (fun c s₂ => if c then RowEnd h₀ L m s v s₂ else wpAny M A (eval (.BoolOp .Or [e₂] pos) env) (RowEnd h₀ L m s) E s₂) E s₁) E s)
    (h2 : ∀ R vs ns nr h' tk, Fr h₀ L h' m → News h₀ L h' [(R, W.listOf (List.toArray vs) nr), tab76] → IntsAre vs ns → ns.length ≤ 18 → (@LT.lt Nat _ 76 R) → Q (.ref R) { s with heap := h', toks := tk }) : wpAny M A (eval (.BoolOp .Or [e₁, e₂] pos) env) Q E s :=
  wpAny_mono (BoolOp_or h1) (fun v s' h => by obtain ⟨R, vs, ns, nr, h', tk, rfl, rfl, F, N, hi, hl, hlt⟩ := h; exact h2 R vs ns nr h' tk F N hi hl hlt) (fun _ _ e => e)
end Mine

end SNM

section SCL2
open PySem PySem.W PyProof.Rows PySem.Calls PySem.Spec
theorem Mine.offCL2 : True := by w_top off; exact trivial
namespace Mine
theorem link_con (w : World) : LinkCon2 TabL PySem.Challenge.rw_ci0012_02.row.prog w (hd.heap_39 w.params) 7 105 :=
  fun l tx ti tl i lim mt a1 a2 a3 a4 a5 a6 a7 a8 => c_link w l tx ti tl i lim mt a1 a2 a3 a4 a5 a6 a7 a8
theorem laid_con (w : World) : ∀ (R : Addr) (vs : List Value) (ns : List Int) (nr : Nat) (form : Int) (tf : Tok), IntsAre vs ns → ns.length ≤ 18 → 0 ≤ form → form ≤ 3 → Con PySem.Challenge.rw_ci0012_02.row.prog w (hd.heap_39 w.params) 2 194 [.ref R, .int form tf] [] [(R, W.listOf vs.toArray nr)] (fun v new mt' => (∃ T t, v = .str (S T) t ∧ Good T ∧ T.length ≤ 200) ∧ new = [] ∧ mt' = [(R, W.listOf vs.toArray nr)]) :=
  fun R vs ns nr form tf a b c d => c_laid w R vs ns nr form tf a b c d
theorem signs_con (w : World) : ∀ (l : List Nat) (tx : Tok), l.length < 2 ^ 19 → ConP PySem.Challenge.rw_ci0012_02.row.prog w (hd.heap_39 w.params) 1 156 [.str (S l) tx] [] (fun _ => True) (fun v new => ∃ D q n, v = .ref D ∧ new = (D, lstObj (refV (qA q)) n) :: tupL q ∧ qS q = signsA l) :=
  fun l tx a => c_signs w l tx a
theorem read_con (w : World) : ∀ (D : Addr) (as : List Addr) (sg : Sg) (tl : Tok) (lim : Int), sg.length < 2 ^ 19 → 0 ≤ lim → lim ≤ 100 → ConP PySem.Challenge.rw_ci0012_02.row.prog w (hd.heap_39 w.params) 2 182 [.ref D, .int lim tl] [] (SgAt D as sg) (ReadPost as lim sg) :=
  fun D as sg tl lim a b c => c_read w D as sg tl lim a b c
theorem addr_con (w : World) : ∀ (D : Addr) (as : List Addr) (sg : Sg), sg.length < 2 ^ 19 → as.length = sg.length → ConP PySem.Challenge.rw_ci0012_02.row.prog w (hd.heap_39 w.params) 2 187 [.ref D] [] (SgAt D as sg) (fun v new => (∃ t, v = .str (S (addrL sg)) t) ∧ new = []) :=
  fun D as sg a b => c_address w D as sg a b
theorem grown_of2 {h₀ h : Heap} {L : Addr} {mt all : List (Addr × Obj)} (hT : TabL mt) (N : News h₀ L h all) (hs : ∀ p ∈ mt, p ∈ all) : GrownAll [(80, 76)] h := by
  rcases hT with rfl | ⟨c', oc, vs, t, rfl, _⟩
  · exact ⟨⟨_, (N _ (hs _ (.head _))).1⟩, trivial⟩
  · exact ⟨⟨_, (N _ (hs _ (.head _))).1⟩, trivial⟩
end Mine

end SCL2

section SCK2
open PySem PySem.W PyProof.Rows PySem.Calls PySem.Spec
theorem Mine.offCK2 : True := by w_top off; exact trivial
namespace Mine
section
open PyProof.Rows.LCg
local macro_rules | `(tactic| cell_enter) => `(tactic| (refine wpAny_call ?_; refine' con_code (by assumption) ?k1 ?k2 ?k3 ?k4 ?kz ?k5 ?kA ?kF ?kK ?k6 ?k7 ?k8 ?k9 ?kB (by assumption) ?kQ ?_ ?c2 ?c3 ?c4 ?c5; (case kA => exact rfl); (case kF => exact rfl); (case kK => assumption); (case k1 => k_asm); (case k2 => k_asm); (case k3 => k_asm); (case k4 => k_asm); (case kz => assumption); (case k5 => k_asm); (case k6 => k_is); (case k7 => k_is); (case k8 => ktr_room); (case k9 => (refine' kp_binds ?kx ?ke; (case kx => k_in); (case ke => exact fun _ => rfl))); (case kQ => exact fun _ _ q => q); (case c5 => decide); (case kB => exact locs rfl); (case c2 => exact rfl); (case c3 => exact rfl); (case c4 => exact rfl); k_whole; intro g' L' h' F' N' B' X' T' l0; (try k_lt l0); (try dsimp only); (try k_fold)))
local macro_rules | `(tactic| walk_at "subscriptTail") => `(tactic| ((with_reducible show wpAny _ _ (subscriptTail _ _ (Value.str (S _) _) (Value.int _ _)) _ _ _); refine sub_S (by omega) (by omega) (by omega) ?_))
local macro_rules | `(tactic| walk_at "subscriptTail Name Name str int") => `(tactic| (refine sub_S (by omega) (by omega) (by omega) ?_))
local macro_rules | `(tactic| walk_at "compareOp In str str") => `(tactic| first | refine in_ws ?_ | refine in_punct ?_ | refine in_blank ?_ | refine in_nl ?_ | refine in_ang ?_)
local macro_rules | `(tactic| walk_at "call builtin:len") => `(tactic| refine len_S (by omega) ?_)
local macro_rules | `(tactic| walk_at "call builtin:ord") => `(tactic| refine ord_ch ?_)
local macro_rules | `(tactic| walk_at "compareOp Eq str str") => `(tactic| first
  | refine eq_ch (d := 60) (by decide : Str.ofString "<" = S [60]) ?_
  | refine eq_ch (d := 62) (by decide : Str.ofString ">" = S [62]) ?_
  | refine eq_ch (d := 10) (by decide : Str.ofString "\n" = S [10]) ?_
  | refine eq_ch (d := 13) (by decide : Str.ofString "\x0d" = S [13]) ?_
  | refine eq_ch (d := 40) (by decide : Str.ofString "(" = S [40]) ?_
  | refine eq_ch (d := 41) (by decide : Str.ofString ")" = S [41]) ?_
  | refine eq_ch (d := 92) (by decide : Str.ofString "\\" = S [92]) ?_
  | refine eq_ch (d := 0) (by decide : Str.ofString "\x00" = S [0]) ?_
  | refine eq_ch (d := 127) (by decide : Str.ofString "\x7f" = S [127]) ?_)
local macro_rules | `(tactic| walk_at "compareOp NotEq str str") => `(tactic| first
  | refine ne_ch (d := 41) (by decide : Str.ofString ")" = S [41]) ?_)
local macro_rules | `(tactic| walk_at "subscriptTail Name Slice str ref") => `(tactic| ((with_reducible show wpAny _ _ (subscriptTail _ (Expr.Slice (some _) (some _) none _) (Value.str (S _) _) _) _ _ _); (refine slice_go (s := ⟨_, _, _, _, _⟩) (by assumption) (by assumption) (by omega) (by omega) (by omega) (by omega) ?_); intro h' t' tk' F' N'))
local macro_rules | `(tactic| walk_at "ite") => `(tactic| first
  | with_reducible refine ite_tt ?_ | with_reducible refine ite_ff ?_ | with_reducible refine split_not ?_
  | with_reducible refine boolT (by with_reducible assumption) ?_ | with_reducible refine boolF (by with_reducible assumption) ?_
  | with_reducible refine decT (by omega) ?_ | with_reducible refine decF (by omega) ?_
  | (with_reducible refine split_ine ?_ ?_ <;> intro _) | (with_reducible refine split_ieq ?_ ?_ <;> intro _)
  | (with_reducible refine PyProof.Rows.split_dec ?_ ?_ <;> intro _) | (with_reducible refine PyProof.Rows.split_bool ?_ ?_ <;> intro _))
local macro_rules | `(tactic| ksw_same) => `(tactic| (intro z h2 h3; (simp only [List.forall_mem_cons, List.not_mem_nil, false_implies, implies_true, and_true, ne_eq] at h2); (simp only [List.contains_cons, List.contains_nil, Bool.or_false, Bool.or_eq_false_iff, beq_eq_false_iff_ne, ne_eq] at h3); simp only [h2, h3, if_false, List.contains_cons, List.contains_nil, Bool.or_false, Bool.or_eq_true, beq_iff_eq, or_self, or_false, false_or, Bool.false_eq_true]))
local macro_rules | `(tactic| walk_at "MPost") => `(tactic| (dsimp only [MPost]))
local macro_rules | `(tactic| walk_at "truthy str") => `(tactic| first | refine truthy_cons (by simp only [List.length_nil]; omega) ?_ | refine truthy_S (by omega) ?_)
local macro_rules | `(tactic| walk_at "binaryOp Add str str") => `(tactic| first
  | (refine add_SS (a := []) (b := _) (by decide : Str.ofString "" = S []) rfl (by simp only [List.length_nil, List.length_cons]; omega) ?_; intro t' tk')
  | (refine add_SS rfl rfl (by simp only [List.length_nil, List.length_cons, List.length_append]; omega) ?_; intro t' tk'))
local macro_rules | `(tactic| walk_at "compareOp NotIn str str") => `(tactic| refine notin_ws ?_)

local macro_rules | `(tactic| walk_at "subscriptTail") => `(tactic| ((with_reducible show wpAny _ _ (subscriptTail _ _ (Value.ref _) (Value.int (Int.fmod _ 3) _)) _ _ _); k_dflt (first
  | (refine lim_item (News.isList (by assumption) (by k_mem)) (fm3 _).1 (fm3 _).2 ?_; intro nlim tlim hlim1 hlim2)
  | (refine bef_item (News.isList (by assumption) (by k_mem)) (fm3 _).1 (fm3 _).2 ?_; intro pbef tbef hbef1 hbef2))))
local macro_rules | `(tactic| walk_at "subscriptTail") => `(tactic| ((with_reducible show wpAny _ _ (subscriptTail _ _ (Value.ref _) (Value.int (Int.fmod _ 4) _)) _ _ _); k_dflt (refine form_item (News.isList (by assumption) (by k_mem)) (fm4 _).1 (fm4 _).2 ?_; intro nform tform hform1 hform2)))
local macro_rules | `(tactic| walk_at "call ref") => `(tactic| (first
  | ((with_reducible show wpAny _ _ (call (Value.ref 194) _ _) _ _ _); k_dflt (focus (refine' law_laid (laid_con _) ?B ?F ?X ?N ?T ?hk ?hd ?hu ?hR ?h76 ?hne ?hi ?hl ?hf0 ?hf1 ?_; (case B => assumption); (case F => assumption); (case X => assumption); (case N => assumption); (case T => assumption); (case hk => rfl); (case hd => ktr_room); (case hu => ktr_units); (case hR => k_mem); (case h76 => k_mem); (case hne => omega); (case hi => first | assumption | exact .cons _ _ (.cons _ _ (.cons _ _ (.cons _ _ .nil)))); (case hl => first | omega | decide); (case hf0 => omega); (case hf1 => omega); intro T' t' h' tk' hgT' hlT' F' N')))
  | ((with_reducible show wpAny _ _ (call (Value.ref 156) _ _) _ _ _); k_dflt (focus (refine' law_signs (signs_con _) ?B ?F ?X ?N ?T ?hk ?hd ?hu ?h76 ?hl ?_; (case B => assumption); (case F => assumption); (case X => assumption); (case N => assumption); (case T => assumption); (case hk => rfl); (case hd => ktr_room); (case hu => ktr_units); (case h76 => k_mem); (case hl => assumption); intro D' q' n' h' tk' hq' F' N')))
  | ((with_reducible show wpAny _ _ (call (Value.ref 182) _ _) _ _ _); k_dflt (focus (refine' law_read (read_con _) ?B ?F ?X ?N ?T ?hk ?hd ?hu ?hq ?hl ?h0 ?h1 ?_ ?_; (case B => assumption); (case F => assumption); (case X => assumption); (case N => assumption); (case T => assumption); (case hk => rfl); (case hd => ktr_room); (case hu => ktr_units); (case hq => assumption); (case hl => assumption); (case h0 => omega); (case h1 => omega); all_goals (first | (intro (hr9 : readI _ _ = none) h' tk' F' N') | (intro x9 y9 c9 d9 k9 hr9 r9 A19 A29 n19 n29 t9 h' tk' F' N')))))
  | ((with_reducible show wpAny _ _ (call (Value.ref 105) _ _) _ _ _); k_dflt (focus (refine' law_linkS TabL (link_con _) ?B ?F ?X ?N ?T ?hk ?hd ?hu ?hTL ?hg ?hl ?hP ?hPl ?h0 ?h1 ?hr ?_; (case hr => assumption); (case B => assumption); (case F => assumption); (case X => assumption); (case N => assumption); (case T => assumption); (case hk => rfl); (case hd => ktr_room); (case hu => ktr_units); (case hTL => exact .inl rfl); (case hg => assumption); (case hl => assumption); (case hP => assumption); (case hPl => assumption); (case h0 => omega); (case h1 => omega); intro r' dd' od' t1' mt1' h' tk' hlo' hsy' hTab1' F' N')))
  | ((with_reducible show wpAny _ _ (call (Value.ref 105) _ _) _ _ _); k_dflt (focus (refine' law_linkN TabL (link_con _) ?B ?F ?X ?N ?T ?hk ?hd ?hu ?h76 ?hTL ?hg ?hl ?hP ?hPl ?h0 ?h1 ?hr ?_; (case hr => assumption); (case B => assumption); (case F => assumption); (case X => assumption); (case N => assumption); (case T => assumption); (case hk => rfl); (case hd => ktr_room); (case hu => ktr_units); (case h76 => k_mem); (case hTL => exact .inl rfl); (case hg => assumption); (case hl => assumption); (case hP => assumption); (case hPl => assumption); (case h0 => omega); (case h1 => omega); intro r' mt1' h' tk' hTab1' F' N')))
  | ((with_reducible show wpAny _ _ (call (Value.ref 187) _ _) _ _ _); k_dflt (focus (refine' law_addr (addr_con _) ?B ?F ?X ?N ?T ?hk ?hd ?hu ?hA ?hT ?hq ?hl ?_; (case B => assumption); (case F => assumption); (case X => assumption); (case N => assumption); (case T => assumption); (case hk => rfl); (case hd => ktr_room); (case hu => ktr_units); (case hA => k_mem); (case hq => assumption); (case hl => assumption); (case hT => (intro p9 hp9; repeat' (first | exact hp9 | exact List.mem_append_left _ hp9 | exact List.mem_append_right _ hp9 | refine List.Mem.tail _ ?_))); intro t' h' tk' F' N')))))
local macro_rules | `(tactic| walk_at "binaryOp Add str str") => `(tactic| (refine add_SS (by with_reducible exact rfl) (by with_reducible exact rfl) (by omega) ?_; intro t' tk'))
local macro_rules | `(tactic| walk_at "call builtin:len") => `(tactic| ((with_reducible show wpAny _ _ (call _ [Value.str (S _) _]) _ _ _); refine len_S (by omega) ?_))
local macro_rules | `(tactic| walk_at "truthy ref") => `(tactic| (refine title_truthy (by assumption) (by k_mem) (by assumption) (by assumption) ?_; intro k9))
local macro_rules | `(tactic| walk_at "eval ListComp") => `(tactic| k_dflt (refine LCg.ListComp_U (F₀ := by assumption) (by with_unfolding_all rfl) (by decide) (by rfl) (by decide) (by rfl) ?_))
local macro_rules | `(tactic| walk_at "CompSrc") => `(tactic| (first
  | ((with_reducible show CompSrc _ _ _ _ _ _ _ (Expr.Subscript _ _ _) _ _ _ _ _ _); k_dflt (focus (refine' cut_comp (fun x v => ∃ t, v = .str (S [x.1]) t) ?hh ?F ?N ?hA ?hT ?hq ?hl ?_ ?_; (case hh => rfl); (case F => assumption); (case N => assumption); (case hA => k_mem); (case hq => assumption); (case hl => assumption); (case hT => (intro p9 hp9; repeat' (first | exact hp9 | exact List.mem_append_left _ hp9 | exact List.mem_append_right _ hp9 | refine List.Mem.tail _ ?_))); all_goals (first | (intro x' a' I' oI' C' oC' D' m' ys' h' tk' E' hc' hT' hS' hC' hx' F' N' off' ne'; (have off2' := off'); (try simp only [Off3, and_true] at off2')) | (intro g9 ys9 hys9)))))
  | ((with_reducible show CompSrc _ _ _ _ _ _ _ (Expr.IfExp _ _ _ _) _ _ _ _ _ _); k_dflt (focus (refine' cut_comp (fun x v => ∃ t, v = .int (sz1 x : Nat) t) ?hh ?F ?N ?hA ?hT ?hq ?hl ?_ ?_; (case hh => rfl); (case F => assumption); (case N => assumption); (case hA => k_mem); (case hq => assumption); (case hl => assumption); (case hT => (intro p9 hp9; repeat' (first | exact hp9 | exact List.mem_append_left _ hp9 | exact List.mem_append_right _ hp9 | refine List.Mem.tail _ ?_))); all_goals (first | (intro x' a' I' oI' C' oC' D' m' ys' h' tk' E' hc' hT' hS' hC' hx' F' N' off' ne'; (have off2' := off'); (try simp only [Off3, and_true] at off2')) | (intro g9 ys9 hys9)))))))
local macro_rules | `(tactic| walk_at "subscriptTail Name Constant ref int") => `(tactic| (k_dflt (first
  | ((with_reducible show wpAny _ _ (subscriptTail _ _ (Value.ref _) (Value.int 0 _)) _ _ _); refine' tup_signU ?hT ?F ?N ?hs ?_; (case hT => assumption); (case F => assumption); (case N => assumption); (case hs => (intro p9 hp9; repeat' (first | exact hp9 | refine List.Mem.tail _ ?_))); intro tsg)
  | ((with_reducible show wpAny _ _ (subscriptTail _ _ (Value.ref _) (Value.int 1 _)) _ _ _); refine' tup_escU ?hT ?F ?N ?hs ?_; (case hT => assumption); (case F => assumption); (case N => assumption); (case hs => (intro p9 hp9; repeat' (first | exact hp9 | refine List.Mem.tail _ ?_)))))))
local macro_rules | `(tactic| walk_at "CompEnd") => `(tactic| (refine CompEnd.intro (by assumption) (by assumption) _ ?sub (by assumption) (by assumption) ⟨rfl, ?row⟩; (case sub => exact fun _ h => h); (case row => first | exact ⟨_, rfl⟩ | exact ⟨_, congrArg (fun z : Nat => Value.int (z : Int) _) (sz_two (by assumption)).symm⟩ | exact ⟨_, congrArg (fun z : Nat => Value.int (z : Int) _) (sz_one (by assumption)).symm⟩)))
local macro_rules | `(tactic| walk_at "call builtin:str.join") => `(tactic| (refine join_title (by decide) (by assumption) (by assumption) (by assumption) ?_; intro tjo kjo))
local macro_rules | `(tactic| walk_at "call builtin:sum") => `(tactic| (refine sum_sz (by rfl) (by assumption) (by assumption) (by assumption) ?_; intro h' tk' t' F' N'))
local macro_rules | `(tactic| walk_at "subscriptTail Name Slice ref ref") => `(tactic| ((with_reducible show wpAny _ _ (subscriptTail _ (Expr.Slice none (some _) none _) (Value.ref _) _) _ _ _); k_dflt (refine' slice_place (s := ⟨_, _, _, _, _⟩) ?F ?N ?hD ?hq ?hl ?h0 ?_ ?hs ?ht; (case F => assumption); (case N => assumption); (case hD => k_mem); (case hq => assumption); (case hl => assumption); (case h0 => exact readI_nn (by assumption)); (case hs => with_unfolding_all rfl); (case ht => (intro _; with_unfolding_all rfl))); intro D' h' F' N' l1; k_lt l1))
local macro_rules | `(tactic| walk_at "GrownAll") => `(tactic| k_dflt (refine' grown_of2 ?hT ?N ?hs; (case hT => assumption); (case N => assumption); (case hs => (intro p9 hp9; repeat' (first | exact hp9 | exact List.mem_append_left _ hp9 | exact List.mem_append_right _ hp9 | refine List.Mem.tail _ ?_)))))
local macro_rules | `(tactic| walk_at "compareOp Eq ref ref") => `(tactic| (k_dflt (first
  | refine eq_pair_same (News.get (by assumption) (by k_mem)) (News.get (by assumption) (by k_mem)) (by k_units) EqM.none EqM.none ?_
  | (refine' eq_pair_same ?p1 ?p2 ?u1 ?e1 ?e2 ?_; (case p1 => exact News.get (by assumption) (by k_mem)); (case p2 => exact News.get (by assumption) (by k_mem)); (case u1 => k_units); (case e1 => (refine' EqM.links ?h1 ?h2 ?lo ?lo2 ?L1 ?L2 ?ne ?u; (case h1 => exact News.get (by assumption) (by k_mem)); (case h2 => exact News.get (by assumption) (by k_mem)); (case lo => assumption); (case lo2 => assumption); (case L1 => assumption); (case L2 => first | exact LinkObj.no (by assumption) (by assumption) (by first | assumption | exact notF (by assumption)) | exact LinkObj.yes (by assumption) (by assumption) (by first | assumption | exact notT (by assumption))); (case ne => omega); (case u => k_units))); (case e2 => exact EqM.int_same)))))
local macro_rules | `(tactic| walk_at "eval IfExp") => `(tactic| ((with_reducible show wpAny _ _ (eval (Expr.IfExp (Expr.Name _ _) _ _ _) _) _ _ _); k_dflt (refine head_if ?_ ?_)))
local macro_rules | `(tactic| walk_at "HeadEnd") => `(tactic| exact ⟨_, _, _, rfl, rfl⟩)
local macro_rules | `(tactic| walk_at "eval BoolOp") => `(tactic| ((with_reducible show wpAny _ _ (eval (Expr.BoolOp _ [_, _] _) _) _ _ _); k_dflt (refine row_or (by assumption) ?_ ?_)))
local macro_rules | `(tactic| walk_at "RowEnd") => `(tactic| (refine' RowEnd.mk ?F ?N ?h1 ?h2 ?hi ?hl ?hlt; (case F => assumption); (case N => assumption); (case h1 => k_mem); (case h2 => k_mem); (case hi => first | assumption | exact .cons _ _ (.cons _ _ (.cons _ _ (.cons _ _ .nil)))); (case hl => first | omega | decide); (case hlt => omega)))
set_option pp.maxSteps 3000
theorem t1 : PySem.Challenge.rw_ci0012_02.Holds := hd (by
  k_go0
  all_goals try k_fold
  k_steps)
end
end Mine

end SCK2

theorem PySem.Challenge.cw_ci0012_02_holds : PySem.Challenge.rw_ci0012_02.Holds :=
  Mine.t1
