import PyProof.Rows.All
import Wide.All
import OpenK.AllK
import Wide.FinOn
import Lean
import PySem.Challenge.RW_ci0012_01
open PySem PySem.W PyProof.Rows
set_option Elab.async false
set_option maxRecDepth 100000
set_option maxHeartbeats 8000000

section SHead
namespace Mine
open_top hd for PySem.Challenge.rw_ci0012_01
end Mine
end SHead

section SMB
open PySem PySem.W PyProof.Rows PySem.Calls PySem.Spec
set_option Elab.async false
set_option maxRecDepth 100000
set_option maxHeartbeats 4000000
namespace Mine
def S (l : List Nat) : Str := ⟨l.toArray⟩
@[simp] theorem S_len (l : List Nat) : (S l).length = l.length := by simp [S, Str.length]
@[simp] theorem S_cps (l : List Nat) : (S l).cps.toList = l := by simp [S]
@[simp] theorem S_inj (a b : List Nat) : (S a = S b) = (a = b) := by simp [S]
theorem S_list (x : Str) : S x.cps.toList = x := by cases x; simp [S]

def isWs (c : Nat) : Bool := [32, 9, 10, 13, 12].contains c
def isBl (c : Nat) : Bool := [32, 9].contains c
def isNl (c : Nat) : Bool := [10, 13].contains c
def isAng (c : Nat) : Bool := [60, 10, 13, 0].contains c
def isPunct (c : Nat) : Bool := [33, 34, 35, 36, 37, 38, 39, 40, 41, 42, 43, 44, 45, 46, 47, 58, 59, 60, 61, 62, 63, 64, 91, 92, 93, 94, 95, 96, 123, 124, 125, 126].contains c

section
variable {prog : Program} {w : World} {A : Around} {E : Value → Shared → Prop} {s : Shared} {l : List Nat} {x y : Str} {c d : Nat} {t u : Tok} {Q : Value → Shared → Prop}
theorem in_ch {L : List Nat} (hx : x = S L) (h : Q (.bool (L.contains c)) s) : wpAny (model prog w) A (compareOp .In (.str (S [c]) u) (.str x t)) Q E s := by
  subst hx
  refine in_str ?_
  rw [show (S [c] : Str) = ⟨#[c]⟩ from rfl, StrLaws.found_one]
  have e : decide (c ∈ (S L).cps.toList) = L.contains c := by
    rw [Bool.eq_iff_iff, decide_eq_true_eq]; simp [S]
  rw [e]; exact h
theorem in_ws (h : Q (.bool (isWs c)) s) : wpAny (model prog w) A (compareOp .In (.str (S [c]) u) (.str (Str.ofString " \t\n\x0d\x0c") t)) Q E s := in_ch (by decide) h
theorem in_punct (h : Q (.bool (isPunct c)) s) : wpAny (model prog w) A (compareOp .In (.str (S [c]) u) (.str (Str.ofString "!\"#$%&'()*+,-./:;<=>?@\x5b\\]^_`{|}~") t)) Q E s := in_ch (by decide) h
theorem in_blank (h : Q (.bool (isBl c)) s) : wpAny (model prog w) A (compareOp .In (.str (S [c]) u) (.str (Str.ofString " \t") t)) Q E s := in_ch (by decide) h
theorem in_nl (h : Q (.bool (isNl c)) s) : wpAny (model prog w) A (compareOp .In (.str (S [c]) u) (.str (Str.ofString "\n\x0d") t)) Q E s := in_ch (by decide) h
theorem in_ang (h : Q (.bool (isAng c)) s) : wpAny (model prog w) A (compareOp .In (.str (S [c]) u) (.str (Str.ofString "<\n\x0d\x00") t)) Q E s := in_ch (by decide) h
theorem eq_ch (hy : y = S [d]) (h : Q (.bool (c == d)) s) : wpAny (model prog w) A (compareOp .Eq (.str (S [c]) t) (.str y u)) Q E s := by
  subst hy
  refine eq_str ?_
  have e : ((S [c] : Str) == S [d]) = (c == d) := by
    rw [Bool.eq_iff_iff, beq_iff_eq, beq_iff_eq]; simp [S]
  rw [e]; exact h
theorem ne_ch (hy : y = S [d]) (h : Q (.bool (c != d)) s) : wpAny (model prog w) A (compareOp .NotEq (.str (S [c]) t) (.str y u)) Q E s := by
  subst hy
  refine ne_str ?_
  have e : ((S [c] : Str) != S [d]) = (c != d) := by
    rw [Bool.eq_iff_iff, bne_iff_ne, bne_iff_ne]; simp [S]
  rw [e]; exact h
theorem ord_ch (h : Q (.int (c : Nat) s.toks) { s with toks := s.toks + 1 }) : wpAny (model prog w) A (call (.builtin "ord") [.str (S [c]) t]) Q E s :=
  ord_of_one (by simp [S, Str.length]) (by simpa [S] using h)
theorem item_S {i : Int} (h0 : 0 ≤ i) (h1 : i < l.length) : Txt.item (S l) i = S [l.getD i.toNat 0] := by
  obtain ⟨j, rfl⟩ : ∃ j : Nat, i = j := ⟨i.toNat, by omega⟩
  have hj : j < l.length := by omega
  have hs : seqIndex? (j : Int) (S l).length = some j := by
    rw [S_len]; unfold seqIndex?
    simp only [show ¬ ((j : Int) < 0) by omega, if_false]
    split <;> first | (rename_i h; exfalso; simp at h; omega) | simp
  unfold Txt.item Txt.charAt
  rw [hs]
  simp [S, hj]
theorem sub_S {value slice : Expr} {i : Int} (h0 : 0 ≤ i) (h1 : i < l.length) (hl : l.length < 2 ^ 62)
    (h : Q (.str (S [l.getD i.toNat 0]) s.toks) { s with toks := s.toks + 1 })
    (hs : subscripted slice false (.str (S l) t) (.int i u) = operate [.str (S l) t, .int i u] (getItem (.str (S l) t) (.int i u)) := by with_unfolding_all rfl)
    (ht : ∀ r, letTemporaryGo value (.str (S l) t) r = pure () := by intro _; with_unfolding_all rfl) :
    wpAny (model prog w) A (subscriptTail value slice (.str (S l) t) (.int i u)) Q E s := by
  refine item_str ?_ (by rw [S_len]; omega) (by rw [S_len]; omega) (fun _ => ?_) hs ht
  · exact fitsSsize_of (N := 9223372036854775808) (by omega) (by omega) (Int.le_refl _)
  · rw [item_S h0 h1]; exact h
theorem len_S (hl : l.length < 2 ^ 62) (h : Q (.int l.length (s.toks + 1)) { s with toks := s.toks + 1 + 1 }) : wpAny (model prog w) A (call (.builtin "len") [.str (S l) t]) Q E s :=
  len_str (by rw [S_len]; omega) (by rw [S_len]; exact h)
theorem slice_S {i j : Int} (h0 : 0 ≤ i) (h1 : i ≤ j) (h2 : j ≤ l.length) : Txt.slice (S l) (some i) (some j) = S ((l.drop i.toNat).take (j - i).toNat) := by
  have := slice_closes (x := S l) (i := i) (j := j) ⟨h0, h1, by rw [S_cps]; exact h2⟩
  rw [beq_iff_eq, S_cps] at this
  exact this
end

/-- the place behind the signs of kind p from place j on; the list is the text from j on -/
def scanA (p : Nat → Bool) (j : Nat) : List Nat → Nat
  | [] => j
  | c :: r => if p c = true then scanA p (j + 1) r else j
theorem scanA_le (p : Nat → Bool) (j : Nat) (l : List Nat) : j ≤ scanA p j l ∧ scanA p j l ≤ j + l.length := by
  induction l generalizing j with
  | nil => simp [scanA]
  | cons c r ih =>
    unfold scanA
    split
    · have := ih (j + 1); simp; omega
    · simp
theorem drop_get {l r : List Nat} {j c : Nat} (h : l.drop j = c :: r) : j < l.length ∧ l.getD j 0 = c ∧ l.drop (j + 1) = r := by
  have hj : j < l.length := by
    rcases Nat.lt_or_ge j l.length with q | q
    · exact q
    · rw [List.drop_eq_nil_of_le q] at h; cases h
  rw [List.drop_eq_getElem_cons hj] at h
  injection h with h1 h2
  exact ⟨hj, by simp [List.getD, hj, h1], h2⟩
theorem drop_cons {l : List Nat} {j : Nat} (h : j < l.length) : l.drop j = l.getD j 0 :: l.drop (j + 1) := by
  rw [List.drop_eq_getElem_cons h]
  simp [List.getD, h]
def scanI (p : Nat → Bool) (l : List Nat) (i : Int) : Int := (scanA p i.toNat (l.drop i.toNat) : Nat)
theorem scanI_le (p : Nat → Bool) {l : List Nat} {i : Int} (h0 : 0 ≤ i) (h1 : i ≤ l.length) : i ≤ scanI p l i ∧ scanI p l i ≤ l.length := by
  have := scanA_le p i.toNat (l.drop i.toNat)
  rw [List.length_drop] at this
  unfold scanI; omega
theorem scanI_yes {p : Nat → Bool} {l : List Nat} {i : Int} (h0 : 0 ≤ i) (h : i < l.length) (hc : p (l.getD i.toNat 0) = true) : scanI p l i = scanI p l (i + 1) := by
  unfold scanI
  rw [show (i + 1).toNat = i.toNat + 1 by omega, drop_cons (show i.toNat < l.length by omega), scanA, if_pos hc]
theorem scanI_end {p : Nat → Bool} {l : List Nat} {i : Int} (h : l.length ≤ i) : scanI p l i = i := by
  unfold scanI
  rw [List.drop_eq_nil_of_le (by omega)]; unfold scanA; omega
theorem scanI_no {p : Nat → Bool} {l : List Nat} {i : Int} (h0 : 0 ≤ i) (hc : p (l.getD i.toNat 0) = false) : scanI p l i = i := by
  rcases Int.lt_or_le i l.length with q | q
  · unfold scanI
    rw [drop_cons (show i.toNat < l.length by omega), scanA, if_neg (by rw [hc]; decide)]; omega
  · exact scanI_end q

/-- the loop over the signs of a kind: a turn's end, and the loop's end -/
def ScanNext (p : Nat → Bool) (l : List Nat) (h₀ : Heap) (L : Addr) (s : Shared) (news : List (Addr × Obj)) (m₀ : Str → Option Value) (j : Int) (s₂ : Shared) : Prop :=
  (j < l.length ∧ p (l.getD j.toNat 0) = true) ∧ ∃ h' tk t' m', s₂ = { s with heap := h', toks := tk } ∧ Fr h₀ L h' m' ∧ News h₀ L h' news ∧ m' (Str.ofString "pos") = some (.int (j + 1) t') ∧ ∀ z, z ≠ Str.ofString "pos" → m' z = m₀ z
def ScanStop (p : Nat → Bool) (l : List Nat) (h₀ : Heap) (L : Addr) (s : Shared) (news : List (Addr × Obj)) (m₀ : Str → Option Value) (j : Int) (t : Tok) (s₂ : Shared) : Prop :=
  (l.length ≤ j ∨ p (l.getD j.toNat 0) = false) ∧ ∃ h' tk, s₂ = { s with heap := h', toks := tk } ∧ Fr h₀ L h' (fun z => if z = Str.ofString "pos" then some (.int j t) else m₀ z) ∧ News h₀ L h' news
theorem scan_while {prog : Program} {w : World} {A : Around} {E : Value → Shared → Prop} {Q : Flow → Shared → Prop} {s : Shared} {env : Env} {h₀ : Heap} {L : Addr} {test : Expr} {body : List Stmt} {pos : Pos} {m₀ : Str → Option Value} {news : List (Addr × Obj)} {i₀ : Int} {t₀ : Tok}
    (p : Nat → Bool) (l : List Nat) (F : Fr h₀ L s.heap m₀) (N : News h₀ L s.heap news) (hpos : m₀ (Str.ofString "pos") = some (.int i₀ t₀)) (hi0 : 0 ≤ i₀) (hi1 : i₀ ≤ l.length)
    (turn : ∀ (j : Int) (t : Tok) h tk, 0 ≤ j → j ≤ l.length → Fr h₀ L h (fun z => if z = Str.ofString "pos" then some (.int j t) else m₀ z) → News h₀ L h news →
      wpAny (model prog w) A (isTrue test env (eval test env)) (fun b s₂ =>
        if b = true then wpAny (model prog w) A (execs body env) (fun f s₃ => f = .next ∧ ScanNext p l h₀ L s news m₀ j s₃) E s₂ else ScanStop p l h₀ L s news m₀ j t s₂) E { s with heap := h, toks := tk })
    (exit : ∀ (t : Tok) h tk, i₀ ≤ scanI p l i₀ → scanI p l i₀ ≤ l.length → Fr h₀ L h (fun z => if z = Str.ofString "pos" then some (.int (scanI p l i₀) t) else m₀ z) → News h₀ L h news → Q .next { s with heap := h, toks := tk })
    (hE : PassesOwn (model prog w) A env E := by passes_own) :
    wpAny (model prog w) A (exec (.While test body [] pos) env) Q E s := by
  refine ksw_while (σ := Int × Tok) (fun _ => news) (fun c => [(Str.ofString "pos", .int c.1 c.2)]) (fun _ => True) [] (fun c => 0 ≤ c.1 ∧ c.1 ≤ l.length ∧ scanI p l c.1 = scanI p l i₀) (fun c => (l.length - c.1).toNat) (i₀, t₀) F N trivial ?_ ⟨hi0, hi1, rfl⟩ ?_ hE
  · intro q hq; rw [List.mem_singleton.mp hq]; exact hpos
  · rintro ⟨j, t⟩ u h tk - ⟨a, b, c⟩ FW NW
    refine wpAny_mono (turn j t h tk a b FW NW) (fun bb s₂ hq => ?_) fun _ _ x => x
    cases bb with
    | false =>
      simp only [Bool.false_eq_true, if_false] at hq ⊢
      obtain ⟨hs, h', tk', rfl, F', N'⟩ := hq
      have e : j = scanI p l i₀ := by
        rw [← c]; dsimp only
        rcases hs with hs | hs
        · exact (scanI_end hs).symm
        · exact (scanI_no a hs).symm
      have hle := scanI_le p hi0 hi1
      exact exit t h' tk' hle.1 hle.2 (e ▸ F') N'
    | true =>
      simp only [if_true] at hq ⊢
      refine wpAny_mono hq (fun f s₃ hn => ?_) fun _ _ x => x
      obtain ⟨rfl, ⟨h1, h2⟩, h', tk', t', m', rfl, F', N', hk, hr⟩ := hn
      refine ksw_end (j + 1, t') F' N' (fun _ h => h) trivial ?_ ?_ ⟨by dsimp only at *; omega, by dsimp only; omega, ?_⟩ (by dsimp only; omega)
      · intro q hq; rw [List.mem_singleton.mp hq]; exact hk
      · intro z h2 _; exact hr z (h2 _ (List.mem_singleton.mpr rfl))
      · dsimp only at *; rw [← c]; exact (scanI_yes a h1 h2).symm
/-- how a body ends: the frame and the ledger of its own call, and what the caller is told -/
def Ends (g : Heap) (L' : Addr) (s : Shared) (Post : Value → List (Addr × Obj) → List (Addr × Obj) → Prop) (v : Value) (s' : Shared) : Prop :=
  ∃ h' tk m' new mt', s' = { s with heap := h', toks := tk } ∧ Fr g L' h' m' ∧ News g L' h' (new ++ mt') ∧ Post v new mt'
theorem Ends.mk {g : Heap} {L' : Addr} {s : Shared} {Post : Value → List (Addr × Obj) → List (Addr × Obj) → Prop} {v : Value} {h' : Heap} {tk : Nat} {m' : Str → Option Value} {all : List (Addr × Obj)}
    (new mt' : List (Addr × Obj)) (F : Fr g L' h' m') (N : News g L' h' all) (hs : ∀ p ∈ new ++ mt', p ∈ all) (hp : Post v new mt') : Ends g L' s Post v { s with heap := h', toks := tk } :=
  ⟨h', tk, m', new, mt', rfl, F, fun p hp => N p (hs p hp), hp⟩

/-- a def's contract: called with vs and kw, the mutable part mt of the ledger at hand; dep: how many frames deep it goes -/
abbrev Con (prog : Program) (w : World) (K : Frag) (dep : Nat) (f : Addr) (vs : List Value) (kw : List (Str × Value)) (mt : List (Addr × Obj)) (Post : Value → List (Addr × Obj) → List (Addr × Obj) → Prop) : Prop :=
  ∀ (p : Program) (loose : List Str) (mean : ExcName → Option Value) (mg mb : Str → Option Value) (dp un : Nat) (gd : Option (List Code)) (cn : Str) (cs : Scope) (a : Addr) (ccd : Value) (cl : List (Str × Addr)) (outer : List Env) (A₀ : Around) (base h₀ : Heap) (L : Addr) (m : Str → Option Value) (rest : List (Addr × Obj)) (s : Shared) (Q E : Value → Shared → Prop),
    Below A₀ base outer h₀ → Fr h₀ L s.heap m → K.In h₀ → News h₀ L s.heap (mt ++ rest) → (∀ p ∈ mt, ∀ q ∈ rest, p.1 ≠ q.1) → Top p loose mean mg mb h₀ → cs.kind = .function → dp + dep < recursionLimit → un + 8 * dep < cLine →
    (∀ (v : Value) (h' : Heap) (tk' : Nat) (new mt' : List (Addr × Obj)), Post v new mt' → (∀ p ∈ new ++ mt', ∀ q ∈ rest, p.1 ≠ q.1) → Fr h₀ L h' m → News h₀ L h' (new ++ mt' ++ rest) → Q v { s with heap := h', toks := tk' }) →
      wpAny (model prog w) (ktrTop dp un gd cn cs L a ccd cl outer) (call (.ref f) vs kw) Q E s

/-- the names that a call binds, said ahead of the walk -/
def BindsAre (_ : List (Str × Value)) : Prop := True
theorem con_code {prog : Program} {w : World} {A₀ A : Around} {s : Shared} {base h₀ : Heap} {outer : List Env} {L : Addr} {m mg mb : Str → Option Value} {mt rest : List (Addr × Obj)} {K : Frag} {env : Env} {p : Program} {loose : List Str} {mean : ExcName → Option Value}
    {R : Result → Shared → Prop} {Q : Value → Shared → Prop} {Post : Value → List (Addr × Obj) → List (Addr × Obj) → Prop} {name qual : Str} {params : Arguments} {body : List Stmt} {scope : Scope} {dV kV doc pm cdv ct oc : Value} {an od : Option Addr} {osl : Array (Option Value)} {f : Addr} {args : Args} {binds : List (Str × Value)}
    (_hb : BindsAre binds) (B : Below A₀ base outer h₀) (F : Fr h₀ L s.heap m) (X₀ : K.In h₀) (N : News h₀ L s.heap (mt ++ rest)) (hdis : ∀ p ∈ mt, ∀ q ∈ rest, p.1 ≠ q.1) (T : Top p loose mean mg mb h₀) (hA : A.frames = some (env :: outer)) (hf : env.frame = some L) (hke : env.scope.kind = .function)
    (ho : K.lookup f = some ⟨oc, od, .func (fnOf name qual params body scope dV kV doc pm an cdv ct), osl⟩) (hcd : codeIn K cdv qual = true) (hroom : A.depth < recursionLimit)
    (hbind : BindsTo s (fnOf name qual params body scope dV kV doc pm an cdv ct) args binds) (hloc : ∀ y ∈ binds, scope.names.lookup y.1 = some .local)
    (hret : ∀ (v : Value) (h' : Heap) (tk' : Nat) (new mt' : List (Addr × Obj)), Post v new mt' → (∀ p ∈ new ++ mt', ∀ q ∈ rest, p.1 ≠ q.1) → Fr h₀ L h' m → News h₀ L h' (new ++ mt' ++ rest) → Q v { s with heap := h', toks := tk' })
    (hR : ∀ v s', Q v s' → R (.ok (.ret v)) s')
    (h : ∀ g L' h₁, Fr g L' h₁ (fun y => binds.reverse.lookup y) → News g L' h₁ mt → Below A base (env :: outer) g → K.In g → Top p loose mean mg mb g → (∀ p ∈ mt, p.1 < L') →
      wpAny (model prog w) (A.deeper (envOf qual scope L' f cdv)) (execs body (envOf qual scope L' f cdv))
        (fun fl s' => Ends g L' s Post (match fl with | .ret v => v | _ => .none) s')
        (fun e s' => wpAny (model prog w) (A.deeper (envOf qual scope L' f cdv)) (leaving (envOf qual scope L' f cdv) e) (fun _ s'' => R (.error e) s'') (fun e' s'' => R (.error e') s'') s')
        { s with heap := h₁, toks := s.toks + binds.length })
    (hco : scope.isCoroutine = false) (hgen : scope.isGenerator = false) (hk : scope.kind = .function)
    (hcell : ∀ x ∈ scope.names, x.2 ≠ .cell) : codeAny (model prog w) A (.call (.ref f) args) R s := by
  have Nm : News h₀ L s.heap mt := fun p hp => N p (List.mem_append_left _ hp)
  obtain ⟨FG, BG, st₀, _⟩ := groundX (R := R) B F Nm hA hf hke
  have st : ∀ (b : Addr) (o : Obj), h₀.get? b = some o → (hideAll s.heap (mt.map (·.1))).get? b = some o := st₀
  have KG := X₀.keeps st
  have TG := T.keeps st
  refine codeAny_call_def (fd := fnOf name qual params body scope dV kV doc pm an cdv ct) (body := body) (binds := binds) hroom ((X₀.keeps F.keep) _ _ ho) rfl (T.nolimit.keeps F.keep) (codeRec_of (X₀.keeps F.keep) hcd) rfl hbind hcell hloc (fun h₁ hns hk₁ => ?_) hco hgen hk
  refine wpAny_mono (h (hideAll s.heap (mt.map (·.1))) s.heap.objs.size h₁ ⟨hns, fun b o e => hk₁ b o (of_hideAll _ e), Nat.le_of_eq (hideAll_size _ _)⟩
    (fun p hp => ⟨hk₁ _ _ (Nm p hp).1, Nat.ne_of_lt (Heap.lt_size (Nm p hp).1), hideAll_none _ (List.mem_map_of_mem hp)⟩) BG KG TG (fun p hp => Heap.lt_size (Nm p hp).1)) (fun fl s' hl => ?_) fun _ _ y => y
  obtain ⟨h', tk, m', new, mt', rfl, F', N', hP⟩ := hl
  have hg : ∀ q ∈ rest, (hideAll s.heap (mt.map (·.1))).get? q.1 = some q.2 := fun q hq => hideAll_get _ (N q (List.mem_append_right _ hq)).1 fun hm => by
    obtain ⟨p, hp, e⟩ := List.mem_map.mp hm
    exact hdis p hp q hq e
  obtain ⟨oL, es, ep, hL, hLd, hLk, hLf⟩ := FG.ns
  refine hR _ _ (hret _ h' tk new mt' hP (fun p hp q hq e => ?_) ⟨⟨oL, es, ep, F'.keep _ _ hL, hLd, hLk, hLf⟩, fun b o e => F'.keep b o (st b o e), F.above⟩ fun p hp => ?_)
  · have h1 := (N' p hp).2.2
    rw [e, hg q hq] at h1; cases h1
  · rcases List.mem_append.mp hp with hp | hp
    · refine ⟨(N' p hp).1, fun q => ?_, ?_⟩
      · have h1 := (N' p hp).2.2
        rw [q, hL] at h1; cases h1
      · cases q : h₀.get? p.1 with
        | none => rfl
        | some o => have h1 := (N' p hp).2.2; rw [st _ _ q] at h1; cases h1
    · exact ⟨F'.keep _ _ (hg p hp), (N p (List.mem_append_right _ hp)).2⟩

/-- the part of the text from i up to j -/
def subI (l : List Nat) (i j : Int) : List Nat := (l.drop i.toNat).take (j - i).toNat
theorem subI_len {l : List Nat} {i j : Int} : (subI l i j).length ≤ l.length := by
  unfold subI; rw [List.length_take, List.length_drop]; omega
section
variable {prog : Program} {w : World} {A : Around} {E : Value → Shared → Prop} {s : Shared} {value slice : Expr} {l : List Nat} {t : Tok} {h₀ : Heap} {L : Addr} {m : Str → Option Value} {Q : Value → Shared → Prop} {news : List (Addr × Obj)}
theorem slice_go {i j : Int} {ui uj : Tok} (hF : Fr h₀ L s.heap m) (hN : News h₀ L s.heap news) (h0 : 0 ≤ i) (h1 : i ≤ j) (h2 : j ≤ l.length) (hl : l.length < 2 ^ 20)
    (h : ∀ h' t' k, Fr h₀ L h' m → News h₀ L h' news → Q (.str (S (subI l i j)) t') { s with heap := h', toks := k })
    (hs : subscripted slice false (.str (S l) t) (.ref s.heap.objs.size) = operate [.ref s.heap.objs.size, .str (S l) t] (getItem (.str (S l) t) (.ref s.heap.objs.size)) := by with_unfolding_all rfl)
    (ht : ∀ r, letTemporaryGo value (.str (S l) t) r = pure () := by intro _; with_unfolding_all rfl) :
    wpAny (model prog w) A (subscriptTail value slice (.str (S l) t) (.ref s.heap.objs.size)) Q E { s with heap := s.heap.push { cls := .type "slice", data := .fields #[.int i ui, .int j uj, .none] } } :=
  slice_strN_ss hF hN (fun h' t' k a b => by rw [slice_S h0 h1 h2]; exact h h' t' k a b) hs ht (by rw [S_len, sizeLine_eq]; omega)
end

/-- the place of the closing pointed bracket; the list is the text from j on -/
def angA (j : Nat) : List Nat → Option Nat
  | [] => none
  | c :: [] => if (c == 62) = true then some j else none
  | c :: d :: r =>
    if (c == 62) = true then some j
    else if (c == 92) = true ∧ isPunct d = true then angA (j + 2) r
    else if isAng c = true then none
    else angA (j + 1) (d :: r)
def angI (l : List Nat) (i : Int) : Option Int := Option.map (fun n : Nat => (n : Int)) (angA i.toNat (l.drop i.toNat))
theorem angI_end {l : List Nat} {i : Int} (h : l.length ≤ i) : angI l i = none := by
  unfold angI; rw [List.drop_eq_nil_of_le (by omega)]; rfl
theorem getD_of_le {l : List Nat} {i : Nat} (h : l.length ≤ i) : l.getD i 0 = 0 := by simp [List.getD, List.getElem?_eq_none h]
theorem angI_found {l : List Nat} {i : Int} (h0 : 0 ≤ i) (h1 : i < l.length) (hc : (l.getD i.toNat 0 == 62) = true) : angI l i = some i := by
  unfold angI
  rw [drop_cons (show i.toNat < l.length by omega)]
  have e : ((i.toNat : Nat) : Int) = i := by omega
  cases l.drop (i.toNat + 1) <;> (rw [angA, if_pos hc, Option.map_some, e])
theorem angI_esc {l : List Nat} {i : Int} (h0 : 0 ≤ i) (h1 : i + 1 < l.length) (hc : (l.getD i.toNat 0 == 62) = false) (hb : (l.getD i.toNat 0 == 92) = true) (hp : isPunct (l.getD (i + 1).toNat 0) = true) : angI l i = angI l (i + 2) := by
  unfold angI
  rw [show (i + 2).toNat = i.toNat + 2 by omega, drop_cons (show i.toNat < l.length by omega), drop_cons (show i.toNat + 1 < l.length by omega)]
  rw [show (i + 1).toNat = i.toNat + 1 by omega] at hp
  rw [angA, if_neg (by rw [hc]; decide), if_pos ⟨hb, hp⟩]
theorem angI_bad {l : List Nat} {i : Int} (h0 : 0 ≤ i) (hc : (l.getD i.toNat 0 == 62) = false) (hb : (l.getD i.toNat 0 == 92) = false ∨ isPunct (l.getD (i + 1).toNat 0) = false ∨ l.length ≤ i + 1) (ha : isAng (l.getD i.toNat 0) = true) : angI l i = none := by
  rcases Int.lt_or_le i l.length with q | q
  · unfold angI
    rw [drop_cons (show i.toNat < l.length by omega)]
    rcases Int.lt_or_le (i + 1) l.length with q' | q'
    · rw [drop_cons (show i.toNat + 1 < l.length by omega)]
      rw [show (i + 1).toNat = i.toNat + 1 by omega] at hb
      rw [angA, if_neg (by rw [hc]; decide), if_neg, if_pos ha]; rfl
      rintro ⟨x, y⟩
      rcases hb with hb | hb | hb
      · rw [hb] at x; cases x
      · rw [hb] at y; cases y
      · omega
    · rw [List.drop_eq_nil_of_le (by omega), angA, if_neg (by rw [hc]; decide)]; rfl
  · exact angI_end q
theorem angI_one {l : List Nat} {i : Int} (h0 : 0 ≤ i) (hc : (l.getD i.toNat 0 == 62) = false) (hb : (l.getD i.toNat 0 == 92) = false ∨ isPunct (l.getD (i + 1).toNat 0) = false ∨ l.length ≤ i + 1) (ha : isAng (l.getD i.toNat 0) = false) : angI l i = angI l (i + 1) := by
  rcases Int.lt_or_le i l.length with q | q
  · unfold angI
    rw [show (i + 1).toNat = i.toNat + 1 by omega, drop_cons (show i.toNat < l.length by omega)]
    rcases Int.lt_or_le (i + 1) l.length with q' | q'
    · rw [drop_cons (show i.toNat + 1 < l.length by omega)]
      rw [show (i + 1).toNat = i.toNat + 1 by omega] at hb
      rw [angA, if_neg (by rw [hc]; decide), if_neg, if_neg (by rw [ha]; decide)]
      rintro ⟨x, y⟩
      rcases hb with hb | hb | hb
      · rw [hb] at x; cases x
      · rw [hb] at y; cases y
      · omega
    · rw [List.drop_eq_nil_of_le (by omega), show angA i.toNat [l.getD i.toNat 0] = none by rw [angA, if_neg (by rw [hc]; decide)]]; rfl
  · rw [angI_end q, angI_end (by omega)]
theorem angI_le {l : List Nat} {i e : Int} (h0 : 0 ≤ i) (h : angI l i = some e) : i ≤ e ∧ e < l.length := by
  have key : ∀ (n : Nat) (r : List Nat) (j : Nat) (k : Nat), r.length ≤ n → angA j r = some k → j ≤ k ∧ k < j + r.length := by
    intro n
    induction n with
    | zero =>
      intro r j k hr hk
      rw [List.length_eq_zero_iff.mp (Nat.le_zero.mp hr)] at hk
      cases hk
    | succ n ih =>
      intro r j k hr hk
      match r, hr, hk with
      | [], _, hk => cases hk
      | [c], _, hk =>
        unfold angA at hk
        split at hk
        · cases hk; simp
        · cases hk
      | c :: d :: r, hr, hk =>
        unfold angA at hk
        simp only [List.length_cons] at hr ⊢
        split at hk
        · cases hk; omega
        · split at hk
          · have := ih r (j + 2) k (by omega) hk; omega
          · split at hk
            · cases hk
            · have := ih (d :: r) (j + 1) k (by simp only [List.length_cons]; omega) hk
              simp only [List.length_cons] at this; omega
  unfold angI at h
  obtain ⟨k, hk, rfl⟩ := Option.map_eq_some_iff.mp h
  have := key _ _ _ _ (Nat.le_refl _) hk
  rw [List.length_drop] at this
  omega
abbrev tupObj (vs : List Value) : Obj := { cls := .type "tuple", data := .seq vs.toArray }
theorem decT {c : Prop} [Decidable c] {P Q : Prop} (h : c) (p : P) : if decide c = true then P else Q := by rw [if_pos (decide_eq_true h)]; exact p
theorem decF {c : Prop} [Decidable c] {P Q : Prop} (h : ¬ c) (q : Q) : if decide c = true then P else Q := by rw [if_neg (by simp [h])]; exact q
theorem boolT {b : Bool} {P Q : Prop} (h : b = true) (p : P) : if b = true then P else Q := by rw [if_pos h]; exact p
theorem boolF {b : Bool} {P Q : Prop} (h : b = false) (q : Q) : if b = true then P else Q := by rw [if_neg (by simp [h])]; exact q
/-- the library's while rule with an end of its own name: the walk stops there, and the end is shown by hand -/
def MEnd {σ : Type} (h₀ : Heap) (L : Addr) (s : Shared) (Led : σ → List (Addr × Obj)) (ps : σ → List (Str × Value)) (stored : List Str) (m₀ : Str → Option Value) (P : σ → Prop) (μ : σ → Nat) (c : σ) (s₂ : Shared) : Prop :=
  KswEnd h₀ L s Led ps (fun _ => True) stored m₀ P μ c s₂
def MPost {σ : Type} (h₀ : Heap) (L : Addr) (s : Shared) (Led : σ → List (Addr × Obj)) (ps : σ → List (Str × Value)) (stored : List Str) (m₀ : Str → Option Value) (P : σ → Prop) (μ : σ → Nat) (Q : Flow → Shared → Prop) (c : σ) (f : Flow) (s₂ : Shared) : Prop :=
  match f with
  | .ret v => Q (.ret v) s₂
  | .brk => Q .next s₂
  | _ => MEnd h₀ L s Led ps stored m₀ P μ c s₂
theorem m_end {σ : Type} {h₀ : Heap} {L : Addr} {s : Shared} {Led : σ → List (Addr × Obj)} {ps : σ → List (Str × Value)} {stored : List Str} {m₀ m' : Str → Option Value} {P : σ → Prop} {μ : σ → Nat} {c : σ} {h' : Heap} {tk : Nat} {news' : List (Addr × Obj)} (c' : σ)
    (F : Fr h₀ L h' m') (N : News h₀ L h' news') (hn : ∀ p ∈ Led c', p ∈ news') (hk : ∀ p ∈ ps c', m' p.1 = some p.2) (hr : ∀ z, (∀ p ∈ ps c', z ≠ p.1) → stored.contains z = false → m' z = m₀ z) (hp : P c') (hm : μ c' < μ c) :
    MEnd h₀ L s Led ps stored m₀ P μ c { s with heap := h', toks := tk } := ksw_end c' F N hn trivial hk hr hp hm
theorem m_while {prog : Program} {w : World} {A : Around} {E : Value → Shared → Prop} {Q : Flow → Shared → Prop} {s : Shared} {env : Env} {h₀ : Heap} {L : Addr} {σ : Type} {test : Expr} {body : List Stmt} {pos : Pos} {m₀ : Str → Option Value} (Led : σ → List (Addr × Obj)) (ps : σ → List (Str × Value)) (stored : List Str) (P : σ → Prop) (μ : σ → Nat) (c₀ : σ)
    (F : Fr h₀ L s.heap m₀) (N : News h₀ L s.heap (Led c₀)) (hk : ∀ p ∈ ps c₀, m₀ p.1 = some p.2) (hp : P c₀)
    (turn : ∀ (c : σ) (u : Str → Option Value) h tk, P c → Fr h₀ L h (kstB (fun z => if stored.contains z then u z else m₀ z) (ps c)) → News h₀ L h (Led c) →
      wpAny (model prog w) A (isTrue test env (eval test env)) (fun b s₂ =>
        if b = true then wpAny (model prog w) A (execs body env) (MPost h₀ L s Led ps stored m₀ P μ Q c) E s₂ else Q .next s₂) E { s with heap := h, toks := tk })
    (hE : PassesOwn (model prog w) A env E := by passes_own) :
    wpAny (model prog w) A (exec (.While test body [] pos) env) Q E s := by
  refine ksw_while Led ps (fun _ => True) stored P μ c₀ F N trivial hk hp ?_ hE
  intro c u h tk _ hP FW NW
  refine wpAny_mono (turn c u h tk hP FW NW) (fun b s₂ hq => ?_) fun _ _ x => x
  cases b with
  | false => exact hq
  | true =>
    simp only [if_true] at hq ⊢
    refine wpAny_mono hq (fun f s₃ hn => ?_) fun _ _ x => x
    cases f <;> exact hn
theorem Con.use0 {prog : Program} {w : World} {K : Frag} {dep : Nat} {f : Addr} {vs : List Value} {kw : List (Str × Value)} {Post : Value → List (Addr × Obj) → List (Addr × Obj) → Prop}
    {p : Program} {loose : List Str} {mean : ExcName → Option Value} {mg mb : Str → Option Value} {dp un : Nat} {gd : Option (List Code)} {cn : Str} {cs : Scope} {a : Addr} {ccd : Value} {cl : List (Str × Addr)} {outer : List Env} {A₀ : Around} {base h₀ : Heap} {L : Addr} {m : Str → Option Value} {news : List (Addr × Obj)} {s : Shared} {Q E : Value → Shared → Prop}
    (c : Con prog w K dep f vs kw [] Post) (B : Below A₀ base outer h₀) (F : Fr h₀ L s.heap m) (X : K.In h₀) (N : News h₀ L s.heap news) (T : Top p loose mean mg mb h₀) (hk : cs.kind = .function) (hd : dp + dep < recursionLimit) (hu : un + 8 * dep < cLine)
    (h : ∀ (v : Value) (h' : Heap) (tk' : Nat) (new mt' : List (Addr × Obj)), Post v new mt' → (∀ p ∈ new ++ mt', ∀ q ∈ news, p.1 ≠ q.1) → Fr h₀ L h' m → News h₀ L h' (new ++ mt' ++ news) → Q v { s with heap := h', toks := tk' }) :
    wpAny (model prog w) (ktrTop dp un gd cn cs L a ccd cl outer) (call (.ref f) vs kw) Q E s :=
  c p loose mean mg mb dp un gd cn cs a ccd cl outer A₀ base h₀ L m news s Q E B F X N (fun _ h => nomatch h) T hk hd hu h

/-- behind the blanks and one line's end at the head of a link -/
def startI (l : List Nat) (i : Int) : Int :=
  let j := scanI isBl l i
  if j < l.length ∧ isNl (l.getD j.toNat 0) = true then
    (if l.getD j.toNat 0 = 13 ∧ j + 1 < l.length ∧ l.getD (j + 1).toNat 0 = 10 then scanI isBl l (j + 2) else scanI isBl l (j + 1))
  else j
theorem startI_le {l : List Nat} {i : Int} (h0 : 0 ≤ i) (h1 : i ≤ l.length) : i ≤ startI l i ∧ startI l i ≤ l.length := by
  have a := scanI_le isBl h0 h1
  unfold startI
  dsimp only
  split
  · split
    · have b := scanI_le isBl (l := l) (i := scanI isBl l i + 2) (by omega) (by omega); omega
    · have b := scanI_le isBl (l := l) (i := scanI isBl l i + 1) (by omega) (by omega); omega
  · exact a
/-- the bare destination from place j on, level lv open: none: it fails; else the place where it ends and the level there -/
def hrfA (lim : Int) (j : Nat) (lv : Int) (l : List Nat) : Option (Nat × Int) :=
  match l with
  | [] => some (j, lv)
  | c :: r =>
    if isWs c = true then some (j, lv)
    else if ((c : Nat) : Int) < 32 then none
    else if (c == 127) = true then none
    else if (c == 92) = true ∧ isPunct (r.headD 0) = true then hrfA lim (j + 2) lv r.tail
    else if (c == 40) = true then (if lim < lv + 1 then none else hrfA lim (j + 1) (lv + 1) r)
    else if (c == 41) = true then (if lv = 0 then some (j, lv) else hrfA lim (j + 1) (lv - 1) r)
    else hrfA lim (j + 1) lv r
termination_by l.length
decreasing_by all_goals simp; try omega
def hrfI (lim : Int) (l : List Nat) (i lv : Int) : Option (Int × Int) := Option.map (fun q : Nat × Int => ((q.1 : Int), q.2)) (hrfA lim i.toNat lv (l.drop i.toNat))
theorem headD_drop {l : List Nat} {i : Nat} : (l.drop i).headD 0 = l.getD i 0 := by
  rw [List.headD_eq_head?_getD, List.head?_drop]; rfl
theorem hrfI_end {lim : Int} {l : List Nat} {i lv : Int} (h0 : 0 ≤ i) (h : l.length ≤ i) : hrfI lim l i lv = some (i, lv) := by
  unfold hrfI; rw [List.drop_eq_nil_of_le (by omega), hrfA, Option.map_some]
  have e : ((i.toNat : Nat) : Int) = i := by omega
  simp only [e]
theorem hrfI_eq {lim : Int} {l : List Nat} {i lv : Int} (h0 : 0 ≤ i) (h : i < l.length) : hrfI lim l i lv =
    if isWs (l.getD i.toNat 0) = true then some (i, lv)
    else if ((l.getD i.toNat 0 : Nat) : Int) < 32 then none
    else if (l.getD i.toNat 0 == 127) = true then none
    else if (l.getD i.toNat 0 == 92) = true ∧ isPunct (l.getD (i + 1).toNat 0) = true then hrfI lim l (i + 2) lv
    else if (l.getD i.toNat 0 == 40) = true then (if lim < lv + 1 then none else hrfI lim l (i + 1) (lv + 1))
    else if (l.getD i.toNat 0 == 41) = true then (if lv = 0 then some (i, lv) else hrfI lim l (i + 1) (lv - 1))
    else hrfI lim l (i + 1) lv := by
  have e : ((i.toNat : Nat) : Int) = i := by omega
  unfold hrfI
  rw [show (i + 1).toNat = i.toNat + 1 by omega, show (i + 2).toNat = i.toNat + 2 by omega, drop_cons (show i.toNat < l.length by omega), hrfA, headD_drop, List.tail_drop]
  (repeat' split) <;> first | rfl | simp only [Option.map_some, e] | simp only [Option.map_none]
def notEsc (l : List Nat) (i : Int) : Prop := (l.getD i.toNat 0 == 92) = false ∨ isPunct (l.getD (i + 1).toNat 0) = false ∨ l.length ≤ i + 1
theorem notEsc.not {l : List Nat} {i : Int} (h0 : 0 ≤ i) (h : notEsc l i) : ¬ ((l.getD i.toNat 0 == 92) = true ∧ isPunct (l.getD (i + 1).toNat 0) = true) := by
  rintro ⟨x, y⟩
  rcases h with h | h | h
  · rw [h] at x; cases x
  · rw [h] at y; cases y
  · rw [getD_of_le (by omega)] at y; exact absurd y (by decide)
section
variable {lim : Int} {l : List Nat} {i lv : Int}
theorem hrf_ws (h0 : 0 ≤ i) (h : i < l.length) (a : isWs (l.getD i.toNat 0) = true) : hrfI lim l i lv = some (i, lv) := by
  rw [hrfI_eq h0 h, if_pos a]
theorem hrf_ctl (h0 : 0 ≤ i) (h : i < l.length) (a : isWs (l.getD i.toNat 0) = false) (b : ((l.getD i.toNat 0 : Nat) : Int) < 32) : hrfI lim l i lv = none := by
  rw [hrfI_eq h0 h, if_neg (by simp only [a]; decide), if_pos b]
theorem hrf_del (h0 : 0 ≤ i) (h : i < l.length) (a : isWs (l.getD i.toNat 0) = false) (b : ¬ ((l.getD i.toNat 0 : Nat) : Int) < 32) (c : (l.getD i.toNat 0 == 127) = true) : hrfI lim l i lv = none := by
  rw [hrfI_eq h0 h, if_neg (by simp only [a]; decide), if_neg b, if_pos c]
theorem hrf_esc (h0 : 0 ≤ i) (h : i < l.length) (a : isWs (l.getD i.toNat 0) = false) (b : ¬ ((l.getD i.toNat 0 : Nat) : Int) < 32) (c : (l.getD i.toNat 0 == 127) = false) (d : (l.getD i.toNat 0 == 92) = true) (e : isPunct (l.getD (i + 1).toNat 0) = true) : hrfI lim l i lv = hrfI lim l (i + 2) lv := by
  rw [hrfI_eq h0 h, if_neg (by simp only [a]; decide), if_neg b, if_neg (by simp only [c]; decide), if_pos ⟨d, e⟩]
theorem hrf_over (h0 : 0 ≤ i) (h : i < l.length) (a : isWs (l.getD i.toNat 0) = false) (b : ¬ ((l.getD i.toNat 0 : Nat) : Int) < 32) (c : (l.getD i.toNat 0 == 127) = false) (d : notEsc l i) (e : (l.getD i.toNat 0 == 40) = true) (g : lim < lv + 1) : hrfI lim l i lv = none := by
  rw [hrfI_eq h0 h, if_neg (by simp only [a]; decide), if_neg b, if_neg (by simp only [c]; decide), if_neg (d.not h0), if_pos e, if_pos g]
theorem hrf_open (h0 : 0 ≤ i) (h : i < l.length) (a : isWs (l.getD i.toNat 0) = false) (b : ¬ ((l.getD i.toNat 0 : Nat) : Int) < 32) (c : (l.getD i.toNat 0 == 127) = false) (d : notEsc l i) (e : (l.getD i.toNat 0 == 40) = true) (g : ¬ lim < lv + 1) : hrfI lim l i lv = hrfI lim l (i + 1) (lv + 1) := by
  rw [hrfI_eq h0 h, if_neg (by simp only [a]; decide), if_neg b, if_neg (by simp only [c]; decide), if_neg (d.not h0), if_pos e, if_neg g]
theorem hrf_stop (h0 : 0 ≤ i) (h : i < l.length) (a : isWs (l.getD i.toNat 0) = false) (b : ¬ ((l.getD i.toNat 0 : Nat) : Int) < 32) (c : (l.getD i.toNat 0 == 127) = false) (d : notEsc l i) (e : (l.getD i.toNat 0 == 40) = false) (g : (l.getD i.toNat 0 == 41) = true) (k : lv = 0) : hrfI lim l i lv = some (i, lv) := by
  rw [hrfI_eq h0 h, if_neg (by simp only [a]; decide), if_neg b, if_neg (by simp only [c]; decide), if_neg (d.not h0), if_neg (by simp only [e]; decide), if_pos g, if_pos k]
theorem hrf_close (h0 : 0 ≤ i) (h : i < l.length) (a : isWs (l.getD i.toNat 0) = false) (b : ¬ ((l.getD i.toNat 0 : Nat) : Int) < 32) (c : (l.getD i.toNat 0 == 127) = false) (d : notEsc l i) (e : (l.getD i.toNat 0 == 40) = false) (g : (l.getD i.toNat 0 == 41) = true) (k : ¬ lv = 0) : hrfI lim l i lv = hrfI lim l (i + 1) (lv - 1) := by
  rw [hrfI_eq h0 h, if_neg (by simp only [a]; decide), if_neg b, if_neg (by simp only [c]; decide), if_neg (d.not h0), if_neg (by simp only [e]; decide), if_pos g, if_neg k]
theorem hrf_one (h0 : 0 ≤ i) (h : i < l.length) (a : isWs (l.getD i.toNat 0) = false) (b : ¬ ((l.getD i.toNat 0 : Nat) : Int) < 32) (c : (l.getD i.toNat 0 == 127) = false) (d : notEsc l i) (e : (l.getD i.toNat 0 == 40) = false) (g : (l.getD i.toNat 0 == 41) = false) : hrfI lim l i lv = hrfI lim l (i + 1) lv := by
  rw [hrfI_eq h0 h, if_neg (by simp only [a]; decide), if_neg b, if_neg (by simp only [c]; decide), if_neg (d.not h0), if_neg (by simp only [e]; decide), if_neg (by simp only [g]; decide)]
end
/-- the destination of a link: its text and the place behind it -/
def hrefR (lim : Int) (l : List Nat) (i : Int) : Option (List Nat × Int) :=
  let p := startI l i
  if l.length ≤ p then none
  else if (l.getD p.toNat 0 == 60) = true then (match angI l (p + 1) with | some e => some (subI l (p + 1) e, e + 1) | none => none)
  else match hrfI lim l p 0 with | some (e, lv) => (if lv = 0 then some (subI l p e, e) else none) | none => none
section
variable {lim : Int} {l : List Nat} {i : Int}
theorem hrefR_end (h : l.length ≤ startI l i) : hrefR lim l i = none := by unfold hrefR; dsimp only; rw [if_pos h]
theorem hrefR_angS {e : Int} (h : ¬ l.length ≤ startI l i) (a : (l.getD (startI l i).toNat 0 == 60) = true) (b : angI l (startI l i + 1) = some e) : hrefR lim l i = some (subI l (startI l i + 1) e, e + 1) := by
  unfold hrefR; dsimp only; rw [if_neg h, if_pos a, b]
theorem hrefR_angN (h : ¬ l.length ≤ startI l i) (a : (l.getD (startI l i).toNat 0 == 60) = true) (b : angI l (startI l i + 1) = none) : hrefR lim l i = none := by
  unfold hrefR; dsimp only; rw [if_neg h, if_pos a, b]
theorem hrefR_none (h : ¬ l.length ≤ startI l i) (a : (l.getD (startI l i).toNat 0 == 60) = false) (b : hrfI lim l (startI l i) 0 = none) : hrefR lim l i = none := by
  unfold hrefR; dsimp only; rw [if_neg h, if_neg (by simp only [a]; decide), b]
theorem hrefR_open {e lv : Int} (h : ¬ l.length ≤ startI l i) (a : (l.getD (startI l i).toNat 0 == 60) = false) (b : hrfI lim l (startI l i) 0 = some (e, lv)) (c : lv ≠ 0) : hrefR lim l i = none := by
  unfold hrefR; dsimp only; rw [if_neg h, if_neg (by simp only [a]; decide), b]; dsimp only; rw [if_neg c]
theorem hrefR_some {e lv : Int} (h : ¬ l.length ≤ startI l i) (a : (l.getD (startI l i).toNat 0 == 60) = false) (b : hrfI lim l (startI l i) 0 = some (e, lv)) (c : lv = 0) : hrefR lim l i = some (subI l (startI l i) e, e) := by
  unfold hrefR; dsimp only; rw [if_neg h, if_neg (by simp only [a]; decide), b]; dsimp only; rw [if_pos c]
end
theorem mem_one {x : Addr × Obj} {r : List (Addr × Obj)} : ∀ p ∈ [x] ++ [], p ∈ x :: r := by
  intro p hp
  rw [List.append_nil, List.mem_singleton] at hp
  rw [hp]; exact List.mem_cons_self ..
section
variable {prog : Program} {w : World} {A : Around} {E : Value → Shared → Prop} {s : Shared} {a b : List Nat} {x y : Str} {c : Nat} {t u : Tok}
theorem truthy_S {Q : Bool → Shared → Prop} (hl : a.length < 2 ^ 62) (h : Q (!a.isEmpty) { s with toks := s.toks + 1 + 1 }) : wpAny (model prog w) A (truthy (.str (S a) t)) Q E s := by
  refine P.truthy_str (by rw [S_len]; omega) ?_
  rw [S_len]
  have e : (((a.length : Nat) : Int) != 0) = !a.isEmpty := by cases a <;> simp <;> omega
  rw [e]; exact h
theorem truthy_cons {Q : Bool → Shared → Prop} (hl : a.length < 2 ^ 61) (h : Q true { s with toks := s.toks + 1 + 1 }) : wpAny (model prog w) A (truthy (.str (S (c :: a)) t)) Q E s :=
  truthy_S (by simp only [List.length_cons]; omega) h
theorem add_SS {Q : Value → Shared → Prop} (hx : x = S a) (hy : y = S b) (hl : a.length + b.length ≤ 2 ^ 22) (h : ∀ t' tk, Q (.str (S (a ++ b)) t') { s with toks := tk }) : wpAny (model prog w) A (binaryOp .Add (.str x t) (.str y u)) Q E s := by
  subst hx hy
  refine PyProof.Rows.add_str (fun t' tk => ?_) (by rw [S_len, S_len, sizeLine_eq]; omega)
  have e : S a ++ S b = S (a ++ b) := by show Str.append _ _ = _; simp [Str.append, S]
  rw [e]; exact h t' tk
end
theorem notin_ws {prog : Program} {w : World} {A : Around} {E : Value → Shared → Prop} {s : Shared} {c : Nat} {t u : Tok} {Q : Value → Shared → Prop} (h : Q (.bool (!isWs c)) s) : wpAny (model prog w) A (compareOp .NotIn (.str (S [c]) u) (.str (Str.ofString " \t\n\x0d\x0c") t)) Q E s := by
  have hx : Str.ofString " \t\n\x0d\x0c" = S [32, 9, 10, 13, 12] := by decide
  rw [hx]
  refine notIn_str ?_
  rw [show (S [c] : Str) = ⟨#[c]⟩ from rfl, StrLaws.found_one]
  have e : decide (c ∈ (S [32, 9, 10, 13, 12]).cps.toList) = isWs c := by
    rw [Bool.eq_iff_iff, decide_eq_true_eq]; simp [isWs]
  rw [e]; exact h
end Mine

end SMB

section SCA
open PySem PySem.W PyProof.Rows PySem.Calls PySem.Spec
theorem Mine.offCA : True := by w_top off; exact trivial
namespace Mine
section
local macro_rules | `(tactic| cell_enter) => `(tactic| (refine wpAny_call ?_; refine' con_code (by assumption) ?k1 ?k2 ?k3 ?k4 ?kz ?k5 ?kA ?kF ?kK ?k6 ?k7 ?k8 ?k9 ?kB (by assumption) ?kQ ?_ ?c2 ?c3 ?c4 ?c5; (case kA => exact rfl); (case kF => exact rfl); (case kK => assumption); (case k1 => k_asm); (case k2 => k_asm); (case k3 => k_asm); (case k4 => k_asm); (case kz => assumption); (case k5 => k_asm); (case k6 => k_is); (case k7 => k_is); (case k8 => ktr_room); (case k9 => (refine' kp_binds ?kx ?ke; (case kx => k_in); (case ke => exact fun _ => rfl))); (case kQ => exact fun _ _ q => q); (case c5 => decide); (case kB => exact locs rfl); (case c2 => exact rfl); (case c3 => exact rfl); (case c4 => exact rfl); k_whole; intro g' L' h' F' N' B' X' T' l0; (try k_lt l0); (try dsimp only); (try k_fold)))
local macro_rules | `(tactic| walk_at "subscriptTail") => `(tactic| ((with_reducible show wpAny _ _ (subscriptTail _ _ (Value.str (S _) _) (Value.int _ _)) _ _ _); refine sub_S (by omega) (by omega) (by omega) ?_))
local macro_rules | `(tactic| walk_at "subscriptTail Name Name str int") => `(tactic| (refine sub_S (by omega) (by omega) (by omega) ?_))
local macro_rules | `(tactic| walk_at "compareOp In str str") => `(tactic| first | refine in_ws ?_ | refine in_punct ?_ | refine in_blank ?_ | refine in_nl ?_ | refine in_ang ?_)
local macro_rules | `(tactic| walk_at "call builtin:len") => `(tactic| refine len_S (by omega) ?_)
local macro_rules | `(tactic| walk_at "call builtin:ord") => `(tactic| refine ord_ch ?_)
local macro_rules | `(tactic| walk_at "compareOp Eq str str") => `(tactic| first
  | refine eq_ch (d := 60) (by decide : Str.ofString "<" = S [60]) ?_
  | refine eq_ch (d := 62) (by decide : Str.ofString ">" = S [62]) ?_
  | refine eq_ch (d := 10) (by decide : Str.ofString "\n" = S [10]) ?_
  | refine eq_ch (d := 13) (by decide : Str.ofString "\x0d" = S [13]) ?_
  | refine eq_ch (d := 40) (by decide : Str.ofString "(" = S [40]) ?_
  | refine eq_ch (d := 41) (by decide : Str.ofString ")" = S [41]) ?_
  | refine eq_ch (d := 92) (by decide : Str.ofString "\\" = S [92]) ?_
  | refine eq_ch (d := 0) (by decide : Str.ofString "\x00" = S [0]) ?_
  | refine eq_ch (d := 127) (by decide : Str.ofString "\x7f" = S [127]) ?_)
local macro_rules | `(tactic| walk_at "compareOp NotEq str str") => `(tactic| first
  | refine ne_ch (d := 41) (by decide : Str.ofString ")" = S [41]) ?_)
local macro_rules | `(tactic| walk_at "subscriptTail Name Slice str ref") => `(tactic| ((with_reducible show wpAny _ _ (subscriptTail _ (Expr.Slice (some _) (some _) none _) (Value.str (S _) _) _) _ _ _); (refine slice_go (s := ⟨_, _, _, _, _⟩) (by assumption) (by assumption) (by omega) (by omega) (by omega) (by omega) ?_); intro h' t' tk' F' N'))
local macro_rules | `(tactic| walk_at "ite") => `(tactic| first
  | with_reducible refine ite_tt ?_ | with_reducible refine ite_ff ?_ | with_reducible refine split_not ?_
  | with_reducible refine boolT (by with_reducible assumption) ?_ | with_reducible refine boolF (by with_reducible assumption) ?_
  | with_reducible refine decT (by omega) ?_ | with_reducible refine decF (by omega) ?_
  | (with_reducible refine split_ine ?_ ?_ <;> intro _) | (with_reducible refine split_ieq ?_ ?_ <;> intro _)
  | (with_reducible refine PyProof.Rows.split_dec ?_ ?_ <;> intro _) | (with_reducible refine PyProof.Rows.split_bool ?_ ?_ <;> intro _))
local macro_rules | `(tactic| ksw_same) => `(tactic| (intro z h2 h3; (simp only [List.forall_mem_cons, List.not_mem_nil, false_implies, implies_true, and_true, ne_eq] at h2); (simp only [List.contains_cons, List.contains_nil, Bool.or_false, Bool.or_eq_false_iff, beq_eq_false_iff_ne, ne_eq] at h3); simp only [h2, h3, if_false, List.contains_cons, List.contains_nil, Bool.or_false, Bool.or_eq_true, beq_iff_eq, or_self, or_false, false_or, Bool.false_eq_true]))
local macro_rules | `(tactic| walk_at "MPost") => `(tactic| (dsimp only [MPost]))
local macro_rules | `(tactic| walk_at "truthy str") => `(tactic| first | refine truthy_cons (by simp only [List.length_nil]; omega) ?_ | refine truthy_S (by omega) ?_)
local macro_rules | `(tactic| walk_at "binaryOp Add str str") => `(tactic| first
  | (refine add_SS (a := []) (b := _) (by decide : Str.ofString "" = S []) rfl (by simp only [List.length_nil, List.length_cons]; omega) ?_; intro t' tk')
  | (refine add_SS rfl rfl (by simp only [List.length_nil, List.length_cons, List.length_append]; omega) ?_; intro t' tk'))
local macro_rules | `(tactic| walk_at "compareOp NotIn str str") => `(tactic| refine notin_ws ?_)

theorem c_skip (w : World) (l : List Nat) (tx ti : Tok) (i : Int) (h0 : 0 ≤ i) (h1 : i ≤ l.length) (h2 : l.length < 2 ^ 62) :
    Con PySem.Challenge.rw_ci0012_01.row.prog w (hd.heap_39 w.params) 1 121 [.str (S l) tx, .int i ti] [] [] (fun v new mt => (∃ t, v = .int (scanI isWs l i) t) ∧ new = [] ∧ mt = []) := by
  k_fill
  intro p loose mean mg mb dp un gd cn cs a ccd cl outer A₀ base h₀ L m rest s Q E B F X N hz T hk hdp hun hret
  k_with_none
  k_with "exec While BoolOp cons nil" => (refine scan_while isWs l (by assumption) (by assumption) rfl (by assumption) (by assumption) (fun j tj h tk hj0 hj1 FW NW => ?_) (fun tj h tk hl0 hl1 FW NW => ?_))
  k_with "And" => (refine ⟨rfl, ?_⟩)
  k_with "ScanNext" => exact ⟨⟨by assumption, by assumption⟩, _, _, _, _, rfl, by assumption, by assumption, rfl, by intro z hz; simp [hz]⟩
  k_with "ScanStop" => exact ⟨by first | exact Or.inr (by assumption) | exact Or.inl (by omega), _, _, rfl, by assumption, by assumption⟩
  have hb : BindsAre [(Str.ofString "src", .str (S l) tx), (Str.ofString "pos", .int i ti), (Str.ofString "max_pos", .none)] := trivial
  k_dflt cell_enter
  clear B F X N hz T hret
  k_steps
  exact Ends.mk [] [] (by assumption) (by assumption) (fun _ h => nomatch h) ⟨⟨_, rfl⟩, rfl, rfl⟩
theorem c_skip3 (w : World) (l : List Nat) (tx ti tn : Tok) (i : Int) (h0 : 0 ≤ i) (h1 : i ≤ l.length) (h2 : l.length < 2 ^ 62) :
    Con PySem.Challenge.rw_ci0012_01.row.prog w (hd.heap_39 w.params) 1 121 [.str (S l) tx, .int i ti, .int l.length tn] [] [] (fun v new mt => (∃ t, v = .int (scanI isWs l i) t) ∧ new = [] ∧ mt = []) := by
  k_fill
  intro p loose mean mg mb dp un gd cn cs a ccd cl outer A₀ base h₀ L m rest s Q E B F X N hz T hk hdp hun hret
  k_with_none
  k_with "exec While BoolOp cons nil" => (refine scan_while isWs l (by assumption) (by assumption) rfl (by assumption) (by assumption) (fun j tj h tk hj0 hj1 FW NW => ?_) (fun tj h tk hl0 hl1 FW NW => ?_))
  k_with "And" => (refine ⟨rfl, ?_⟩)
  k_with "ScanNext" => exact ⟨⟨by assumption, by assumption⟩, _, _, _, _, rfl, by assumption, by assumption, rfl, by intro z hz; simp [hz]⟩
  k_with "ScanStop" => exact ⟨by first | exact Or.inr (by assumption) | exact Or.inl (by omega), _, _, rfl, by assumption, by assumption⟩
  have hb : BindsAre [(Str.ofString "src", .str (S l) tx), (Str.ofString "pos", .int i ti), (Str.ofString "max_pos", .int l.length tn)] := trivial
  k_dflt cell_enter
  clear B F X N hz T hret
  k_steps
  exact Ends.mk [] [] (by assumption) (by assumption) (fun _ h => nomatch h) ⟨⟨_, rfl⟩, rfl, rfl⟩
end
end Mine

end SCA

section SCB
open PySem PySem.W PyProof.Rows PySem.Calls PySem.Spec
theorem Mine.offCB : True := by w_top off; exact trivial
namespace Mine
section
local macro_rules | `(tactic| cell_enter) => `(tactic| (refine wpAny_call ?_; refine' con_code (by assumption) ?k1 ?k2 ?k3 ?k4 ?kz ?k5 ?kA ?kF ?kK ?k6 ?k7 ?k8 ?k9 ?kB (by assumption) ?kQ ?_ ?c2 ?c3 ?c4 ?c5; (case kA => exact rfl); (case kF => exact rfl); (case kK => assumption); (case k1 => k_asm); (case k2 => k_asm); (case k3 => k_asm); (case k4 => k_asm); (case kz => assumption); (case k5 => k_asm); (case k6 => k_is); (case k7 => k_is); (case k8 => ktr_room); (case k9 => (refine' kp_binds ?kx ?ke; (case kx => k_in); (case ke => exact fun _ => rfl))); (case kQ => exact fun _ _ q => q); (case c5 => decide); (case kB => exact locs rfl); (case c2 => exact rfl); (case c3 => exact rfl); (case c4 => exact rfl); k_whole; intro g' L' h' F' N' B' X' T' l0; (try k_lt l0); (try dsimp only); (try k_fold)))
local macro_rules | `(tactic| walk_at "subscriptTail") => `(tactic| ((with_reducible show wpAny _ _ (subscriptTail _ _ (Value.str (S _) _) (Value.int _ _)) _ _ _); refine sub_S (by omega) (by omega) (by omega) ?_))
local macro_rules | `(tactic| walk_at "subscriptTail Name Name str int") => `(tactic| (refine sub_S (by omega) (by omega) (by omega) ?_))
local macro_rules | `(tactic| walk_at "compareOp In str str") => `(tactic| first | refine in_ws ?_ | refine in_punct ?_ | refine in_blank ?_ | refine in_nl ?_ | refine in_ang ?_)
local macro_rules | `(tactic| walk_at "call builtin:len") => `(tactic| refine len_S (by omega) ?_)
local macro_rules | `(tactic| walk_at "call builtin:ord") => `(tactic| refine ord_ch ?_)
local macro_rules | `(tactic| walk_at "compareOp Eq str str") => `(tactic| first
  | refine eq_ch (d := 60) (by decide : Str.ofString "<" = S [60]) ?_
  | refine eq_ch (d := 62) (by decide : Str.ofString ">" = S [62]) ?_
  | refine eq_ch (d := 10) (by decide : Str.ofString "\n" = S [10]) ?_
  | refine eq_ch (d := 13) (by decide : Str.ofString "\x0d" = S [13]) ?_
  | refine eq_ch (d := 40) (by decide : Str.ofString "(" = S [40]) ?_
  | refine eq_ch (d := 41) (by decide : Str.ofString ")" = S [41]) ?_
  | refine eq_ch (d := 92) (by decide : Str.ofString "\\" = S [92]) ?_
  | refine eq_ch (d := 0) (by decide : Str.ofString "\x00" = S [0]) ?_
  | refine eq_ch (d := 127) (by decide : Str.ofString "\x7f" = S [127]) ?_)
local macro_rules | `(tactic| walk_at "compareOp NotEq str str") => `(tactic| first
  | refine ne_ch (d := 41) (by decide : Str.ofString ")" = S [41]) ?_)
local macro_rules | `(tactic| walk_at "subscriptTail Name Slice str ref") => `(tactic| ((with_reducible show wpAny _ _ (subscriptTail _ (Expr.Slice (some _) (some _) none _) (Value.str (S _) _) _) _ _ _); (refine slice_go (s := ⟨_, _, _, _, _⟩) (by assumption) (by assumption) (by omega) (by omega) (by omega) (by omega) ?_); intro h' t' tk' F' N'))
local macro_rules | `(tactic| walk_at "ite") => `(tactic| first
  | with_reducible refine ite_tt ?_ | with_reducible refine ite_ff ?_ | with_reducible refine split_not ?_
  | with_reducible refine boolT (by with_reducible assumption) ?_ | with_reducible refine boolF (by with_reducible assumption) ?_
  | with_reducible refine decT (by omega) ?_ | with_reducible refine decF (by omega) ?_
  | (with_reducible refine split_ine ?_ ?_ <;> intro _) | (with_reducible refine split_ieq ?_ ?_ <;> intro _)
  | (with_reducible refine PyProof.Rows.split_dec ?_ ?_ <;> intro _) | (with_reducible refine PyProof.Rows.split_bool ?_ ?_ <;> intro _))
local macro_rules | `(tactic| ksw_same) => `(tactic| (intro z h2 h3; (simp only [List.forall_mem_cons, List.not_mem_nil, false_implies, implies_true, and_true, ne_eq] at h2); (simp only [List.contains_cons, List.contains_nil, Bool.or_false, Bool.or_eq_false_iff, beq_eq_false_iff_ne, ne_eq] at h3); simp only [h2, h3, if_false, List.contains_cons, List.contains_nil, Bool.or_false, Bool.or_eq_true, beq_iff_eq, or_self, or_false, false_or, Bool.false_eq_true]))
local macro_rules | `(tactic| walk_at "MPost") => `(tactic| (dsimp only [MPost]))
local macro_rules | `(tactic| walk_at "truthy str") => `(tactic| first | refine truthy_cons (by simp only [List.length_nil]; omega) ?_ | refine truthy_S (by omega) ?_)
local macro_rules | `(tactic| walk_at "binaryOp Add str str") => `(tactic| first
  | (refine add_SS (a := []) (b := _) (by decide : Str.ofString "" = S []) rfl (by simp only [List.length_nil, List.length_cons]; omega) ?_; intro t' tk')
  | (refine add_SS rfl rfl (by simp only [List.length_nil, List.length_cons, List.length_append]; omega) ?_; intro t' tk'))
local macro_rules | `(tactic| walk_at "compareOp NotIn str str") => `(tactic| refine notin_ws ?_)

theorem c_start (w : World) (l : List Nat) (tx ti : Tok) (i : Int) (h0 : 0 ≤ i) (h1 : i ≤ l.length) (h2 : l.length < 2 ^ 62) :
    Con PySem.Challenge.rw_ci0012_01.row.prog w (hd.heap_39 w.params) 1 128 [.str (S l) tx, .int i ti] [] [] (fun v new mt => (∃ t, v = .int (startI l i) t) ∧ new = [] ∧ mt = []) := by
  k_fill
  intro p loose mean mg mb dp un gd cn cs a ccd cl outer A₀ base h₀ L m rest s Q E B F X N hz T hk hdp hun hret
  k_with_none
  k_with "exec While BoolOp cons nil" => (refine scan_while isBl l (by assumption) (by assumption) rfl (by omega) (by omega) (fun j tj h tk hj0 hj1 FW NW => ?_) (fun tj h tk hl0 hl1 FW NW => ?_))
  k_with "And" => (refine ⟨rfl, ?_⟩)
  k_with "ScanNext" => exact ⟨⟨by assumption, by assumption⟩, _, _, _, _, rfl, by assumption, by assumption, rfl, by intro z hz; simp [hz]⟩
  k_with "ScanStop" => exact ⟨by first | exact Or.inr (by assumption) | exact Or.inl (by omega), _, _, rfl, by assumption, by assumption⟩
  have hb : BindsAre [(Str.ofString "src", .str (S l) tx), (Str.ofString "pos", .int i ti)] := trivial
  k_dflt cell_enter
  clear B F X N hz T hret
  k_steps
  all_goals (refine Ends.mk [] [] (by assumption) (by assumption) (fun _ h => nomatch h) ⟨⟨_, congrArg (Value.int · _) ?_⟩, rfl, rfl⟩)

  all_goals (simp only [startI]; simp_all <;> (intros; omega))
end
end Mine

end SCB

section SCC
open PySem PySem.W PyProof.Rows PySem.Calls PySem.Spec
theorem Mine.offCC : True := by w_top off; exact trivial
namespace Mine
section
local macro_rules | `(tactic| cell_enter) => `(tactic| (refine wpAny_call ?_; refine' con_code (by assumption) ?k1 ?k2 ?k3 ?k4 ?kz ?k5 ?kA ?kF ?kK ?k6 ?k7 ?k8 ?k9 ?kB (by assumption) ?kQ ?_ ?c2 ?c3 ?c4 ?c5; (case kA => exact rfl); (case kF => exact rfl); (case kK => assumption); (case k1 => k_asm); (case k2 => k_asm); (case k3 => k_asm); (case k4 => k_asm); (case kz => assumption); (case k5 => k_asm); (case k6 => k_is); (case k7 => k_is); (case k8 => ktr_room); (case k9 => (refine' kp_binds ?kx ?ke; (case kx => k_in); (case ke => exact fun _ => rfl))); (case kQ => exact fun _ _ q => q); (case c5 => decide); (case kB => exact locs rfl); (case c2 => exact rfl); (case c3 => exact rfl); (case c4 => exact rfl); k_whole; intro g' L' h' F' N' B' X' T' l0; (try k_lt l0); (try dsimp only); (try k_fold)))
local macro_rules | `(tactic| walk_at "subscriptTail") => `(tactic| ((with_reducible show wpAny _ _ (subscriptTail _ _ (Value.str (S _) _) (Value.int _ _)) _ _ _); refine sub_S (by omega) (by omega) (by omega) ?_))
local macro_rules | `(tactic| walk_at "subscriptTail Name Name str int") => `(tactic| (refine sub_S (by omega) (by omega) (by omega) ?_))
local macro_rules | `(tactic| walk_at "compareOp In str str") => `(tactic| first | refine in_ws ?_ | refine in_punct ?_ | refine in_blank ?_ | refine in_nl ?_ | refine in_ang ?_)
local macro_rules | `(tactic| walk_at "call builtin:len") => `(tactic| refine len_S (by omega) ?_)
local macro_rules | `(tactic| walk_at "call builtin:ord") => `(tactic| refine ord_ch ?_)
local macro_rules | `(tactic| walk_at "compareOp Eq str str") => `(tactic| first
  | refine eq_ch (d := 60) (by decide : Str.ofString "<" = S [60]) ?_
  | refine eq_ch (d := 62) (by decide : Str.ofString ">" = S [62]) ?_
  | refine eq_ch (d := 10) (by decide : Str.ofString "\n" = S [10]) ?_
  | refine eq_ch (d := 13) (by decide : Str.ofString "\x0d" = S [13]) ?_
  | refine eq_ch (d := 40) (by decide : Str.ofString "(" = S [40]) ?_
  | refine eq_ch (d := 41) (by decide : Str.ofString ")" = S [41]) ?_
  | refine eq_ch (d := 92) (by decide : Str.ofString "\\" = S [92]) ?_
  | refine eq_ch (d := 0) (by decide : Str.ofString "\x00" = S [0]) ?_
  | refine eq_ch (d := 127) (by decide : Str.ofString "\x7f" = S [127]) ?_)
local macro_rules | `(tactic| walk_at "compareOp NotEq str str") => `(tactic| first
  | refine ne_ch (d := 41) (by decide : Str.ofString ")" = S [41]) ?_)
local macro_rules | `(tactic| walk_at "subscriptTail Name Slice str ref") => `(tactic| ((with_reducible show wpAny _ _ (subscriptTail _ (Expr.Slice (some _) (some _) none _) (Value.str (S _) _) _) _ _ _); (refine slice_go (s := ⟨_, _, _, _, _⟩) (by assumption) (by assumption) (by omega) (by omega) (by omega) (by omega) ?_); intro h' t' tk' F' N'))
local macro_rules | `(tactic| walk_at "ite") => `(tactic| first
  | with_reducible refine ite_tt ?_ | with_reducible refine ite_ff ?_ | with_reducible refine split_not ?_
  | with_reducible refine boolT (by with_reducible assumption) ?_ | with_reducible refine boolF (by with_reducible assumption) ?_
  | with_reducible refine decT (by omega) ?_ | with_reducible refine decF (by omega) ?_
  | (with_reducible refine split_ine ?_ ?_ <;> intro _) | (with_reducible refine split_ieq ?_ ?_ <;> intro _)
  | (with_reducible refine PyProof.Rows.split_dec ?_ ?_ <;> intro _) | (with_reducible refine PyProof.Rows.split_bool ?_ ?_ <;> intro _))
local macro_rules | `(tactic| ksw_same) => `(tactic| (intro z h2 h3; (simp only [List.forall_mem_cons, List.not_mem_nil, false_implies, implies_true, and_true, ne_eq] at h2); (simp only [List.contains_cons, List.contains_nil, Bool.or_false, Bool.or_eq_false_iff, beq_eq_false_iff_ne, ne_eq] at h3); simp only [h2, h3, if_false, List.contains_cons, List.contains_nil, Bool.or_false, Bool.or_eq_true, beq_iff_eq, or_self, or_false, false_or, Bool.false_eq_true]))
local macro_rules | `(tactic| walk_at "MPost") => `(tactic| (dsimp only [MPost]))
local macro_rules | `(tactic| walk_at "truthy str") => `(tactic| first | refine truthy_cons (by simp only [List.length_nil]; omega) ?_ | refine truthy_S (by omega) ?_)
local macro_rules | `(tactic| walk_at "binaryOp Add str str") => `(tactic| first
  | (refine add_SS (a := []) (b := _) (by decide : Str.ofString "" = S []) rfl (by simp only [List.length_nil, List.length_cons]; omega) ?_; intro t' tk')
  | (refine add_SS rfl rfl (by simp only [List.length_nil, List.length_cons, List.length_append]; omega) ?_; intro t' tk'))
local macro_rules | `(tactic| walk_at "compareOp NotIn str str") => `(tactic| refine notin_ws ?_)

theorem c_angle (w : World) (l : List Nat) (tx ti : Tok) (i : Int) (h0 : 0 ≤ i) (h1 : i < l.length) (h2 : l.length < 2 ^ 20) :
    Con PySem.Challenge.rw_ci0012_01.row.prog w (hd.heap_39 w.params) 1 135 [.str (S l) tx, .int i ti] [] [] (fun v new mt => (∃ r o, v = .ref r ∧ new = [(r, o)] ∧ match angI l (i + 1) with
      | some e => ∃ t1 t2, o = tupObj [.str (S (subI l (i + 1) e)) t1, .int (e + 1) t2]
      | none => o = tupObj [.none, .none]) ∧ mt = []) := by
  k_fill
  intro p loose mean mg mb dp un gd cn cs a ccd cl outer A₀ base h₀ L m rest s Q E B F X N hz T hk hdp hun hret
  k_with_none
  k_with "exec While Compare cons nil" => (refine m_while (σ := Int × Tok × Str × Tok) (fun _ => []) (fun c => [(Str.ofString "pos", .int c.1 c.2.1)]) [Str.ofString "c"] (fun c => i + 1 ≤ c.1 ∧ c.1 ≤ l.length ∧ angI l c.1 = angI l (i + 1)) (fun c => (l.length - c.1).toNat) (_, _, S [], 0) (by assumption) (by assumption) (by kst_all) ⟨by dsimp only; omega, by dsimp only; omega, rfl⟩ ?_; rintro ⟨j, tj, _, _⟩ u h tk ⟨hj0, hj1, hJ⟩ FW NW; dsimp only at hj0 hj1 hJ; dsimp only [kstB] at FW)
  have hb : BindsAre [(Str.ofString "src", .str (S l) tx), (Str.ofString "pos", .int i ti)] := trivial
  k_dflt cell_enter
  clear B F X N hz T hret
  k_steps
  · refine Ends.mk [_] [] (by assumption) (by assumption) (fun _ h => h) ⟨⟨_, _, rfl, rfl, ?_⟩, rfl⟩
    rw [← hJ, angI_found (by omega) (by assumption) (by assumption)]
    exact ⟨_, _, rfl⟩
  · refine m_end (j + 2, _, S [], 0) (by assumption) (by assumption) (fun _ h => h) (by kst_all) (by ksw_same) ⟨by dsimp only; omega, by dsimp only; omega, ?_⟩ (by dsimp only; omega)
    rw [← hJ]; exact (angI_esc (by omega) (by omega) (by assumption) (by assumption) (by assumption)).symm
  · refine Ends.mk [_] [] (by assumption) (by assumption) (fun _ h => h) ⟨⟨_, _, rfl, rfl, ?_⟩, rfl⟩
    rw [← hJ, angI_bad (by omega) (by assumption) (.inr (.inl (by assumption))) (by assumption)]
  · refine m_end (j + 1, _, S [], 0) (by assumption) (by assumption) (fun _ h => h) (by kst_all) (by ksw_same) ⟨by dsimp only; omega, by dsimp only; omega, ?_⟩ (by dsimp only; omega)
    rw [← hJ]; exact (angI_one (by omega) (by assumption) (.inr (.inl (by assumption))) (by assumption)).symm
  · refine Ends.mk [_] [] (by assumption) (by assumption) (fun _ h => h) ⟨⟨_, _, rfl, rfl, ?_⟩, rfl⟩
    rw [← hJ, angI_bad (by omega) (by assumption) (.inr (.inr (by omega))) (by assumption)]
  · refine m_end (j + 1, _, S [], 0) (by assumption) (by assumption) (fun _ h => h) (by kst_all) (by ksw_same) ⟨by dsimp only; omega, by dsimp only; omega, ?_⟩ (by dsimp only; omega)
    rw [← hJ]; exact (angI_one (by omega) (by assumption) (.inr (.inr (by omega))) (by assumption)).symm
  · refine Ends.mk [_] [] (by assumption) (by assumption) (fun _ h => h) ⟨⟨_, _, rfl, rfl, ?_⟩, rfl⟩
    rw [← hJ, angI_bad (by omega) (by assumption) (.inl (by assumption)) (by assumption)]
  · refine m_end (j + 1, _, S [], 0) (by assumption) (by assumption) (fun _ h => h) (by kst_all) (by ksw_same) ⟨by dsimp only; omega, by dsimp only; omega, ?_⟩ (by dsimp only; omega)
    rw [← hJ]; exact (angI_one (by omega) (by assumption) (.inl (by assumption)) (by assumption)).symm
  · refine Ends.mk [_] [] (by assumption) (by assumption) (fun _ h => h) ⟨⟨_, _, rfl, rfl, ?_⟩, rfl⟩
    rw [← hJ, angI_end (by omega)]
end
end Mine

end SCC

section SCD
open PySem PySem.W PyProof.Rows PySem.Calls PySem.Spec
theorem Mine.offCD : True := by w_top off; exact trivial
namespace Mine
section
local macro_rules | `(tactic| cell_enter) => `(tactic| (refine wpAny_call ?_; refine' con_code (by assumption) ?k1 ?k2 ?k3 ?k4 ?kz ?k5 ?kA ?kF ?kK ?k6 ?k7 ?k8 ?k9 ?kB (by assumption) ?kQ ?_ ?c2 ?c3 ?c4 ?c5; (case kA => exact rfl); (case kF => exact rfl); (case kK => assumption); (case k1 => k_asm); (case k2 => k_asm); (case k3 => k_asm); (case k4 => k_asm); (case kz => assumption); (case k5 => k_asm); (case k6 => k_is); (case k7 => k_is); (case k8 => ktr_room); (case k9 => (refine' kp_binds ?kx ?ke; (case kx => k_in); (case ke => exact fun _ => rfl))); (case kQ => exact fun _ _ q => q); (case c5 => decide); (case kB => exact locs rfl); (case c2 => exact rfl); (case c3 => exact rfl); (case c4 => exact rfl); k_whole; intro g' L' h' F' N' B' X' T' l0; (try k_lt l0); (try dsimp only); (try k_fold)))
local macro_rules | `(tactic| walk_at "subscriptTail") => `(tactic| ((with_reducible show wpAny _ _ (subscriptTail _ _ (Value.str (S _) _) (Value.int _ _)) _ _ _); refine sub_S (by omega) (by omega) (by omega) ?_))
local macro_rules | `(tactic| walk_at "subscriptTail Name Name str int") => `(tactic| (refine sub_S (by omega) (by omega) (by omega) ?_))
local macro_rules | `(tactic| walk_at "compareOp In str str") => `(tactic| first | refine in_ws ?_ | refine in_punct ?_ | refine in_blank ?_ | refine in_nl ?_ | refine in_ang ?_)
local macro_rules | `(tactic| walk_at "call builtin:len") => `(tactic| refine len_S (by omega) ?_)
local macro_rules | `(tactic| walk_at "call builtin:ord") => `(tactic| refine ord_ch ?_)
local macro_rules | `(tactic| walk_at "compareOp Eq str str") => `(tactic| first
  | refine eq_ch (d := 60) (by decide : Str.ofString "<" = S [60]) ?_
  | refine eq_ch (d := 62) (by decide : Str.ofString ">" = S [62]) ?_
  | refine eq_ch (d := 10) (by decide : Str.ofString "\n" = S [10]) ?_
  | refine eq_ch (d := 13) (by decide : Str.ofString "\x0d" = S [13]) ?_
  | refine eq_ch (d := 40) (by decide : Str.ofString "(" = S [40]) ?_
  | refine eq_ch (d := 41) (by decide : Str.ofString ")" = S [41]) ?_
  | refine eq_ch (d := 92) (by decide : Str.ofString "\\" = S [92]) ?_
  | refine eq_ch (d := 0) (by decide : Str.ofString "\x00" = S [0]) ?_
  | refine eq_ch (d := 127) (by decide : Str.ofString "\x7f" = S [127]) ?_)
local macro_rules | `(tactic| walk_at "compareOp NotEq str str") => `(tactic| first
  | refine ne_ch (d := 41) (by decide : Str.ofString ")" = S [41]) ?_)
local macro_rules | `(tactic| walk_at "subscriptTail Name Slice str ref") => `(tactic| ((with_reducible show wpAny _ _ (subscriptTail _ (Expr.Slice (some _) (some _) none _) (Value.str (S _) _) _) _ _ _); (refine slice_go (s := ⟨_, _, _, _, _⟩) (by assumption) (by assumption) (by omega) (by omega) (by omega) (by omega) ?_); intro h' t' tk' F' N'))
local macro_rules | `(tactic| walk_at "ite") => `(tactic| first
  | with_reducible refine ite_tt ?_ | with_reducible refine ite_ff ?_ | with_reducible refine split_not ?_
  | with_reducible refine boolT (by with_reducible assumption) ?_ | with_reducible refine boolF (by with_reducible assumption) ?_
  | with_reducible refine decT (by omega) ?_ | with_reducible refine decF (by omega) ?_
  | (with_reducible refine split_ine ?_ ?_ <;> intro _) | (with_reducible refine split_ieq ?_ ?_ <;> intro _)
  | (with_reducible refine PyProof.Rows.split_dec ?_ ?_ <;> intro _) | (with_reducible refine PyProof.Rows.split_bool ?_ ?_ <;> intro _))
local macro_rules | `(tactic| ksw_same) => `(tactic| (intro z h2 h3; (simp only [List.forall_mem_cons, List.not_mem_nil, false_implies, implies_true, and_true, ne_eq] at h2); (simp only [List.contains_cons, List.contains_nil, Bool.or_false, Bool.or_eq_false_iff, beq_eq_false_iff_ne, ne_eq] at h3); simp only [h2, h3, if_false, List.contains_cons, List.contains_nil, Bool.or_false, Bool.or_eq_true, beq_iff_eq, or_self, or_false, false_or, Bool.false_eq_true]))
local macro_rules | `(tactic| walk_at "MPost") => `(tactic| (dsimp only [MPost]))
local macro_rules | `(tactic| walk_at "truthy str") => `(tactic| first | refine truthy_cons (by simp only [List.length_nil]; omega) ?_ | refine truthy_S (by omega) ?_)
local macro_rules | `(tactic| walk_at "binaryOp Add str str") => `(tactic| first
  | (refine add_SS (a := []) (b := _) (by decide : Str.ofString "" = S []) rfl (by simp only [List.length_nil, List.length_cons]; omega) ?_; intro t' tk')
  | (refine add_SS rfl rfl (by simp only [List.length_nil, List.length_cons, List.length_append]; omega) ?_; intro t' tk'))
local macro_rules | `(tactic| walk_at "compareOp NotIn str str") => `(tactic| refine notin_ws ?_)

theorem c_href (w : World) (l : List Nat) (tx ti tl : Tok) (i lim : Int) (h0 : 0 ≤ i) (h1 : i ≤ l.length) (h2 : l.length < 2 ^ 20) (hl0 : 0 ≤ lim) (hl1 : lim ≤ 100) :
    Con PySem.Challenge.rw_ci0012_01.row.prog w (hd.heap_39 w.params) 2 90 [.str (S l) tx, .int i ti] [(Str.ofString "max_nested_level", .int lim tl)] [] (fun v new mt => (∃ r o, v = .ref r ∧ new = [(r, o)] ∧ match hrefR lim l i with
      | some (h, e) => ∃ t1 t2 t3, o = tupObj [.str (S h) t1, .int e t2, .int e t3]
      | none => ∃ z t, o = tupObj [.none, .none, .int z t]) ∧ mt = []) := by
  k_fill
  intro p loose mean mg mb dp un gd cn cs a ccd cl outer A₀ base h₀ L m rest s Q E B F X N hz T hk hdp hun hret
  k_with_none
  k_with "call ref" => (refine Con.use0 (c_start w l _ _ _ (by omega) (by omega) (by omega)) (by assumption) (by assumption) (by assumption) (by assumption) (by assumption) (by first | assumption | rfl) (by ktr_room) (by ktr_units) ?_; rintro v h' tk' new mt' ⟨⟨t, rfl⟩, rfl, rfl⟩ hne F' N'; (try simp only [List.nil_append] at N'); have hst := startI_le (l := l) (i := i) (by omega) (by omega))
  k_with "call ref" => (refine Con.use0 (c_angle w l _ _ _ (by omega) (by omega) (by omega)) (by assumption) (by assumption) (by assumption) (by assumption) (by assumption) (by first | assumption | rfl) (by ktr_room) (by ktr_units) ?_; rintro v h' tk' new mt' ⟨⟨r, o, rfl, rfl, hm⟩, rfl⟩ hne F' N'; (try simp only [List.append_nil, List.nil_append, List.cons_append] at N'); (rcases hq : angI l (startI l i + 1) with _ | e <;> rw [hq] at hm <;> dsimp only at hm <;> (first | (obtain ⟨t1, t2, rfl⟩ := hm) | subst hm)))
  k_with "exec While Compare cons nil" => (refine m_while (σ := Int × Tok × Int × Tok) (fun _ => _) (fun c => [(Str.ofString "pos", .int c.1 c.2.1), (Str.ofString "level", .int c.2.2.1 c.2.2.2)]) [Str.ofString "c"] (fun c => startI l i ≤ c.1 ∧ c.1 ≤ l.length ∧ 0 ≤ c.2.2.1 ∧ c.2.2.1 ≤ 100 ∧ hrfI lim l c.1 c.2.2.1 = hrfI lim l (startI l i) 0) (fun c => (l.length - c.1).toNat) (_, _, _, _) (by assumption) (by assumption) (by kst_all) ⟨by dsimp only; omega, by dsimp only; omega, by dsimp only; omega, by dsimp only; omega, rfl⟩ ?_; rintro ⟨j, tj, lv, tlv⟩ u h tk ⟨hj0, hj1, hv0, hv1, hJ⟩ FW NW; dsimp only at hj0 hj1 hv0 hv1 hJ; dsimp only [kstB] at FW)
  have hb : BindsAre [(Str.ofString "src", .str (S l) tx), (Str.ofString "start_pos", .int i ti), (Str.ofString "block", .bool false), (Str.ofString "max_nested_level", .int lim tl)] := trivial
  k_dflt cell_enter
  clear B F X N hz T hret
  k_steps
  any_goals first
    | (refine m_end (if (l.length : Int) < j + 2 then (l.length : Int) else j + 2, _, lv, _) (by assumption) (by assumption) (fun _ h => h) (by kst_all) (by ksw_same) ⟨by dsimp only; rw [if_neg (by omega)]; omega, by dsimp only; rw [if_neg (by omega)]; omega, by dsimp only; omega, by dsimp only; omega, ?_⟩ (by dsimp only; rw [if_neg (by omega)]; omega)
       dsimp only; rw [if_neg (by omega), ← hJ]; exact (hrf_esc (by omega) (by omega) (by assumption) (by assumption) (by assumption) (by assumption) (by assumption)).symm)
    | (refine m_end (j + 1, _, lv + 1, _) (by assumption) (by assumption) (fun _ h => h) (by kst_all) (by ksw_same) ⟨by dsimp only; omega, by dsimp only; omega, by dsimp only; omega, by dsimp only; omega, ?_⟩ (by dsimp only; omega)
       rw [← hJ]; exact (hrf_open (by omega) (by omega) (by assumption) (by assumption) (by assumption) (by first | exact .inl (by assumption) | exact .inr (.inl (by assumption)) | exact .inr (.inr (by omega))) (by assumption) (by assumption)).symm)
    | (refine m_end (j + 1, _, lv - 1, _) (by assumption) (by assumption) (fun _ h => h) (by kst_all) (by ksw_same) ⟨by dsimp only; omega, by dsimp only; omega, by dsimp only; omega, by dsimp only; omega, ?_⟩ (by dsimp only; omega)
       rw [← hJ]; exact (hrf_close (by omega) (by omega) (by assumption) (by assumption) (by assumption) (by first | exact .inl (by assumption) | exact .inr (.inl (by assumption)) | exact .inr (.inr (by omega))) (by assumption) (by assumption) (by assumption)).symm)
    | (refine m_end (j + 1, _, lv, _) (by assumption) (by assumption) (fun _ h => h) (by kst_all) (by ksw_same) ⟨by dsimp only; omega, by dsimp only; omega, by dsimp only; omega, by dsimp only; omega, ?_⟩ (by dsimp only; omega)
       rw [← hJ]; exact (hrf_one (by omega) (by omega) (by assumption) (by assumption) (by assumption) (by first | exact .inl (by assumption) | exact .inr (.inl (by assumption)) | exact .inr (.inr (by omega))) (by assumption) (by assumption)).symm)
    | (refine Ends.mk [_] [] (by assumption) (by assumption) mem_one ⟨⟨_, _, rfl, rfl, ?_⟩, rfl⟩; rw [hrefR_end (by assumption)]; exact ⟨_, _, rfl⟩)
    | (refine Ends.mk [_] [] (by assumption) (by assumption) mem_one ⟨⟨_, _, rfl, rfl, ?_⟩, rfl⟩; rw [hrefR_angS (by assumption) (by assumption) (by assumption)]; exact ⟨_, _, _, rfl⟩)
    | (refine Ends.mk [_] [] (by assumption) (by assumption) mem_one ⟨⟨_, _, rfl, rfl, ?_⟩, rfl⟩; rw [hrefR_angN (by assumption) (by assumption) (by assumption)]; exact ⟨_, _, rfl⟩)
    | (refine Ends.mk [_] [] (by assumption) (by assumption) mem_one ⟨⟨_, _, rfl, rfl, ?_⟩, rfl⟩
       rw [hrefR_open (by assumption) (by assumption) (hJ.symm.trans (by first | exact hrfI_end (by omega) (by omega) | exact hrf_ws (by omega) (by omega) (by assumption) | exact hrf_stop (by omega) (by omega) (by assumption) (by assumption) (by assumption) (by first | exact .inl (by assumption) | exact .inr (.inl (by assumption)) | exact .inr (.inr (by omega))) (by assumption) (by assumption) (by assumption))) (by assumption)]; exact ⟨_, _, rfl⟩)
    | (refine Ends.mk [_] [] (by assumption) (by assumption) mem_one ⟨⟨_, _, rfl, rfl, ?_⟩, rfl⟩
       rw [hrefR_some (by assumption) (by assumption) (hJ.symm.trans (by first | exact hrfI_end (by omega) (by omega) | exact hrf_ws (by omega) (by omega) (by assumption) | exact hrf_stop (by omega) (by omega) (by assumption) (by assumption) (by assumption) (by first | exact .inl (by assumption) | exact .inr (.inl (by assumption)) | exact .inr (.inr (by omega))) (by assumption) (by assumption) (by assumption))) (by assumption)]; exact ⟨_, _, _, rfl⟩)
    | (refine Ends.mk [_] [] (by assumption) (by assumption) mem_one ⟨⟨_, _, rfl, rfl, ?_⟩, rfl⟩
       rw [hrefR_none (by assumption) (by assumption) (hJ.symm.trans (by first | exact hrf_ctl (by omega) (by omega) (by assumption) (by assumption) | exact hrf_del (by omega) (by omega) (by assumption) (by assumption) (by assumption) | exact hrf_over (by omega) (by omega) (by assumption) (by assumption) (by assumption) (by first | exact .inl (by assumption) | exact .inr (.inl (by assumption)) | exact .inr (.inr (by omega))) (by assumption) (by assumption)))]; exact ⟨_, _, rfl⟩)
end
end Mine

end SCD

section SMR
open PySem PySem.W PyProof.Rows PySem.Calls PySem.Spec PySem.F
set_option Elab.async false
set_option maxRecDepth 100000
set_option maxHeartbeats 4000000
namespace Mine
theorem plainAttrs_rePattern : PlainAttrs "re.Pattern" :=
  ⟨⟨"object.__getattribute__", by rw [typeLookup_type, builtinLookup_eq_fast]; kernel_rfl, by decide +kernel⟩, by rw [typeLookup_type, builtinLookup_eq_fast]; kernel_rfl⟩
theorem plainAttrs_reMatch : PlainAttrs "re.Match" :=
  ⟨⟨"object.__getattribute__", by rw [typeLookup_type, builtinLookup_eq_fast]; kernel_rfl, by decide +kernel⟩, by rw [typeLookup_type, builtinLookup_eq_fast]; kernel_rfl⟩
theorem slot_re_sub : Slot "re.Pattern" "sub" "re.Pattern.sub" :=
  .of (owner := "re.Pattern") (n := "sub") (by rw [typeLookup_type, builtinLookup_eq_fast]; kernel_rfl) (by decide +kernel) (by decide +kernel) (by decide +kernel)
    (by first | exact .inl (by decide +kernel) | exact .inr (by decide +kernel)) (by rw [isSubtype_type]; kernel_rfl)
theorem type_re_sub : typeOf (.builtin "re.Pattern.sub") = pure (.type "method_descriptor") := by show builtinType _ = _; rw [builtinType_eq_fast]; kernel_rfl
theorem entry_re_sub : entryFor table "re.Pattern.sub" = some Builtin.«re.Pattern.sub» := entryFor_of_tree (by kernel_rfl)
theorem entry_re_sub_loop : entryFor table "re.Pattern.sub.loop" = some Builtin.«re.Pattern.sub.loop» := entryFor_of_tree (by kernel_rfl)
theorem owner_rePattern : Manifest.owners.lookup (String.ofList ['n','r','e','t','t','a','P','.','e','r'].reverse) = some Manifest.sig_re_Pattern := by kernel_rfl
theorem slot_re_match : Slot "re.Pattern" "match" "re.Pattern.match" :=
  .of (owner := "re.Pattern") (n := "match") (by rw [typeLookup_type, builtinLookup_eq_fast]; kernel_rfl) (by decide +kernel) (by decide +kernel) (by decide +kernel)
    (by first | exact .inl (by decide +kernel) | exact .inr (by decide +kernel)) (by rw [isSubtype_type]; kernel_rfl)
theorem type_re_match : typeOf (.builtin "re.Pattern.match") = pure (.type "method_descriptor") := by show builtinType _ = _; rw [builtinType_eq_fast]; kernel_rfl
theorem entry_re_match : entryFor table "re.Pattern.match" = some Builtin.«re.Pattern.match» := entryFor_of_tree (by kernel_rfl)
theorem slot_re_group : Slot "re.Match" "group" "re.Match.group" :=
  .of (owner := "re.Match") (n := "group") (by rw [typeLookup_type, builtinLookup_eq_fast]; kernel_rfl) (by decide +kernel) (by decide +kernel) (by decide +kernel)
    (by first | exact .inl (by decide +kernel) | exact .inr (by decide +kernel)) (by rw [isSubtype_type]; kernel_rfl)
theorem type_re_group : typeOf (.builtin "re.Match.group") = pure (.type "method_descriptor") := by show builtinType _ = _; rw [builtinType_eq_fast]; kernel_rfl
theorem entry_re_group : entryFor table "re.Match.group" = some Builtin.«re.Match.group» := entryFor_of_tree (by kernel_rfl)
theorem args_re_sub (a b c : Value) : argsOk "re.Pattern.sub" ⟨[a, b, c], []⟩ := by
  unfold argsOk; rw [signature?_of (id := "re.Pattern.sub") (n := ['b', 'u', 's']) (o := ['n','r','e','t','t','a','P','.','e','r']) (by kernel_rfl) owner_rePattern]; kernel_rfl
theorem args_re_match (a b c d : Value) : argsOk "re.Pattern.match" ⟨[a, b, c, d], []⟩ := by
  unfold argsOk; rw [signature?_of (id := "re.Pattern.match") (n := ['h', 'c', 't', 'a', 'm']) (o := ['n','r','e','t','t','a','P','.','e','r']) (by kernel_rfl) owner_rePattern]; kernel_rfl
theorem owner_reMatch : Manifest.owners.lookup (String.ofList ['h','c','t','a','M','.','e','r'].reverse) = some Manifest.sig_re_Match := by kernel_rfl
theorem args_re_group (a b : Value) : argsOk "re.Match.group" ⟨[a, b], []⟩ := by
  unfold argsOk; rw [signature?_of (id := "re.Match.group") (n := ['p','u','o','r','g']) (o := ['h','c','t','a','M','.','e','r']) (by kernel_rfl) owner_reMatch]; kernel_rfl
end Mine

end SMR

section SMS
open PySem PySem.W PyProof.Rows PySem.Calls PySem.Spec PySem.F
set_option Elab.async false
set_option maxRecDepth 100000
set_option maxHeartbeats 4000000
namespace Mine
open PySem.Sre
theorem runFor_stop {m : Sre.M} (h : m.outcome.isSome = true) : ∀ n, m.runFor n = m
  | 0 => rfl
  | n + 1 => by unfold Sre.M.runFor; rw [if_pos h]
theorem runFor_add (a b : Nat) : ∀ m : Sre.M, m.runFor (a + b) = (m.runFor a).runFor b := by
  induction a with
  | zero => intro m; rw [Nat.zero_add]; rfl
  | succ a ih =>
    intro m
    rw [Nat.succ_add]
    cases h : m.outcome.isSome with
    | true => rw [runFor_stop h, runFor_stop h, runFor_stop h]
    | false =>
      show (if m.outcome.isSome = true then m else m.step.runFor (a + b)) = _
      rw [if_neg (by rw [h]; decide), ih]
      show _ = (if m.outcome.isSome = true then m else m.step.runFor a).runFor b
      rw [if_neg (by rw [h]; decide)]
/-- the machine comes from m to m' in n steps, none of them the last -/
def Goes (n : Nat) (m m' : Sre.M) : Prop := m.runFor n = m'
theorem Goes.trans {a b : Nat} {m m' m'' : Sre.M} (x : Goes a m m') (y : Goes b m' m'') : Goes (a + b) m m'' := by
  unfold Goes at *; rw [runFor_add, x, y]
theorem Goes.trans' {n : Nat} {m m' m'' : Sre.M} (x : Goes n m m') (e : m' = m'') : Goes n m m'' := by rw [← e]; exact x
theorem Goes.one {m : Sre.M} (h : m.outcome = none) : Goes 1 m m.step := by
  unfold Goes Sre.M.runFor; rw [h]; rfl
section
variable {M : Model} {A : Around} {E : Value → Shared → Prop} {s : Shared}
open PySem.Builtin.Re
theorem drive_of {Q : Sre.M → Shared → Prop} : ∀ (turns n : Nat) (m m' : Sre.M), Goes n m m' → m'.outcome.isSome = true → n ≤ 4 * turns → 0 < turns → Q m' s → wpAny M A (reDrive turns m) Q E s
  | 0, _, _, _, _, _, _, h0, _ => absurd h0 (by omega)
  | turns + 1, n, m, m', hg, ho, hn, _, hq => by
    unfold reDrive
    dsimp only
    by_cases h4 : (m.runFor reTurnSteps).outcome.isSome = true
    · rw [if_pos h4]
      have e : m.runFor reTurnSteps = m' := by
        rcases Nat.le_total n reTurnSteps with q | q
        · obtain ⟨d, e⟩ := Nat.le.dest q
          rw [← e, runFor_add, hg, runFor_stop ho]
        · obtain ⟨d, e⟩ := Nat.le.dest q
          have h2 := hg
          unfold Goes at h2
          rw [← e, runFor_add, runFor_stop h4] at h2
          exact h2
      rw [e]; exact wpAny_pure hq
    · rw [if_neg h4]
      refine wpAny_bind (wpAny_rule ?_)
      have q : reTurnSteps < n := by
        rcases Nat.lt_or_ge reTurnSteps n with q | q
        · exact q
        · exfalso; apply h4
          obtain ⟨d, e⟩ := Nat.le.dest q
          rw [← e, runFor_add, hg, runFor_stop ho]; exact ho
      have e4 : reTurnSteps = 4 := rfl
      rw [e4] at q ⊢
      obtain ⟨d, rfl⟩ : ∃ d, n = 4 + d := ⟨n - 4, by omega⟩
      refine drive_of turns d (m.runFor 4) m' ?_ ho (by omega) (by omega) hq
      unfold Goes at hg ⊢
      rw [← runFor_add]; exact hg
theorem rules_of {Q : PUnit → Shared → Prop} (f : Nat → Bool) (g : Nat → String) (h : Q ⟨⟩ s) : ∀ (l : List Nat), wpAny M A (forIn l PUnit.unit fun i _ => do
    if f i then rule (g i)
    pure (ForInStep.yield PUnit.unit)) Q E s
  | [] => by rw [List.forIn_nil]; exact wpAny_pure h
  | i :: r => by
    rw [List.forIn_cons]
    refine wpAny_bind ?_
    have hr := rules_of f g h r
    by_cases hf : f i = true
    · simp only [hf, if_true]
      exact wpAny_bind (wpAny_rule (wpAny_pure hr))
    · simp only [hf, Bool.false_eq_true, if_false]
      exact wpAny_pure hr
theorem runToEnd_matched {Q : Option Sre.M → Shared → Prop} {n : Nat} {m m' : Sre.M} (hg : Goes n m m') (ho : m'.outcome = some .matched) (hn : n ≤ 2 ^ 60) (hq : Q (some m') s) : wpAny M A (reRunToEnd m) Q E s := by
  unfold reRunToEnd
  refine wpAny_bind (drive_of _ n m m' hg (by rw [ho]; rfl) (by omega) (by omega) ?_)
  refine wpAny_bind ?_
  refine rules_of _ _ ?_ _
  rw [ho]
  exact wpAny_pure hq
theorem runToEnd_failed {Q : Option Sre.M → Shared → Prop} {n : Nat} {m m' : Sre.M} (hg : Goes n m m') (ho : m'.outcome = some .failed) (hn : n ≤ 2 ^ 60) (hq : Q none s) : wpAny M A (reRunToEnd m) Q E s := by
  unfold reRunToEnd
  refine wpAny_bind (drive_of _ n m m' hg (by rw [ho]; rfl) (by omega) (by omega) ?_)
  refine wpAny_bind ?_
  refine rules_of _ _ ?_ _
  rw [ho]
  exact wpAny_pure hq
end

/-- the code of the pattern of escapes -/
def escC : Array Nat := #[14, 8, 1, 2, 2, 1, 1, 92, 0, 16, 92, 17, 0, 13, 11, 9, 0, 4227923966, 4160749569, 2013265921, 0, 0, 0, 0, 0, 17, 1, 1]
theorem step_back {m : Sre.M} {yes : Bool} {f : Sre.Frame} {rest : List Sre.Frame} (ho : m.outcome = none) (ha : m.answer = some yes) (hf : m.frames = f :: rest) :
    m.step = M.resume { m with answer := none, frames := rest, weight := m.weight - (1 + f.kept.marks.size), pc := f.pc, pos := f.pos, outermost := f.outermost } f yes := by
  unfold M.step; simp only [ho, ha, hf]; rfl
theorem step_done {m : Sre.M} {yes : Bool} (ho : m.outcome = none) (ha : m.answer = some yes) (hf : m.frames = []) :
    m.step = { m with outcome := some (if yes then .matched else .failed) } := by
  unfold M.step; simp only [ho, ha, hf]; rfl
theorem step_exec {m : Sre.M} (ho : m.outcome = none) (ha : m.answer = none) (hpc : m.pc < m.code.size) : m.step = m.exec := by
  unfold M.step; simp only [ho, ha, hpc]; rfl
/-- the machine within a try from place s -/
def escS (l : List Nat) (s : Nat) (first : Bool) (pc pos handed : Nat) (marks : Array (Option Nat)) (lastmark lastindex : Int) (seen : Sre.Seen) (answer : Option Bool) : Sre.M :=
  { code := escC, text := l.toArray, lim := l.length, start := s, lastStart := l.length, pc := pc, pos := pos, handed := handed, outermost := first, marks := marks, lastmark := lastmark, lastindex := lastindex,
    frames := [{ wait := .nextStart, pc := 9, pos := s, outermost := first }], weight := 1, answer := answer, seen := seen }
/-- the machine at a try from place s -/
def escM (l : List Nat) (s : Nat) (first : Bool) (marks : Array (Option Nat)) (seen : Sre.Seen) : Sre.M := escS l s first 9 s s marks (-1) (-1) seen none
theorem esc_set (c : Nat) (seen : Sre.Seen) : ∃ seen', accepts escC 13 c seen = .ok (isPunct c, seen') := by
  have key : ∀ c, c < 256 → ((escC.getD (15 + (1 + c / 32)) 0).testBit (c % 32)) = isPunct c := by decide +kernel
  have big : ∀ c, ¬ c < 256 → isPunct c = false := by
    intro c hc
    unfold isPunct
    rw [Bool.eq_false_iff]
    intro h
    rw [List.contains_iff_mem] at h
    simp only [List.mem_cons, List.not_mem_nil, or_false] at h
    omega
  show ∃ seen', inSet escC c 28 15 true seen = .ok (isPunct c, seen')
  unfold inSet
  show ∃ seen', (if (c < 256 && (escC.getD (15 + (1 + c / 32)) 0).testBit (c % 32)) = true then (Except.ok (true, seen.add 9) : Except String (Bool × Sre.Seen)) else inSet escC c 27 24 true (seen.add 9)) = .ok (isPunct c, seen')
  have fin : inSet escC c 27 24 true (seen.add 9) = .ok (false, (seen.add 9).add 0) := rfl
  by_cases h : c < 256
  · rw [key c h]
    cases hp : isPunct c with
    | true => exact ⟨_, by rw [if_pos (by simp [h])]⟩
    | false => exact ⟨_, by rw [if_neg (by simp), fin]⟩
  · rw [big c h]
    exact ⟨_, by rw [if_neg (by simp [h]), fin]⟩
theorem esc_lit (c : Nat) (seen : Sre.Seen) : accepts escC 9 c seen = .ok (c == 92, seen) := rfl
theorem getD_arr (l : List Nat) (i : Nat) : l.toArray.getD i 0 = l.getD i 0 := by simp [Array.getD, List.getD]; split <;> simp_all
/-- a try that fails goes on to the next place, or ends -/
def escNext (l : List Nat) (s : Nat) (m : Sre.M) : Prop :=
  (s < l.length ∧ ∃ marks seen, marks.size = 2 ∧ m = escM l (s + 1) false marks seen) ∨ (l.length ≤ s ∧ m.outcome = some .failed)
theorem esc_back {l : List Nat} {s : Nat} {first : Bool} {pc pos handed : Nat} {marks : Array (Option Nat)} {lastmark lastindex : Int} {seen : Sre.Seen} (hs : marks.size = 2) :
    ∃ n m', n ≤ 3 ∧ Goes n (escS l s first pc pos handed marks lastmark lastindex seen (some false)) m' ∧ escNext l s m' := by
  have e1 : (escS l s first pc pos handed marks lastmark lastindex seen (some false)).step = _ := step_back rfl rfl rfl
  by_cases h : s < l.length
  · refine ⟨1, _, by omega, (Goes.one rfl).trans' e1, .inl ⟨h, marks, seen, hs, ?_⟩⟩
    unfold M.resume
    dsimp only [escS]
    simp only [Bool.false_eq_true, if_false, h, if_true]
    rfl
  · have e2 : (escS l s first pc pos handed marks lastmark lastindex seen (some false)).step = { escS l s first 9 s handed marks lastmark lastindex seen (some false) with frames := [], weight := 0 } := by
      rw [e1]
      unfold M.resume
      dsimp only [escS]
      simp only [Bool.false_eq_true, if_false, h]
      rfl
    exact ⟨2, _, by omega, Goes.trans ((Goes.one rfl).trans' e2) ((Goes.one rfl).trans' (step_done rfl rfl rfl)), .inr ⟨by omega, rfl⟩⟩
/-- what a match at k leaves -/
def escFound (l : List Nat) (k : Nat) (m : Sre.M) : Prop := m.outcome = some .matched ∧ m.start = k ∧ m.handed = k + 2 ∧ m.marks = #[some (k + 1), some (k + 2)] ∧ m.lastmark = 1 ∧ m.lastindex = 1
theorem marks2 {marks : Array (Option Nat)} (hs : marks.size = 2) (a b : Option Nat) : (marks.setIfInBounds 0 a).setIfInBounds 1 b = #[a, b] := by
  obtain ⟨l⟩ := marks
  match l, hs with
  | [x, y], _ => rfl
section
variable {l : List Nat} {s : Nat} {first : Bool} {p h : Nat} {marks : Array (Option Nat)} {lm li : Int} {seen : Sre.Seen}
theorem esc_s1 : (escS l s first 9 p h marks lm li seen none).step = if p ≥ l.length then escS l s first 9 p h marks lm li (seen.add 16) (some false) else
    if (l.getD p 0 == 92) = true then escS l s first 11 (p + 1) h marks lm li (seen.add 16) none else escS l s first 9 p h marks lm li (seen.add 16) (some false) := by
  rw [step_exec rfl rfl (by show 9 < 28; decide)]
  show (if p ≥ l.length then escS l s first 9 p h marks lm li (seen.add 16) (some false) else match accepts escC 9 (l.toArray.getD p 0) (seen.add 16) with
    | .error why => (escS l s first 9 p h marks lm li (seen.add 16) none).stick why
    | .ok (false, seen) => escS l s first 9 p h marks lm li seen (some false)
    | .ok (true, seen) => escS l s first 11 (p + 1) h marks lm li seen none) = _
  rw [esc_lit, getD_arr]
  split
  · rfl
  · cases l.getD p 0 == 92 <;> rfl
theorem esc_s2 (hs : marks.size = 2) : (escS l s first 11 p h marks (-1) li seen none).step = escS l s first 13 p h (marks.setIfInBounds 0 (some p)) 0 li (seen.add 17) none := by
  rw [step_exec rfl rfl (by show 11 < 28; decide)]; rfl
theorem esc_s3 : ∃ seen', (escS l s first 13 p h marks lm li seen none).step = if p ≥ l.length then escS l s first 13 p h marks lm li (seen.add 13) (some false) else
    if isPunct (l.getD p 0) = true then escS l s first 25 (p + 1) h marks lm li seen' none else escS l s first 13 p h marks lm li seen' (some false) := by
  obtain ⟨seen', e⟩ := esc_set (l.getD p 0) (seen.add 13)
  refine ⟨seen', ?_⟩
  rw [step_exec rfl rfl (by show 13 < 28; decide)]
  show (if p ≥ l.length then escS l s first 13 p h marks lm li (seen.add 13) (some false) else match accepts escC 13 (l.toArray.getD p 0) (seen.add 13) with
    | .error why => (escS l s first 13 p h marks lm li (seen.add 13) none).stick why
    | .ok (false, seen) => escS l s first 13 p h marks lm li seen (some false)
    | .ok (true, seen) => escS l s first 25 (p + 1) h marks lm li seen none) = _
  rw [getD_arr, e]
  split
  · rfl
  · cases isPunct (l.getD p 0) <;> rfl
theorem esc_s4 : (escS l s first 25 p h marks 0 li seen none).step = escS l s first 27 p h (marks.setIfInBounds 1 (some p)) 1 1 (seen.add 17) none := by
  rw [step_exec rfl rfl (by show 25 < 28; decide)]
  show M.mark (escS l s first 25 p h marks 0 li (seen.add 17) none) 1 = _
  unfold M.mark
  dsimp only [escS]
  have e : max (0 : Int) ((1 : Nat) : Int) = 1 := by decide
  rw [if_pos (by decide), e]
  rfl
theorem esc_s5 : (escS l s first 27 p h marks lm li seen none).step = escS l s first 27 p p marks lm li (seen.add 1) (some true) := by
  rw [step_exec rfl rfl (by show 27 < 28; decide)]
  show (if (first && ((false && p != l.length) || (false && p == s))) = true then _ else _) = _
  cases first <;> rfl
theorem esc_s6 : (escS l s first 27 p h marks lm li seen (some true)).step = { escS l s first 9 s h marks lm li seen (some true) with frames := [], weight := 0 } := by
  rw [step_back rfl rfl rfl]; rfl
end
theorem esc_try {l : List Nat} {s : Nat} {first : Bool} {marks : Array (Option Nat)} {seen : Sre.Seen} (hs : marks.size = 2) :
    ∃ n m', n ≤ 9 ∧ Goes n (escM l s first marks seen) m' ∧
      (if (l.getD s 0 == 92) = true ∧ isPunct (l.getD (s + 1) 0) = true then escFound l s m' else escNext l s m') := by
  have g1 := (Goes.one (m := escM l s first marks seen) rfl).trans' esc_s1
  by_cases h1 : s ≥ l.length
  · rw [if_pos h1] at g1
    obtain ⟨n, m', hn, g, e⟩ := esc_back (l := l) (s := s) (first := first) (pc := 9) (pos := s) (handed := s) (lastmark := -1) (lastindex := -1) (seen := seen.add 16) hs
    refine ⟨1 + n, m', by omega, g1.trans g, ?_⟩
    rw [if_neg, ]
    · exact e
    · rintro ⟨a, _⟩; rw [getD_of_le h1] at a; cases a
  · rw [if_neg h1] at g1
    by_cases h2 : (l.getD s 0 == 92) = true
    · rw [if_pos h2] at g1
      have g2 := g1.trans ((Goes.one rfl).trans' (esc_s2 hs))
      have hs' : (marks.setIfInBounds 0 (some (s + 1))).size = 2 := by simp [hs]
      obtain ⟨seen', e3⟩ := esc_s3 (l := l) (s := s) (first := first) (p := s + 1) (h := s) (marks := marks.setIfInBounds 0 (some (s + 1))) (lm := 0) (li := -1) (seen := (seen.add 16).add 17)
      have g3 := g2.trans ((Goes.one rfl).trans' e3)
      by_cases h3 : s + 1 ≥ l.length
      · rw [if_pos h3] at g3
        obtain ⟨n, m', hn, g, e⟩ := esc_back (l := l) (s := s) (first := first) (pc := 13) (pos := s + 1) (handed := s) (lastmark := 0) (lastindex := -1) (seen := ((seen.add 16).add 17).add 13) hs'
        refine ⟨_, m', ?_, g3.trans g, ?_⟩
        · omega
        · rw [if_neg]
          · exact e
          · rintro ⟨_, a⟩; rw [getD_of_le h3] at a; exact absurd a (by decide)
      · rw [if_neg h3] at g3
        by_cases h4 : isPunct (l.getD (s + 1) 0) = true
        · rw [if_pos h4] at g3
          have g4 := g3.trans ((Goes.one rfl).trans' esc_s4)
          have g5 := g4.trans ((Goes.one rfl).trans' esc_s5)
          have g6 := g5.trans ((Goes.one rfl).trans' esc_s6)
          have g7 := g6.trans ((Goes.one rfl).trans' (step_done rfl rfl rfl))
          refine ⟨_, _, ?_, g7, ?_⟩
          · omega
          · rw [if_pos ⟨h2, h4⟩]
            exact ⟨rfl, rfl, rfl, marks2 hs _ _, rfl, rfl⟩
        · rw [if_neg h4] at g3
          obtain ⟨n, m', hn, g, e⟩ := esc_back (l := l) (s := s) (first := first) (pc := 13) (pos := s + 1) (handed := s) (lastmark := 0) (lastindex := -1) (seen := seen') hs'
          refine ⟨_, m', ?_, g3.trans g, ?_⟩
          · omega
          · rw [if_neg]
            · exact e
            · rintro ⟨_, a⟩; exact h4 a
    · rw [if_neg h2] at g1
      obtain ⟨n, m', hn, g, e⟩ := esc_back (l := l) (s := s) (first := first) (pc := 9) (pos := s) (handed := s) (lastmark := -1) (lastindex := -1) (seen := seen.add 16) hs
      refine ⟨1 + n, m', by omega, g1.trans g, ?_⟩
      rw [if_neg]
      · exact e
      · rintro ⟨a, _⟩; exact h2 a
/-- the place of the first escape from s on -/
def escAt (s : Nat) : List Nat → Option Nat
  | [] => none
  | c :: r => if (c == 92) = true ∧ isPunct (r.headD 0) = true then some s else escAt (s + 1) r
theorem esc_from {l : List Nat} : ∀ (d s : Nat) (first : Bool) (marks : Array (Option Nat)) (seen : Sre.Seen), marks.size = 2 → l.length + 1 - s ≤ d → s ≤ l.length →
    ∃ n m', n ≤ 9 * d ∧ Goes n (escM l s first marks seen) m' ∧ (match escAt s (l.drop s) with | some k => escFound l k m' | none => m'.outcome = some .failed)
  | 0, s, _, _, _, _, hd, hl => absurd hd (by omega)
  | d + 1, s, first, marks, seen, hs, hd, hl => by
    obtain ⟨n, m', hn, g, e⟩ := esc_try (l := l) (s := s) (first := first) (seen := seen) hs
    by_cases hc : (l.getD s 0 == 92) = true ∧ isPunct (l.getD (s + 1) 0) = true
    · rw [if_pos hc] at e
      have hlt : s < l.length := by
        rcases Nat.lt_or_ge s l.length with q | q
        · exact q
        · rw [getD_of_le q] at hc; exact absurd hc.1 (by decide)
      refine ⟨n, m', by omega, g, ?_⟩
      rw [drop_cons hlt, escAt, if_pos ⟨hc.1, by rw [headD_drop]; exact hc.2⟩]
      exact e
    · rw [if_neg hc] at e
      rcases e with ⟨hlt, marks', seen', hs', rfl⟩ | ⟨hge, ho⟩
      · obtain ⟨n', m'', hn', g', e'⟩ := esc_from (l := l) d (s + 1) false marks' seen' hs' (by omega) (by omega)
        refine ⟨n + n', m'', by omega, g.trans g', ?_⟩
        rw [drop_cons hlt, escAt, if_neg (by rintro ⟨a, b⟩; exact hc ⟨a, by rw [headD_drop] at b; exact b⟩)]
        exact e'
      · refine ⟨n, m', by omega, g, ?_⟩
        rw [List.drop_eq_nil_of_le hge]
        exact ho
theorem escAt_short {s : Nat} : ∀ {l : List Nat}, l.length < 2 → escAt s l = none
  | [], _ => rfl
  | [c], _ => by unfold escAt; rw [if_neg (by rintro ⟨_, b⟩; exact absurd b (by decide))]; rfl
theorem esc_fresh (l : List Nat) (s : Nat) (h : s + 2 ≤ l.length) : ∃ seen, Sre.forSearch escC l.toArray 1 s l.length false = escM l s true #[none, none] seen := by
  refine ⟨(({} : Sre.Seen).add 14), ?_⟩
  show (if (decide (s > l.length) || decide (l.length - s < 2)) = true then _ else _) = _
  rw [if_neg (by simp; omega)]
  rfl
theorem esc_noroom (l : List Nat) (s : Nat) (h : ¬ s + 2 ≤ l.length) : ∃ m', Goes 1 (Sre.forSearch escC l.toArray 1 s l.length false) m' ∧ m'.outcome = some .failed := by
  refine ⟨_, Goes.one ?_, ?_⟩
  · show M.outcome (if (decide (s > l.length) || decide (l.length - s < 2)) = true then _ else _) = _
    rw [if_pos (by simp; omega)]
    rfl
  · show M.outcome (M.step (if (decide (s > l.length) || decide (l.length - s < 2)) = true then _ else _)) = _
    rw [if_pos (by simp; omega)]
    rfl
open PySem.Builtin.Re in
theorem esc_next {M : Model} {A : Around} {E : Value → Shared → Prop} {s : Shared} {t : ReTarget} {l : List Nat} {st : Nat} {Q : Option Sre.M → Shared → Prop} (h1 : t.code = escC) (h2 : t.text = l.toArray) (h3 : t.groups = 1) (h4 : t.lim = l.length) (hl : l.length < 2 ^ 20) (hs : st ≤ l.length)
    (h : match escAt st (l.drop st) with | some k => ∀ m, escFound l k m → Q (some m) s | none => Q none s) : wpAny M A (reNextFound t st false) Q E s := by
  unfold reNextFound
  rw [h1, h2, h3, h4]
  by_cases hr : st + 2 ≤ l.length
  · obtain ⟨seen, e⟩ := esc_fresh l st hr
    rw [e]
    obtain ⟨n, m', hn, g, q⟩ := esc_from (l := l) (l.length + 1 - st) st true #[none, none] seen rfl (Nat.le_refl _) hs
    cases hk : escAt st (l.drop st) with
    | none =>
      rw [hk] at q h
      exact runToEnd_failed g q (by omega) h
    | some k =>
      rw [hk] at q h
      exact runToEnd_matched g q.1 (by omega) (h m' q)
  · obtain ⟨m', g, q⟩ := esc_noroom l st hr
    rw [escAt_short (by rw [List.length_drop]; omega)] at h
    exact runToEnd_failed g q (by omega) h

/-- the code of the pattern of blank lines -/
def blkC : Array Nat := #[14, 8, 1, 2, 4294967295, 1, 1, 10, 0, 16, 10, 24, 11, 0, 4294967295, 13, 6, 16, 32, 16, 9, 0, 1, 16, 10, 1]
def blkS (l : List Nat) (st pc pos handed : Nat) (frames : List Sre.Frame) (weight : Nat) (seen : Sre.Seen) (answer : Option Bool) : Sre.M :=
  { code := blkC, text := l.toArray, lim := l.length, start := st, pc := pc, pos := pos, handed := handed, marks := #[], frames := frames, weight := weight, answer := answer, seen := seen }
theorem blk_fresh (l : List Nat) (j : Nat) (h : j + 2 ≤ l.length) : ∃ seen, Sre.forMatch blkC l.toArray 0 j l.length false false = blkS l j 9 j j [] 0 seen none := by
  refine ⟨({} : Sre.Seen).add 14, ?_⟩
  show (if ((2 != 0 && decide (j ≤ l.length)) && decide (l.length - j < 2)) = true then _ else _) = _
  rw [if_neg (by simp; omega)]
  rfl
theorem blk_noroom (l : List Nat) (j : Nat) (h : j + 1 = l.length) : ∃ m', Goes 1 (Sre.forMatch blkC l.toArray 0 j l.length false false) m' ∧ m'.outcome = some .failed := by
  refine ⟨_, Goes.one ?_, ?_⟩
  · show M.outcome (if ((2 != 0 && decide (j ≤ l.length)) && decide (l.length - j < 2)) = true then _ else _) = _
    rw [if_pos (by simp; omega)]
    rfl
  · show M.outcome (M.step (if ((2 != 0 && decide (j ≤ l.length)) && decide (l.length - j < 2)) = true then _ else _)) = _
    rw [if_pos (by simp; omega)]
    rfl
theorem blk_s1 {l : List Nat} {st p h : Nat} {seen : Sre.Seen} (hp : p < l.length) (hc : l.getD p 0 = 10) : (blkS l st 9 p h [] 0 seen none).step = blkS l st 11 (p + 1) h [] 0 (seen.add 16) none := by
  rw [step_exec rfl rfl (by show 9 < 26; decide)]
  show (if p ≥ l.length then _ else match accepts blkC 9 (l.toArray.getD p 0) (seen.add 16) with
    | .error why => _
    | .ok (false, seen) => _
    | .ok (true, seen) => blkS l st 11 (p + 1) h [] 0 seen none) = _
  rw [if_neg (by omega), getD_arr, hc]
  rfl
theorem blk_set {c : Nat} (h1 : c ≠ 32) (h2 : c ≠ 9) (seen : Sre.Seen) : ∃ seen', accepts blkC 15 c seen = .ok (false, seen') := by
  refine ⟨((seen.add 16).add 16).add 0, ?_⟩
  show inSet blkC c 26 17 true seen = _
  unfold inSet
  show (if (c == 32) = true then _ else inSet blkC c 25 19 true (seen.add 16)) = _
  rw [if_neg (by simpa using h1)]
  unfold inSet
  show (if (c == 9) = true then _ else inSet blkC c 24 21 true ((seen.add 16).add 16)) = _
  rw [if_neg (by simpa using h2)]
  rfl
def blkF (p : Nat) : Sre.Frame := { wait := .giveBack, pc := 11, pos := p, outermost := true, count := 0, kept := { lastmark := -1, lastindex := -1, whole := false, marks := #[] } }
theorem blk_s2 {l : List Nat} {st p h : Nat} {seen : Sre.Seen} (hp : p < l.length) (h1 : l.getD p 0 ≠ 32) (h2 : l.getD p 0 ≠ 9) : ∃ seen', (blkS l st 11 p h [] 0 seen none).step = blkS l st 23 p p [blkF p] 1 seen' none := by
  obtain ⟨seen', e⟩ := blk_set h1 h2 ((seen.add 24).add 13)
  refine ⟨seen', ?_⟩
  rw [step_exec rfl rfl (by show 11 < 26; decide)]
  have hr : Sre.run blkC l.toArray 15 (min 4294967295 ((l.length : Int) - (p : Int)).toNat) p 0 ((seen.add 24).add 13) = .ok (0, seen') := by
    obtain ⟨n, hn⟩ : ∃ n, min 4294967295 ((l.length : Int) - (p : Int)).toNat = n + 1 := ⟨min 4294967295 ((l.length : Int) - (p : Int)).toNat - 1, by omega⟩
    rw [hn]
    show (do let (yes, seen) ← accepts blkC 15 (l.toArray.getD p 0) ((seen.add 24).add 13); if yes then Sre.run blkC l.toArray 15 n (p + 1) (0 + 1) seen else pure (0, seen) : Except String (Nat × Sre.Seen)) = _
    rw [getD_arr, e]; rfl
  show (if (((0 : Nat) : Int) > (l.length : Int) - (p : Int)) then _ else match Sre.run blkC l.toArray 15 (min 4294967295 ((l.length : Int) - (p : Int)).toNat) p 0 ((seen.add 24).add 13) with
    | .error why => _
    | .ok (n, seen) => _) = _
  rw [if_neg (by omega), hr]
  rfl
theorem blk_s3 {l : List Nat} {st p h : Nat} {fs : List Sre.Frame} {wt : Nat} {seen : Sre.Seen} (hp : p < l.length) (hc : l.getD p 0 ≠ 10) : (blkS l st 23 p h fs wt seen none).step = blkS l st 23 p h fs wt (seen.add 16) (some false) := by
  rw [step_exec rfl rfl (by show 23 < 26; decide)]
  show (if p ≥ l.length then _ else match accepts blkC 23 (l.toArray.getD p 0) (seen.add 16) with
    | .error why => _
    | .ok (false, seen) => blkS l st 23 p h fs wt seen (some false)
    | .ok (true, seen) => _) = _
  rw [if_neg (by omega), getD_arr]
  have e : accepts blkC 23 (l.getD p 0) (seen.add 16) = .ok (false, seen.add 16) := by
    show Except.ok (l.getD p 0 == 10, seen.add 16) = _
    rw [show (l.getD p 0 == 10) = false by simpa using hc]
  rw [e]
theorem blk_s4 {l : List Nat} {st p h : Nat} {seen : Sre.Seen} : (blkS l st 23 p h [blkF p] 1 seen (some false)).step = blkS l st 11 p h [] 0 seen (some false) := by
  rw [step_back rfl rfl rfl]; rfl
theorem blk_fail {l : List Nat} {j : Nat} (hj : j < l.length) (h0 : l.getD j 0 = 10) (h1 : l.getD (j + 1) 0 ≠ 32) (h2 : l.getD (j + 1) 0 ≠ 9) (h3 : l.getD (j + 1) 0 ≠ 10) :
    ∃ n m', n ≤ 5 ∧ Goes n (Sre.forMatch blkC l.toArray 0 j l.length false false) m' ∧ m'.outcome = some .failed := by
  rcases Nat.lt_or_ge (j + 1) l.length with q | q
  · obtain ⟨seen, e⟩ := blk_fresh l j q
    rw [e]
    have g1 := (Goes.one (m := blkS l j 9 j j [] 0 seen none) rfl).trans' (blk_s1 hj h0)
    obtain ⟨seen', e2⟩ := blk_s2 (st := j) (h := j) (seen := seen.add 16) q h1 h2
    have g2 := g1.trans ((Goes.one rfl).trans' e2)
    have g3 := g2.trans ((Goes.one rfl).trans' (blk_s3 q h3))
    have g4 := g3.trans ((Goes.one rfl).trans' blk_s4)
    have g5 := g4.trans ((Goes.one rfl).trans' (step_done rfl rfl rfl))
    exact ⟨_, _, by omega, g5, rfl⟩
  · obtain ⟨m', g, e⟩ := blk_noroom l j (by omega)
    exact ⟨1, m', by omega, g, e⟩
end Mine

end SMS

section SMT
open PySem PySem.W PyProof.Rows PySem.Calls PySem.Spec PySem.F
set_option Elab.async false
set_option maxRecDepth 100000
set_option maxHeartbeats 4000000
namespace Mine
open PySem.Builtin.Re
abbrev lstObj (vs : List Value) (n : Nat) : Obj := { cls := .type "list", data := .seq vs.toArray n }
abbrev strV (pl : List (List Nat × Tok)) : List Value := pl.map fun p => Value.str (S p.1) p.2
theorem glued_S (ts : List (List Nat)) : Builtin.Str.glued (S []) (ts.map S) = S ts.flatten := by
  have key : ∀ (ts : List (List Nat)) (acc : List Nat), ((ts.map S).foldl (fun (acc : Array Nat) p => acc ++ (S []).cps ++ p.cps) acc.toArray) = (acc ++ ts.flatten).toArray := by
    intro ts
    induction ts with
    | nil => intro acc; simp
    | cons t r ih =>
      intro acc
      rw [List.map_cons, List.foldl_cons]
      have e : acc.toArray ++ (S []).cps ++ (S t).cps = (acc ++ t).toArray := by simp [S]
      rw [e, ih]; simp
  unfold Builtin.Str.glued
  cases ts with
  | nil => rfl
  | cons t r =>
    simp only [List.map_cons, List.drop_succ_cons, List.drop_zero, List.headD_cons, List.flatten_cons]
    have := key r t
    rw [show (S t).cps = t.toArray from rfl, this]; rfl
theorem join_go {prog : Program} {w : World} {A : Around} {E : Value → Shared → Prop} {s : Shared} {t : Tok} {Q : Value → Shared → Prop} {D : Addr} {pl : List (List Nat × Tok)} (hl : s.heap.IsList D (strV pl).toArray) (hz : (pl.map (·.1)).flatten.length ≤ 2 ^ 21)
    (hq : ∀ t' k, Q (.str (S (pl.map (·.1)).flatten) t') { s with toks := k }) : wpAny (model prog w) A (call (.builtin "str.join") [.str (S []) t, .ref D]) Q E s := by
  have e1 : strV pl = strValues (pl.map fun p => (S p.1, p.2)) := by simp [strV, strValues]
  rw [e1] at hl
  refine SC.join (texts := (pl.map (·.1)).map S) hl (by simp) ?_ ?_
  · unfold JoinOk
    rw [StrLaws.joinTotal, Bool.not_eq_true']
    unfold Builtin.Str.tooLong
    have e2 : (((pl.map (·.1)).map S).map (·.length)).sum = (pl.map (·.1)).flatten.length := by
      rw [List.length_flatten, List.map_map]; congr 1
    rw [e2, sizeLine_eq]
    simp [S, Str.length] at hz ⊢
    try omega
  · intro t' k
    have := glued_S (pl.map (·.1))
    show Q (.str (Builtin.Str.glued (S []) ((pl.map (·.1)).map S)) t') _
    rw [this]; exact hq t' k
/-- a compiled pattern that stands in the written part -/
def PatIn (K : Frag) (pa : Addr) (code : Array Nat) (groups : Nat) : Prop :=
  ∃ fs ca co items n sl, K.lookup pa = some ⟨.type "re.Pattern", none, .fields fs, sl⟩ ∧ fs.getD 5 .none = .ref ca ∧ reRawNat (fs.getD 6 .none) = 0 ∧ reRawNat (fs.getD 2 .none) = groups ∧ K.lookup ca = some co ∧ co.data = .seq items n ∧ (items.map reRawOf).map (·.toNat) = code
section
variable {M : Model} {A : Around} {E : Value → Shared → Prop} {s : Shared} {K : Frag} {pa : Addr} {code : Array Nat} {groups : Nat}
theorem reItems {a : Addr} {o : Obj} {items : Array Value} {n : Nat} {Q : Array Int → Shared → Prop} (ho : s.heap.get? a = some o) (hd : o.data = .seq items n) (h : Q (items.map reRawOf) s) : wpAny M A (reRawItems (.ref a)) Q E s := by
  unfold reRawItems
  exact wpAny_bind (wpAny_seqItems ho hd (wpAny_pure h))
theorem reWhole {l : List Nat} {t : Tok} {Q : ReTarget → Shared → Prop} (X : K.In s.heap) (hp : PatIn K pa code groups)
    (h : Q { pattern := .ref pa, string := .str (S l) t, code := code, text := l.toArray, kind := 0, groups := groups, pos := 0, lim := l.length } s) : wpAny M A (reWholeTarget (.ref pa) (.str (S l) t)) Q E s := by
  obtain ⟨fs, ca, co, items, n, sl, h1, h2, h3, h4, h5, h6, h7⟩ := hp
  unfold reWholeTarget
  refine wpAny_bind (wpAny_fieldsOf (X _ _ h1) rfl ?_)
  refine wpAny_bind (wpAny_bind (wpAny_pure (wpAny_pure ?_)))
  dsimp only
  rw [h3]
  simp only [show ((0 : Nat) == 1) = false from rfl, show ((0 : Nat) == 0) = true from rfl, Bool.and_false, Bool.and_true, Bool.false_eq_true, if_false]
  rw [show reNoCollectionInside (Value.str (S l) t) 0 = pure () from rfl]
  refine wpAny_bind (wpAny_pure ?_)
  rw [h2]
  refine wpAny_bind (reItems (X _ _ h5) h6 (wpAny_pure ?_))
  rw [h7, h4]
  have e : (S l).cps = l.toArray := rfl
  rw [e, List.size_toArray]
  exact h
theorem mkStr_S {a : List Nat} {Q : Value → Shared → Prop} (h : Q (.str (S a) s.toks) { s with toks := s.toks + 1 }) (hx : a.length ≤ 2 ^ 21) : wpAny M A (mkStr (S a)) Q E s :=
  wpAny_mkStr h (by rw [S_len, sizeLine_eq]; omega)
theorem reSlice_S {l : List Nat} {i j : Nat} {Q : Value → Shared → Prop} (h : Q (.str (S (subI l i j)) s.toks) { s with toks := s.toks + 1 }) (hx : l.length < 2 ^ 20) : wpAny M A (reSlice l.toArray 0 i j) Q E s := by
  unfold reSlice
  rw [if_pos (by decide)]
  have e : (⟨l.toArray.extract i j⟩ : Str) = S (subI l i j) := by
    unfold S subI
    congr 1
    rw [List.extract_toArray, List.extract_eq_take_drop]
    congr 2
    omega
  rw [e]
  have := subI_len (l := l) (i := i) (j := j)
  exact mkStr_S h (by omega)
abbrev tupO (vs : List Value) : Obj := { cls := .type "tuple", data := .seq vs.toArray }
abbrev spanO (k : Nat) : Obj := tupO [rawInt k, rawInt ((k : Int) + 2), rawInt ((k : Int) + 1), rawInt ((k : Int) + 2)]
abbrev matO (pa : Addr) (l : List Nat) (t : Tok) (tp : Addr) : Obj := { cls := .type "re.Match", data := .fields #[.str (S l) t, .ref pa, rawInt 0, rawInt l.length, rawInt 1, .ref tp] }
theorem newMatch_go {l : List Nat} {t : Tok} {k : Nat} {m : Sre.M} {Q : Value → Shared → Prop} (hm : escFound l k m)
    (h : Q (.ref (s.heap.objs.size + 1)) { s with heap := (s.heap.push (spanO k)).push (matO pa l t s.heap.objs.size) }) :
    wpAny M A (reNewMatch (.ref pa) (.str (S l) t) 1 0 l.length m) Q E s := by
  obtain ⟨_, h1, h2, h3, h4, h5⟩ := hm
  unfold reNewMatch
  rw [h1, h2, h3, h4, h5]
  simp [List.range, List.range.loop]
  refine wpAny_bind (wpAny_newTuple ?_ (by show 4 ≤ sizeLine; rw [sizeLine_eq]; omega))
  unfold newFields
  refine wpAny_newObj_type ?_ (by first | trivial | decide | size_fits)
  rw [show (s.heap.push (spanO k)).objs.size = s.heap.objs.size + 1 by simp [Heap.push]] 
  exact h
end
/-- the text with its escapes undone -/
def unescL : List Nat → List Nat
  | [] => []
  | [c] => [c]
  | c :: d :: r => if (c == 92) = true ∧ isPunct d = true then d :: unescL r else c :: unescL (d :: r)
theorem unescL_cons (c : Nat) (r : List Nat) : unescL (c :: r) = if (c == 92) = true ∧ isPunct (r.headD 0) = true then r.headD 0 :: unescL r.tail else c :: unescL r := by
  cases r with
  | nil => rw [if_neg (by rintro ⟨_, b⟩; exact absurd b (by decide))]; rfl
  | cons d r => rfl
theorem unescL_none {s : Nat} : ∀ {l : List Nat}, escAt s l = none → unescL l = l := by
  intro l
  induction l generalizing s with
  | nil => intro _; rfl
  | cons c r ih =>
    intro h
    unfold escAt at h
    split at h
    · cases h
    · rename_i hc
      rw [unescL_cons, if_neg hc, ih h]
theorem unescL_some {k : Nat} : ∀ {l : List Nat} {s : Nat}, escAt s l = some k → s ≤ k ∧ k + 1 < s + l.length ∧ unescL l = l.take (k - s) ++ l.getD (k - s + 1) 0 :: unescL (l.drop (k - s + 2)) := by
  intro l
  induction l with
  | nil => intro s h; cases h
  | cons c r ih =>
    intro s h
    unfold escAt at h
    split at h
    · rename_i hc
      cases h
      have hr : r ≠ [] := by
        rintro rfl
        exact absurd hc.2 (by decide)
      obtain ⟨d, r', rfl⟩ := List.exists_cons_of_ne_nil hr
      refine ⟨Nat.le_refl _, by simp, ?_⟩
      rw [unescL_cons, if_pos hc, Nat.sub_self]
      simp
    · rename_i hc
      obtain ⟨h1, h2, h3⟩ := ih h
      refine ⟨by omega, by simp only [List.length_cons]; omega, ?_⟩
      rw [unescL_cons, if_neg hc, h3]
      obtain ⟨d, hd⟩ : ∃ d, k - s = d + 1 := ⟨k - s - 1, by omega⟩
      have e : k - (s + 1) = d := by omega
      rw [hd, e]
      simp
end Mine

end SMT

section SMU
open PySem PySem.W PyProof.Rows PySem.Calls PySem.Spec PySem.F
set_option Elab.async false
set_option maxRecDepth 100000
set_option maxHeartbeats 4000000
namespace Mine
open PySem.Builtin.Re
section
variable {prog : Program} {w : World} {A : Around} {K : Frag} {pa f p L : Addr} {l : List Nat} {t : Tok} {h₀ : Heap} {m : Str → Option Value} {news : List (Addr × Obj)} {R : Result → Shared → Prop} {s₀ : Shared}
theorem push_list {h : Heap} {vs : List Value} {n : Nat} {v : Value} (F : Fr h₀ L h m) (N : News h₀ L h ((p, lstObj vs n) :: news)) (hne : ∀ q ∈ news, q.1 ≠ p) :
    Fr h₀ L (h.update p (Obj.mapSeq (·.push v))) m ∧ News h₀ L (h.update p (Obj.mapSeq (·.push v))) ((p, lstObj (vs ++ [v]) (n + 1)) :: news) := by
  have e : Obj.mapSeq (·.push v) (lstObj vs n) = lstObj (vs ++ [v]) (n + 1) := by
    unfold lstObj Obj.mapSeq
    simp
  exact news_upd (pre := []) F N (fun _ h => nomatch h) hne e rfl
theorem push_go {E : Value → Shared → Prop} {s : Shared} {vs : List Value} {n : Nat} {v : Value} {Q : Unit → Shared → Prop} (F : Fr h₀ L s.heap m) (N : News h₀ L s.heap ((p, lstObj vs n) :: news)) (hne : ∀ q ∈ news, q.1 ≠ p) (hz : vs.length ≤ 2 ^ 21)
    (h : ∀ h', Fr h₀ L h' m → News h₀ L h' ((p, lstObj (vs ++ [v]) (n + 1)) :: news) → Q () { s with heap := h' }) : wpAny (model prog w) A (updateSeq p (·.push v)) Q E s := by
  obtain ⟨F', N'⟩ := push_list (v := v) F N hne
  refine wpAny_updateSeq (N _ (.head _)).1 rfl (h _ F' N') ?_ ?_
  · rw [List.size_toArray, sizeLine_eq]; omega
  · rw [Array.size_push, List.size_toArray, sizeLine_eq]; omega
/-- the tail of a turn: the match object, the callback, its text pushed, the next turn -/
theorem sub_tail {E : Value → Shared → Prop} {Q : Fin → Shared → Prop} {vs : List Value} {n k : Nat} {mm : Sre.M} {h : Heap} {tk : Nat} {cnt : Int} (hm : escFound l k mm) (hk : k + 1 < l.length) (hne : ∀ q ∈ news, q.1 ≠ p) (hz : vs.length ≤ 2 ^ 21)
    (hcb : ∀ (s : Shared) (all : List (Addr × Obj)) (mo tp : Addr) (k : Nat) (Q E : Value → Shared → Prop), Fr h₀ L s.heap m → News h₀ L s.heap all → (mo, matO pa l t tp) ∈ all → (tp, spanO k) ∈ all → (∀ q ∈ news, q ∈ all) → k + 1 < l.length →
      (∀ t' h' tk', Fr h₀ L h' m → News h₀ L h' all → Q (.str (S [l.getD (k + 1) 0]) t') { s with heap := h', toks := tk' }) → wpAny (model prog w) A.in1 (call (.ref f) [.ref mo]) Q E s)
    (F : Fr h₀ L h m) (N : News h₀ L h ((p, lstObj vs n) :: news))
    (hnext : ∀ t' h' tk', Fr h₀ L h' m → News h₀ L h' ((p, lstObj (vs ++ [.str (S [l.getD (k + 1) 0]) t']) (n + 1)) :: news) →
      Q (.again (.builtin "re.Pattern.sub.loop" ⟨[.ref pa, .str (S l) t, .ref f, .int 1 0, .int 0 0, .int (cnt + 1) 0, .int ((k + 2 : Nat) : Int) 0, .int ((k + 2 : Nat) : Int) 0, .bool false, .ref p, .bool false], []⟩)) { s₀ with heap := h', toks := tk' }) :
    wpAny (model prog w) A.in1 (do
      let found ← reNewMatch (.ref pa) (.str (S l) t) 1 0 l.length mm
      let item ← holding [found] (call (.ref f) [found])
      if (item != .none) = true then (do updateSeq p (·.push item); again (.builtin "re.Pattern.sub.loop" ⟨[.ref pa, .str (S l) t, .ref f, .int 1 0, .int 0 0, .int (cnt + 1) 0, .int mm.handed 0, .int mm.handed 0, .bool (mm.handed == mm.start), .ref p, .bool false], []⟩)) else again (.builtin "re.Pattern.sub.loop" ⟨[.ref pa, .str (S l) t, .ref f, .int 1 0, .int 0 0, .int (cnt + 1) 0, .int mm.handed 0, .int mm.handed 0, .bool (mm.handed == mm.start), .ref p, .bool false], []⟩)) Q E { s₀ with heap := h, toks := tk } := by
  refine wpAny_bind (newMatch_go hm ?_)
  have F1 := F.push (spanO k)
  have N1 := N.push F (spanO k)
  have F2 := F1.push (matO pa l t h.objs.size)
  have N2 := N1.push F1 (matO pa l t h.objs.size)
  have hsz : (h.push (spanO k)).objs.size = h.objs.size + 1 := by simp [Heap.push]
  rw [hsz] at N2
  refine wpAny_bind (wpAny_holding (hcb _ _ _ _ k _ _ F2 N2 (.head _) (.tail _ (.head _)) (fun q hq => .tail _ (.tail _ (.tail _ hq))) hk ?_))
  intro t' h' tk' F' N'
  have N3 : News h₀ L h' ((p, lstObj vs n) :: news) := fun q hq => N' q (.tail _ (.tail _ hq))
  have e : (Value.str (S [l.getD (k + 1) 0]) t' != Value.none) = true := rfl
  rw [e]
  simp only [if_true]
  obtain ⟨_, h1, h2, _⟩ := hm
  refine wpAny_bind (push_go F' N3 hne hz fun h'' F'' N'' => ?_)
  have e2 : (k + 2 == k) = false := by simp
  rw [h1, h2, e2]
  exact wpAny_pure (hnext _ _ _ F'' N'')
theorem strV_push (pl : List (List Nat × Tok)) (a : List Nat) (u : Tok) : strV pl ++ [.str (S a) u] = strV (pl ++ [(a, u)]) := by simp [strV]
/-- the end: the pieces joined -/
theorem sub_end {E : Value → Shared → Prop} {Q : Fin → Shared → Prop} {pl : List (List Nat × Tok)} {n : Nat} {h : Heap} {tk : Nat} (hl : l.length < 2 ^ 20) (hz : (pl.map (·.1)).flatten.length ≤ 2 ^ 21)
    (F : Fr h₀ L h m) (N : News h₀ L h ((p, lstObj (strV pl) n) :: news))
    (hq : ∀ t' h' tk', Fr h₀ L h' m → News h₀ L h' news → Q (.done (.ret (.str (S (pl.map (·.1)).flatten) t'))) { s₀ with heap := h', toks := tk' }) :
    wpAny (model prog w) A (do
      let joiner ← reSlice l.toArray 0 0 0
      let items ← seqItems? (.ref p)
      if (items.getD #[]).isEmpty = true then (do let x ← pure joiner; ret x) else (do
        let x ← call (.builtin (if ((0 : Nat) == 0) = true then "str.join" else "bytes.join")) [joiner, .ref p]
        ret x)) Q E { s₀ with heap := h, toks := tk } := by
  have Nn : News h₀ L h news := fun q hq => N q (.tail _ hq)
  refine wpAny_bind (reSlice_S ?_ hl)
  have e0 : subI l ((0 : Nat) : Int) ((0 : Nat) : Int) = [] := by simp [subI]
  rw [e0]
  refine wpAny_bind (wpAny_seqItems (N _ (.head _)).1 rfl ?_)
  simp only [Option.getD_some]
  cases pl with
  | nil =>
    rw [if_pos (by simp [strV])]
    refine wpAny_bind (wpAny_pure (wpAny_pure ?_))
    exact hq _ _ _ F Nn
  | cons a r =>
    rw [if_neg (by simp [strV]), if_pos (by decide)]
    refine wpAny_bind (join_go (pl := a :: r) ⟨_, (N _ (.head _)).1, rfl, _, rfl⟩ hz fun t' k => wpAny_pure ?_)
    exact hq _ _ _ F Nn
theorem flat_len (pl : List (List Nat × Tok)) (a : List Nat) (u : Tok) : ((pl ++ [(a, u)]).map (·.1)).flatten.length = (pl.map (·.1)).flatten.length + a.length := by
  rw [List.map_append, List.flatten_append, List.length_append]
  simp only [List.map_cons, List.map_nil, List.flatten_cons, List.flatten_nil, List.append_nil]
theorem subI_len2 {l : List Nat} {i j : Nat} : (subI l i j).length ≤ j - i := by
  unfold subI; rw [List.length_take]; omega
theorem drop_add {l : List Nat} {a b : Nat} : (l.drop a).drop b = l.drop (a + b) := by rw [List.drop_drop]
theorem sub_loop (X₀ : K.In h₀) (hp : PatIn K pa escC 1) (hl : l.length < 2 ^ 20) (hne : ∀ q ∈ news, q.1 ≠ p)
    (hcb : ∀ (s : Shared) (all : List (Addr × Obj)) (mo tp : Addr) (k : Nat) (Q E : Value → Shared → Prop), Fr h₀ L s.heap m → News h₀ L s.heap all → (mo, matO pa l t tp) ∈ all → (tp, spanO k) ∈ all → (∀ q ∈ news, q ∈ all) → k + 1 < l.length →
      (∀ t' h' tk', Fr h₀ L h' m → News h₀ L h' all → Q (.str (S [l.getD (k + 1) 0]) t') { s with heap := h', toks := tk' }) → wpAny (model prog w) A.in1 (call (.ref f) [.ref mo]) Q E s)
    (hend : ∀ t' h' tk', Fr h₀ L h' m → News h₀ L h' news → R (.ok (.ret (.str (S (unescL l)) t'))) { s₀ with heap := h', toks := tk' }) :
    ∀ (d st : Nat) (pl : List (List Nat × Tok)) (n : Nat) (cnt : Int) (h : Heap) (tk : Nat), l.length + 1 - st ≤ d → st ≤ l.length → (pl.map (·.1)).flatten ++ unescL (l.drop st) = unescL l → (pl.map (·.1)).flatten.length ≤ st → pl.length ≤ st →
      Fr h₀ L h m → News h₀ L h ((p, lstObj (strV pl) n) :: news) →
      codeAny (model prog w) A (.builtin "re.Pattern.sub.loop" ⟨[.ref pa, .str (S l) t, .ref f, rawInt 1, rawInt 0, rawInt cnt, rawInt st, rawInt st, .bool false, .ref p, .bool false], []⟩) R { s₀ with heap := h, toks := tk } := by
  intro d
  induction d with
  | zero => intro st pl n cnt h tk hd hst; omega
  | succ d ih =>
    intro st pl n cnt h tk hd hst hU hL1 hL2 F N
    refine codeAny_builtin entry_re_sub_loop ?_
    rw [Around.under_plainId (by decide +kernel)]
    unfold Builtin.«re.Pattern.sub.loop»
    dsimp only [rawInt]
    refine wpAny_bind (reWhole (X₀.keeps F.keep) hp ?_)
    dsimp only
    simp only [show ((1 : Int) == 0) = false from rfl, show ((1 : Int) == 1) = true from rfl, show ((0 : Int) != 0) = false from rfl, Bool.false_and, Bool.false_eq_true, if_false, if_true, Int.toNat_natCast]
    refine wpAny_bind (esc_next rfl rfl rfl rfl hl hst ?_)
    cases hk : escAt st (l.drop st) with
    | none =>
      have hu := unescL_none hk
      rw [hu] at hU
      dsimp only
      by_cases hlt : st < l.length
      · rw [if_pos hlt]
        refine wpAny_bind (reSlice_S ?_ hl)
        have hz : (strV pl).length ≤ 2 ^ 21 := by simp only [strV, List.length_map]; omega
        refine wpAny_bind (push_go F N hne hz fun h' F' N' => ?_)
        rw [strV_push] at N'
        have e : subI l ((st : Nat) : Int) ((l.length : Nat) : Int) = l.drop st := by
          unfold subI; rw [List.take_of_length_le]; simp; simp
        rw [e] at N'
        have e2 : ((pl ++ [(l.drop st, tk)]).map (·.1)).flatten = unescL l := by rw [← hU]; simp
        refine sub_end hl ?_ F' N' fun t' h'' tk'' F'' N'' => ?_
        · rw [List.map_append, List.flatten_append, List.length_append]
          simp only [List.map_cons, List.map_nil, List.flatten_cons, List.flatten_nil, List.append_nil, List.length_drop]
          omega
        · rw [e2]; exact hend _ _ _ F'' N''
      · rw [if_neg hlt]
        rw [List.drop_eq_nil_of_le (by omega), List.append_nil] at hU
        refine sub_end hl (by omega) F N fun t' h'' tk'' F'' N'' => ?_
        rw [hU]; exact hend _ _ _ F'' N''
    | some k =>
      obtain ⟨k1, k2, k3⟩ := unescL_some hk
      rw [List.length_drop] at k2
      dsimp only
      intro mm hm
      have hs : mm.start = k := hm.2.1
      have hg : (l.drop st).getD (k - st + 1) 0 = l.getD (k + 1) 0 := by
        simp only [List.getD_eq_getElem?_getD, List.getElem?_drop]
        rw [show st + (k - st + 1) = k + 1 by omega]
      rw [hg, drop_add, show st + (k - st + 2) = k + 2 by omega] at k3
      rw [k3] at hU
      by_cases hlt : st < mm.start
      · rw [if_pos hlt]
        refine wpAny_bind (reSlice_S ?_ hl)
        rw [hs] at hlt
        have hz : (strV pl).length ≤ 2 ^ 21 := by simp only [strV, List.length_map]; omega
        refine wpAny_bind (push_go F N hne hz fun h' F' N' => ?_)
        rw [strV_push, hs] at N'
        have hz' : (strV (pl ++ [(subI l st k, tk)])).length ≤ 2 ^ 21 := by simp only [strV, List.length_map, List.length_append, List.length_singleton]; omega
        refine sub_tail hm (by omega) hne hz' hcb F' N' fun t' h'' tk'' F'' N'' => ⟨plainId_quiet (by decide +kernel) _, ?_⟩
        rw [strV_push] at N''
        refine ih (k + 2) _ _ _ _ _ (by omega) (by omega) ?_ ?_ ?_ F'' N''
        · rw [← hU]; simp [subI, List.append_assoc]
        · have := subI_len2 (l := l) (i := st) (j := k)
          rw [flat_len, flat_len, List.length_singleton]; omega
        · simp; omega
      · rw [if_neg hlt]
        rw [hs] at hlt
        have e : k = st := by omega
        subst e
        have hz : (strV pl).length ≤ 2 ^ 21 := by simp only [strV, List.length_map]; omega
        refine sub_tail hm (by omega) hne hz hcb F N fun t' h'' tk'' F'' N'' => ⟨plainId_quiet (by decide +kernel) _, ?_⟩
        rw [strV_push] at N''
        refine ih (k + 2) _ _ _ _ _ (by omega) (by omega) ?_ ?_ ?_ F'' N''
        · rw [← hU]; simp [List.append_assoc]
        · rw [flat_len, List.length_singleton]; omega
        · simp; omega
end
end Mine

end SMU

section SMV
open PySem PySem.W PyProof.Rows PySem.Calls PySem.Spec PySem.F
set_option Elab.async false
set_option maxRecDepth 100000
set_option maxHeartbeats 4000000
namespace Mine
open PySem.Builtin.Re
theorem named_sub (a b : Value) : reNamed "re.Pattern.sub" "sub" ["repl", "string", "count"] 2 [a, b] [] = pure [some a, some b, none] := by rfl
theorem look_fn_call : typeLookup (.type "function") "__call__" = pure (some (.builtin "function.__call__")) := by rw [typeLookup_type, builtinLookup_eq_fast]; kernel_rfl
theorem sub_str_ba : isSubtype (.type "str") (.type "bytearray") = pure false := by rw [isSubtype_type]; kernel_rfl
section
variable {prog : Program} {w : World} {A : Around} {K : Frag} {pa f L : Addr} {l : List Nat} {t : Tok} {h₀ : Heap} {m : Str → Option Value} {news : List (Addr × Obj)} {Q E : Value → Shared → Prop} {s : Shared}
theorem sub_go (X₀ : K.In h₀) (hp : PatIn K pa escC 1) (hl : l.length < 2 ^ 20) (F : Fr h₀ L s.heap m) (N : News h₀ L s.heap news) (hf : ∃ o, s.heap.get? f = some o ∧ o.cls = .type "function")
    (hcb : ∀ (s : Shared) (all : List (Addr × Obj)) (mo tp : Addr) (k : Nat) (Q E : Value → Shared → Prop), Fr h₀ L s.heap m → News h₀ L s.heap all → (mo, matO pa l t tp) ∈ all → (tp, spanO k) ∈ all → (∀ q ∈ news, q ∈ all) → k + 1 < l.length →
      (∀ t' h' tk', Fr h₀ L h' m → News h₀ L h' all → Q (.str (S [l.getD (k + 1) 0]) t') { s with heap := h', toks := tk' }) → wpAny (model prog w) A.in1 (call (.ref f) [.ref mo]) Q E s)
    (hend : ∀ t' h' tk', Fr h₀ L h' m → News h₀ L h' news → Q (.str (S (unescL l)) t') { s with heap := h', toks := tk' }) :
    wpAny (model prog w) A (call (.builtin "re.Pattern.sub") [.ref pa, .ref f, .str (S l) t]) Q E s := by
  obtain ⟨fs, ca, co, items, n, sl, p1, _⟩ := id hp
  have hT : s.TypeIs (.ref pa) "re.Pattern" := ⟨_, (X₀.keeps F.keep) _ _ p1, rfl⟩
  refine wpAny_call (codeAny_call_builtin slot_re_sub.plain entry_re_sub (slot_re_sub.check _ _ _ _ _ _ _ _ hT (args_re_sub _ _ _) ?_))
  unfold Builtin.«re.Pattern.sub» reSubstitute
  dsimp only
  rw [named_sub]
  refine wpAny_bind (wpAny_pure ?_)
  dsimp only
  refine wpAny_bind (wpAny_pure ?_)
  have hTf : s.TypeIs (.ref f) "function" := hf
  refine wpAny_bind (wpAny_specialOf hTf look_fn_call ?_)
  dsimp only [Option.isSome_some]
  rw [if_pos rfl]
  refine wpAny_bind (wpAny_pure ?_)
  rw [if_pos rfl]
  refine wpAny_bind (wpAny_pure ?_)
  dsimp only
  refine wpAny_bind (wpAny_holding (reWhole (X₀.keeps F.keep) hp ?_))
  rw [if_pos (by decide)]
  refine wpAny_bind ?_
  unfold reNotHeld
  refine wpAny_bind (wpAny_isInstance (T := "str") rfl sub_str_ba ?_)
  rw [if_neg (by decide)]
  refine wpAny_pure ?_
  refine wpAny_bind (wpAny_newList ?_ (by show 0 ≤ sizeLine; omega))
  have F1 := F.push (lstObj [] 0)
  have N1 := N.push F (lstObj [] 0)
  refine wpAny_pure ⟨plainId_quiet (by decide +kernel) _, ?_⟩
  refine sub_loop (s₀ := s) (p := s.heap.objs.size) X₀ hp hl (fun q hq => Nat.ne_of_lt (Heap.lt_size (N q hq).1)) hcb hend (l.length + 1) 0 [] 0 0 _ _ (by omega) (by omega) rfl (by simp) (by simp) F1 N1
end
section
variable {prog : Program} {w : World} {A : Around} {pa mo tp : Addr} {l : List Nat} {t u : Tok} {k : Nat} {Q E : Value → Shared → Prop} {s : Shared}
theorem group_go (hmo : s.heap.get? mo = some (matO pa l t tp)) (htp : s.heap.get? tp = some (spanO k)) (hl : l.length < 2 ^ 20) (hk : k + 1 < l.length) (h : Q (.str (S [l.getD (k + 1) 0]) s.toks) { s with toks := s.toks + 1 }) :
    wpAny (model prog w) A (call (.builtin "re.Match.group") [.ref mo, .int 1 u]) Q E s := by
  have hT : s.TypeIs (.ref mo) "re.Match" := ⟨_, hmo, rfl⟩
  refine wpAny_call_entry slot_re_group hT entry_re_group ?_ (args_re_group _ _)
  unfold Builtin.«re.Match.group»
  dsimp only
  rw [show noKeywords "Match.group" ⟨[Value.ref mo, Value.int 1 u], []⟩ = pure () from rfl]
  refine wpAny_bind (wpAny_pure ?_)
  unfold reFound
  refine wpAny_bind (wpAny_bind (wpAny_fieldsOf hmo rfl ?_))
  refine wpAny_bind (reItems htp rfl (wpAny_pure ?_))
  have e1 : ∀ x : ReFound, x.spans.size = 4 → reGroupNumber x (.int 1 u) = pure 1 := by
    intro x hx
    unfold reGroupNumber
    rw [hx]; rfl
  rw [e1 _ (by simp)]
  refine wpAny_bind (wpAny_pure ?_)
  unfold reGroupText
  have b1 : (Array.map reRawOf #[rawInt (k : Int), rawInt ((k : Int) + 2), rawInt ((k : Int) + 1), rawInt ((k : Int) + 2)]).getD (2 * 1) (-1) = (k : Int) + 1 := by simp [reRawOf, rawInt]
  have b2 : (Array.map reRawOf #[rawInt (k : Int), rawInt ((k : Int) + 2), rawInt ((k : Int) + 1), rawInt ((k : Int) + 2)]).getD (2 * 1 + 1) (-1) = (k : Int) + 2 := by simp [reRawOf, rawInt]
  dsimp only
  rw [b1, b2, if_neg (by simp; omega)]
  refine wpAny_bind (wpAny_bind (show wpAny _ _ (reTextOf (.str (S l) t)) _ _ _ from wpAny_bind (wpAny_pure (wpAny_pure ?_))))
  dsimp only
  rw [show (S l).cps = l.toArray from rfl, show ((k : Int) + 1).toNat = k + 1 by omega, show ((k : Int) + 2).toNat = k + 2 by omega]
  refine reSlice_S ?_ hl
  have e2 : subI l ((k + 1 : Nat) : Int) ((k + 2 : Nat) : Int) = [l.getD (k + 1) 0] := by
    unfold subI
    rw [show (((k + 1 : Nat) : Int)).toNat = k + 1 by omega, show (((k + 2 : Nat) : Int) - ((k + 1 : Nat) : Int)).toNat = 1 by omega, drop_cons hk]
    rfl
  rw [e2]
  exact wpAny_pure ⟨_, rfl, h⟩
end
/-- the sign that closes a title opened by c -/
def closerOf (c : Nat) : Option Nat := if c = 39 then some 39 else if c = 34 then some 34 else if c = 40 then some 41 else none
abbrev closerD : List (PyData × PyData) := [(.str (S [39]), .str (S [39])), (.str (S [34]), .str (S [34])), (.str (S [40]), .str (S [41]))]
theorem get_closer {prog : Program} {w : World} {A : Around} {E : Value → Shared → Prop} {s : Shared} {d : Addr} {D : List (PyData × PyData)} {c : Nat} {t : Tok} {Q : Value → Shared → Prop} (T : StrTab prog w s.heap d D) (hD : D = closerD)
    (h : ∀ t', match closerOf c with | some e => Q (.str (S [e]) t') { s with toks := s.toks + 1 } | none => Q .none { s with toks := s.toks + 1 }) :
    wpAny (model prog w) A (call (.builtin "dict.get") [.ref d, .str (S [c]) t]) Q E s := by
  subst hD
  refine call_get1_strTab T fun v hv => ?_
  have key : ((Spec.lookup (PyData.str (S [c])) closerD).getD .none) = (match closerOf c with | some e => .str (S [e]) | none => .none) := by
    have q : ∀ a b : Nat, (S [a] == S [b]) = (a == b) := fun a b => by rw [Bool.eq_iff_iff, beq_iff_eq, beq_iff_eq]; simp
    unfold Spec.lookup Spec.lookup Spec.lookup Spec.lookup closerOf
    simp only [Spec.same, q]
    by_cases h1 : c = 39
    · subst h1; rfl
    · by_cases h2 : c = 34
      · subst h2; rfl
      · by_cases h3 : c = 40
        · subst h3; rfl
        · rw [if_neg (by simp; omega), if_neg (by simp; omega), if_neg (by simp; omega), if_neg h1, if_neg h2, if_neg h3]; rfl
  rw [key] at hv
  cases hc : closerOf c with
  | none => rw [hc] at hv h; dsimp only at hv h; rw [PyProof.V.Flat.none_inv hv]; exact h 0
  | some e => rw [hc] at hv h; dsimp only at hv h; obtain ⟨t', rfl⟩ := PyProof.V.Flat.str_inv hv; exact h t'
section
variable {prog : Program} {w : World} {A : Around} {p L : Addr} {h₀ : Heap} {m : Str → Option Value} {news : List (Addr × Obj)} {s : Shared} {E : Value → Shared → Prop}
theorem append_go {vs : List Value} {n : Nat} {v : Value} {Q : Value → Shared → Prop} (F : Fr h₀ L s.heap m) (N : News h₀ L s.heap ((p, lstObj vs n) :: news)) (hne : ∀ q ∈ news, q.1 ≠ p) (hz : vs.length ≤ 2 ^ 21)
    (h : ∀ h', Fr h₀ L h' m → News h₀ L h' ((p, lstObj (vs ++ [v]) (n + 1)) :: news) → Q .none { s with heap := h' }) : wpAny (model prog w) A (call (.builtin "list.append") [.ref p, v]) Q E s := by
  have e : vs.toArray.push v = (vs ++ [v]).toArray := by simp
  exact append_K F N (.head hne) (by rw [e]; exact h) (by rw [List.size_toArray, sizeLine_eq]; omega)
theorem join_lit {x : Str} {t : Tok} {Q : Value → Shared → Prop} {pl : List (List Nat × Tok)} {n : Nat} (hx : x = S []) (N : News h₀ L s.heap ((p, lstObj (strV pl) n) :: news)) (hz : (pl.map (·.1)).flatten.length ≤ 2 ^ 21)
    (hq : ∀ t' k, Q (.str (S (pl.map (·.1)).flatten) t') { s with toks := k }) : wpAny (model prog w) A (call (.builtin "str.join") [.str x t, .ref p]) Q E s := by
  subst hx
  exact join_go ⟨_, (N _ (.head _)).1, rfl, _, rfl⟩ hz hq
end
theorem named_match (a b c : Value) : reNamed "re.Pattern.match" "match" ["string", "pos", "endpos"] 1 [a, b, c] [] = pure [some a, some b, some c] := by rfl
section
variable {prog : Program} {w : World} {A : Around} {K : Frag} {pa : Addr} {l : List Nat} {t u v : Tok} {Q E : Value → Shared → Prop} {s : Shared} {j : Int}
theorem ssize_go {M : Model} {i : Int} {Q : Int → Shared → Prop} {E : Value → Shared → Prop} (h0 : 0 ≤ i) (h1 : i < 2 ^ 62) (h : Q i s) : wpAny M A (reSsize (.int i t)) Q E s := by
  unfold reSsize
  rw [show asIndex (Value.int i t) = pure i from rfl]
  refine wpAny_bind (wpAny_pure ?_)
  rw [if_neg (by simp; omega)]
  exact wpAny_pure h
theorem match_none (X : K.In s.heap) (hp : PatIn K pa blkC 0) (hl : l.length < 2 ^ 20) (h0 : 0 ≤ j) (h1 : j < l.length) (c0 : l.getD j.toNat 0 = 10) (c1 : l.getD (j + 1).toNat 0 ≠ 32) (c2 : l.getD (j + 1).toNat 0 ≠ 9) (c3 : l.getD (j + 1).toNat 0 ≠ 10)
    (h : Q .none s) : wpAny (model prog w) A (call (.builtin "re.Pattern.match") [.ref pa, .str (S l) t, .int j u, .int l.length v]) Q E s := by
  obtain ⟨fs, ca, co, items, n, sl, p1, p2, p3, p4, p5, p6, p7⟩ := hp
  have hT : s.TypeIs (.ref pa) "re.Pattern" := ⟨_, X _ _ p1, rfl⟩
  refine wpAny_call_entry slot_re_match hT entry_re_match ?_ (args_re_match _ _ _ _)
  unfold Builtin.«re.Pattern.match» reTarget
  dsimp only
  rw [named_match]
  refine wpAny_bind (wpAny_bind (wpAny_pure ?_))
  dsimp only
  refine wpAny_bind (ssize_go h0 (by omega) ?_)
  refine wpAny_bind (ssize_go (by omega) (by omega) ?_)
  refine wpAny_bind (wpAny_fieldsOf (X _ _ p1) rfl ?_)
  refine wpAny_bind (wpAny_bind (wpAny_pure (wpAny_pure ?_)))
  dsimp only
  rw [p3]
  simp only [show ((0 : Nat) == 1) = false from rfl, show ((0 : Nat) == 0) = true from rfl, Bool.and_false, Bool.and_true, Bool.false_eq_true, if_false]
  rw [show reNoCollectionInside (Value.str (S l) t) 0 = pure () from rfl]
  refine wpAny_bind (wpAny_pure ?_)
  rw [p2]
  refine wpAny_bind (reItems (X _ _ p5) p6 (wpAny_pure ?_))
  rw [p7, p4]
  have e : (S l).cps = l.toArray := rfl
  rw [e, List.size_toArray]
  unfold reAnswer
  dsimp only
  have e1 : min j.toNat l.length = j.toNat := by omega
  have e2 : min ((l.length : Int)).toNat l.length = l.length := by omega
  rw [e1, e2]
  have q : (j + 1).toNat = j.toNat + 1 := by omega
  rw [q] at c1 c2 c3
  obtain ⟨k, m', hk, g, ho⟩ := blk_fail (l := l) (j := j.toNat) (by omega) c0 c1 c2 c3
  refine wpAny_bind (runToEnd_failed g ho (by omega) ?_)
  exact wpAny_pure ⟨_, rfl, h⟩
end
end Mine

end SMV

section SCE
open PySem PySem.W PyProof.Rows PySem.Calls PySem.Spec
theorem Mine.offCE : True := by w_top off; exact trivial
namespace Mine
section
local macro_rules | `(tactic| cell_enter) => `(tactic| (refine wpAny_call ?_; refine' con_code (by assumption) ?k1 ?k2 ?k3 ?k4 ?kz ?k5 ?kA ?kF ?kK ?k6 ?k7 ?k8 ?k9 ?kB (by assumption) ?kQ ?_ ?c2 ?c3 ?c4 ?c5; (case kA => exact rfl); (case kF => exact rfl); (case kK => assumption); (case k1 => k_asm); (case k2 => k_asm); (case k3 => k_asm); (case k4 => k_asm); (case kz => assumption); (case k5 => k_asm); (case k6 => k_is); (case k7 => k_is); (case k8 => ktr_room); (case k9 => (refine' kp_binds ?kx ?ke; (case kx => k_in); (case ke => exact fun _ => rfl))); (case kQ => exact fun _ _ q => q); (case c5 => decide); (case kB => exact locs rfl); (case c2 => exact rfl); (case c3 => exact rfl); (case c4 => exact rfl); k_whole; intro g' L' h' F' N' B' X' T' l0; (try k_lt l0); (try dsimp only); (try k_fold)))
local macro_rules | `(tactic| walk_at "subscriptTail") => `(tactic| ((with_reducible show wpAny _ _ (subscriptTail _ _ (Value.str (S _) _) (Value.int _ _)) _ _ _); refine sub_S (by omega) (by omega) (by omega) ?_))
local macro_rules | `(tactic| walk_at "subscriptTail Name Name str int") => `(tactic| (refine sub_S (by omega) (by omega) (by omega) ?_))
local macro_rules | `(tactic| walk_at "compareOp In str str") => `(tactic| first | refine in_ws ?_ | refine in_punct ?_ | refine in_blank ?_ | refine in_nl ?_ | refine in_ang ?_)
local macro_rules | `(tactic| walk_at "call builtin:len") => `(tactic| refine len_S (by omega) ?_)
local macro_rules | `(tactic| walk_at "call builtin:ord") => `(tactic| refine ord_ch ?_)
local macro_rules | `(tactic| walk_at "compareOp Eq str str") => `(tactic| first
  | refine eq_ch (d := 60) (by decide : Str.ofString "<" = S [60]) ?_
  | refine eq_ch (d := 62) (by decide : Str.ofString ">" = S [62]) ?_
  | refine eq_ch (d := 10) (by decide : Str.ofString "\n" = S [10]) ?_
  | refine eq_ch (d := 13) (by decide : Str.ofString "\x0d" = S [13]) ?_
  | refine eq_ch (d := 40) (by decide : Str.ofString "(" = S [40]) ?_
  | refine eq_ch (d := 41) (by decide : Str.ofString ")" = S [41]) ?_
  | refine eq_ch (d := 92) (by decide : Str.ofString "\\" = S [92]) ?_
  | refine eq_ch (d := 0) (by decide : Str.ofString "\x00" = S [0]) ?_
  | refine eq_ch (d := 127) (by decide : Str.ofString "\x7f" = S [127]) ?_)
local macro_rules | `(tactic| walk_at "compareOp NotEq str str") => `(tactic| first
  | refine ne_ch (d := 41) (by decide : Str.ofString ")" = S [41]) ?_)
local macro_rules | `(tactic| walk_at "subscriptTail Name Slice str ref") => `(tactic| ((with_reducible show wpAny _ _ (subscriptTail _ (Expr.Slice (some _) (some _) none _) (Value.str (S _) _) _) _ _ _); (refine slice_go (s := ⟨_, _, _, _, _⟩) (by assumption) (by assumption) (by omega) (by omega) (by omega) (by omega) ?_); intro h' t' tk' F' N'))
local macro_rules | `(tactic| walk_at "ite") => `(tactic| first
  | with_reducible refine ite_tt ?_ | with_reducible refine ite_ff ?_ | with_reducible refine split_not ?_
  | with_reducible refine boolT (by with_reducible assumption) ?_ | with_reducible refine boolF (by with_reducible assumption) ?_
  | with_reducible refine decT (by omega) ?_ | with_reducible refine decF (by omega) ?_
  | (with_reducible refine split_ine ?_ ?_ <;> intro _) | (with_reducible refine split_ieq ?_ ?_ <;> intro _)
  | (with_reducible refine PyProof.Rows.split_dec ?_ ?_ <;> intro _) | (with_reducible refine PyProof.Rows.split_bool ?_ ?_ <;> intro _))
local macro_rules | `(tactic| ksw_same) => `(tactic| (intro z h2 h3; (simp only [List.forall_mem_cons, List.not_mem_nil, false_implies, implies_true, and_true, ne_eq] at h2); (simp only [List.contains_cons, List.contains_nil, Bool.or_false, Bool.or_eq_false_iff, beq_eq_false_iff_ne, ne_eq] at h3); simp only [h2, h3, if_false, List.contains_cons, List.contains_nil, Bool.or_false, Bool.or_eq_true, beq_iff_eq, or_self, or_false, false_or, Bool.false_eq_true]))
local macro_rules | `(tactic| walk_at "MPost") => `(tactic| (dsimp only [MPost]))
local macro_rules | `(tactic| walk_at "truthy str") => `(tactic| first | refine truthy_cons (by simp only [List.length_nil]; omega) ?_ | refine truthy_S (by omega) ?_)
local macro_rules | `(tactic| walk_at "binaryOp Add str str") => `(tactic| first
  | (refine add_SS (a := []) (b := _) (by decide : Str.ofString "" = S []) rfl (by simp only [List.length_nil, List.length_cons]; omega) ?_; intro t' tk')
  | (refine add_SS rfl rfl (by simp only [List.length_nil, List.length_cons, List.length_append]; omega) ?_; intro t' tk'))
local macro_rules | `(tactic| walk_at "compareOp NotIn str str") => `(tactic| refine notin_ws ?_)

/-- the table of the lambda's code object: not yet made, or made -/
def TabL (mt : List (Addr × Obj)) : Prop :=
  mt = [(76, tabObj #[])] ∨ ∃ c' oc vs t, mt = [(76, tabObj #[rawInt 35, rawInt 31, .ref c']), (c', oc)] ∧ oc.data = .fields vs ∧ vs[1]? = some (.str (Str.ofString "unescape_char.<locals>.<lambda>") t) ∧ c' ≠ 76
local macro_rules | `(tactic| walk_at "getMethod ref") => `(tactic| ((with_reducible show wpAny _ _ (getMethod (Value.ref 69) _ _) _ _ _); refine getMethod_builtin (T := "re.Pattern") (Q := _) ⟨_, (Frag.In.keeps (by assumption) (Fr.keep (by assumption))) _ _ (by k_dflt k_is), rfl⟩ plainAttrs_rePattern slot_re_sub type_re_sub (fun a e => by cases e; exact ⟨_, (Frag.In.keeps (by assumption) (Fr.keep (by assumption))) _ _ (by k_dflt k_is), rfl⟩) ?_))
theorem pat_esc (w : World) : PatIn (hd.heap_39 w.params) 69 escC 1 := ⟨_, 68, _, _, _, _, by rfl, by rfl, by rfl, by rfl, by rfl, by rfl, by decide +kernel⟩
theorem c_unesc (w : World) (l : List Nat) (tx : Tok) (mt : List (Addr × Obj)) (h2 : l.length < 2 ^ 20) (hm : TabL mt) :
    Con PySem.Challenge.rw_ci0012_01.row.prog w (hd.heap_39 w.params) 2 81 [.str (S l) tx] [] mt (fun v new mt' => (∃ t, v = .str (S (unescL l)) t) ∧ new = [] ∧ TabL mt') := by
  k_fill
  intro p loose mean mg mb dp un gd cn cs a ccd cl outer A₀ base h₀ L m rest s Q E B F X N hz T hk hdp hun hret
  k_with_none
  k_with "getMethod ref" => (refine getMethod_builtin (T := "re.Match") ⟨_, News.get (by assumption) (by assumption), rfl⟩ plainAttrs_reMatch slot_re_group type_re_group (fun a e => by cases e; exact ⟨_, News.get (by assumption) (by assumption), rfl⟩) ?_)
  k_with "call builtin:re.Match.group" => (refine group_go (News.get (by assumption) (by assumption)) (News.get (by assumption) (by assumption)) (by assumption) (by assumption) ?_)
  have hb : BindsAre [(Str.ofString "text", .str (S l) tx)] := trivial
  rcases hm with rfl | ⟨c', oc, vs, t, rfl, hd', hv', hc'⟩
  · k_dflt cell_enter
    clear B F X N hz T hret
    have C := codeHd_of_K (c := 80) (P := 76) (by assumption : (hd.heap_39 w.params).In _) (by kernel_rfl)
    k_steps
    rename_i f1 c1 oc1 vs1 t1 ct1 hh1 tk1 F1 N1 d1 d2 l1 l2
    refine sub_go (by assumption) (pat_esc w) (by assumption) (by assumption) (by assumption) ⟨_, News.get (by assumption) (by k_mem), rfl⟩ ?_ ?_
    · intro s2 all mo tp k Q2 E2 F2 N2 hmo htp hall hk2 hret2
      refine wpAny_call (kla_code (by assumption) F2 (by assumption) N2 (by assumption) rfl rfl rfl (hall _ (by k_mem)) (codeRec_news N2 (hall _ (by k_mem)) (by assumption) (by assumption)) (by ktr_room) rfl (locs rfl) ?_ rfl rfl rfl (by decide))
      intro g3 L3 h3 FG3 F3 N3 B3 X3 T3
      k_steps
      exact hret2 _ _ _ (by assumption) (by assumption)
    · intro t' h' tk' F' N'
      refine Ends.mk [] [(76, tabObj #[rawInt 35, rawInt 31, .ref c1]), (c1, oc1)] F' N' ?_ ⟨⟨_, rfl⟩, rfl, .inr ⟨c1, oc1, vs1, t1, rfl, d1, d2, Nat.ne_of_gt l1⟩⟩
      rw [List.nil_append]
      exact List.forall_mem_cons.mpr ⟨by k_mem, List.forall_mem_cons.mpr ⟨by k_mem, List.forall_mem_nil _⟩⟩
  · k_dflt cell_enter
    clear B F X N hz T hret
    have C := codeHd_of_K (c := 80) (P := 76) (by assumption : (hd.heap_39 w.params).In _) (by kernel_rfl)
    k_steps
    rename_i f1 ct1 hh1 tk1 F1 N1 l1
    refine sub_go (by assumption) (pat_esc w) (by assumption) (by assumption) (by assumption) ⟨_, News.get (by assumption) (by k_mem), rfl⟩ ?_ ?_
    · intro s2 all mo tp k Q2 E2 F2 N2 hmo htp hall hk2 hret2
      refine wpAny_call (kla_code (by assumption) F2 (by assumption) N2 (by assumption) rfl rfl rfl (hall _ (by k_mem)) (codeRec_news N2 (hall _ (by k_mem)) (by assumption) (by assumption)) (by ktr_room) rfl (locs rfl) ?_ rfl rfl rfl (by decide))
      intro g3 L3 h3 FG3 F3 N3 B3 X3 T3
      k_steps
      exact hret2 _ _ _ (by assumption) (by assumption)
    · intro t' h' tk' F' N'
      refine Ends.mk [] [(76, tabObj #[rawInt 35, rawInt 31, .ref c']), (c', oc)] F' N' ?_ ⟨⟨_, rfl⟩, rfl, .inr ⟨c', oc, vs, t, rfl, hd', hv', hc'⟩⟩
      rw [List.nil_append]
      exact List.forall_mem_cons.mpr ⟨by k_mem, List.forall_mem_cons.mpr ⟨by k_mem, List.forall_mem_nil _⟩⟩
end
end Mine

end SCE

section SMW
open PySem PySem.W PyProof.Rows PySem.Calls PySem.Spec PySem.F
set_option Elab.async false
set_option maxRecDepth 100000
set_option maxHeartbeats 4000000
namespace Mine
/-- the title's raw text and the place behind its closing sign; the list is the text from j on -/
def ttlA (op cl : Nat) (j : Nat) (l : List Nat) : Option (List Nat × Nat) :=
  match l with
  | [] => none
  | c :: r =>
    if (c == 0) = true then none
    else if (op == 40) = true ∧ (c == 40) = true then none
    else if (c == 92) = true ∧ isPunct (r.headD 0) = true then Option.map (fun q : List Nat × Nat => (c :: r.headD 0 :: q.1, q.2)) (ttlA op cl (j + 2) r.tail)
    else if (c == cl) = true then some ([], j + 1)
    else Option.map (fun q : List Nat × Nat => (c :: q.1, q.2)) (ttlA op cl (j + 1) r)
termination_by l.length
decreasing_by all_goals simp; try omega
def ttlI (op cl : Nat) (l : List Nat) (i : Int) : Option (List Nat × Int) := Option.map (fun q : List Nat × Nat => (q.1, (q.2 : Int))) (ttlA op cl i.toNat (l.drop i.toNat))
def addP (a : List Nat) (o : Option (List Nat × Int)) : Option (List Nat × Int) := Option.map (fun q : List Nat × Int => (a ++ q.1, q.2)) o
theorem addP_addP (a b : List Nat) (o : Option (List Nat × Int)) : addP a (addP b o) = addP (a ++ b) o := by cases o <;> simp [addP]
theorem addP_nil (o : Option (List Nat × Int)) : addP [] o = o := by cases o <;> rfl
section
variable {op cl : Nat} {l : List Nat} {i : Int}
theorem ttl_end (h : l.length ≤ i) : ttlI op cl l i = none := by
  unfold ttlI; rw [List.drop_eq_nil_of_le (by omega), ttlA]; rfl
theorem ttl_eq (h0 : 0 ≤ i) (h : i < l.length) : ttlI op cl l i =
    if (l.getD i.toNat 0 == 0) = true then none
    else if (op == 40) = true ∧ (l.getD i.toNat 0 == 40) = true then none
    else if (l.getD i.toNat 0 == 92) = true ∧ isPunct (l.getD (i + 1).toNat 0) = true then addP [l.getD i.toNat 0, l.getD (i + 1).toNat 0] (ttlI op cl l (i + 2))
    else if (l.getD i.toNat 0 == cl) = true then some ([], i + 1)
    else addP [l.getD i.toNat 0] (ttlI op cl l (i + 1)) := by
  unfold ttlI
  rw [show (i + 1).toNat = i.toNat + 1 by omega, show (i + 2).toNat = i.toNat + 2 by omega, drop_cons (show i.toNat < l.length by omega), ttlA, headD_drop, List.tail_drop]
  have e : ((i.toNat + 1 : Nat) : Int) = i + 1 := by omega
  (repeat' split) <;> first
    | rfl
    | (simp only [Option.map_none]; done)
    | (simp only [Option.map_some, e]; done)
    | (simp only [addP, Option.map_map]; rfl)
theorem ttl_zero (h0 : 0 ≤ i) (h : i < l.length) (a : (l.getD i.toNat 0 == 0) = true) : ttlI op cl l i = none := by rw [ttl_eq h0 h, if_pos a]
theorem ttl_open (h0 : 0 ≤ i) (h : i < l.length) (a : (l.getD i.toNat 0 == 0) = false) (b : (op == 40) = true) (c : (l.getD i.toNat 0 == 40) = true) : ttlI op cl l i = none := by
  rw [ttl_eq h0 h, if_neg (by simp only [a]; decide), if_pos ⟨b, c⟩]
theorem ttl_esc (h0 : 0 ≤ i) (h : i < l.length) (a : (l.getD i.toNat 0 == 0) = false) (b : (op == 40) = false ∨ (l.getD i.toNat 0 == 40) = false) (d : (l.getD i.toNat 0 == 92) = true) (e : isPunct (l.getD (i + 1).toNat 0) = true) :
    ttlI op cl l i = addP [l.getD i.toNat 0, l.getD (i + 1).toNat 0] (ttlI op cl l (i + 2)) := by
  rw [ttl_eq h0 h, if_neg (by simp only [a]; decide), if_neg (by rintro ⟨x, y⟩; rcases b with b | b <;> simp_all), if_pos ⟨d, e⟩]
theorem ttl_close (h0 : 0 ≤ i) (h : i < l.length) (a : (l.getD i.toNat 0 == 0) = false) (b : (op == 40) = false ∨ (l.getD i.toNat 0 == 40) = false) (d : notEsc l i) (e : (l.getD i.toNat 0 == cl) = true) :
    ttlI op cl l i = some ([], i + 1) := by
  rw [ttl_eq h0 h, if_neg (by simp only [a]; decide), if_neg (by rintro ⟨x, y⟩; rcases b with b | b <;> simp_all), if_neg (d.not h0), if_pos e]
theorem ttl_one (h0 : 0 ≤ i) (h : i < l.length) (a : (l.getD i.toNat 0 == 0) = false) (b : (op == 40) = false ∨ (l.getD i.toNat 0 == 40) = false) (d : notEsc l i) (e : (l.getD i.toNat 0 == cl) = false) :
    ttlI op cl l i = addP [l.getD i.toNat 0] (ttlI op cl l (i + 1)) := by
  rw [ttl_eq h0 h, if_neg (by simp only [a]; decide), if_neg (by rintro ⟨x, y⟩; rcases b with b | b <;> simp_all), if_neg (d.not h0), if_neg (by simp only [e]; decide)]
theorem subI_two (h0 : 0 ≤ i) (h : i + 1 < l.length) : subI l i (i + 2) = [l.getD i.toNat 0, l.getD (i + 1).toNat 0] := by
  unfold subI
  rw [show (i + 2 - i).toNat = 2 by omega, show (i + 1).toNat = i.toNat + 1 by omega, drop_cons (show i.toNat < l.length by omega), drop_cons (show i.toNat + 1 < l.length by omega)]
  rfl
end
/-- the title of a link from place i on: its text and the place behind -/
def titleR (l : List Nat) (i : Int) : Option (List Nat × Int) :=
  if l.length ≤ i then none
  else if isWs (l.getD i.toNat 0) = false then none
  else if l.length ≤ scanI isWs l i then none
  else match closerOf (l.getD (scanI isWs l i).toNat 0) with
    | none => none
    | some cl => match ttlI (l.getD (scanI isWs l i).toNat 0) cl l (scanI isWs l i + 1) with
      | none => none
      | some (a, e) => some (unescL a, e)
section
variable {l : List Nat} {i : Int}
theorem titleR_1 (h : l.length ≤ i) : titleR l i = none := by unfold titleR; rw [if_pos h]
theorem titleR_2 (h : isWs (l.getD i.toNat 0) = false) : titleR l i = none := by unfold titleR; rw [if_pos h]; split <;> rfl
theorem titleR_3 (h : l.length ≤ scanI isWs l i) : titleR l i = none := by unfold titleR; (repeat' split) <;> first | rfl | omega
theorem titleR_4 (h : closerOf (l.getD (scanI isWs l i).toNat 0) = none) : titleR l i = none := by unfold titleR; rw [h]; dsimp only; (repeat' split) <;> first | rfl | omega
theorem titleR_5 {cl : Nat} (h : closerOf (l.getD (scanI isWs l i).toNat 0) = some cl) (h2 : ttlI (l.getD (scanI isWs l i).toNat 0) cl l (scanI isWs l i + 1) = none) : titleR l i = none := by
  unfold titleR; rw [h]; dsimp only; rw [h2]; dsimp only; (repeat' split) <;> first | rfl | omega
theorem titleR_6 {cl : Nat} {a : List Nat} {e : Int} (h0 : ¬ l.length ≤ i) (h1 : isWs (l.getD i.toNat 0) = true) (h3 : ¬ l.length ≤ scanI isWs l i) (h : closerOf (l.getD (scanI isWs l i).toNat 0) = some cl)
    (h2 : ttlI (l.getD (scanI isWs l i).toNat 0) cl l (scanI isWs l i + 1) = some (a, e)) : titleR l i = some (unescL a, e) := by
  unfold titleR; rw [if_neg h0, if_neg (by simp only [h1]; decide), if_neg h3, h]; dsimp only; rw [h2]
end
/-- no line's end before a blank -/
def NoBlank (l : List Nat) : Prop := ∀ j : Int, 0 ≤ j → (l.getD j.toNat 0 == 10) = true → l.getD j.toNat 0 = 10 ∧ l.getD (j + 1).toNat 0 ≠ 32 ∧ l.getD (j + 1).toNat 0 ≠ 9 ∧ l.getD (j + 1).toNat 0 ≠ 10
theorem Con.useM {prog : Program} {w : World} {K : Frag} {dep : Nat} {f : Addr} {vs : List Value} {kw : List (Str × Value)} {mt : List (Addr × Obj)} {Post : Value → List (Addr × Obj) → List (Addr × Obj) → Prop}
    {p : Program} {loose : List Str} {mean : ExcName → Option Value} {mg mb : Str → Option Value} {dp un : Nat} {gd : Option (List Code)} {cn : Str} {cs : Scope} {a : Addr} {ccd : Value} {cl : List (Str × Addr)} {outer : List Env} {A₀ : Around} {base h₀ : Heap} {L : Addr} {m : Str → Option Value} {all : List (Addr × Obj)} {s : Shared} {Q E : Value → Shared → Prop}
    (rest : List (Addr × Obj)) (c : Con prog w K dep f vs kw mt Post) (B : Below A₀ base outer h₀) (F : Fr h₀ L s.heap m) (X : K.In h₀) (N : News h₀ L s.heap all) (hall : ∀ p ∈ mt ++ rest, p ∈ all) (hz : ∀ p ∈ mt, ∀ q ∈ rest, p.1 ≠ q.1) (T : Top p loose mean mg mb h₀) (hk : cs.kind = .function) (hd : dp + dep < recursionLimit) (hu : un + 8 * dep < cLine)
    (h : ∀ (v : Value) (h' : Heap) (tk' : Nat) (new mt' : List (Addr × Obj)), Post v new mt' → (∀ p ∈ new ++ mt', ∀ q ∈ rest, p.1 ≠ q.1) → Fr h₀ L h' m → News h₀ L h' (new ++ mt' ++ rest) → Q v { s with heap := h', toks := tk' }) :
    wpAny (model prog w) (ktrTop dp un gd cn cs L a ccd cl outer) (call (.ref f) vs kw) Q E s :=
  c p loose mean mg mb dp un gd cn cs a ccd cl outer A₀ base h₀ L m rest s Q E B F X (fun p hp => N p (hall p hp)) hz T hk hd hu h
theorem mem_more {x : Addr × Obj} {mt r : List (Addr × Obj)} (h : ∀ p ∈ mt, p ∈ r) : ∀ p ∈ [x] ++ mt, p ∈ x :: r := by
  intro p hp
  rcases List.mem_append.mp hp with hp | hp
  · rw [List.mem_singleton.mp hp]; exact List.mem_cons_self ..
  · exact List.mem_cons_of_mem _ (h p hp)
theorem allLt_mem {d : Addr} : ∀ {l : List (Addr × Obj)}, AllLt d l → ∀ p ∈ l, p.1 < d
  | [], _, _, hp => nomatch hp
  | q :: r, h, p, hp => by
    rcases List.mem_cons.mp hp with rfl | hp
    · exact h.1
    · exact allLt_mem h.2 p hp
theorem get_closer2 {prog : Program} {w : World} {A : Around} {E : Value → Shared → Prop} {s : Shared} {d : Addr} {D : List (PyData × PyData)} {c : Nat} {t : Tok} {Q : Value → Shared → Prop} (T : StrTab prog w s.heap d D) (hD : D = closerD)
    (h1 : closerOf c = none → Q .none { s with toks := s.toks + 1 }) (h2 : ∀ e t', closerOf c = some e → Q (.str (S [e]) t') { s with toks := s.toks + 1 }) :
    wpAny (model prog w) A (call (.builtin "dict.get") [.ref d, .str (S [c]) t]) Q E s := by
  refine get_closer T hD fun t' => ?_
  cases hc : closerOf c with
  | none => exact h1 hc
  | some e => exact h2 e t' hc
abbrev TSt := Int × Tok × List (List Nat × Tok) × Nat
def TInv (op cl : Nat) (l : List Nat) (i₀ : Int) (c : TSt) : Prop :=
  i₀ ≤ c.1 ∧ c.1 ≤ l.length ∧ (c.2.2.1.length : Int) ≤ c.1 ∧ ((c.2.2.1.map (·.1)).flatten.length : Int) ≤ c.1 ∧ addP (c.2.2.1.map (·.1)).flatten (ttlI op cl l c.1) = ttlI op cl l i₀
theorem ttl_while {prog : Program} {w : World} {A : Around} {E : Value → Shared → Prop} {Q : Flow → Shared → Prop} {s : Shared} {env : Env} {h₀ : Heap} {L D : Addr} {test : Expr} {body : List Stmt} {pos : Pos} {m₀ : Str → Option Value} {led : List (Addr × Obj)} {i₀ : Int} {t₀ : Tok} {op cl : Nat} {l : List Nat}
    (_hcl : closerOf op = some cl) (_hl : l.length < 2 ^ 20) (F : Fr h₀ L s.heap m₀) (N : News h₀ L s.heap ((D, W.listOf #[] 0) :: led)) (hpos : m₀ (Str.ofString "pos") = some (.int i₀ t₀)) (hi0 : 0 ≤ i₀) (hi1 : i₀ ≤ l.length)
    (turn : ∀ (c : TSt) (u : Str → Option Value) h tk, TInv op cl l i₀ c → Fr h₀ L h (kstB (fun z => if [Str.ofString "c"].contains z then u z else m₀ z) [(Str.ofString "pos", .int c.1 c.2.1)]) → News h₀ L h ((D, lstObj (strV c.2.2.1) c.2.2.2) :: led) →
      wpAny (model prog w) A (isTrue test env (eval test env)) (fun b s₂ =>
        if b = true then wpAny (model prog w) A (execs body env) (MPost h₀ L s (fun c : TSt => (D, lstObj (strV c.2.2.1) c.2.2.2) :: led) (fun c : TSt => [(Str.ofString "pos", .int c.1 c.2.1)]) [Str.ofString "c"] m₀ (TInv op cl l i₀) (fun c : TSt => (l.length - c.1).toNat) Q c) E s₂ else Q .next s₂) E { s with heap := h, toks := tk })
    (hE : PassesOwn (model prog w) A env E := by passes_own) :
    wpAny (model prog w) A (exec (.While test body [] pos) env) Q E s := by
  refine m_while (σ := TSt) (fun c : TSt => (D, lstObj (strV c.2.2.1) c.2.2.2) :: led) (fun c : TSt => [(Str.ofString "pos", .int c.1 c.2.1)]) [Str.ofString "c"] (TInv op cl l i₀) (fun c : TSt => (l.length - c.1).toNat) (i₀, t₀, [], 0) F N ?_ ⟨Int.le_refl _, hi1, by simpa using hi0, by simpa using hi0, addP_nil _⟩ turn hE
  intro q hq; rw [List.mem_singleton.mp hq]; exact hpos
/-- a turn's end: a text is pushed, the place goes on -/
theorem ttl_next {h₀ : Heap} {L D : Addr} {s : Shared} {m₀ m' : Str → Option Value} {led : List (Addr × Obj)} {i₀ k : Int} {op cl n n' : Nat} {l a : List Nat} {pl : List (List Nat × Tok)} {tj tk' u : Tok} {j : Int} {h' : Heap} {tk : Nat}
    (F : Fr h₀ L h' m') (N : News h₀ L h' ((D, W.listOf ((strV pl).toArray.push (.str (S a) u)) n') :: led)) (hI : TInv op cl l i₀ (j, tj, pl, n)) (hk : j < k) (hk1 : k ≤ l.length) (ha : (a.length : Int) ≤ k - j) (ht : ttlI op cl l j = addP a (ttlI op cl l k))
    (hp : m' (Str.ofString "pos") = some (.int k tk')) (hr : ∀ z, z ≠ Str.ofString "pos" → z ≠ Str.ofString "c" → m' z = m₀ z) :
    MEnd h₀ L s (fun c : TSt => (D, lstObj (strV c.2.2.1) c.2.2.2) :: led) (fun c : TSt => [(Str.ofString "pos", .int c.1 c.2.1)]) [Str.ofString "c"] m₀ (TInv op cl l i₀) (fun c : TSt => (l.length - c.1).toNat) (j, tj, pl, n) { s with heap := h', toks := tk } := by
  have eN : W.listOf ((strV pl).toArray.push (.str (S a) u)) n' = lstObj (strV (pl ++ [(a, u)])) n' := by simp [W.listOf, lstObj, strV]
  rw [eN] at N
  obtain ⟨a1, a2, a3, a4, a5⟩ := hI
  dsimp only at a1 a2 a3 a4 a5
  refine m_end (k, tk', pl ++ [(a, u)], n') F N (fun _ h => h) ?_ ?_ ⟨by dsimp only; omega, by dsimp only; omega, ?_, ?_, ?_⟩ (by dsimp only; omega)
  · intro q hq; rw [List.mem_singleton.mp hq]; exact hp
  · intro z h1 h2
    refine hr z (h1 _ (List.mem_singleton.mpr rfl)) ?_
    rintro rfl
    exact absurd h2 (by decide)
  · dsimp only; rw [List.length_append, List.length_singleton]; omega
  · dsimp only; rw [flat_len]; omega
  · dsimp only
    rw [← a5, ht, addP_addP]
    simp
end Mine

end SMW

section SCF
open PySem PySem.W PyProof.Rows PySem.Calls PySem.Spec
theorem Mine.offCF : True := by w_top off; exact trivial
namespace Mine
section
local macro_rules | `(tactic| cell_enter) => `(tactic| (refine wpAny_call ?_; refine' con_code (by assumption) ?k1 ?k2 ?k3 ?k4 ?kz ?k5 ?kA ?kF ?kK ?k6 ?k7 ?k8 ?k9 ?kB (by assumption) ?kQ ?_ ?c2 ?c3 ?c4 ?c5; (case kA => exact rfl); (case kF => exact rfl); (case kK => assumption); (case k1 => k_asm); (case k2 => k_asm); (case k3 => k_asm); (case k4 => k_asm); (case kz => assumption); (case k5 => k_asm); (case k6 => k_is); (case k7 => k_is); (case k8 => ktr_room); (case k9 => (refine' kp_binds ?kx ?ke; (case kx => k_in); (case ke => exact fun _ => rfl))); (case kQ => exact fun _ _ q => q); (case c5 => decide); (case kB => exact locs rfl); (case c2 => exact rfl); (case c3 => exact rfl); (case c4 => exact rfl); k_whole; intro g' L' h' F' N' B' X' T' l0; (try k_lt l0); (try dsimp only); (try k_fold)))
local macro_rules | `(tactic| walk_at "subscriptTail") => `(tactic| ((with_reducible show wpAny _ _ (subscriptTail _ _ (Value.str (S _) _) (Value.int _ _)) _ _ _); refine sub_S (by omega) (by omega) (by omega) ?_))
local macro_rules | `(tactic| walk_at "subscriptTail Name Name str int") => `(tactic| (refine sub_S (by omega) (by omega) (by omega) ?_))
local macro_rules | `(tactic| walk_at "compareOp In str str") => `(tactic| first | refine in_ws ?_ | refine in_punct ?_ | refine in_blank ?_ | refine in_nl ?_ | refine in_ang ?_)
local macro_rules | `(tactic| walk_at "call builtin:len") => `(tactic| refine len_S (by omega) ?_)
local macro_rules | `(tactic| walk_at "call builtin:ord") => `(tactic| refine ord_ch ?_)
local macro_rules | `(tactic| walk_at "compareOp Eq str str") => `(tactic| first
  | refine eq_ch (d := 60) (by decide : Str.ofString "<" = S [60]) ?_
  | refine eq_ch (d := 62) (by decide : Str.ofString ">" = S [62]) ?_
  | refine eq_ch (d := 10) (by decide : Str.ofString "\n" = S [10]) ?_
  | refine eq_ch (d := 13) (by decide : Str.ofString "\x0d" = S [13]) ?_
  | refine eq_ch (d := 40) (by decide : Str.ofString "(" = S [40]) ?_
  | refine eq_ch (d := 41) (by decide : Str.ofString ")" = S [41]) ?_
  | refine eq_ch (d := 92) (by decide : Str.ofString "\\" = S [92]) ?_
  | refine eq_ch (d := 0) (by decide : Str.ofString "\x00" = S [0]) ?_
  | refine eq_ch (d := 127) (by decide : Str.ofString "\x7f" = S [127]) ?_)
local macro_rules | `(tactic| walk_at "compareOp NotEq str str") => `(tactic| first
  | refine ne_ch (d := 41) (by decide : Str.ofString ")" = S [41]) ?_)
local macro_rules | `(tactic| walk_at "subscriptTail Name Slice str ref") => `(tactic| ((with_reducible show wpAny _ _ (subscriptTail _ (Expr.Slice (some _) (some _) none _) (Value.str (S _) _) _) _ _ _); (refine slice_go (s := ⟨_, _, _, _, _⟩) (by assumption) (by assumption) (by omega) (by omega) (by omega) (by omega) ?_); intro h' t' tk' F' N'))
local macro_rules | `(tactic| walk_at "ite") => `(tactic| first
  | with_reducible refine ite_tt ?_ | with_reducible refine ite_ff ?_ | with_reducible refine split_not ?_
  | with_reducible refine boolT (by with_reducible assumption) ?_ | with_reducible refine boolF (by with_reducible assumption) ?_
  | with_reducible refine decT (by omega) ?_ | with_reducible refine decF (by omega) ?_
  | (with_reducible refine split_ine ?_ ?_ <;> intro _) | (with_reducible refine split_ieq ?_ ?_ <;> intro _)
  | (with_reducible refine PyProof.Rows.split_dec ?_ ?_ <;> intro _) | (with_reducible refine PyProof.Rows.split_bool ?_ ?_ <;> intro _))
local macro_rules | `(tactic| ksw_same) => `(tactic| (intro z h2 h3; (simp only [List.forall_mem_cons, List.not_mem_nil, false_implies, implies_true, and_true, ne_eq] at h2); (simp only [List.contains_cons, List.contains_nil, Bool.or_false, Bool.or_eq_false_iff, beq_eq_false_iff_ne, ne_eq] at h3); simp only [h2, h3, if_false, List.contains_cons, List.contains_nil, Bool.or_false, Bool.or_eq_true, beq_iff_eq, or_self, or_false, false_or, Bool.false_eq_true]))
local macro_rules | `(tactic| walk_at "MPost") => `(tactic| (dsimp only [MPost]))
local macro_rules | `(tactic| walk_at "truthy str") => `(tactic| first | refine truthy_cons (by simp only [List.length_nil]; omega) ?_ | refine truthy_S (by omega) ?_)
local macro_rules | `(tactic| walk_at "binaryOp Add str str") => `(tactic| first
  | (refine add_SS (a := []) (b := _) (by decide : Str.ofString "" = S []) rfl (by simp only [List.length_nil, List.length_cons]; omega) ?_; intro t' tk')
  | (refine add_SS rfl rfl (by simp only [List.length_nil, List.length_cons, List.length_append]; omega) ?_; intro t' tk'))
local macro_rules | `(tactic| walk_at "compareOp NotIn str str") => `(tactic| refine notin_ws ?_)

local macro_rules | `(tactic| walk_at "compareOp Eq str str") => `(tactic| (with_reducible show wpAny _ _ (compareOp CmpOp.Eq (Value.str (S _) _) (Value.str (S _) _)) _ _ _); refine eq_ch rfl ?_)
local macro_rules | `(tactic| walk_at "getMethod ref") => `(tactic| ((with_reducible show wpAny _ _ (getMethod (Value.ref 74) _ _) _ _ _); refine getMethod_builtin (T := "re.Pattern") (Q := _) ⟨_, (Frag.In.keeps (by assumption) (Fr.keep (by assumption))) _ _ (by k_dflt k_is), rfl⟩ plainAttrs_rePattern slot_re_match type_re_match (fun a e => by cases e; exact ⟨_, (Frag.In.keeps (by assumption) (Fr.keep (by assumption))) _ _ (by k_dflt k_is), rfl⟩) ?_))
local macro_rules | `(tactic| walk_at "call builtin:dict.get") => `(tactic| (k_dflt (refine get_closer2 (by k_tabat) (by kernel_rfl) (fun hcl => ?_) (fun ecl tcl hcl => ?_))))
theorem pat_blk (w : World) : PatIn (hd.heap_39 w.params) 74 blkC 0 := ⟨_, 73, _, _, _, _, by rfl, by rfl, by rfl, by rfl, by rfl, by rfl, by decide +kernel⟩
theorem c_title (w : World) (l : List Nat) (tx ti tn : Tok) (i : Int) (mt : List (Addr × Obj)) (h0 : 0 ≤ i) (h1 : i ≤ l.length) (h2 : l.length < 2 ^ 20) (hnb : NoBlank l) (hm : TabL mt) :
    Con PySem.Challenge.rw_ci0012_01.row.prog w (hd.heap_39 w.params) 3 97 [.str (S l) tx, .int i ti, .int l.length tn] [] mt (fun v new mt' => (∃ r o, v = .ref r ∧ new = [(r, o)] ∧ match titleR l i with
      | some (a, e) => ∃ t1 t2, o = tupObj [.str (S a) t1, .int e t2]
      | none => o = tupObj [.none, .none]) ∧ TabL mt') := by
  k_fill
  intro p loose mean mg mb dp un gd cn cs a ccd cl outer A₀ base h₀ L m rest s Q E B F X N hz T hk hdp hun hret
  k_with_none
  have hb : BindsAre [(Str.ofString "src", .str (S l) tx), (Str.ofString "start_pos", .int i ti), (Str.ofString "max_pos", .int l.length tn)] := trivial
  k_with "call ref" => (refine Con.use0 (c_skip3 w l _ _ _ _ (by omega) (by omega) (by omega)) (by assumption) (by assumption) (by assumption) (by assumption) (by assumption) (by first | assumption | rfl) (by ktr_room) (by ktr_units) ?_; rintro v h' tk' new mt' ⟨⟨t, rfl⟩, rfl, rfl⟩ hne F' N'; (try simp only [List.nil_append] at N'); have hst := scanI_le isWs (l := l) (i := i) (by omega) (by omega))
  k_with "exec While Compare cons nil" => (refine ttl_while (l := l) (by assumption) (by assumption) (by assumption) (by assumption) rfl (by omega) (by omega) ?_; rintro ⟨j, tj, pl, n⟩ u h tk hI FW NW; have hI2 := hI; obtain ⟨hj0, hj1, hp0, hp1, -⟩ := hI2; dsimp only at hj0 hj1 hp0 hp1; dsimp only [kstB] at FW; dsimp only at NW)
  k_with "call builtin:list.append" => (refine append_go (by assumption) (by assumption) (by intro q hq; rcases List.mem_cons.mp hq with rfl | hq; · omega; · exact Nat.ne_of_lt (allLt_mem (by assumption) q hq)) (by simp only [strV, List.length_map]; omega) ?_; intro h' F' N')
  k_with "call builtin:re.Pattern.match" => (have hh := hnb j (by omega) (by assumption); refine match_none (Frag.In.keeps (by assumption) (Fr.keep (by assumption))) (pat_blk w) (by assumption) (by omega) (by omega) hh.1 hh.2.1 hh.2.2.1 hh.2.2.2 ?_)
  k_with "call builtin:str.join" => (refine join_lit (by decide) (by assumption) (by omega) ?_; intro tjo kjo)
  k_with "call ref" => (refine Con.useM [] (c_unesc w _ _ mt (by omega) hm) (by assumption) (by assumption) (by assumption) (by assumption) (by intro q hq; rw [List.append_nil] at hq; exact .tail _ (.tail _ hq)) (by intro p hp q hq; cases hq) (by assumption) (by first | assumption | rfl) (by ktr_room) (by ktr_units) ?_; rintro v h' tk' new mt' ⟨⟨t, rfl⟩, rfl, hTab⟩ hne F' N'; (try simp only [List.nil_append, List.append_nil] at N'))
  k_dflt cell_enter
  clear B F X N hz T hret
  k_steps
  all_goals first
    | (refine ttl_next (k := j + 2) (by assumption) (by assumption) hI (by omega) (by omega) (by rw [subI_two (by omega) (by omega)]; simp only [List.length_cons, List.length_nil]; omega) ?_ rfl (by intro z hz1 hz2; simp only [hz1, hz2, if_false, List.contains_cons, List.contains_nil, Bool.or_false, beq_iff_eq])
       rw [subI_two (by omega) (by omega)]; exact ttl_esc (by omega) (by omega) (by assumption) (by first | exact .inl (by assumption) | exact .inr (by assumption)) (by assumption) (by assumption))
    | (refine ttl_next (k := j + 1) (by assumption) (by assumption) hI (by omega) (by omega) (by simp only [List.length_cons, List.length_nil]; omega) ?_ rfl (by intro z hz1 hz2; simp only [hz1, hz2, if_false, List.contains_cons, List.contains_nil, Bool.or_false, beq_iff_eq])
       exact ttl_one (by omega) (by omega) (by assumption) (by first | exact .inl (by assumption) | exact .inr (by assumption)) (by first | exact .inl (by assumption) | exact .inr (.inl (by assumption)) | exact .inr (.inr (by omega))) (by assumption))
    | (refine Ends.mk [_] mt (by assumption) (by assumption) (mem_more (by intro q hq; first | exact hq | exact .tail _ hq | exact .tail _ (.tail _ hq))) ⟨⟨_, _, rfl, rfl, ?_⟩, hm⟩
       rw [show titleR l i = none by first
         | exact titleR_1 (by assumption) | exact titleR_2 (by assumption) | exact titleR_3 (by assumption) | exact titleR_4 (by assumption)
         | exact titleR_5 (by assumption) (hI.2.2.2.2.symm.trans (by rw [show ttlI _ _ l j = none by first | exact ttl_end (by omega) | exact ttl_zero (by omega) (by omega) (by assumption) | exact ttl_open (by omega) (by omega) (by assumption) (by assumption) (by assumption)]; rfl))])
    | (refine Ends.mk [_] _ (by assumption) (by assumption) (mem_more (fun _ hq => hq)) ⟨⟨_, _, rfl, rfl, ?_⟩, hTab⟩
       rw [titleR_6 (by assumption) (by assumption) (by assumption) (by assumption) (hI.2.2.2.2.symm.trans (by rw [ttl_close (by omega) (by omega) (by assumption) (by first | exact .inl (by assumption) | exact .inr (by assumption)) (by first | exact .inl (by assumption) | exact .inr (.inl (by assumption)) | exact .inr (.inr (by omega))) (by assumption)]; rfl))]
       rw [List.append_nil]; exact ⟨_, _, rfl⟩)
end
end Mine

end SCF

section SMX
open PySem PySem.W PyProof.Rows PySem.Calls PySem.Spec PySem.F
set_option Elab.async false
set_option maxRecDepth 100000
set_option maxHeartbeats 4000000
namespace Mine
theorem con_codeC {prog : Program} {w : World} {A₀ A : Around} {s : Shared} {base h₀ : Heap} {outer : List Env} {L : Addr} {m mg mb : Str → Option Value} {mt rest : List (Addr × Obj)} {K : Frag} {env : Env} {p : Program} {loose : List Str} {mean : ExcName → Option Value}
    {R : Result → Shared → Prop} {Q : Value → Shared → Prop} {Post : Value → List (Addr × Obj) → List (Addr × Obj) → Prop} {name qual : Str} {params : Arguments} {body : List Stmt} {scope : Scope} {dV kV doc pm cdv ct oc : Value} {an od : Option Addr} {osl : Array (Option Value)} {f : Addr} {args : Args} {binds : List (Str × Value)}
    (_hb : BindsAre binds) (B : Below A₀ base outer h₀) (F : Fr h₀ L s.heap m) (X₀ : K.In h₀) (N : News h₀ L s.heap (mt ++ rest)) (hdis : ∀ p ∈ mt, ∀ q ∈ rest, p.1 ≠ q.1) (T : Top p loose mean mg mb h₀) (hA : A.frames = some (env :: outer)) (hf : env.frame = some L) (hke : env.scope.kind = .function)
    (ho : K.lookup f = some ⟨oc, od, .func (fnOf name qual params body scope dV kV doc pm an cdv ct), osl⟩) (hcd : codeIn K cdv qual = true) (hroom : A.depth < recursionLimit)
    (hbind : BindsTo s (fnOf name qual params body scope dV kV doc pm an cdv ct) args binds)
    (hkind : (binds.all fun y => scope.names.lookup y.1 == some .local || scope.names.lookup y.1 == some .cell) = true) (hnd : ((cellsFrom 0 scope.names []).map (·.1)).Nodup)
    (hret : ∀ (v : Value) (h' : Heap) (tk' : Nat) (new mt' : List (Addr × Obj)), Post v new mt' → (∀ p ∈ new ++ mt', ∀ q ∈ rest, p.1 ≠ q.1) → Fr h₀ L h' m → News h₀ L h' (new ++ mt' ++ rest) → Q v { s with heap := h', toks := tk' })
    (hR : ∀ v s', Q v s' → R (.ok (.ret v)) s')
    (h : ∀ g L' h₁ tk cells, Fr g L' h₁ (bindL (envOfC qual scope L' f cdv).kindOf binds fun _ => none) → News g L' h₁ (cells ++ mt) → CellsAre (bindC (envOfC qual scope L' f cdv).kindOf binds fun _ => none) (cellsFrom (L' + 1) scope.names []) cells → Below A base (env :: outer) g → K.In g → Top p loose mean mg mb g → (∀ p ∈ mt, p.1 < L') →
      wpAny (model prog w) (A.deeper (envOfC qual scope L' f cdv)) (execs body (envOfC qual scope L' f cdv))
        (fun fl s' => Ends g L' s Post (match fl with | .ret v => v | _ => .none) s')
        (fun e s' => wpAny (model prog w) (A.deeper (envOfC qual scope L' f cdv)) (leaving (envOfC qual scope L' f cdv) e) (fun _ s'' => R (.error e) s'') (fun e' s'' => R (.error e') s'') s')
        { s with heap := h₁, toks := tk })
    (hco : scope.isCoroutine = false) (hgen : scope.isGenerator = false) (hk : scope.kind = .function) : codeAny (model prog w) A (.call (.ref f) args) R s := by
  have Nm : News h₀ L s.heap mt := fun p hp => N p (List.mem_append_left _ hp)
  obtain ⟨FG, BG, st₀, _⟩ := groundX (R := R) B F Nm hA hf hke
  have st : ∀ (b : Addr) (o : Obj), h₀.get? b = some o → (hideAll s.heap (mt.map (·.1))).get? b = some o := st₀
  have KG := X₀.keeps st
  have TG := T.keeps st
  refine codeAny_call_function hroom ((X₀.keeps F.keep) _ _ ho) rfl hco hgen rfl (codeRec_of (X₀.keeps F.keep) hcd) (hbind _ _ _ _ ?_)
  refine wpAny_newFunctionEnv_cells hk (kindsX hkind _) fun env' he s' x => ?_
  subst he
  refine ⟨(T.nolimit.keeps F.keep).keeps x.toInCall.keep, codeAny_func ?_⟩
  obtain ⟨h₁, tk, rfl, _⟩ := x.done
  have hk₁ := x.toInCall.keep
  obtain ⟨cells, NC, Y⟩ := Cl.news (h₀ := s.heap) (Nat.le_refl _) fun n c hm => ⟨x.cell n c (lookup_of_mem_nodup (cellsFrom_names scope.names 0 (s.heap.objs.size + 1) [] [] rfl ▸ hnd) hm), x.above n c hm⟩
  refine wpAny_mono (h (hideAll s.heap (mt.map (·.1))) s.heap.objs.size h₁ tk cells ⟨x.toInCall.ns, fun b o e => hk₁ b o (of_hideAll _ e), Nat.le_of_eq (hideAll_size _ _)⟩ (fun p hp => ?_) Y BG KG TG (fun p hp => Heap.lt_size (Nm p hp).1)) (fun fl s' hl => ?_) fun _ _ y => y
  · rcases List.mem_append.mp hp with hp | hp
    · refine ⟨(NC p hp).1, (NC p hp).2.1, ?_⟩
      cases q : (hideAll s.heap (mt.map (·.1))).get? p.1 with
      | none => rfl
      | some o => have := of_hideAll _ q; rw [(NC p hp).2.2] at this; cases this
    · exact ⟨hk₁ _ _ (Nm p hp).1, Nat.ne_of_lt (Heap.lt_size (Nm p hp).1), hideAll_none _ (List.mem_map_of_mem hp)⟩
  · obtain ⟨h', tk', m', new, mt', rfl, F', N', hP⟩ := hl
    have hg : ∀ q ∈ rest, (hideAll s.heap (mt.map (·.1))).get? q.1 = some q.2 := fun q hq => hideAll_get _ (N q (List.mem_append_right _ hq)).1 fun hm => by
      obtain ⟨p, hp, e⟩ := List.mem_map.mp hm
      exact hdis p hp q hq e
    obtain ⟨oL, es, ep, hL, hLd, hLk, hLf⟩ := FG.ns
    refine hR _ _ (hret _ h' tk' new mt' hP (fun p hp q hq e => ?_) ⟨⟨oL, es, ep, F'.keep _ _ hL, hLd, hLk, hLf⟩, fun b o e => F'.keep b o (st b o e), F.above⟩ fun p hp => ?_)
    · have h1 := (N' p hp).2.2
      rw [e, hg q hq] at h1; cases h1
    · rcases List.mem_append.mp hp with hp | hp
      · refine ⟨(N' p hp).1, fun q => ?_, ?_⟩
        · have h1 := (N' p hp).2.2
          rw [q, hL] at h1; cases h1
        · cases q : h₀.get? p.1 with
          | none => rfl
          | some o => have h1 := (N' p hp).2.2; rw [st _ _ q] at h1; cases h1
      · exact ⟨F'.keep _ _ (hg p hp), (N p (List.mem_append_right _ hp)).2⟩
end Mine

end SMX

section SMY
open PySem PySem.W PyProof.Rows PySem.Calls PySem.Spec PySem.F
set_option Elab.async false
set_option maxRecDepth 100000
set_option maxHeartbeats 4000000
namespace Mine
open Builtin Builtin._codecs Builtin.Float
/-- the signs that quote turns to percent form here, and the two figures -/
def hexOf (c : Nat) : Option (List Nat) :=
  if c = 91 then some [53, 66] else if c = 34 then some [50, 50] else if c = 39 then some [50, 55] else if c = 60 then some [51, 67] else if c = 62 then some [51, 69] else if c = 92 then some [53, 67] else if c = 32 then some [50, 48] else none
theorem enc_one (id : String) (self : Value) {c : Nat} {d : List Nat} (hc : hexOf c = some d) : encodeNarrow id utf8Codec none self (S [c]) = pure #[c.toUInt8] := by
  have hb : utf8Codec.bad c = false ∧ Str.utf8Of c = [c.toUInt8] := by
    unfold hexOf at hc
    (repeat' split at hc) <;> first | (subst c; decide) | cases hc
  unfold encodeNarrow
  simp only [S_len, List.length_cons, List.length_nil]
  simp [Std.Legacy.Range.forIn_eq_forIn_range', Std.Legacy.Range.size, S, hb.1]
  simp [utf8Codec, hb.2]
section
variable {prog : Program} {w : World} {A : Around} {E : Value → Shared → Prop} {s : Shared}
theorem encode_go {c : Nat} {t u : Tok} {Q : Value → Shared → Prop} {d : List Nat} (hc : hexOf c = some d) (h : Q (.bytes #[c.toUInt8] s.toks) { s with toks := s.toks + 1 }) :
    wpAny (model prog w) A (call (.builtin "str.encode") [.str (S [c]) t, .str (Str.ofString "utf-8") u]) Q E s := by
  refine wpAny_call_entry slot_str_encode (typeIs_str _ _ _) entry_str_encode ?_ (args_str_encode_2 _ _)
  have e : Builtin.«str.encode» ⟨[Value.str (S [c]) t, Value.str (Str.ofString "utf-8") u], []⟩ = (do ret (← encodeRoad "str.encode" (.str (S [c]) t) (S [c]) (Str.ofString "utf-8") none)) := by
    with_unfolding_all rfl
  rw [e, encodeRoad_utf8, enc_one _ _ hc]
  exact wpAny_bind (wpAny_bind (wpAny_pure (wpAny_mkBytes (wpAny_pure ⟨_, rfl, h⟩) (by rw [sizeLine_eq]; simp))))
theorem hex_fmt {c : Nat} {t : Tok} {Q : Value → Shared → Prop} {d : List Nat} (hc : hexOf c = some d)
    (h : Q (.str (S d) (s.toks + 1)) { s with toks := s.toks + 1 + 1 }) :
    wpAny (model prog w) A (formatField (.int (c.toUInt8.toNat : Nat) t) (Str.ofString "02X")) Q E s := by
  refine wpAny_formatField_spec (T := "int") (by decide) (fun s' => typeIs_int _ _ _) F.slot_int_format F.entry_int_format F.args_int_format_2 (fun u => ?_) h (by size_fits) ?_
  · intro prog w A R s hq
    have hne : ((Str.ofString "02X").length == 0) = false := by decide
    have hasc : (((Str.ofString "02X").cps.toList.drop 1).any (· ≥ 128) || ((Str.ofString "02X").cps.getD 0 0 ≥ 128 && !([60, 62, 61, 94] : List Nat).contains ((Str.ofString "02X").cps.getD 1 0))) = false := by decide
    have hp : parseFormatSpec (Str.ofString "02X").cps.toList "int" 62 = .ok { fill := 48, align := 61, width := some 2, type := some 88 } := by rfl
    unfold Builtin.«int.__format__»
    simp only [selfAndOne, noKeywords, Int.intOfSelf, asInt?, asStr?, List.isEmpty_nil, if_true, pure_bind, bind_pure, bind_assoc, hne, hasc, Bool.false_eq_true, if_false,
      show (Value.str (Str.ofString "02X") u == Value.none) = false from rfl]
    refine wpAny_bind (wpAny_typeNameOf (T := "str") (typeIs_str _ _ _) (by decide) fun _ => ?_)
    refine wpAny_bind (wpAny_typeNameOfCut_int ?_)
    simp only [hp]
    unfold hexOf at hc
    (repeat' split at hc) <;> first | (cases hc; subst c; exact Gives.of_eq (by with_unfolding_all rfl) prog w A R s hq) | cases hc
  · unfold hexOf at hc
    (repeat' split at hc) <;> cases hc <;> (rw [S_len, sizeLine_eq]; decide)
end
end Mine
namespace Mine
/-- the signs that quote keeps as they are -/
abbrev safeA : List Nat := [65, 66, 67, 68, 69, 70, 71, 72, 73, 74, 75, 76, 77, 78, 79, 80, 81, 82, 83, 84, 85, 86, 87, 88, 89, 90, 97, 98, 99, 100, 101, 102, 103, 104, 105, 106, 107, 108, 109, 110, 111, 112, 113, 114, 115, 116, 117, 118, 119, 120, 121, 122, 48, 49, 50, 51, 52, 53, 54, 55, 56, 57, 95, 46, 45, 126]
abbrev safeB : List Nat := [58, 47, 63, 35, 64, 33, 36, 38, 40, 41, 42, 43, 44, 59, 61, 37]
def isKept (c : Nat) : Bool := (safeA ++ safeB).contains c
def quoteC (c : Nat) : List Nat := if isKept c = true then [c] else match hexOf c with | some d => 37 :: d | none => []
def quoteL (l : List Nat) : List Nat := (l.map quoteC).flatten
def Quotable (l : List Nat) : Prop := ∀ c ∈ l, isKept c = true ∨ ∃ d, hexOf c = some d
theorem Quotable.hex {l : List Nat} {c : Nat} (h : Quotable l) (hm : c ∈ l) (hk : isKept c = false) : ∃ d, hexOf c = some d := by
  rcases h c hm with x | x
  · rw [hk] at x; cases x
  · exact x
theorem hex_len {c : Nat} {d : List Nat} (h : hexOf c = some d) : d.length = 2 := by
  unfold hexOf at h
  (repeat' split at h) <;> cases h <;> rfl
theorem quoteC_kept {c : Nat} (h : isKept c = true) : quoteC c = [c] := by unfold quoteC; rw [if_pos h]
theorem quoteC_hex {c : Nat} {d : List Nat} (h : isKept c = false) (hd : hexOf c = some d) : quoteC c = 37 :: d := by unfold quoteC; rw [if_neg (by rw [h]; decide), hd]
theorem quoteC_le (c : Nat) : (quoteC c).length ≤ 3 := by
  unfold quoteC
  split
  · simp
  · split
    · rename_i d h; simp [hex_len h]
    · simp
theorem quoteL_le (l : List Nat) : (quoteL l).length ≤ 3 * l.length := by
  unfold quoteL
  induction l with
  | nil => simp
  | cons c r ih =>
    have := quoteC_le c
    simp only [List.map_cons, List.flatten_cons, List.length_append, List.length_cons] at ih ⊢
    omega
theorem pct_d {d : List Nat} : Str.empty ++ Str.ofString "%" ++ S d = S (37 :: d) := by
  show Str.append (Str.append _ _) _ = _
  have h : Str.ofString "%" = S [37] := by decide
  rw [h]
  simp [Str.append, S, Str.empty]
theorem hex_join {c : Nat} {d : List Nat} (h : hexOf c = some d) : (Str.empty ++ Str.ofString "%" ++ S d).length ≤ sizeLine := by
  rw [pct_d, S_len, sizeLine_eq, List.length_cons, hex_len h]; omega
theorem in_kept {prog : Program} {w : World} {A : Around} {E : Value → Shared → Prop} {s : Shared} {c : Nat} {t u : Tok} {Q : Value → Shared → Prop} (h : Q (.bool (isKept c)) s) : wpAny (model prog w) A (compareOp .In (.str (S [c]) u) (.str (S (safeA ++ safeB)) t)) Q E s := in_ch rfl h
end Mine
namespace Mine
theorem notin_amp {prog : Program} {w : World} {A : Around} {E : Value → Shared → Prop} {s : Shared} {x : Str} {l : List Nat} {t u : Tok} {Q : Value → Shared → Prop} (hx : x = S [38]) (h : Q (.bool (!l.contains 38)) s) : wpAny (model prog w) A (compareOp .NotIn (.str x u) (.str (S l) t)) Q E s := by
  subst hx
  refine notIn_str ?_
  rw [show (S [38] : Str) = ⟨#[38]⟩ from rfl, StrLaws.found_one]
  have e : decide (38 ∈ (S l).cps.toList) = l.contains 38 := by
    rw [Bool.eq_iff_iff, decide_eq_true_eq]; simp [S]
  rw [e]; exact h
end Mine

end SMY

section SMZ
open PySem PySem.W PyProof.Rows PySem.Calls PySem.Spec PyProof.Rows.LCg
set_option Elab.async false
set_option maxRecDepth 100000
set_option maxHeartbeats 4000000
namespace Mine
section
variable {prog : Program} {w : World} {A : Around} {E : Value → Shared → Prop} {s : Shared} {h₀ : Heap} {L : Addr} {m : Str → Option Value} {env : Env}
/-- something to draw from: its iterator is a new object -/
def DrawsOf (prog : Program) (w : World) (A : Around) (xv : Value) (n : Nat) (P : Nat → Value → Prop) (s : Shared) : Prop :=
  ∀ (Q E : Value → Shared → Prop), (∀ (o : Obj) (St : Nat → Heap → Prop), Walks prog w A s.heap.objs.size [s.heap.objs.size] [s.heap.objs.size] n P St → (∀ i h, St i h → ∃ o, h.get? s.heap.objs.size = some o) → St 0 (s.heap.push o) →
    Q (.ref s.heap.objs.size) { s with heap := s.heap.push o }) → wpAny (model prog w) A (pyIter xv) Q E s
theorem draws_str {l : List Nat} {t : Tok} (hh : A.handled = none) : DrawsOf prog w A (.str (S l) t) l.length (SignAt (S l)) s := by
  intro Q E hQ
  cases ha : (S l).cps.all (· < 128)
  · exact wpAny_pyIter_wide ha (hQ _ _ (Walks.strWide hh _ (S l) t) (fun i h st => by obtain ⟨o, e, _⟩ := st; exact ⟨o, e⟩) ⟨_, Heap.get?_push_size _ rfl, rfl, rfl⟩)
  · exact wpAny_pyIter_ascii ha (hQ _ _ (Walks.strAscii hh _ (S l) t) (fun i h st => by obtain ⟨o, e, _⟩ := st; exact ⟨o, e⟩) ⟨_, Heap.get?_push_size _ rfl, rfl, rfl⟩)
theorem draws_bytes {b : Array UInt8} {t : Tok} (hh : A.handled = none) : DrawsOf prog w A (.bytes b t) b.size (fun i v => ∃ c u, b[i]? = some c ∧ v = .int (c.toNat : Int) u) s := by
  intro Q E hQ
  exact KBw.pyIter_bytes (hQ _ _ (KBw.walks hh _ b t) (fun i h st => by obtain ⟨o, e, _⟩ := st; exact ⟨o, e⟩) ⟨_, Heap.get?_push_size _ rfl, rfl, rfl⟩)
def SrcG (prog : Program) (w : World) (A : Around) (h₀ : Heap) (L : Addr) (m : Str → Option Value) (env : Env) (elt : Expr) (x : Str) (scope : Scope) (cl : List (Str × Addr)) (Fin : Shared → List Value → List (Addr × Obj) → Prop) (xv : Value) (s₁ : Shared) : Prop :=
  ∃ n P news, Fr h₀ L s₁.heap m ∧ News h₀ L s₁.heap news ∧ n ≤ sizeLine ∧ DrawsOf prog w A xv n P s₁ ∧
    ∀ s₂ : Shared, (∃ h, s₂ = { s₁ with heap := h }) → CompRest prog w A h₀ L m env elt x scope cl s₂ (fun _ => True) P (Fin s₂) n 0 [] news
theorem st_same {I : Addr} {n : Nat} {P : Nat → Value → Prop} {St : Nat → Heap → Prop} (W : Walks prog w A I [I] [I] n P St) : ∀ i (h h' : Heap) (o : Obj) (nw : List (Addr × Obj)), St i h → h.get? I = some o → h'.get? I = some o → (∀ b o, h₀.get? b = some o → h'.get? b = some o) → News h₀ L h' nw → True → St i h' :=
  fun i h h' o _ st e e' _ _ _ => W.frame i h h' st fun b hb o' e'' => by
    rw [List.mem_singleton.mp hb] at e'' ⊢
    rw [e] at e''; cases e''; exact e'
theorem ListComp_G {elt iter : Expr} {x : Str} {px : Pos} {scope : Scope} {cl : List (Str × Addr)} {pos : Pos} {Q : Value → Shared → Prop} (_F₀ : Fr h₀ L s.heap m)
    (hclos : closureFor scope env = pure cl) (hcell : ∀ y ∈ scope.names, y.2 ≠ .cell) (hkind : scope.kind = .function)
    (hnames : ∀ y ∈ scope.names, y.2 = .local → scope.names.lookup y.1 = some .local) (hx : scope.names.lookup x = some .local)
    (h : wpAny (model prog w) A (eval iter env) (SrcG prog w A h₀ L m env elt x scope cl (fun s₂ => FinE h₀ L m s₂ Q)) E s)
    (hs : ∀ x, foldedSetIterable iter env x = pure x := by intro _; rfl) :
    wpAny (model prog w) A (eval (.ListComp elt [⟨.Name x px, iter, [], 0⟩] scope pos) env) Q E s := by
  rw [eval_ListComp]
  refine wpAny_comprehension_free (use := none) rfl hs hclos hkind hnames (wpAny_mono h (fun xv s₁ h₁ => ?_) fun _ _ e => e)
  obtain ⟨n, P, news, F, N, hsz, D, R⟩ := h₁
  refine D _ _ fun o St W hIo hst => ?_
  refine block_U W hsz hIo (st_same W) hcell hkind hx hst (fun b hb => ?_)
    (F.keeps fun _ _ e => Heap.get?_push_of_some _ e) (N.grown fun _ _ e => Heap.get?_push_of_some _ e) (Nat.ne_of_lt F.ns.lt) (next_is_new F) (fun p hp => Nat.ne_of_lt (Heap.lt_size (N p hp).1)) trivial (R _ ⟨_, rfl⟩) ?_
  · rw [List.mem_singleton.mp hb]
    show s₁.heap.objs.size < (s₁.heap.push _).objs.size
    rw [Heap.size_push]; exact Nat.lt_succ_self _
  · intro D C h' tk m' ys news' F' N' o1 hn hC₀ hD₀ hCL hDL hCD offC fin
    refine ⟨m', hn, fun h'' hs'' => fin D h'' tk (F'.change hs'' hCL hC₀) (fun p hp => ?_) o1⟩
    refine ⟨hs''.extBut _ _ ?_ (N' p hp).1, (N' p hp).2⟩
    rcases List.mem_cons.mp hp with rfl | hp
    · exact Ne.symm hCD
    · exact offC p hp
theorem Assign_ListComp_G {elt iter : Expr} {x y : Str} {px py : Pos} {scope : Scope} {cl : List (Str × Addr)} {pos spos : Pos} {Q : Flow → Shared → Prop} (_F₀ : Fr h₀ L s.heap m) (hLe : env.locals = L)
    (hsw : swapsWith (.ListComp elt [⟨.Name x px, iter, [], 0⟩] scope pos) (some (.Name y py)) spos.line env = pure true)
    (hclos : closureFor scope env = pure cl) (hcell : ∀ z ∈ scope.names, z.2 ≠ .cell) (hkind : scope.kind = .function)
    (hnames : ∀ z ∈ scope.names, z.2 = .local → scope.names.lookup z.1 = some .local) (hx : scope.names.lookup x = some .local)
    (hy : env.kindOf y = some .local) (hp : (env.scope.kind == .class || (env.scope.kind == .module && env.locals != env.globals)) = false)
    (h : wpAny (model prog w) A (eval iter env) (SrcG prog w A h₀ L m env elt x scope cl (fun s₂ => FinA h₀ L m s₂ y Q)) E s)
    (hs : ∀ x, foldedSetIterable iter env x = pure x := by intro _; rfl) :
    wpAny (model prog w) A (exec (.Assign [.Name y py] (.ListComp elt [⟨.Name x px, iter, [], 0⟩] scope pos) spos) env) Q E s := by
  subst hLe
  rw [exec_Assign_Name_used _ _ _ _ hsw]
  refine wpAny_bind (wpAny_standAt (wpAny_bind ?_))
  show wpAny _ A (do let _ ← comprehension (.ListComp elt [⟨.Name x px, iter, [], 0⟩] scope pos) scope env _ (newList []) false (eval iter env) (some (assign (.Name y py) env))) _ _ s
  refine wpAny_bind (wpAny_mono (wpAny_comprehension_free (use := some (assign (.Name y py) env)) (Q := fun _ s' => Q .next s') rfl hs hclos hkind hnames
    (wpAny_mono h (fun xv s₁ h₁ => ?_) fun _ _ e => e)) (fun _ s' hq => wpAny_pure (wpAny_pure hq)) fun _ _ e => e)
  obtain ⟨n, P, news, F, N, hsz, D, R⟩ := h₁
  refine D _ _ fun o St W hIo hst => ?_
  refine block_U W hsz hIo (st_same W) hcell hkind hx hst (fun b hb => ?_)
    (F.keeps fun _ _ e => Heap.get?_push_of_some _ e) (N.grown fun _ _ e => Heap.get?_push_of_some _ e) (Nat.ne_of_lt F.ns.lt) (next_is_new F) (fun p hp => Nat.ne_of_lt (Heap.lt_size (N p hp).1)) trivial (R _ ⟨_, rfl⟩) ?_
  · rw [List.mem_singleton.mp hb]
    show s₁.heap.objs.size < (s₁.heap.push _).objs.size
    rw [Heap.size_push]; exact Nat.lt_succ_self _
  · intro D C h' tk m' ys news' F' N' o1 hn hC₀ hD₀ hCL hDL hCD offC fin
    show wpAny _ A (assign (.Name y py) env (.ref D)) _ _ _
    refine wpAny_assign_Name (wpAny_storeName_local hy F'.ns (fun h₂ hn₂ hs₂ => ?_) hp)
    have hL₀ : h₀.get? env.locals = none := Heap.get?_none_of_le F'.above
    have F₂ : Fr h₀ env.locals h₂ (fun z => if z = y then some (.ref D) else m z) := ⟨hn₂, fun b o e => hs₂.extBut b o (fun q => by rw [q, hL₀] at e; cases e) (F'.keep b o e), F'.above⟩
    refine ⟨m', hn.sameBut hs₂ hCL, fun h'' hs'' => fin D h'' _ (F₂.change hs'' hCL hC₀) (fun p hp => ?_) o1⟩
    have z : h₂.get? p.1 = some p.2 := hs₂.extBut _ _ (N' p hp).2.1 (N' p hp).1
    refine ⟨hs''.extBut _ _ ?_ z, (N' p hp).2⟩
    rcases List.mem_cons.mp hp with rfl | hp
    · exact Ne.symm hCD
    · exact offC p hp
def RowIs (news : List (Addr × Obj)) (x : Str) (y : Value) (news' : List (Addr × Obj)) : Prop := news' = news ∧ ∃ t, y = .str x t
theorem RowIs.mk {news : List (Addr × Obj)} {x x' : Str} {t : Tok} (h : x' = x) : RowIs news x (.str x' t) news := by subst h; exact ⟨rfl, t, rfl⟩
/-- the turns over the signs of a text: each gives a text -/
theorem turnsS {elt : Expr} {x : Str} {scope : Scope} {cl : List (Str × Addr)} {Fin : List Value → List (Addr × Obj) → Prop} {news : List (Addr × Obj)} {l : List Nat} (g : Nat → List Nat)
    (turn : ∀ c t I oI C oC D m₂ ys h tk (E' : Value → Shared → Prop), c ∈ l → NsObj oC m₂ → m₂ x = some (.str (S [c]) t) → Fr h₀ L h m → News h₀ L h ((I, oI) :: (C, oC) :: (D, lst ys) :: news) → Off3 I C D news → ((@Ne Nat I C) ∧ (@Ne Nat I D) ∧ (@Ne Nat C D)) →
      wpAny (model prog w) A (eval elt (compEnvC scope cl C env)) (CompEnd h₀ L m { s with heap := h, toks := tk } I oI C oC D (lst ys) (fun _ => True) (RowIs news (S (g c)))) E' { s with heap := h, toks := tk })
    (fin : ∀ pl : List (List Nat × Tok), pl.map (·.1) = l.map g → Fin (strV pl) news) : CompRest prog w A h₀ L m env elt x scope cl s (fun _ => True) (SignAt (S l)) Fin l.length 0 [] news := by
  have key : ∀ (j i : Nat) (pl : List (List Nat × Tok)), i + j = l.length → pl.map (·.1) = (l.take i).map g → CompRest prog w A h₀ L m env elt x scope cl s (fun _ => True) (SignAt (S l)) Fin j i (strV pl) news := by
    intro j
    induction j with
    | zero =>
      intro i pl hi hp
      have e : i = l.length := by omega
      subst e
      rw [List.take_length] at hp
      exact CompRest.zero (fin pl hp)
    | succ j ih =>
      intro i pl hi hp
      refine CompRest.succ ?_
      intro v I oI C oC D m₂ h tk E' hv hC hx F N off ne
      obtain ⟨c, u, hc, rfl⟩ := hv
      have hc' : l[i]? = some c := by simpa [S] using hc
      refine wpAny_mono (turn c u I oI C oC D m₂ (strV pl) h tk E' (List.mem_of_getElem? hc') hC hx F N off ne) (fun y s₂ hq => ?_) fun _ _ e => e
      obtain ⟨h', tk', nw, e, F', N', off', hS, hn, t', rfl⟩ := hq
      rw [hn] at N' off'
      refine ⟨h', tk', news, e, F', N', off', hS, ?_⟩
      have e2 : strV pl ++ [.str (S (g c)) t'] = strV (pl ++ [(g c, t')]) := by simp [strV]
      dsimp only
      rw [e2]
      refine ih (i + 1) _ (by omega) ?_
      rw [List.take_add_one, hc', List.map_append, hp]
      simp
  exact key l.length 0 [] (by omega) rfl
/-- one octet -/
theorem turnsB {elt : Expr} {x : Str} {scope : Scope} {cl : List (Str × Addr)} {Fin : List Value → List (Addr × Obj) → Prop} {news : List (Addr × Obj)} {c : UInt8} {g : List Nat}
    (turn : ∀ t I oI C oC D m₂ h tk (E' : Value → Shared → Prop), NsObj oC m₂ → m₂ x = some (.int (c.toNat : Int) t) → Fr h₀ L h m → News h₀ L h ((I, oI) :: (C, oC) :: (D, lst []) :: news) → Off3 I C D news → ((@Ne Nat I C) ∧ (@Ne Nat I D) ∧ (@Ne Nat C D)) →
      wpAny (model prog w) A (eval elt (compEnvC scope cl C env)) (CompEnd h₀ L m { s with heap := h, toks := tk } I oI C oC D (lst []) (fun _ => True) (RowIs news (S g))) E' { s with heap := h, toks := tk })
    (fin : ∀ t, Fin (strV [(g, t)]) news) : CompRest prog w A h₀ L m env elt x scope cl s (fun _ => True) (fun i v => ∃ c' u, (#[c] : Array UInt8)[i]? = some c' ∧ v = .int (c'.toNat : Int) u) Fin 1 0 [] news := by
  refine CompRest.succ ?_
  intro v I oI C oC D m₂ h tk E' hv hC hx F N off ne
  obtain ⟨c', u, hc, rfl⟩ := hv
  simp only [List.getElem?_toArray, List.getElem?_cons_zero, Option.some.injEq] at hc
  subst hc
  refine wpAny_mono (turn u I oI C oC D m₂ h tk E' hC hx F N off ne) (fun y s₂ hq => ?_) fun _ _ e => e
  obtain ⟨h', tk', nw, e, F', N', off', hS, rfl, t', rfl⟩ := hq
  exact ⟨h', tk', _, e, F', N', off', hS, CompRest.zero (fin t')⟩
theorem turnsH {elt : Expr} {x : Str} {scope : Scope} {cl : List (Str × Addr)} {Fin : List Value → List (Addr × Obj) → Prop} {news : List (Addr × Obj)} {c : Nat} {d : List Nat} (_hd : hexOf c = some d)
    (turn : ∀ t I oI C oC D m₂ h tk (E' : Value → Shared → Prop), NsObj oC m₂ → m₂ x = some (.int (c.toUInt8.toNat : Int) t) → Fr h₀ L h m → News h₀ L h ((I, oI) :: (C, oC) :: (D, lst []) :: news) → Off3 I C D news → ((@Ne Nat I C) ∧ (@Ne Nat I D) ∧ (@Ne Nat C D)) →
      wpAny (model prog w) A (eval elt (compEnvC scope cl C env)) (CompEnd h₀ L m { s with heap := h, toks := tk } I oI C oC D (lst []) (fun _ => True) (RowIs news (S (37 :: d)))) E' { s with heap := h, toks := tk })
    (fin : ∀ t, Fin (strV [(37 :: d, t)]) news) : CompRest prog w A h₀ L m env elt x scope cl s (fun _ => True) (fun i v => ∃ c' u, (#[c.toUInt8] : Array UInt8)[i]? = some c' ∧ v = .int (c'.toNat : Int) u) Fin 1 0 [] news := turnsB turn fin
theorem SrcG.str {elt : Expr} {x : Str} {scope : Scope} {cl : List (Str × Addr)} {Fin : Shared → List Value → List (Addr × Obj) → Prop} {l : List Nat} {t : Tok} {news : List (Addr × Obj)} {s₁ : Shared}
    (hh : A.handled = none) (F : Fr h₀ L s₁.heap m) (N : News h₀ L s₁.heap news) (hsz : l.length < 2 ^ 20)
    (h : ∀ g, CompRest prog w A h₀ L m env elt x scope cl { s₁ with heap := g } (fun _ => True) (SignAt (S l)) (Fin { s₁ with heap := g }) l.length 0 [] news) :
    SrcG prog w A h₀ L m env elt x scope cl Fin (.str (S l) t) s₁ := ⟨_, _, news, F, N, by rw [sizeLine_eq]; omega, draws_str hh, fun _ ⟨g, e⟩ => e ▸ h g⟩
theorem SrcG.byte {elt : Expr} {x : Str} {scope : Scope} {cl : List (Str × Addr)} {Fin : Shared → List Value → List (Addr × Obj) → Prop} {c : UInt8} {t : Tok} {news : List (Addr × Obj)} {s₁ : Shared}
    (hh : A.handled = none) (F : Fr h₀ L s₁.heap m) (N : News h₀ L s₁.heap news)
    (h : ∀ g, CompRest prog w A h₀ L m env elt x scope cl { s₁ with heap := g } (fun _ => True) (fun i v => ∃ c' u, (#[c] : Array UInt8)[i]? = some c' ∧ v = .int (c'.toNat : Int) u) (Fin { s₁ with heap := g }) 1 0 [] news) :
    SrcG prog w A h₀ L m env elt x scope cl Fin (.bytes #[c] t) s₁ := ⟨1, _, news, F, N, by rw [sizeLine_eq]; omega, draws_bytes hh, fun _ ⟨g, e⟩ => e ▸ h g⟩
theorem encode_go2 {c : Nat} {t u : Tok} {Q : Value → Shared → Prop} (h1 : isKept c = false → ∃ d, hexOf c = some d) (h2 : isKept c = false) (h : ∀ d, hexOf c = some d → Q (.bytes #[c.toUInt8] s.toks) { s with toks := s.toks + 1 }) :
    wpAny (model prog w) A (call (.builtin "str.encode") [.str (S [c]) t, .str (Str.ofString "utf-8") u]) Q E s := by
  obtain ⟨d, hd⟩ := h1 h2
  exact encode_go hd (h d hd)
theorem join_map {p : Addr} {news : List (Addr × Obj)} {x : Str} {t : Tok} {Q : Value → Shared → Prop} {pl : List (List Nat × Tok)} {n : Nat} {l : List Nat} (hx : x = S []) (N : News h₀ L s.heap ((p, lstObj (strV pl) n) :: news)) (hp : pl.map (·.1) = l.map quoteC) (hz : l.length < 2 ^ 19)
    (hq : ∀ t' k, Q (.str (S (quoteL l)) t') { s with toks := k }) : wpAny (model prog w) A (call (.builtin "str.join") [.str x t, .ref p]) Q E s := by
  refine join_lit hx N ?_ ?_
  · rw [hp]; have := quoteL_le l; unfold quoteL at this; omega
  · rw [hp]; exact hq
theorem join_one {p : Addr} {news : List (Addr × Obj)} {x : Str} {t u : Tok} {Q : Value → Shared → Prop} {n : Nat} {l : List Nat} (hx : x = S []) (N : News h₀ L s.heap ((p, lstObj (strV [(l, u)]) n) :: news)) (hz : l.length < 2 ^ 19)
    (hq : ∀ t' k, Q (.str (S l) t') { s with toks := k }) : wpAny (model prog w) A (call (.builtin "str.join") [.str x t, .ref p]) Q E s := by
  refine join_lit hx N ?_ ?_
  · simp; omega
  · simpa using hq
end
end Mine

end SMZ

section SCG
open PySem PySem.W PyProof.Rows PySem.Calls PySem.Spec
theorem Mine.offCG : True := by w_top off; exact trivial
namespace Mine
section
open PyProof.Rows.LCg
local macro_rules | `(tactic| cell_enter) => `(tactic| (refine wpAny_call ?_; refine' con_code (by assumption) ?k1 ?k2 ?k3 ?k4 ?kz ?k5 ?kA ?kF ?kK ?k6 ?k7 ?k8 ?k9 ?kB (by assumption) ?kQ ?_ ?c2 ?c3 ?c4 ?c5; (case kA => exact rfl); (case kF => exact rfl); (case kK => assumption); (case k1 => k_asm); (case k2 => k_asm); (case k3 => k_asm); (case k4 => k_asm); (case kz => assumption); (case k5 => k_asm); (case k6 => k_is); (case k7 => k_is); (case k8 => ktr_room); (case k9 => (refine' kp_binds ?kx ?ke; (case kx => k_in); (case ke => exact fun _ => rfl))); (case kQ => exact fun _ _ q => q); (case c5 => decide); (case kB => exact locs rfl); (case c2 => exact rfl); (case c3 => exact rfl); (case c4 => exact rfl); k_whole; intro g' L' h' F' N' B' X' T' l0; (try k_lt l0); (try dsimp only); (try k_fold)))
local macro_rules | `(tactic| walk_at "subscriptTail") => `(tactic| ((with_reducible show wpAny _ _ (subscriptTail _ _ (Value.str (S _) _) (Value.int _ _)) _ _ _); refine sub_S (by omega) (by omega) (by omega) ?_))
local macro_rules | `(tactic| walk_at "subscriptTail Name Name str int") => `(tactic| (refine sub_S (by omega) (by omega) (by omega) ?_))
local macro_rules | `(tactic| walk_at "compareOp In str str") => `(tactic| first | refine in_ws ?_ | refine in_punct ?_ | refine in_blank ?_ | refine in_nl ?_ | refine in_ang ?_)
local macro_rules | `(tactic| walk_at "call builtin:len") => `(tactic| refine len_S (by omega) ?_)
local macro_rules | `(tactic| walk_at "call builtin:ord") => `(tactic| refine ord_ch ?_)
local macro_rules | `(tactic| walk_at "compareOp Eq str str") => `(tactic| first
  | refine eq_ch (d := 60) (by decide : Str.ofString "<" = S [60]) ?_
  | refine eq_ch (d := 62) (by decide : Str.ofString ">" = S [62]) ?_
  | refine eq_ch (d := 10) (by decide : Str.ofString "\n" = S [10]) ?_
  | refine eq_ch (d := 13) (by decide : Str.ofString "\x0d" = S [13]) ?_
  | refine eq_ch (d := 40) (by decide : Str.ofString "(" = S [40]) ?_
  | refine eq_ch (d := 41) (by decide : Str.ofString ")" = S [41]) ?_
  | refine eq_ch (d := 92) (by decide : Str.ofString "\\" = S [92]) ?_
  | refine eq_ch (d := 0) (by decide : Str.ofString "\x00" = S [0]) ?_
  | refine eq_ch (d := 127) (by decide : Str.ofString "\x7f" = S [127]) ?_)
local macro_rules | `(tactic| walk_at "compareOp NotEq str str") => `(tactic| first
  | refine ne_ch (d := 41) (by decide : Str.ofString ")" = S [41]) ?_)
local macro_rules | `(tactic| walk_at "subscriptTail Name Slice str ref") => `(tactic| ((with_reducible show wpAny _ _ (subscriptTail _ (Expr.Slice (some _) (some _) none _) (Value.str (S _) _) _) _ _ _); (refine slice_go (s := ⟨_, _, _, _, _⟩) (by assumption) (by assumption) (by omega) (by omega) (by omega) (by omega) ?_); intro h' t' tk' F' N'))
local macro_rules | `(tactic| walk_at "ite") => `(tactic| first
  | with_reducible refine ite_tt ?_ | with_reducible refine ite_ff ?_ | with_reducible refine split_not ?_
  | with_reducible refine boolT (by with_reducible assumption) ?_ | with_reducible refine boolF (by with_reducible assumption) ?_
  | with_reducible refine decT (by omega) ?_ | with_reducible refine decF (by omega) ?_
  | (with_reducible refine split_ine ?_ ?_ <;> intro _) | (with_reducible refine split_ieq ?_ ?_ <;> intro _)
  | (with_reducible refine PyProof.Rows.split_dec ?_ ?_ <;> intro _) | (with_reducible refine PyProof.Rows.split_bool ?_ ?_ <;> intro _))
local macro_rules | `(tactic| ksw_same) => `(tactic| (intro z h2 h3; (simp only [List.forall_mem_cons, List.not_mem_nil, false_implies, implies_true, and_true, ne_eq] at h2); (simp only [List.contains_cons, List.contains_nil, Bool.or_false, Bool.or_eq_false_iff, beq_eq_false_iff_ne, ne_eq] at h3); simp only [h2, h3, if_false, List.contains_cons, List.contains_nil, Bool.or_false, Bool.or_eq_true, beq_iff_eq, or_self, or_false, false_or, Bool.false_eq_true]))
local macro_rules | `(tactic| walk_at "MPost") => `(tactic| (dsimp only [MPost]))
local macro_rules | `(tactic| walk_at "truthy str") => `(tactic| first | refine truthy_cons (by simp only [List.length_nil]; omega) ?_ | refine truthy_S (by omega) ?_)
local macro_rules | `(tactic| walk_at "binaryOp Add str str") => `(tactic| first
  | (refine add_SS (a := []) (b := _) (by decide : Str.ofString "" = S []) rfl (by simp only [List.length_nil, List.length_cons]; omega) ?_; intro t' tk')
  | (refine add_SS rfl rfl (by simp only [List.length_nil, List.length_cons, List.length_append]; omega) ?_; intro t' tk'))
local macro_rules | `(tactic| walk_at "compareOp NotIn str str") => `(tactic| refine notin_ws ?_)

local macro_rules | `(tactic| cell_enter) => `(tactic| (refine wpAny_call ?_; refine' con_codeC (by assumption) ?k1 ?k2 ?k3 ?k4 ?kz ?k5 ?kA ?kF ?kK ?k6 ?k7 ?k8 ?k9 ?kB ?kD (by assumption) ?kQ ?_ ?c2 ?c3 ?c4; (case kA => exact rfl); (case kF => exact rfl); (case kK => assumption); (case k1 => k_asm); (case k2 => k_asm); (case k3 => k_asm); (case k4 => k_asm); (case kz => assumption); (case k5 => k_asm); (case k6 => k_is); (case k7 => k_is); (case k8 => ktr_room); (case k9 => (refine' kp_binds ?kx ?ke; (case kx => k_in); (case ke => exact fun _ => rfl))); (case kB => exact rfl); (case kD => decide +kernel); (case kQ => exact fun _ _ q => q); (case c2 => exact rfl); (case c3 => exact rfl); (case c4 => exact rfl); k_whole; intro g' L' h' tk' cells' F' N' Y' B' X' T' l0; (try k_lt l0); k_cells Y'; (try simp only [List.cons_append, List.nil_append] at N'); (try dsimp only); (try k_fold)))
local macro_rules | `(tactic| walk_at "binaryOp Add str str") => `(tactic| (refine add_SS (a := safeA) (b := safeB) (by decide) (by decide) (by decide) ?_; intro t' tk'))
local macro_rules | `(tactic| walk_at "exec Assign cons ListComp") => `(tactic| k_dflt (refine Assign_ListComp_G (by assumption) (by rfl) (by with_unfolding_all rfl) (by with_unfolding_all rfl) (by decide) (by rfl) (by decide) (by rfl) (by rfl) (by rfl) ?_))
local macro_rules | `(tactic| walk_at "eval ListComp") => `(tactic| k_dflt (refine ListComp_G (by assumption) (by with_unfolding_all rfl) (by decide) (by rfl) (by decide) (by rfl) ?_))
local macro_rules | `(tactic| walk_at "SrcG") => `(tactic| first
  | ((with_reducible show SrcG _ _ _ _ _ _ _ _ _ _ _ _ (Value.str _ _) _); refine SrcG.str (by rfl) (by assumption) (by assumption) (by omega) ?_; intro g'; refine turnsS quoteC ?_ ?_; intro c' t' I' oI' C' oC' D' m' ys' h' tk' E' hc' hC' hx' F' N' off' ne'; (have hq2' := Quotable.hex (by assumption) hc'); (have off2' := off'); (try simp only [Off3, and_true] at off2'))
  | ((with_reducible show SrcG _ _ _ _ _ _ _ _ _ _ _ _ (Value.bytes _ _) _); refine SrcG.byte (by rfl) (by assumption) (by assumption) ?_; intro g'; refine turnsH (by assumption) ?_ ?_; intro t' I' oI' C' oC' D' m' h' tk' E' hC' hx' F' N' off' ne'; (have off2' := off'); (try simp only [Off3, and_true] at off2')))
local macro_rules | `(tactic| walk_at "compareOp In str str") => `(tactic| refine in_kept ?_)
local macro_rules | `(tactic| walk_at "call builtin:str.encode") => `(tactic| (refine encode_go2 (by assumption) (by assumption) ?_; intro d' hd'))
local macro_rules | `(tactic| walk_at "formatField int") => `(tactic| (refine hex_fmt (by assumption) ?_))
local macro_rules | `(tactic| walk_at "call builtin:str.join") => `(tactic| ((first | refine join_map (by decide) (by assumption) (by assumption) (by omega) ?_ | refine join_one (by decide) (by assumption) (by have h9 := hex_len (by assumption); simp only [List.length_cons, h9]; omega) ?_); intro tjo kjo))
local macro_rules | `(tactic| walk_at "CompEnd") => `(tactic| (refine CompEnd.intro (by assumption) (by assumption) _ ?sub (by assumption) True.intro (RowIs.mk ?_); (case sub => lcg_sub)))
local macro_rules | `(tactic| walk_at "getMethod str") => `(tactic| ((with_reducible show wpAny _ _ (getMethod (Value.str (S [_]) _) _ _) _ _ _); k_dflt (refine getMethod_builtin (T := "str") (typeIs_str _ _ _) F.plainAttrs_str F.slot_str_encode F.type_str_encode (fun a e => by cases e) ?_)))
local macro_rules | `(tactic| walk_at "joinParts") => `(tactic| ((with_reducible show wpAny _ _ (joinParts _ (evalEach [] _)) _ _ _); k_dflt (refine joinParts_nil ?_ (hex_join (by assumption)))))
theorem c_quote (w : World) (l : List Nat) (tx ts : Tok) (h2 : l.length < 2 ^ 19) (hq : Quotable l) :
    Con PySem.Challenge.rw_ci0012_01.row.prog w (hd.heap_39 w.params) 3 38 [.str (S l) tx] [(Str.ofString "safe", .str (Str.ofString ":/?#@!$&()*+,;=%") ts)] [] (fun v new mt' => (∃ t, v = .str (S (quoteL l)) t) ∧ new = [] ∧ mt' = []) := by
  k_fill
  intro p loose mean mg mb dp un gd cn cs a ccd cl outer A₀ base h₀ L m rest s Q E B F X N hz T hk hdp hun hret
  k_with_none
  have hb : BindsAre [(Str.ofString "text", .str (S l) tx), (Str.ofString "safe", .str (Str.ofString ":/?#@!$&()*+,;=%") ts)] := trivial
  k_with "eval JoinedStr" => (first | refine JoinedStr_many ?_ | refine JoinedStr_one ?_)
  k_dflt cell_enter
  clear B F X N hz T hret
  k_steps
  all_goals first
    | exact congrArg S (quoteC_kept (by assumption)).symm
    | exact congrArg S (quoteC_hex (by assumption) (by assumption)).symm
    | exact pct_d
    | exact hex_join (by assumption)
    | (refine Ends.mk [] [] (by assumption) (by assumption) (fun _ hq => nomatch hq) ⟨⟨_, rfl⟩, rfl, rfl⟩)
end
end Mine

end SCG

section SCH
open PySem PySem.W PyProof.Rows PySem.Calls PySem.Spec
theorem Mine.offCH : True := by w_top off; exact trivial
namespace Mine
section
local macro_rules | `(tactic| cell_enter) => `(tactic| (refine wpAny_call ?_; refine' con_code (by assumption) ?k1 ?k2 ?k3 ?k4 ?kz ?k5 ?kA ?kF ?kK ?k6 ?k7 ?k8 ?k9 ?kB (by assumption) ?kQ ?_ ?c2 ?c3 ?c4 ?c5; (case kA => exact rfl); (case kF => exact rfl); (case kK => assumption); (case k1 => k_asm); (case k2 => k_asm); (case k3 => k_asm); (case k4 => k_asm); (case kz => assumption); (case k5 => k_asm); (case k6 => k_is); (case k7 => k_is); (case k8 => ktr_room); (case k9 => (refine' kp_binds ?kx ?ke; (case kx => k_in); (case ke => exact fun _ => rfl))); (case kQ => exact fun _ _ q => q); (case c5 => decide); (case kB => exact locs rfl); (case c2 => exact rfl); (case c3 => exact rfl); (case c4 => exact rfl); k_whole; intro g' L' h' F' N' B' X' T' l0; (try k_lt l0); (try dsimp only); (try k_fold)))
local macro_rules | `(tactic| walk_at "subscriptTail") => `(tactic| ((with_reducible show wpAny _ _ (subscriptTail _ _ (Value.str (S _) _) (Value.int _ _)) _ _ _); refine sub_S (by omega) (by omega) (by omega) ?_))
local macro_rules | `(tactic| walk_at "subscriptTail Name Name str int") => `(tactic| (refine sub_S (by omega) (by omega) (by omega) ?_))
local macro_rules | `(tactic| walk_at "compareOp In str str") => `(tactic| first | refine in_ws ?_ | refine in_punct ?_ | refine in_blank ?_ | refine in_nl ?_ | refine in_ang ?_)
local macro_rules | `(tactic| walk_at "call builtin:len") => `(tactic| refine len_S (by omega) ?_)
local macro_rules | `(tactic| walk_at "call builtin:ord") => `(tactic| refine ord_ch ?_)
local macro_rules | `(tactic| walk_at "compareOp Eq str str") => `(tactic| first
  | refine eq_ch (d := 60) (by decide : Str.ofString "<" = S [60]) ?_
  | refine eq_ch (d := 62) (by decide : Str.ofString ">" = S [62]) ?_
  | refine eq_ch (d := 10) (by decide : Str.ofString "\n" = S [10]) ?_
  | refine eq_ch (d := 13) (by decide : Str.ofString "\x0d" = S [13]) ?_
  | refine eq_ch (d := 40) (by decide : Str.ofString "(" = S [40]) ?_
  | refine eq_ch (d := 41) (by decide : Str.ofString ")" = S [41]) ?_
  | refine eq_ch (d := 92) (by decide : Str.ofString "\\" = S [92]) ?_
  | refine eq_ch (d := 0) (by decide : Str.ofString "\x00" = S [0]) ?_
  | refine eq_ch (d := 127) (by decide : Str.ofString "\x7f" = S [127]) ?_)
local macro_rules | `(tactic| walk_at "compareOp NotEq str str") => `(tactic| first
  | refine ne_ch (d := 41) (by decide : Str.ofString ")" = S [41]) ?_)
local macro_rules | `(tactic| walk_at "subscriptTail Name Slice str ref") => `(tactic| ((with_reducible show wpAny _ _ (subscriptTail _ (Expr.Slice (some _) (some _) none _) (Value.str (S _) _) _) _ _ _); (refine slice_go (s := ⟨_, _, _, _, _⟩) (by assumption) (by assumption) (by omega) (by omega) (by omega) (by omega) ?_); intro h' t' tk' F' N'))
local macro_rules | `(tactic| walk_at "ite") => `(tactic| first
  | with_reducible refine ite_tt ?_ | with_reducible refine ite_ff ?_ | with_reducible refine split_not ?_
  | with_reducible refine boolT (by with_reducible assumption) ?_ | with_reducible refine boolF (by with_reducible assumption) ?_
  | with_reducible refine decT (by omega) ?_ | with_reducible refine decF (by omega) ?_
  | (with_reducible refine split_ine ?_ ?_ <;> intro _) | (with_reducible refine split_ieq ?_ ?_ <;> intro _)
  | (with_reducible refine PyProof.Rows.split_dec ?_ ?_ <;> intro _) | (with_reducible refine PyProof.Rows.split_bool ?_ ?_ <;> intro _))
local macro_rules | `(tactic| ksw_same) => `(tactic| (intro z h2 h3; (simp only [List.forall_mem_cons, List.not_mem_nil, false_implies, implies_true, and_true, ne_eq] at h2); (simp only [List.contains_cons, List.contains_nil, Bool.or_false, Bool.or_eq_false_iff, beq_eq_false_iff_ne, ne_eq] at h3); simp only [h2, h3, if_false, List.contains_cons, List.contains_nil, Bool.or_false, Bool.or_eq_true, beq_iff_eq, or_self, or_false, false_or, Bool.false_eq_true]))
local macro_rules | `(tactic| walk_at "MPost") => `(tactic| (dsimp only [MPost]))
local macro_rules | `(tactic| walk_at "truthy str") => `(tactic| first | refine truthy_cons (by simp only [List.length_nil]; omega) ?_ | refine truthy_S (by omega) ?_)
local macro_rules | `(tactic| walk_at "binaryOp Add str str") => `(tactic| first
  | (refine add_SS (a := []) (b := _) (by decide : Str.ofString "" = S []) rfl (by simp only [List.length_nil, List.length_cons]; omega) ?_; intro t' tk')
  | (refine add_SS rfl rfl (by simp only [List.length_nil, List.length_cons, List.length_append]; omega) ?_; intro t' tk'))
local macro_rules | `(tactic| walk_at "compareOp NotIn str str") => `(tactic| refine notin_ws ?_)

local macro_rules | `(tactic| walk_at "compareOp NotIn str str") => `(tactic| (refine notin_amp (by decide) ?_))
theorem c_unref (w : World) (l : List Nat) (tx : Tok) (h2 : l.length < 2 ^ 20) (hn : l.contains 38 = false) :
    Con PySem.Challenge.rw_ci0012_01.row.prog w (hd.heap_39 w.params) 1 64 [.str (S l) tx] [] [] (fun v new mt' => (∃ t, v = .str (S l) t) ∧ new = [] ∧ mt' = []) := by
  k_fill
  intro p loose mean mg mb dp un gd cn cs a ccd cl outer A₀ base h₀ L m rest s Q E B F X N hz T hk hdp hun hret
  k_with_none
  have hb : BindsAre [(Str.ofString "s", .str (S l) tx)] := trivial
  k_dflt cell_enter
  clear B F X N hz T hret
  k_steps
  all_goals first
    | (refine Ends.mk [] [] (by assumption) (by assumption) (fun _ hq => nomatch hq) ⟨⟨_, rfl⟩, rfl, rfl⟩)
    | exact absurd hn (by simp_all)
theorem c_escurl (w : World) (l : List Nat) (tx : Tok) (h2 : l.length < 2 ^ 19) (hn : l.contains 38 = false) (hq : Quotable l) :
    Con PySem.Challenge.rw_ci0012_01.row.prog w (hd.heap_39 w.params) 4 52 [.str (S l) tx] [] [] (fun v new mt' => (∃ t, v = .str (S (quoteL l)) t) ∧ new = [] ∧ mt' = []) := by
  k_fill
  intro p loose mean mg mb dp un gd cn cs a ccd cl outer A₀ base h₀ L m rest s Q E B F X N hz T hk hdp hun hret
  k_with_none
  have hb : BindsAre [(Str.ofString "link", .str (S l) tx)] := trivial
  k_with "call ref" => (refine Con.use0 (c_unref w l _ (by omega) hn) (by assumption) (by assumption) (by assumption) (by assumption) (by assumption) (by first | assumption | rfl) (by ktr_room) (by ktr_units) ?_; rintro v h' tk' new mt' ⟨⟨t, rfl⟩, rfl, rfl⟩ hne F' N'; (try simp only [List.nil_append] at N'))
  k_with "call ref" => (refine Con.use0 (c_quote w l _ _ (by omega) hq) (by assumption) (by assumption) (by assumption) (by assumption) (by assumption) (by first | assumption | rfl) (by ktr_room) (by ktr_units) ?_; rintro v h' tk' new mt' ⟨⟨t, rfl⟩, rfl, rfl⟩ hne F' N'; (try simp only [List.nil_append] at N'))
  k_dflt cell_enter
  clear B F X N hz T hret
  k_steps
  all_goals first
    | (refine Ends.mk [] [] (by assumption) (by assumption) (fun _ hq => nomatch hq) ⟨⟨_, rfl⟩, rfl, rfl⟩)
end
end Mine

end SCH

section SNA
open PySem PySem.W PyProof.Rows PySem.Calls PySem.Spec
set_option Elab.async false
set_option maxRecDepth 100000
set_option maxHeartbeats 4000000
namespace Mine
theorem hrfA_le (lim : Int) : ∀ (n j : Nat) (lv : Int) (l : List Nat) (e : Nat) (lv' : Int), l.length ≤ n → hrfA lim j lv l = some (e, lv') → j ≤ e ∧ e ≤ j + l.length := by
  intro n
  induction n with
  | zero =>
    intro j lv l e lv' hn h
    have : l = [] := List.length_eq_zero_iff.mp (by omega)
    subst this
    rw [hrfA] at h; cases h; simp
  | succ n ih =>
    intro j lv l e lv' hn h
    cases l with
    | nil => rw [hrfA] at h; cases h; simp
    | cons c r =>
      simp only [List.length_cons] at hn ⊢
      rw [hrfA] at h
      split at h
      · cases h; omega
      · split at h
        · cases h
        · split at h
          · cases h
          · split at h
            · rename_i hx
              have hr : 0 < r.length := by
                cases r with
                | nil => exact absurd hx.2 (by decide)
                | cons _ _ => simp
              have := ih _ _ _ _ _ (by simp only [List.length_tail]; omega) h
              simp only [List.length_tail] at this; omega
            · split at h
              · split at h
                · cases h
                · have := ih _ _ _ _ _ (by omega) h; omega
              · split at h
                · split at h
                  · cases h; omega
                  · have := ih _ _ _ _ _ (by omega) h; omega
                · have := ih _ _ _ _ _ (by omega) h; omega
theorem hrfI_le {lim : Int} {l : List Nat} {i lv e lv' : Int} (h0 : 0 ≤ i) (h1 : i ≤ l.length) (h : hrfI lim l i lv = some (e, lv')) : i ≤ e ∧ e ≤ l.length := by
  unfold hrfI at h
  obtain ⟨⟨n, v⟩, hn, hq⟩ := Option.map_eq_some_iff.mp h
  cases hq
  have := hrfA_le lim _ _ _ _ _ _ (Nat.le_refl _) hn
  rw [List.length_drop] at this; omega
theorem hrefR_le {lim : Int} {l : List Nat} {i e : Int} {h : List Nat} (h0 : 0 ≤ i) (h1 : i ≤ l.length) (hh : hrefR lim l i = some (h, e)) : i ≤ e ∧ e ≤ l.length ∧ h.length ≤ l.length := by
  have hs := startI_le h0 h1
  unfold hrefR at hh
  dsimp only at hh
  split at hh
  · cases hh
  · split at hh
    · split at hh
      · rename_i q hq
        cases hh
        have := angI_le (by omega) hq
        exact ⟨by omega, by omega, subI_len⟩
      · cases hh
    · split at hh
      · rename_i q lv hq
        split at hh
        · cases hh
          have := hrfI_le (by omega) (by omega) hq
          exact ⟨by omega, by omega, subI_len⟩
        · cases hh
      · cases hh
theorem ttlA_le (op cl : Nat) : ∀ (n j : Nat) (l : List Nat) (a : List Nat) (e : Nat), l.length ≤ n → ttlA op cl j l = some (a, e) → j < e ∧ e ≤ j + l.length ∧ a.length ≤ l.length := by
  intro n
  induction n with
  | zero =>
    intro j l a e hn h
    have : l = [] := List.length_eq_zero_iff.mp (by omega)
    subst this
    rw [ttlA] at h; cases h
  | succ n ih =>
    intro j l a e hn h
    cases l with
    | nil => rw [ttlA] at h; cases h
    | cons c r =>
      simp only [List.length_cons] at hn ⊢
      rw [ttlA] at h
      split at h
      · cases h
      · split at h
        · cases h
        · split at h
          · rename_i hx
            have hr : 0 < r.length := by
              cases r with
              | nil => exact absurd hx.2 (by decide)
              | cons _ _ => simp
            obtain ⟨⟨q1, q2⟩, hq, hp⟩ := Option.map_eq_some_iff.mp h
            cases hp
            have := ih _ _ _ _ (by simp only [List.length_tail]; omega) hq
            simp only [List.length_tail, List.length_cons] at this ⊢; omega
          · split at h
            · cases h; simp
            · obtain ⟨⟨q1, q2⟩, hq, hp⟩ := Option.map_eq_some_iff.mp h
              cases hp
              have := ih _ _ _ _ (by omega) hq
              simp only [List.length_cons]; omega
theorem ttlI_le {op cl : Nat} {l a : List Nat} {i e : Int} (h0 : 0 ≤ i) (h1 : i ≤ l.length) (h : ttlI op cl l i = some (a, e)) : i < e ∧ e ≤ l.length ∧ a.length ≤ l.length := by
  unfold ttlI at h
  obtain ⟨⟨n, v⟩, hn, hq⟩ := Option.map_eq_some_iff.mp h
  cases hq
  have := ttlA_le op cl _ _ _ _ _ (Nat.le_refl _) hn
  dsimp only at this ⊢
  rw [List.length_drop] at this; omega
theorem unescL_le : ∀ (n : Nat) (l : List Nat), l.length ≤ n → (unescL l).length ≤ l.length := by
  intro n
  induction n with
  | zero => intro l hn; have : l = [] := List.length_eq_zero_iff.mp (by omega); subst this; simp [unescL]
  | succ n ih =>
    intro l hn
    cases l with
    | nil => simp [unescL]
    | cons c r =>
      rw [unescL_cons]
      simp only [List.length_cons] at hn ⊢
      split
      · have := ih r.tail (by simp only [List.length_tail]; omega)
        rename_i hx
        have hr : 0 < r.length := by
          cases r with
          | nil => exact absurd hx.2 (by decide)
          | cons _ _ => simp
        simp only [List.length_tail, List.length_cons] at this ⊢; omega
      · have := ih r (by omega); simp only [List.length_cons]; omega
theorem unescL_len (l : List Nat) : (unescL l).length ≤ l.length := unescL_le _ _ (Nat.le_refl _)
theorem titleR_le {l a : List Nat} {i e : Int} (h0 : 0 ≤ i) (h1 : i ≤ l.length) (h : titleR l i = some (a, e)) : i < e ∧ e ≤ l.length ∧ a.length ≤ l.length := by
  have hs := scanI_le isWs h0 h1
  unfold titleR at h
  split at h
  · cases h
  · split at h
    · cases h
    · split at h
      · cases h
      · split at h
        · cases h
        · split at h
          · cases h
          · rename_i q hq
            cases h
            have := ttlI_le (by omega) (by omega) hq
            have u := unescL_len
            exact ⟨by omega, by omega, Nat.le_trans (u _) this.2.2⟩
/-- the link from place i on: the raw address, the title, the place behind -/
def linkR (lim : Int) (l : List Nat) (i : Int) : Option (List Nat × List Nat × Int) :=
  match hrefR lim l i with
  | none => none
  | some (h, e) =>
    let tp := match titleR l e with | some (a, q) => (a, q) | none => ([], e)
    if l.length ≤ scanI isWs l tp.2 then none
    else if (l.getD (scanI isWs l tp.2).toNat 0 == 41) = true then some (h, tp.1, scanI isWs l tp.2 + 1) else none
section
variable {lim : Int} {l h a : List Nat} {i e q : Int}
theorem linkR_1 (x : hrefR lim l i = none) : linkR lim l i = none := by unfold linkR; rw [x]
theorem linkR_2 (x : hrefR lim l i = some (h, e)) (y : titleR l e = some (a, q)) (z : l.length ≤ scanI isWs l q) : linkR lim l i = none := by unfold linkR; rw [x]; dsimp only; rw [y]; dsimp only; rw [if_pos z]
theorem linkR_3 (x : hrefR lim l i = some (h, e)) (y : titleR l e = none) (z : l.length ≤ scanI isWs l e) : linkR lim l i = none := by unfold linkR; rw [x]; dsimp only; rw [y]; dsimp only; rw [if_pos z]
theorem linkR_4 (x : hrefR lim l i = some (h, e)) (y : titleR l e = some (a, q)) (z : (l.getD (scanI isWs l q).toNat 0 == 41) = false) : linkR lim l i = none := by unfold linkR; rw [x]; dsimp only; rw [y]; dsimp only; (repeat' split) <;> first | rfl | (exfalso; simp_all; done)
theorem linkR_5 (x : hrefR lim l i = some (h, e)) (y : titleR l e = none) (z : (l.getD (scanI isWs l e).toNat 0 == 41) = false) : linkR lim l i = none := by unfold linkR; rw [x]; dsimp only; rw [y]; dsimp only; (repeat' split) <;> first | rfl | (exfalso; simp_all; done)
theorem linkR_6 (x : hrefR lim l i = some (h, e)) (y : titleR l e = some (a, q)) (z : ¬ l.length ≤ scanI isWs l q) (u : (l.getD (scanI isWs l q).toNat 0 == 41) = true) : linkR lim l i = some (h, a, scanI isWs l q + 1) := by unfold linkR; rw [x]; dsimp only; rw [y]; dsimp only; rw [if_neg z, if_pos u]
theorem linkR_7 (x : hrefR lim l i = some (h, e)) (y : titleR l e = none) (z : ¬ l.length ≤ scanI isWs l e) (u : (l.getD (scanI isWs l e).toNat 0 == 41) = true) : linkR lim l i = some (h, [], scanI isWs l e + 1) := by unfold linkR; rw [x]; dsimp only; rw [y]; dsimp only; rw [if_neg z, if_pos u]
end
end Mine
namespace Mine
/-- what the dict of a link holds -/
def dictD (u a : List Nat) : List (PyData × PyData) :=
  if a.isEmpty = true then [(.str (Str.ofString "url"), .str (S u))] else [(.str (Str.ofString "url"), .str (S u)), (.str (Str.ofString "title"), .str (S a))]
def LinkObj (prog : Program) (w : World) (od : Obj) (u a : List Nat) : Prop := ∃ ps, Obj.IsDictOf (strKind prog w) od ps ∧ PyProof.V.FlatPairs PyData.str ps (dictD u a)
theorem LinkObj.no {prog : Program} {w : World} {od : Obj} {u a : List Nat} {t1 t2 : Tok} (hd : Obj.IsDictOf (strKind prog w) od (strPairs [(Value.str (Str.ofString "url") t1, Value.str (S u) t2)]))
    (hf : PyProof.V.FlatPairs PyData.str (strPairs [(Value.str (Str.ofString "url") t1, Value.str (S u) t2)]) (strData [(Value.str (Str.ofString "url") t1, Value.str (S u) t2)])) (ha : a.isEmpty = true) : LinkObj prog w od u a :=
  ⟨_, hd, by unfold dictD; rw [if_pos ha]; exact hf⟩
theorem LinkObj.yes {prog : Program} {w : World} {od : Obj} {u a : List Nat} {t1 t2 t3 : Tok} (hd : Obj.IsDictOf (strKind prog w) od (stored (strPairs [(Value.str (Str.ofString "url") t1, Value.str (S u) t2)]) (Str.ofString "title") (Value.str (S a) t3)))
    (hf : PyProof.V.FlatPairs PyData.str (stored (strPairs [(Value.str (Str.ofString "url") t1, Value.str (S u) t2)]) (Str.ofString "title") (Value.str (S a) t3)) (PyProof.V.putD (PyData.str (Str.ofString "title")) (PyData.str (S a)) (strData [(Value.str (Str.ofString "url") t1, Value.str (S u) t2)]))) (ha : a.isEmpty = false) : LinkObj prog w od u a :=
  ⟨_, hd, by unfold dictD; rw [if_neg (by rw [ha]; decide)]; exact hf⟩
theorem nc_of {c : Nat} (h : (c != 41) = true) : (c == 41) = false := by simpa using h
theorem yc_of {c : Nat} (h : (c != 41) = false) : (c == 41) = true := by simpa using h
end Mine
namespace Mine
theorem mem_skip {a r b : Addr × Obj} {mt : List (Addr × Obj)} : ∀ q ∈ [a, b] ++ mt, q ∈ a :: r :: b :: mt := by
  intro q hq
  rcases List.mem_cons.mp hq with e | hq
  · rw [e]; exact .head _
  · exact .tail _ (.tail _ hq)
end Mine

end SNA

section SCI
open PySem PySem.W PyProof.Rows PySem.Calls PySem.Spec
theorem Mine.offCI : True := by w_top off; exact trivial
namespace Mine
section
local macro_rules | `(tactic| cell_enter) => `(tactic| (refine wpAny_call ?_; refine' con_code (by assumption) ?k1 ?k2 ?k3 ?k4 ?kz ?k5 ?kA ?kF ?kK ?k6 ?k7 ?k8 ?k9 ?kB (by assumption) ?kQ ?_ ?c2 ?c3 ?c4 ?c5; (case kA => exact rfl); (case kF => exact rfl); (case kK => assumption); (case k1 => k_asm); (case k2 => k_asm); (case k3 => k_asm); (case k4 => k_asm); (case kz => assumption); (case k5 => k_asm); (case k6 => k_is); (case k7 => k_is); (case k8 => ktr_room); (case k9 => (refine' kp_binds ?kx ?ke; (case kx => k_in); (case ke => exact fun _ => rfl))); (case kQ => exact fun _ _ q => q); (case c5 => decide); (case kB => exact locs rfl); (case c2 => exact rfl); (case c3 => exact rfl); (case c4 => exact rfl); k_whole; intro g' L' h' F' N' B' X' T' l0; (try k_lt l0); (try dsimp only); (try k_fold)))
local macro_rules | `(tactic| walk_at "subscriptTail") => `(tactic| ((with_reducible show wpAny _ _ (subscriptTail _ _ (Value.str (S _) _) (Value.int _ _)) _ _ _); refine sub_S (by omega) (by omega) (by omega) ?_))
local macro_rules | `(tactic| walk_at "subscriptTail Name Name str int") => `(tactic| (refine sub_S (by omega) (by omega) (by omega) ?_))
local macro_rules | `(tactic| walk_at "compareOp In str str") => `(tactic| first | refine in_ws ?_ | refine in_punct ?_ | refine in_blank ?_ | refine in_nl ?_ | refine in_ang ?_)
local macro_rules | `(tactic| walk_at "call builtin:len") => `(tactic| refine len_S (by omega) ?_)
local macro_rules | `(tactic| walk_at "call builtin:ord") => `(tactic| refine ord_ch ?_)
local macro_rules | `(tactic| walk_at "compareOp Eq str str") => `(tactic| first
  | refine eq_ch (d := 60) (by decide : Str.ofString "<" = S [60]) ?_
  | refine eq_ch (d := 62) (by decide : Str.ofString ">" = S [62]) ?_
  | refine eq_ch (d := 10) (by decide : Str.ofString "\n" = S [10]) ?_
  | refine eq_ch (d := 13) (by decide : Str.ofString "\x0d" = S [13]) ?_
  | refine eq_ch (d := 40) (by decide : Str.ofString "(" = S [40]) ?_
  | refine eq_ch (d := 41) (by decide : Str.ofString ")" = S [41]) ?_
  | refine eq_ch (d := 92) (by decide : Str.ofString "\\" = S [92]) ?_
  | refine eq_ch (d := 0) (by decide : Str.ofString "\x00" = S [0]) ?_
  | refine eq_ch (d := 127) (by decide : Str.ofString "\x7f" = S [127]) ?_)
local macro_rules | `(tactic| walk_at "compareOp NotEq str str") => `(tactic| first
  | refine ne_ch (d := 41) (by decide : Str.ofString ")" = S [41]) ?_)
local macro_rules | `(tactic| walk_at "subscriptTail Name Slice str ref") => `(tactic| ((with_reducible show wpAny _ _ (subscriptTail _ (Expr.Slice (some _) (some _) none _) (Value.str (S _) _) _) _ _ _); (refine slice_go (s := ⟨_, _, _, _, _⟩) (by assumption) (by assumption) (by omega) (by omega) (by omega) (by omega) ?_); intro h' t' tk' F' N'))
local macro_rules | `(tactic| walk_at "ite") => `(tactic| first
  | with_reducible refine ite_tt ?_ | with_reducible refine ite_ff ?_ | with_reducible refine split_not ?_
  | with_reducible refine boolT (by with_reducible assumption) ?_ | with_reducible refine boolF (by with_reducible assumption) ?_
  | with_reducible refine decT (by omega) ?_ | with_reducible refine decF (by omega) ?_
  | (with_reducible refine split_ine ?_ ?_ <;> intro _) | (with_reducible refine split_ieq ?_ ?_ <;> intro _)
  | (with_reducible refine PyProof.Rows.split_dec ?_ ?_ <;> intro _) | (with_reducible refine PyProof.Rows.split_bool ?_ ?_ <;> intro _))
local macro_rules | `(tactic| ksw_same) => `(tactic| (intro z h2 h3; (simp only [List.forall_mem_cons, List.not_mem_nil, false_implies, implies_true, and_true, ne_eq] at h2); (simp only [List.contains_cons, List.contains_nil, Bool.or_false, Bool.or_eq_false_iff, beq_eq_false_iff_ne, ne_eq] at h3); simp only [h2, h3, if_false, List.contains_cons, List.contains_nil, Bool.or_false, Bool.or_eq_true, beq_iff_eq, or_self, or_false, false_or, Bool.false_eq_true]))
local macro_rules | `(tactic| walk_at "MPost") => `(tactic| (dsimp only [MPost]))
local macro_rules | `(tactic| walk_at "truthy str") => `(tactic| first | refine truthy_cons (by simp only [List.length_nil]; omega) ?_ | refine truthy_S (by omega) ?_)
local macro_rules | `(tactic| walk_at "binaryOp Add str str") => `(tactic| first
  | (refine add_SS (a := []) (b := _) (by decide : Str.ofString "" = S []) rfl (by simp only [List.length_nil, List.length_cons]; omega) ?_; intro t' tk')
  | (refine add_SS rfl rfl (by simp only [List.length_nil, List.length_cons, List.length_append]; omega) ?_; intro t' tk'))
local macro_rules | `(tactic| walk_at "compareOp NotIn str str") => `(tactic| refine notin_ws ?_)

theorem c_lwe (w : World) (l : List Nat) (tx ti tl : Tok) (i lim : Int) (mt : List (Addr × Obj)) (h0 : 0 ≤ i) (h1 : i ≤ l.length) (h2 : l.length < 2 ^ 19) (hl0 : 0 ≤ lim) (hl1 : lim ≤ 100) (hnb : NoBlank l) (hm : TabL mt)
    (hqu : ∀ h e, hrefR lim l i = some (h, e) → Quotable (unescL h) ∧ (unescL h).contains 38 = false) :
    Con PySem.Challenge.rw_ci0012_01.row.prog w (hd.heap_39 w.params) 6 113 [.str (S l) tx, .int i ti] [(Str.ofString "max_nested_level", .int lim tl)] mt (fun v new mt' => (∃ r, v = .ref r ∧ match linkR lim l i with
      | some (h, a, n) => ∃ d od t1 t2, new = [(r, tupObj [.ref d, .int n t1, .int n t2]), (d, od)] ∧ (LinkObj PySem.Challenge.rw_ci0012_01.row.prog w od (quoteL (unescL h)) a ∧ (d == sysModules) = false)
      | none => ∃ z t, new = [(r, tupObj [.none, .none, .int z t])]) ∧ TabL mt') := by
  k_fill
  intro p loose mean mg mb dp un gd cn cs a ccd cl outer A₀ base h₀ L m rest s Q E B F X N hz T hk hdp hun hret
  k_with_none
  k_with "call ref" => (refine Con.use0 (c_href w l _ _ _ _ _ (by omega) (by omega) (by omega) (by omega) (by omega)) (by assumption) (by assumption) (by assumption) (by assumption) (by assumption) (by first | assumption | rfl) (by ktr_room) (by ktr_units) ?_; rintro v h' tk' new mt0 ⟨⟨r, o, rfl, rfl, hm1⟩, rfl⟩ hne F' N'; (try simp only [List.append_nil, List.nil_append, List.cons_append] at N'); (rcases hq : hrefR lim l i with _ | ⟨hr, he⟩ <;> rw [hq] at hm1 <;> dsimp only at hm1 <;> (first | (obtain ⟨t1, t2, t3, rfl⟩ := hm1; have hle := hrefR_le (by omega) (by omega) hq; obtain ⟨hqa, hqb⟩ := hqu _ _ hq) | (obtain ⟨z1, t1, rfl⟩ := hm1))))
  k_with "call ref" => (refine Con.useM [] (c_title w l _ _ _ _ mt (by omega) (by omega) (by omega) hnb hm) (by assumption) (by assumption) (by assumption) (by assumption) (by intro q hq; rw [List.append_nil] at hq; exact .tail _ hq) (by intro p hp q hq; cases hq) (by assumption) (by first | assumption | rfl) (by ktr_room) (by ktr_units) ?_; rintro v h' tk' new mt1 ⟨⟨r2, o2, rfl, rfl, hm2⟩, hTab1⟩ hne F' N'; (try simp only [List.append_nil, List.nil_append, List.cons_append] at N'); (rcases hq2 : titleR l he with _ | ⟨ta, te⟩ <;> rw [hq2] at hm2 <;> dsimp only at hm2 <;> (first | (obtain ⟨t11, t12, rfl⟩ := hm2; have hle2 := titleR_le (by omega) (by omega) hq2) | subst hm2)))
  k_with "call ref" => (refine Con.use0 (c_skip w l _ _ _ (by omega) (by omega) (by omega)) (by assumption) (by assumption) (by assumption) (by assumption) (by assumption) (by first | assumption | rfl) (by ktr_room) (by ktr_units) ?_; rintro v h' tk' new mt2 ⟨⟨ts, rfl⟩, rfl, rfl⟩ hne F' N'; (try simp only [List.append_nil, List.nil_append, List.cons_append] at N'); (first | have hsk := scanI_le isWs (l := l) (i := te) (by omega) (by omega) | have hsk := scanI_le isWs (l := l) (i := he) (by omega) (by omega)))
  k_with "call ref" => (refine Con.useM [] (c_unesc w _ _ mt1 (by omega) hTab1) (by assumption) (by assumption) (by assumption) (by assumption) (by intro q hq; rw [List.append_nil] at hq; exact .tail _ hq) (by intro p hp q hq; cases hq) (by assumption) (by first | assumption | rfl) (by ktr_room) (by ktr_units) ?_; rintro v h' tk' new mt3 ⟨⟨tu, rfl⟩, rfl, hTab3⟩ hne F' N'; (try simp only [List.nil_append, List.append_nil] at N'))
  k_with "call ref" => (refine Con.use0 (c_escurl w (unescL hr) _ (by have := unescL_len hr; omega) hqb hqa) (by assumption) (by assumption) (by assumption) (by assumption) (by assumption) (by first | assumption | rfl) (by ktr_room) (by ktr_units) ?_; rintro v h' tk' new mt4 ⟨⟨te4, rfl⟩, rfl, rfl⟩ hne F' N'; (try simp only [List.append_nil, List.nil_append, List.cons_append] at N'))
  have hb : BindsAre [(Str.ofString "src", .str (S l) tx), (Str.ofString "pos", .int i ti), (Str.ofString "max_nested_level", .int lim tl)] := trivial
  k_dflt cell_enter
  clear B F X N hz T hret
  k_steps
  all_goals first
    | (refine Ends.mk [_, _] mt3 (by assumption) (by assumption) (fun _ hq => hq) ⟨⟨_, rfl, ?_⟩, hTab3⟩
       first
         | (rw [linkR_7 hq hq2 (by assumption) (yc_of (by assumption))]; exact ⟨_, _, _, _, rfl, ⟨LinkObj.no (by assumption) (by assumption) rfl, by assumption⟩⟩)
         | (rw [linkR_6 hq hq2 (by assumption) (yc_of (by assumption))]; first
             | exact ⟨_, _, _, _, rfl, ⟨LinkObj.yes (by assumption) (by assumption) (by assumption), by assumption⟩⟩
             | exact ⟨_, _, _, _, rfl, ⟨LinkObj.no (by assumption) (by assumption) (by assumption), by assumption⟩⟩))
    | (refine Ends.mk [_] mt1 (by assumption) (by assumption) (mem_more (fun _ hq => .tail _ hq)) ⟨⟨_, rfl, ?_⟩, hTab1⟩
       rw [show linkR lim l i = none by first | exact linkR_2 hq hq2 (by assumption) | exact linkR_3 hq hq2 (by assumption) | exact linkR_4 hq hq2 (nc_of (by assumption)) | exact linkR_5 hq hq2 (nc_of (by assumption))]
       exact ⟨_, _, rfl⟩)
    | (refine Ends.mk [_] mt (by assumption) (by assumption) (mem_more (fun _ hq => .tail _ hq)) ⟨⟨_, rfl, ?_⟩, hm⟩
       rw [linkR_1 hq]; exact ⟨_, _, rfl⟩)
    | (exfalso; omega)
end
end Mine

end SCI

section SCJ
open PySem PySem.W PyProof.Rows PySem.Calls PySem.Spec
theorem Mine.offCJ : True := by w_top off; exact trivial
namespace Mine
section
local macro_rules | `(tactic| cell_enter) => `(tactic| (refine wpAny_call ?_; refine' con_code (by assumption) ?k1 ?k2 ?k3 ?k4 ?kz ?k5 ?kA ?kF ?kK ?k6 ?k7 ?k8 ?k9 ?kB (by assumption) ?kQ ?_ ?c2 ?c3 ?c4 ?c5; (case kA => exact rfl); (case kF => exact rfl); (case kK => assumption); (case k1 => k_asm); (case k2 => k_asm); (case k3 => k_asm); (case k4 => k_asm); (case kz => assumption); (case k5 => k_asm); (case k6 => k_is); (case k7 => k_is); (case k8 => ktr_room); (case k9 => (refine' kp_binds ?kx ?ke; (case kx => k_in); (case ke => exact fun _ => rfl))); (case kQ => exact fun _ _ q => q); (case c5 => decide); (case kB => exact locs rfl); (case c2 => exact rfl); (case c3 => exact rfl); (case c4 => exact rfl); k_whole; intro g' L' h' F' N' B' X' T' l0; (try k_lt l0); (try dsimp only); (try k_fold)))
local macro_rules | `(tactic| walk_at "subscriptTail") => `(tactic| ((with_reducible show wpAny _ _ (subscriptTail _ _ (Value.str (S _) _) (Value.int _ _)) _ _ _); refine sub_S (by omega) (by omega) (by omega) ?_))
local macro_rules | `(tactic| walk_at "subscriptTail Name Name str int") => `(tactic| (refine sub_S (by omega) (by omega) (by omega) ?_))
local macro_rules | `(tactic| walk_at "compareOp In str str") => `(tactic| first | refine in_ws ?_ | refine in_punct ?_ | refine in_blank ?_ | refine in_nl ?_ | refine in_ang ?_)
local macro_rules | `(tactic| walk_at "call builtin:len") => `(tactic| refine len_S (by omega) ?_)
local macro_rules | `(tactic| walk_at "call builtin:ord") => `(tactic| refine ord_ch ?_)
local macro_rules | `(tactic| walk_at "compareOp Eq str str") => `(tactic| first
  | refine eq_ch (d := 60) (by decide : Str.ofString "<" = S [60]) ?_
  | refine eq_ch (d := 62) (by decide : Str.ofString ">" = S [62]) ?_
  | refine eq_ch (d := 10) (by decide : Str.ofString "\n" = S [10]) ?_
  | refine eq_ch (d := 13) (by decide : Str.ofString "\x0d" = S [13]) ?_
  | refine eq_ch (d := 40) (by decide : Str.ofString "(" = S [40]) ?_
  | refine eq_ch (d := 41) (by decide : Str.ofString ")" = S [41]) ?_
  | refine eq_ch (d := 92) (by decide : Str.ofString "\\" = S [92]) ?_
  | refine eq_ch (d := 0) (by decide : Str.ofString "\x00" = S [0]) ?_
  | refine eq_ch (d := 127) (by decide : Str.ofString "\x7f" = S [127]) ?_)
local macro_rules | `(tactic| walk_at "compareOp NotEq str str") => `(tactic| first
  | refine ne_ch (d := 41) (by decide : Str.ofString ")" = S [41]) ?_)
local macro_rules | `(tactic| walk_at "subscriptTail Name Slice str ref") => `(tactic| ((with_reducible show wpAny _ _ (subscriptTail _ (Expr.Slice (some _) (some _) none _) (Value.str (S _) _) _) _ _ _); (refine slice_go (s := ⟨_, _, _, _, _⟩) (by assumption) (by assumption) (by omega) (by omega) (by omega) (by omega) ?_); intro h' t' tk' F' N'))
local macro_rules | `(tactic| walk_at "ite") => `(tactic| first
  | with_reducible refine ite_tt ?_ | with_reducible refine ite_ff ?_ | with_reducible refine split_not ?_
  | with_reducible refine boolT (by with_reducible assumption) ?_ | with_reducible refine boolF (by with_reducible assumption) ?_
  | with_reducible refine decT (by omega) ?_ | with_reducible refine decF (by omega) ?_
  | (with_reducible refine split_ine ?_ ?_ <;> intro _) | (with_reducible refine split_ieq ?_ ?_ <;> intro _)
  | (with_reducible refine PyProof.Rows.split_dec ?_ ?_ <;> intro _) | (with_reducible refine PyProof.Rows.split_bool ?_ ?_ <;> intro _))
local macro_rules | `(tactic| ksw_same) => `(tactic| (intro z h2 h3; (simp only [List.forall_mem_cons, List.not_mem_nil, false_implies, implies_true, and_true, ne_eq] at h2); (simp only [List.contains_cons, List.contains_nil, Bool.or_false, Bool.or_eq_false_iff, beq_eq_false_iff_ne, ne_eq] at h3); simp only [h2, h3, if_false, List.contains_cons, List.contains_nil, Bool.or_false, Bool.or_eq_true, beq_iff_eq, or_self, or_false, false_or, Bool.false_eq_true]))
local macro_rules | `(tactic| walk_at "MPost") => `(tactic| (dsimp only [MPost]))
local macro_rules | `(tactic| walk_at "truthy str") => `(tactic| first | refine truthy_cons (by simp only [List.length_nil]; omega) ?_ | refine truthy_S (by omega) ?_)
local macro_rules | `(tactic| walk_at "binaryOp Add str str") => `(tactic| first
  | (refine add_SS (a := []) (b := _) (by decide : Str.ofString "" = S []) rfl (by simp only [List.length_nil, List.length_cons]; omega) ?_; intro t' tk')
  | (refine add_SS rfl rfl (by simp only [List.length_nil, List.length_cons, List.length_append]; omega) ?_; intro t' tk'))
local macro_rules | `(tactic| walk_at "compareOp NotIn str str") => `(tactic| refine notin_ws ?_)

theorem c_link (w : World) (l : List Nat) (tx ti tl : Tok) (i lim : Int) (mt : List (Addr × Obj)) (h0 : 0 ≤ i) (h1 : i ≤ l.length) (h2 : l.length < 2 ^ 19) (hl0 : 0 ≤ lim) (hl1 : lim ≤ 100) (hnb : NoBlank l) (hm : TabL mt)
    (hqu : ∀ h e, hrefR lim l i = some (h, e) → Quotable (unescL h) ∧ (unescL h).contains 38 = false) :
    Con PySem.Challenge.rw_ci0012_01.row.prog w (hd.heap_39 w.params) 7 105 [.str (S l) tx, .int i ti] [(Str.ofString "max_nested_level", .int lim tl)] mt (fun v new mt' => (∃ r, v = .ref r ∧ match linkR lim l i with
      | some (h, a, n) => ∃ d od t1, new = [(r, tupObj [.ref d, .int n t1]), (d, od)] ∧ (LinkObj PySem.Challenge.rw_ci0012_01.row.prog w od (quoteL (unescL h)) a ∧ (d == sysModules) = false)
      | none => new = [(r, tupObj [.none, .none])]) ∧ TabL mt') := by
  k_fill
  intro p loose mean mg mb dp un gd cn cs a ccd cl outer A₀ base h₀ L m rest s Q E B F X N hz T hk hdp hun hret
  k_with_none
  k_with "call ref" => (refine Con.useM [] (c_lwe w l _ _ _ _ _ mt (by omega) (by omega) (by omega) (by omega) (by omega) hnb hm hqu) (by assumption) (by assumption) (by assumption) (by assumption) (by intro q hq; rw [List.append_nil] at hq; exact hq) (by intro p hp q hq; cases hq) (by assumption) (by first | assumption | rfl) (by ktr_room) (by ktr_units) ?_; rintro v h' tk' new mt1 ⟨⟨r, rfl, hm1⟩, hTab1⟩ hne F' N'; (rcases hq : linkR lim l i with _ | ⟨hr, ha, hn⟩ <;> rw [hq] at hm1 <;> dsimp only at hm1 <;> (first | (obtain ⟨d, od, t1, t2, rfl, hlo⟩ := hm1) | (obtain ⟨z1, t1, rfl⟩ := hm1)) <;> (try simp only [List.append_nil, List.nil_append, List.cons_append] at N')))
  have hb : BindsAre [(Str.ofString "src", .str (S l) tx), (Str.ofString "pos", .int i ti), (Str.ofString "max_nested_level", .int lim tl)] := trivial
  k_dflt cell_enter
  clear B F X N hz T hret
  k_steps
  all_goals first
    | (refine Ends.mk [_, (d, od)] mt1 (by assumption) (by assumption) mem_skip ⟨⟨_, rfl, ?_⟩, hTab1⟩
       rw [hq]; exact ⟨_, _, _, rfl, hlo⟩)
    | (refine Ends.mk [_] mt1 (by assumption) (by assumption) (mem_more (fun _ hq => .tail _ hq)) ⟨⟨_, rfl, ?_⟩, hTab1⟩
       rw [hq])

end
end Mine

end SCJ

section SLW
open PySem PySem.W PyProof.Rows PySem.Calls PySem.Spec
set_option Elab.async false
set_option maxRecDepth 100000
set_option maxHeartbeats 4000000
namespace Mine
section
variable {prog : Program} {w : World} {A : Around} {E : Value → Shared → Prop} {s : Shared} {h₀ : Heap} {L l : Addr} {m : Str → Option Value} {news : List (Addr × Obj)} {value slice : PySem.Expr}
theorem slice_two {k : Int} {t0 t1 u : Tok} {Q : Value → Shared → Prop} {n : Nat} (F : Fr h₀ L s.heap m) (N : News h₀ L s.heap news) (hm : (l, listOf #[.int 0 t0, .int 146 t1] n) ∈ news) (k0 : 0 ≤ k) (k2 : k ≤ 2)
    (h : ∀ D h' zs, Fr h₀ L h' m → News h₀ L h' ((D, listOf (List.toArray zs) 0) :: news) → (∀ p ∈ news, p.1 < D) → IntsAre zs (([0, 146] : List Int).drop k.toNat) → Q (.ref D) { s with heap := h' })
    (hs : subscripted slice false (.ref l) (.ref s.heap.objs.size) = operate [.ref s.heap.objs.size, .ref l] (getItem (.ref l) (.ref s.heap.objs.size)) := by with_unfolding_all rfl) :
    wpAny (model prog w) A (subscriptTail value slice (.ref l) (.ref s.heap.objs.size)) Q E { s with heap := s.heap.push { cls := .type "slice", data := .fields #[.int k u, .none, .none] } } := by
  refine kba_turn (value' := PySem.Expr.Name (PySem.Str.ofString "_") ⟨0, 0, 0, 0⟩) (fun _ => rfl) ?_
  have key : ∀ zs, kms_pick [.int 0 t0, .int 146 t1] (some k) none = zs → IntsAre zs (([0, 146] : List Int).drop k.toNat) → _ := fun zs e hi =>
    kms_slice_lit (Q := Q) (E := E) (value := PySem.Expr.Name (PySem.Str.ofString "_") ⟨0, 0, 0, 0⟩) (slice := slice) (A := A) (prog := prog) (w := w) (vu := .none) (vl := .int k u) F N (⟨_, N.get hm, rfl, _, rfl⟩ : s.heap.IsList l #[.int 0 t0, .int 146 t1]) (.int k u) .none e (fun D h' F' N' l1 => h D h' zs F' N' l1 hi) hs (fun _ => rfl) (by rw [sizeLine_eq]; simp)
  rcases (show k = 0 ∨ k = 1 ∨ k = 2 by omega) with rfl | rfl | rfl
  · exact key _ rfl (.cons _ _ (.cons _ _ .nil))
  · exact key _ rfl (.cons _ _ .nil)
  · exact key _ rfl .nil
end
end Mine
namespace Mine
/-- a turn of the law's loop over a cell variable: its end -/
def CTurn (h₀ : Heap) (L I ax c : Addr) (oI oax : Obj) (ln : Str) (lv : Value) (TM : List (Addr × Obj) → Prop) (s : Shared) (Q : Flow → Shared → Prop) (f : Flow) (s₃ : Shared) : Prop :=
  match f with
  | .ret v => Q (.ret v) s₃
  | .brk => Q .next s₃
  | _ => ∃ h' tk' m' mt' v oc', s₃ = { s with heap := h', toks := tk' } ∧ Fr h₀ L h' m' ∧ m' ln = some lv ∧ News h₀ L h' ((I, oI) :: (ax, oax) :: (c, oc') :: mt') ∧ oc'.data = .cell v ∧ TM mt' ∧ (∀ p ∈ mt', p.1 ≠ I ∧ p.1 ≠ ax ∧ p.1 ≠ c)
def CFor (prog : Program) (w : World) (A : Around) (h₀ : Heap) (env : Env) (body : List Stmt) (c : Addr) (ln : Str) (lv : Value) (TM : List (Addr × Obj) → Prop) (Q : Flow → Shared → Prop) (E : Value → Shared → Prop) (xv : Value) (s₁ : Shared) : Prop :=
  ∃ ax vs ns n oc v₀ mt m, xv = .ref ax ∧ A.handled = none ∧ IntsAre vs ns ∧ Fr h₀ env.locals s₁.heap m ∧ m ln = some lv ∧ News h₀ env.locals s₁.heap ((ax, listOf (List.toArray vs) n) :: (c, oc) :: mt) ∧ oc.data = .cell v₀ ∧ TM mt ∧ ax ≠ c ∧ (∀ p ∈ mt, p.1 ≠ ax ∧ p.1 ≠ c) ∧
    (∀ k t (u : Str → Option Value) h tk mt oc I oI, TM mt → oc.data = .cell (some (.int k t)) → (@Ne Nat I ax ∧ @Ne Nat I c ∧ @Ne Nat ax c) → (∀ p ∈ mt, p.1 ≠ I ∧ p.1 ≠ ax ∧ p.1 ≠ c) → Fr h₀ env.locals h (fun z => if z = ln then some lv else u z) → News h₀ env.locals h ((I, oI) :: (ax, listOf (List.toArray vs) n) :: (c, oc) :: mt) →
      wpAny (model prog w) A (execs body env) (CTurn h₀ env.locals I ax c oI (listOf (List.toArray vs) n) ln lv TM { s₁ with heap := h, toks := tk } Q) E { s₁ with heap := h, toks := tk }) ∧
    (∀ h' tk m' mt', TM mt' → Fr h₀ env.locals h' m' → News h₀ env.locals h' mt' → Q .next { s₁ with heap := h', toks := tk })
section
variable {prog : Program} {w : World} {A : Around} {E : Value → Shared → Prop} {s : Shared} {h₀ : Heap} {env : Env}
theorem for_cell {x ln : Str} {lv : Value} {px pos : Pos} {iter : Expr} {body : List Stmt} {c : Addr} (TM : List (Addr × Obj) → Prop) {Q : Flow → Shared → Prop} {m₀ : Str → Option Value} (_F : Fr h₀ env.locals s.heap m₀) (_hm : m₀ ln = some lv)
    (hk : env.scope.kind = .function) (hl : env.kindOf x = some .cell) (hc : env.cells.lookup x = some c)
    (h : wpAny (model prog w) A (eval iter env) (CFor prog w A h₀ env body c ln lv TM Q E) E s)
    (hs : ∀ x, foldedSetIterable iter env x = pure x := by intro _; rfl)
    (hE : PassesOwn (model prog w) A env E := by passes_own) :
    wpAny (model prog w) A (exec (.For (.Name x px) iter body [] pos) env) Q E s := by
  refine wpAny_For (wpAny_mono h (fun xv s₁ h₁ => ?_) fun _ _ e => e) hs
  obtain ⟨ax, vs, ns, n, oc, v₀, mt, m, rfl, hh, hi, F, hm, N, hoc, hT, hac, hoff, turn, done⟩ := h₁
  have hl' : s₁.heap.IsList ax vs.toArray := ⟨_, (N _ (.head _)).1, rfl, _, rfl⟩
  refine wpAny_pyIter_list hl' ?_
  have hlt : ax < s₁.heap.objs.size := by obtain ⟨_, e, _⟩ := hl'; exact Heap.lt_size e
  have W := Walks.list (prog := prog) (w := w) hh s₁.heap.objs.size ax (Nat.ne_of_lt hlt) vs.toArray
  have hIL : s₁.heap.objs.size ≠ env.locals := Ne.symm (Nat.ne_of_lt F.ns.lt)
  have hI0 := next_is_new F
  refine codeAny_forLoop (R := fun r s' => match r with | .ok f => Q f s' | .error e => cameBackBy (model prog w) A env E e s')
    (fun j s' => ∃ h' tk m' mt' i oI oc' v, s' = { s₁ with heap := h', toks := tk } ∧ (h'.IsListIter s₁.heap.objs.size ax i ∧ h'.IsList ax vs.toArray) ∧ Fr h₀ env.locals h' m' ∧ m' ln = some lv ∧
      News h₀ env.locals h' ((s₁.heap.objs.size, oI) :: (ax, listOf vs.toArray n) :: (c, oc') :: mt') ∧ oc'.data = .cell v ∧ TM mt' ∧ (∀ p ∈ mt', p.1 ≠ s₁.heap.objs.size ∧ p.1 ≠ ax ∧ p.1 ≠ c) ∧ i ≤ vs.length ∧ j = vs.length + 1 - i) ?_ (vs.length + 1)
    ⟨_, _, m, mt, 0, _, oc, v₀, rfl, ⟨⟨_, Heap.get?_push_size _ rfl, rfl, rfl⟩, hl'.push _⟩, F.push _, hm, N.push F _, hoc, hT, fun p hp => ⟨Nat.ne_of_lt (Heap.lt_size (N p (.tail _ (.tail _ hp))).1), hoff p hp⟩, Nat.zero_le _, rfl⟩
  rintro j s' ⟨h', tk, m', mt', i, oI, oc', v, rfl, hst, F', hm', N', hoc', hT', hoff', hi', rfl⟩
  have cI : c ≠ s₁.heap.objs.size := Nat.ne_of_lt (Heap.lt_size (N (c, oc) (.tail _ (.head _))).1)
  have cL := (N' (c, oc') (.tail _ (.tail _ (.head _)))).2
  by_cases hlt' : i < vs.length
  · refine W.item i _ _ _ (by simpa using hlt') hst fun vv h₁ tk₁ hP hst₁ hk₁ => ?_
    have F₁ : Fr h₀ env.locals h₁ m' := LCg.fr_but F' hk₁ (Ne.symm hIL) hI0
    obtain ⟨oI₁, heI, hclsI, hdatI⟩ := hst₁.1
    have N₁ : News h₀ env.locals h₁ ((s₁.heap.objs.size, oI₁) :: (ax, listOf vs.toArray n) :: (c, oc') :: mt') := by
      intro p hp
      rcases List.mem_cons.mp hp with rfl | hp
      · exact ⟨heI, hIL, hI0⟩
      · have hne : p.1 ≠ s₁.heap.objs.size := by
          rcases List.mem_cons.mp hp with rfl | hp
          · exact Nat.ne_of_lt hlt
          · rcases List.mem_cons.mp hp with rfl | hp
            · exact cI
            · exact (hoff' p hp).1
        have := N' p (.tail _ hp)
        exact ⟨hk₁ _ _ (by simpa using hne) this.1, this.2⟩
    obtain ⟨k, t, hv, -⟩ := IntsAre.at hi i vv (by simpa using hP)
    subst hv
    refine wpAny_assign_Name (wpAny_storeName_cell hk hl hc ⟨oc', (N₁ (c, oc') (.tail _ (.tail _ (.head _)))).1, hoc'⟩ (fun h₂ hc₂ hs₂ => ?_))
    obtain ⟨oc₂, hec, hdc⟩ := hc₂
    have F₂ : Fr h₀ env.locals h₂ m' := F₁.change hs₂ cL.1 cL.2
    have N₂ : News h₀ env.locals h₂ ((s₁.heap.objs.size, oI₁) :: (ax, listOf vs.toArray n) :: (c, oc₂) :: mt') := by
      intro p hp
      rcases List.mem_cons.mp hp with rfl | hp
      · exact ⟨hs₂.extBut _ _ (Ne.symm cI) heI, hIL, hI0⟩
      · rcases List.mem_cons.mp hp with rfl | hp
        · have := N₁ _ (.tail _ (.head _)); exact ⟨hs₂.extBut _ _ hac this.1, this.2⟩
        · rcases List.mem_cons.mp hp with rfl | hp
          · exact ⟨hec, cL⟩
          · have := N₁ _ (.tail _ (.tail _ (.tail _ hp))); exact ⟨hs₂.extBut _ _ (hoff' p hp).2.2 this.1, this.2⟩
    have F₂' : Fr h₀ env.locals h₂ (fun z => if z = ln then some lv else m' z) := by
      have e : (fun z => if z = ln then some lv else m' z) = m' := by
        funext z
        by_cases hz : z = ln
        · subst hz; rw [if_pos rfl, hm']
        · rw [if_neg hz]
      rw [e]; exact F₂
    refine wpAny_mono (wpAny_passesOwn hE (turn k t m' h₂ tk₁ mt' oc₂ s₁.heap.objs.size oI₁ hT' hdc ⟨Ne.symm (Nat.ne_of_lt hlt), Ne.symm cI, hac⟩ hoff' F₂' N₂)) (fun f s₃ hq => ?_) fun _ _ e => e
    have go : (∃ h' tk' m'' mt'' v oc'', s₃ = { s₁ with heap := h', toks := tk' } ∧ Fr h₀ env.locals h' m'' ∧ m'' ln = some lv ∧ News h₀ env.locals h' ((s₁.heap.objs.size, oI₁) :: (ax, listOf vs.toArray n) :: (c, oc'') :: mt'') ∧ oc''.data = .cell v ∧ TM mt'' ∧ (∀ p ∈ mt'', p.1 ≠ s₁.heap.objs.size ∧ p.1 ≠ ax ∧ p.1 ≠ c)) →
        ∃ j', j' < vs.length + 1 - i ∧ ∃ h' tk m' mt' i oI oc' v, s₃ = { s₁ with heap := h', toks := tk } ∧ (h'.IsListIter s₁.heap.objs.size ax i ∧ h'.IsList ax vs.toArray) ∧ Fr h₀ env.locals h' m' ∧ m' ln = some lv ∧
      News h₀ env.locals h' ((s₁.heap.objs.size, oI) :: (ax, listOf vs.toArray n) :: (c, oc') :: mt') ∧ oc'.data = .cell v ∧ TM mt' ∧ (∀ p ∈ mt', p.1 ≠ s₁.heap.objs.size ∧ p.1 ≠ ax ∧ p.1 ≠ c) ∧ i ≤ vs.length ∧ j' = vs.length + 1 - i := by
      rintro ⟨h₃, tk₃, m₃, mt₃, v₃, oc₃, rfl, F₃, hm₃, N₃, hoc₃, hT₃, hoff₃⟩
      exact ⟨vs.length + 1 - (i + 1), by omega, h₃, tk₃, m₃, mt₃, i + 1, oI₁, oc₃, v₃, rfl, ⟨⟨oI₁, (N₃ _ (.head _)).1, hclsI, hdatI⟩, ⟨_, (N₃ _ (.tail _ (.head _))).1, rfl, _, rfl⟩⟩, F₃, hm₃, N₃, hoc₃, hT₃, hoff₃, hlt', rfl⟩
    cases f with
    | ret v => exact hq
    | brk => exact hq
    | cont => exact go hq
    | next => exact go hq
  · have hin : i = vs.length := by omega
    subst hin
    refine W.done _ _ _ (by simpa using hst) fun h₁ tk₁ hk₁ => wpAny_execs_nil ?_
    exact done h₁ tk₁ m' mt' hT' (LCg.fr_but F' hk₁ (Ne.symm hIL) hI0) fun p hp => by
      have := N' p (.tail _ (.tail _ (.tail _ hp)))
      exact ⟨hk₁ _ _ (by simpa using (hoff' p hp).1) this.1, this.2⟩
end
end Mine
namespace Mine
theorem CFor.intro {prog : Program} {w : World} {A : Around} {h₀ : Heap} {env : Env} {body : List Stmt} {c ax : Addr} {ln : Str} {lv : Value} {TM : List (Addr × Obj) → Prop} {Q : Flow → Shared → Prop} {E : Value → Shared → Prop} {s₁ : Shared}
    {vs : List Value} {ns : List Int} {n : Nat} {oc : Obj} {v₀ : Option Value} {m : Str → Option Value} {all : List (Addr × Obj)} (mt : List (Addr × Obj)) (hh : A.handled = none) (hi : IntsAre vs ns) (F : Fr h₀ env.locals s₁.heap m) (hm : m ln = some lv)
    (N : News h₀ env.locals s₁.heap all) (h1 : (ax, listOf (List.toArray vs) n) ∈ all) (h2 : (c, oc) ∈ all) (h3 : ∀ p ∈ mt, p ∈ all) (hoc : oc.data = .cell v₀) (hT : TM mt) (hne : @Ne Nat ax c) (hoff : ∀ p ∈ mt, @Ne Nat p.1 ax ∧ @Ne Nat p.1 c)
    (turn : ∀ k t (u : Str → Option Value) h tk mt oc I oI, TM mt → oc.data = .cell (some (.int k t)) → (@Ne Nat I ax ∧ @Ne Nat I c ∧ @Ne Nat ax c) → (∀ p ∈ mt, p.1 ≠ I ∧ p.1 ≠ ax ∧ p.1 ≠ c) → Fr h₀ env.locals h (fun z => if z = ln then some lv else u z) → News h₀ env.locals h ((I, oI) :: (ax, listOf (List.toArray vs) n) :: (c, oc) :: mt) →
      wpAny (model prog w) A (execs body env) (CTurn h₀ env.locals I ax c oI (listOf (List.toArray vs) n) ln lv TM { s₁ with heap := h, toks := tk } Q) E { s₁ with heap := h, toks := tk })
    (done : ∀ h' tk m' mt', TM mt' → Fr h₀ env.locals h' m' → News h₀ env.locals h' mt' → Q .next { s₁ with heap := h', toks := tk }) : CFor prog w A h₀ env body c ln lv TM Q E (.ref ax) s₁ :=
  ⟨ax, vs, ns, n, oc, v₀, mt, m, rfl, hh, hi, F, hm, fun p hp => by
    rcases List.mem_cons.mp hp with rfl | hp
    · exact N _ h1
    · rcases List.mem_cons.mp hp with rfl | hp
      · exact N _ h2
      · exact N _ (h3 p hp), hoc, hT, hne, hoff, turn, done⟩
theorem lim_le (x : Int) : 1 ≤ 1 + x.fmod 5 ∧ 1 + x.fmod 5 ≤ 5 := by
  have h1 := Int.fmod_nonneg_of_pos x (show (0 : Int) < 5 by decide)
  have h2 := Int.fmod_lt_of_pos x (show (0 : Int) < 5 by decide)
  omega
end Mine
namespace Mine
open PyProof.Rows.LCg
theorem ints_snoc {vs : List Value} {ds : List Int} {d : Int} {t : Tok} (hv : IntsAre vs ds) : IntsAre (vs ++ [.int d t]) (ds ++ [d]) := by
  induction hv with
  | nil => exact .cons _ _ .nil
  | cons n t _ ih => exact .cons n t ih
theorem fm9 (x : Int) : 0 ≤ x.fmod 9 ∧ x.fmod 9 < 9 := ⟨Int.fmod_nonneg_of_pos x (by decide), Int.fmod_lt_of_pos x (by decide)⟩
theorem fm9n (x : Int) : (x.fmod 9).toNat ≤ 8 := by have := fm9 x; omega
theorem fm8 (x : Int) : 0 ≤ x.fmod 8 ∧ x.fmod 8 < 8 := ⟨Int.fmod_nonneg_of_pos x (by decide), Int.fmod_lt_of_pos x (by decide)⟩
def RowD (news : List (Addr × Obj)) (y : Value) (news' : List (Addr × Obj)) : Prop := news' = news ∧ ∃ d t, y = .int d t ∧ 0 ≤ d ∧ d < 8
theorem RowD.mk {news : List (Addr × Obj)} {d : Int} {t : Tok} : RowD news (.int (d.fmod 8) t) news := ⟨rfl, _, _, rfl, fm8 d⟩
section
variable {prog : Program} {w : World} {A : Around} {E : Value → Shared → Prop} {s : Shared} {h₀ : Heap} {L : Addr} {m : Str → Option Value} {env : Env}
theorem draws_range {r : Addr} {b : Int} {t u v : Tok} (hh : A.handled = none) (hr : IsRange s.heap r 0 b 1 t u v) (h0 : 0 ≤ b) (h9 : b < 9) : DrawsOf prog w A (.ref r) b.toNat (fun i v => ∃ t, v = .int (0 + (i : Int)) t) s := by
  intro Q E hQ
  have hn : Builtin.Range.rangeSize 0 b 1 = ((b.toNat : Nat) : Int) := by
    rcases (show b = 0 ∨ b = 1 ∨ b = 2 ∨ b = 3 ∨ b = 4 ∨ b = 5 ∨ b = 6 ∨ b = 7 ∨ b = 8 by omega) with rfl | rfl | rfl | rfl | rfl | rfl | rfl | rfl | rfl <;> rfl
  have hsm : Builtin.Range.small 0 b 1 = true := by
    rcases (show b = 0 ∨ b = 1 ∨ b = 2 ∨ b = 3 ∨ b = 4 ∨ b = 5 ∨ b = 6 ∨ b = 7 ∨ b = 8 by omega) with rfl | rfl | rfl | rfl | rfl | rfl | rfl | rfl | rfl <;> rfl
  refine wpAny_pyIter_range hr hsm (hQ _ _ (range_walks hh 0 b.toNat) (fun i h st => ⟨_, st⟩) ?_)
  show IsRangeIter _ _ _ _ _
  rw [hn]; simpa using Heap.get?_push_size _ rfl
theorem turnsD {elt : Expr} {x : Str} {scope : Scope} {cl : List (Str × Addr)} {Fin : List Value → List (Addr × Obj) → Prop} {news : List (Addr × Obj)} {n : Nat} (hn : n ≤ 8)
    (turn : ∀ k t I oI C oC D m₂ ys h tk (E' : Value → Shared → Prop), 0 ≤ k → k < 8 → NsObj oC m₂ → m₂ x = some (.int k t) → Fr h₀ L h m → News h₀ L h ((I, oI) :: (C, oC) :: (D, lst ys) :: news) → Off3 I C D news → ((@Ne Nat I C) ∧ (@Ne Nat I D) ∧ (@Ne Nat C D)) →
      wpAny (model prog w) A (eval elt (compEnvC scope cl C env)) (CompEnd h₀ L m { s with heap := h, toks := tk } I oI C oC D (lst ys) (fun _ => True) (RowD news)) E' { s with heap := h, toks := tk })
    (fin : ∀ vs ds, IntsAre vs ds → ds.length ≤ 8 → (∀ d ∈ ds, 0 ≤ d ∧ d < 8) → Fin vs news) : CompRest prog w A h₀ L m env elt x scope cl s (fun _ => True) (fun i v => ∃ t, v = .int (0 + (i : Int)) t) Fin n 0 [] news := by
  have key : ∀ (j i : Nat) (vs : List Value) (ds : List Int), i + j = n → IntsAre vs ds → ds.length = i → (∀ d ∈ ds, 0 ≤ d ∧ d < 8) → CompRest prog w A h₀ L m env elt x scope cl s (fun _ => True) (fun i v => ∃ t, v = .int (0 + (i : Int)) t) Fin j i vs news := by
    intro j
    induction j with
    | zero => intro i vs ds hi hv hl hd; exact CompRest.zero (fin vs ds hv (by omega) hd)
    | succ j ih =>
      intro i vs ds hi hv hl hd
      refine CompRest.succ ?_
      intro v I oI C oC D m₂ h tk E' hv' hC hx F N off ne
      obtain ⟨t, rfl⟩ := hv'
      refine wpAny_mono (turn (0 + (i : Int)) t I oI C oC D m₂ vs h tk E' (by omega) (by omega) hC hx F N off ne) (fun y s₂ hq => ?_) fun _ _ e => e
      obtain ⟨h', tk', nw, e, F', N', off', hS, hn', d, t', rfl, hd0, hd8⟩ := hq
      rw [hn'] at N' off'
      refine ⟨h', tk', news, e, F', N', off', hS, ?_⟩
      refine ih (i + 1) _ (ds ++ [d]) (by omega) ?_ (by simp [hl]) ?_
      · exact ints_snoc hv
      · intro d' hd'
        rcases List.mem_append.mp hd' with h | h
        · exact hd d' h
        · rw [List.mem_singleton.mp h]; exact ⟨hd0, hd8⟩
  exact key n 0 [] [] (by omega) .nil rfl (fun d hd => nomatch hd)
theorem SrcG.range {elt : Expr} {x : Str} {scope : Scope} {cl : List (Str × Addr)} {Fin : Shared → List Value → List (Addr × Obj) → Prop} {r : Addr} {k : Int} {t u v : Tok} {news : List (Addr × Obj)} {s₁ : Shared}
    (hh : A.handled = none) (F : Fr h₀ L s₁.heap m) (N : News h₀ L s₁.heap news) (hr : IsRange s₁.heap r 0 (k.fmod 9) 1 t u v)
    (h : ∀ g, CompRest prog w A h₀ L m env elt x scope cl { s₁ with heap := g } (fun _ => True) (fun i v => ∃ t, v = .int (0 + (i : Int)) t) (Fin { s₁ with heap := g }) (k.fmod 9).toNat 0 [] news) :
    SrcG prog w A h₀ L m env elt x scope cl Fin (.ref r) s₁ := ⟨_, _, news, F, N, by have := fm9 k; rw [sizeLine_eq]; omega, draws_range hh hr (fm9 k).1 (fm9 k).2, fun _ ⟨g, e⟩ => e ▸ h g⟩
end
end Mine
namespace Mine
/-- what the law's inner loop carries: the word, the target, the level, whether it is a link, the place -/
structure DSt where
  word : List Nat
  targ : List Nat
  lev : Int
  link : Bool
  place : Int
def pieceL (k : Int) : List Nat := if k = 0 then [40] else if k = 1 then [41] else if k = 2 then [97] else if k = 3 then [92, 40] else if k = 4 then [92, 41] else if k = 5 then [91] else if k = 6 then [40] else [41]
def targL (k : Int) : List Nat := if k = 0 then [40] else if k = 1 then [41] else if k = 2 then [97] else if k = 3 then [40] else if k = 4 then [41] else if k = 5 then [37, 53, 66] else if k = 6 then [40] else [41]
/-- one digit's turn -/
def digG (lim : Int) (a : DSt) (k : Int) : DSt :=
  let w := a.word ++ pieceL k
  let b : DSt :=
    if a.place < 0 ∧ a.link = true then
      (if pieceL k = [40] then { a with lev := a.lev + 1, link := decide (a.lev + 1 ≤ lim) }
       else if pieceL k = [41] ∧ a.lev = 0 then { a with place := a.word.length + 2 }
       else if pieceL k = [41] then { a with lev := a.lev - 1 } else a)
    else a
  { b with word := w, targ := if b.place < 0 then a.targ ++ targL k else a.targ }
def digs0 : DSt := ⟨[97], [97], 0, true, -1⟩
def DFrm (a : DSt) (t1 t2 t3 t5 : Tok) (u m₀ : Str → Option Value) (z : Str) : Option Value :=
  if z = Str.ofString "word" then some (.str (S a.word) t1) else if z = Str.ofString "target" then some (.str (S a.targ) t2) else if z = Str.ofString "level" then some (.int a.lev t3) else if z = Str.ofString "link" then some (.bool a.link)
  else if z = Str.ofString "place" then some (.int a.place t5) else if [Str.ofString "digit", Str.ofString "piece"].contains z then u z else m₀ z
def DRel (a : DSt) (m₀ m : Str → Option Value) : Prop := ∃ t1 t2 t3 t5 u, m = DFrm a t1 t2 t3 t5 u m₀
theorem DRel.mk {a : DSt} {m₀ m : Str → Option Value} {t1 t2 t3 t5 : Tok} (h1 : m (Str.ofString "word") = some (.str (S a.word) t1)) (h2 : m (Str.ofString "target") = some (.str (S a.targ) t2)) (h3 : m (Str.ofString "level") = some (.int a.lev t3))
    (h4 : m (Str.ofString "link") = some (.bool a.link)) (h5 : m (Str.ofString "place") = some (.int a.place t5))
    (hr : ∀ z, z ≠ Str.ofString "word" → z ≠ Str.ofString "target" → z ≠ Str.ofString "level" → z ≠ Str.ofString "link" → z ≠ Str.ofString "place" → [Str.ofString "digit", Str.ofString "piece"].contains z = false → m z = m₀ z) : DRel a m₀ m := by
  refine ⟨t1, t2, t3, t5, m, ?_⟩
  funext z
  unfold DFrm
  by_cases e1 : z = Str.ofString "word"
  · rw [if_pos e1, e1, h1]
  · rw [if_neg e1]
    by_cases e2 : z = Str.ofString "target"
    · rw [if_pos e2, e2, h2]
    · rw [if_neg e2]
      by_cases e3 : z = Str.ofString "level"
      · rw [if_pos e3, e3, h3]
      · rw [if_neg e3]
        by_cases e4 : z = Str.ofString "link"
        · rw [if_pos e4, e4, h4]
        · rw [if_neg e4]
          by_cases e5 : z = Str.ofString "place"
          · rw [if_pos e5, e5, h5]
          · rw [if_neg e5]
            cases e6 : [Str.ofString "digit", Str.ofString "piece"].contains z
            · rw [if_neg (by decide)]; exact hr z e1 e2 e3 e4 e5 e6
            · rw [if_pos rfl]
theorem digG_word (lim : Int) (a : DSt) (k : Int) : (digG lim a k).word = a.word ++ pieceL k := rfl
theorem pieceL_le (k : Int) : (pieceL k).length ≤ 2 := by unfold pieceL; (repeat' split) <;> simp
theorem targL_le (k : Int) : (targL k).length ≤ 3 := by unfold targL; (repeat' split) <;> simp
theorem digG_targ (lim : Int) (a : DSt) (k : Int) : (digG lim a k).targ.length ≤ a.targ.length + 3 := by
  have := targL_le k
  have key : ∀ p : Prop, [Decidable p] → (if p then a.targ ++ targL k else a.targ).length ≤ a.targ.length + 3 := by
    intro p _
    split
    · rw [List.length_append]; omega
    · omega
  exact key _
theorem fold_len (lim : Int) : ∀ (ds : List Int) (a : DSt), (ds.foldl (digG lim) a).word.length ≤ a.word.length + 2 * ds.length ∧ (ds.foldl (digG lim) a).targ.length ≤ a.targ.length + 3 * ds.length := by
  intro ds
  induction ds with
  | nil => intro a; simp
  | cons k r ih =>
    intro a
    have h1 := ih (digG lim a k)
    have h2 := digG_targ lim a k
    have h3 := pieceL_le k
    rw [digG_word, List.length_append] at h1
    simp only [List.foldl_cons, List.length_cons]
    omega
section
variable {prog : Program} {w : World} {A : Around} {E : Value → Shared → Prop} {s : Shared} {h₀ : Heap} {env : Env}
theorem dig_iter {x : Str} {body : List Stmt} {Q : Flow → Shared → Prop} {D : Addr} {vs : List Value} {ds : List Int} {n : Nat} {m₀ : Str → Option Value} {all : List (Addr × Obj)} {t1 t2 t3 t5 : Tok} (lim : Int) (rest : List (Addr × Obj))
    (hh : A.handled = none) (F : Fr h₀ env.locals s.heap m₀) (N : News h₀ env.locals s.heap all) (hD : (D, listOf (List.toArray vs) n) ∈ all) (hrest : ∀ p ∈ rest, p ∈ all) (hne : ∀ p ∈ rest, @Ne Nat p.1 D) (hi : IntsAre vs ds) (hl : ds.length ≤ 8) (hd : ∀ d ∈ ds, 0 ≤ d ∧ d < 8)
    (h1 : m₀ (Str.ofString "word") = some (.str (Str.ofString "a") t1)) (h2 : m₀ (Str.ofString "target") = some (.str (Str.ofString "a") t2)) (h3 : m₀ (Str.ofString "level") = some (.int 0 t3)) (h4 : m₀ (Str.ofString "link") = some (.bool true)) (h5 : m₀ (Str.ofString "place") = some (.int (-1) t5))
    (turn : ∀ k t (a : DSt) t1 t2 t3 t5 (u : Str → Option Value) h tk own, 0 ≤ k → k < 8 → a.word.length ≤ 17 → a.targ.length ≤ 25 → Fr h₀ env.locals h (fun y => if y = x then some (.int k t) else DFrm a t1 t2 t3 t5 u m₀ y) → News h₀ env.locals h (rest ++ own) →
      wpAny (model prog w) A (execs body env) (InvPostN h₀ env.locals (fun m nx => nx = rest ∧ DRel (digG lim a k) m₀ m) own (rest.map (·.1)) { s with heap := h, toks := tk } Q) E { s with heap := h, toks := tk })
    (done : ∀ t1 t2 t3 t5 (u : Str → Option Value) h tk, (ds.foldl (digG lim) digs0).word.length ≤ 17 → (ds.foldl (digG lim) digs0).targ.length ≤ 25 → Fr h₀ env.locals h (DFrm (ds.foldl (digG lim) digs0) t1 t2 t3 t5 u m₀) → News h₀ env.locals h rest → Q .next { s with heap := h, toks := tk }) :
    wpAny (model prog w) A (pyIter (.ref D)) (fun it s₂ => LoopAtV prog w A h₀ env x body Q E it s₂) E s := by
  have hls : s.heap.IsList D vs.toArray := ⟨_, (N _ hD).1, rfl, _, rfl⟩
  have hlt : D < s.heap.objs.size := by obtain ⟨_, e, _⟩ := hls; exact Heap.lt_size e
  have Nr : News h₀ env.locals s.heap rest := fun p hp => N p (hrest p hp)
  have bound : ∀ i, i ≤ ds.length → ((ds.take i).foldl (digG lim) digs0).word.length ≤ 17 ∧ ((ds.take i).foldl (digG lim) digs0).targ.length ≤ 25 := by
    intro i hi'
    have := fold_len lim (ds.take i) digs0
    rw [List.length_take, Nat.min_eq_left hi'] at this
    have e1 : digs0.word.length = 1 := rfl
    have e2 : digs0.targ.length = 1 := rfl
    omega
  refine wpAny_pyIter_list hls ?_
  refine loop_invN (fun i m nx => nx = rest ∧ DRel ((ds.take i).foldl (digG lim) digs0) m₀ m) (Walks.list (prog := prog) (w := w) hh s.heap.objs.size D (Nat.ne_of_lt hlt) vs.toArray) ?_ ?_ ?_ ?_ ⟨⟨_, Heap.get?_push_size _ rfl, rfl, rfl⟩, hls.push _⟩ (F.push _) (Nr.grown fun _ _ e => Heap.get?_push_of_some _ e) ⟨rfl, DRel.mk h1 h2 h3 h4 h5 fun _ _ _ _ _ _ _ => rfl⟩ ?_ ?_
  · intro hm
    rcases List.mem_cons.mp hm with e | hm
    · exact absurd F.ns.lt (e ▸ Nat.lt_irrefl _)
    · exact (N _ hD).2.1 (List.mem_singleton.mp hm).symm
  · intro b hb; rw [List.mem_singleton.mp hb]; exact next_is_new F
  · intro p hp hI
    exact absurd (Heap.lt_size (Nr p hp).1) ((List.mem_singleton.mp hI) ▸ Nat.lt_irrefl _)
  · intro p hp hI
    rcases List.mem_cons.mp hI with e | hI
    · exact absurd (Heap.lt_size (Nr p hp).1) (e ▸ Nat.lt_irrefl _)
    · exact hne p hp (List.mem_singleton.mp hI)
  · rintro i v m₁ nx h tk own hin hP - hoff ⟨rfl, hR⟩ F₁ N₁
    have hin' : i < vs.length := by simpa using hin
    obtain ⟨k, t, hv, hk⟩ := IntsAre.at hi i v (by simpa using hP)
    subst hv
    obtain ⟨t1, t2, t3, t5, u, rfl⟩ := hR
    have hb := bound i (by have := hi.length; omega)
    have hs : (ds.take (i + 1)).foldl (digG lim) digs0 = digG lim ((ds.take i).foldl (digG lim) digs0) k := by
      rw [List.take_add_one, hk]; simp
    rw [hs]
    exact turn k t _ t1 t2 t3 t5 u h tk own (hd k (List.mem_of_getElem? hk)).1 (hd k (List.mem_of_getElem? hk)).2 hb.1 hb.2 F₁ N₁
  · rintro m₁ nx h tk ⟨rfl, hR⟩ F₁ N₁
    have e : (ds.take vs.toArray.size) = ds := by rw [List.size_toArray, hi.length, List.take_length]
    rw [e] at hR
    obtain ⟨t1, t2, t3, t5, u, rfl⟩ := hR
    have hb := bound ds.length (Nat.le_refl _)
    rw [List.take_length] at hb
    exact done t1 t2 t3 t5 u h tk hb.1 hb.2 F₁ N₁
/-- a turn's end -/
theorem dig_end {L : Addr} {a : DSt} {m₀ m' : Str → Option Value} {rest own all : List (Addr × Obj)} {h' : Heap} {tk : Nat} {t1 t2 t3 t5 : Tok} {Q : Flow → Shared → Prop} (F : Fr h₀ L h' m') (N : News h₀ L h' all) (hs : ∀ p ∈ rest ++ own, p ∈ all)
    (h1 : m' (Str.ofString "word") = some (.str (S a.word) t1)) (h2 : m' (Str.ofString "target") = some (.str (S a.targ) t2)) (h3 : m' (Str.ofString "level") = some (.int a.lev t3))
    (h4 : m' (Str.ofString "link") = some (.bool a.link)) (h5 : m' (Str.ofString "place") = some (.int a.place t5))
    (hr : ∀ z, z ≠ Str.ofString "word" → z ≠ Str.ofString "target" → z ≠ Str.ofString "level" → z ≠ Str.ofString "link" → z ≠ Str.ofString "place" → [Str.ofString "digit", Str.ofString "piece"].contains z = false → m' z = m₀ z) :
    InvPostN h₀ L (fun m nx => nx = rest ∧ DRel a m₀ m) own (rest.map (·.1)) s Q .next { s with heap := h', toks := tk } :=
  InvEndN.intro F N ⟨rfl, DRel.mk h1 h2 h3 h4 h5 hr⟩ rfl (fun p hp => hs p (List.mem_append_left _ hp)) (fun p hp => hs p (List.mem_append_right _ hp))
end
end Mine
namespace Mine
open PyProof.Rows.LCg
theorem Off1.mem {D : Addr} : ∀ {l : List (Addr × Obj)}, Off1 D l → ∀ p ∈ l, p.1 ≠ D
  | [], _, _, h => nomatch h
  | _ :: _, x, p, h => by
    rcases List.mem_cons.mp h with rfl | h
    · exact x.1
    · exact Off1.mem x.2 p h
theorem dig_iter3 {prog : Program} {w : World} {A : Around} {E : Value → Shared → Prop} {s : Shared} {h₀ : Heap} {env : Env} {x : Str} {body : List Stmt} {Q : Flow → Shared → Prop} {D I ax c : Addr} {oI oax oc : Obj} {cmt : List (Addr × Obj)} {vs : List Value} {ds : List Int} {n : Nat} {m₀ : Str → Option Value} {all : List (Addr × Obj)} {t1 t2 t3 t5 tl : Tok} {lim : Int}
    (hoff : ∀ p ∈ cmt, p.1 ≠ I ∧ p.1 ≠ ax ∧ p.1 ≠ c) (hh : A.handled = none) (F : Fr h₀ env.locals s.heap m₀) (N : News h₀ env.locals s.heap all) (hD : (D, listOf (List.toArray vs) n) ∈ all) (hI : (I, oI) ∈ all) (hax : (ax, oax) ∈ all) (hc : (c, oc) ∈ all) (hsub : ∀ p ∈ cmt, p ∈ all)
    (ho1 : (@Ne Nat I D) ∧ (@Ne Nat ax D) ∧ (@Ne Nat c D) ∧ Off1 D cmt) (hi : IntsAre vs ds) (hl : ds.length ≤ 8) (hd : ∀ d ∈ ds, 0 ≤ d ∧ d < 8) (_hlim : m₀ (Str.ofString "limit") = some (.int lim tl))
    (h1 : m₀ (Str.ofString "word") = some (.str (Str.ofString "a") t1)) (h2 : m₀ (Str.ofString "target") = some (.str (Str.ofString "a") t2)) (h3 : m₀ (Str.ofString "level") = some (.int 0 t3)) (h4 : m₀ (Str.ofString "link") = some (.bool true)) (h5 : m₀ (Str.ofString "place") = some (.int (-1) t5))
    (turn : ∀ k t (a : DSt) t1 t2 t3 t5 (u : Str → Option Value) h tk own, 0 ≤ k → k < 8 → a.word.length ≤ 17 → a.targ.length ≤ 25 → Fr h₀ env.locals h (fun y => if y = x then some (.int k t) else DFrm a t1 t2 t3 t5 u m₀ y) → News h₀ env.locals h ((I, oI) :: (ax, oax) :: (c, oc) :: (cmt ++ own)) →
      wpAny (model prog w) A (execs body env) (InvPostN h₀ env.locals (fun m nx => nx = (I, oI) :: (ax, oax) :: (c, oc) :: cmt ∧ DRel (digG lim a k) m₀ m) own (((I, oI) :: (ax, oax) :: (c, oc) :: cmt).map (·.1)) { s with heap := h, toks := tk } Q) E { s with heap := h, toks := tk })
    (done : ∀ t1 t2 t3 t5 (u : Str → Option Value) h tk, (ds.foldl (digG lim) digs0).word.length ≤ 17 → (ds.foldl (digG lim) digs0).targ.length ≤ 25 → Fr h₀ env.locals h (DFrm (ds.foldl (digG lim) digs0) t1 t2 t3 t5 u m₀) → News h₀ env.locals h ((I, oI) :: (ax, oax) :: (c, oc) :: cmt) → Q .next { s with heap := h, toks := tk }) :
    wpAny (model prog w) A (pyIter (.ref D)) (fun it s₂ => LoopAtV prog w A h₀ env x body Q E it s₂) E s := by
  refine dig_iter lim ((I, oI) :: (ax, oax) :: (c, oc) :: cmt) hh F N hD ?_ ?_ hi hl hd h1 h2 h3 h4 h5 turn done
  · exact List.forall_mem_cons.mpr ⟨hI, List.forall_mem_cons.mpr ⟨hax, List.forall_mem_cons.mpr ⟨hc, hsub⟩⟩⟩
  · exact List.forall_mem_cons.mpr ⟨ho1.1, List.forall_mem_cons.mpr ⟨ho1.2.1, List.forall_mem_cons.mpr ⟨ho1.2.2.1, Off1.mem ho1.2.2.2⟩⟩⟩
end Mine
namespace Mine
section
variable {prog : Program} {w : World} {A : Around} {E : Value → Shared → Prop} {s : Shared}
theorem item_tab {value slice : Expr} {l : Addr} {items : Array Value} {k : Int} {u : Tok} {Q : Value → Shared → Prop} (f : Int → List Nat) (hl : s.heap.IsList l items) (hit : ∀ j : Int, 0 ≤ j → j < 8 → ∃ t, items[j.toNat]? = some (.str (S (f j)) t)) (h0 : 0 ≤ k) (h8 : k < 8)
    (h : ∀ t, Q (.str (S (f k)) t) s) (hs : subscripted slice false (.ref l) (.int k u) = operate [.ref l, .int k u] (getItem (.ref l) (.int k u)) := by with_unfolding_all rfl) :
    wpAny (model prog w) A (subscriptTail value slice (.ref l) (.int k u)) Q E s := by
  refine kba_turn (value' := PySem.Expr.Name (PySem.Str.ofString "_") ⟨0, 0, 0, 0⟩) (fun _ => rfl) ?_
  obtain ⟨t, ht⟩ := hit k h0 h8
  exact item_list hl h0 (by omega) ht (h t) hs (fun _ => rfl)
theorem eq_SL {a b : List Nat} {y : Str} {t u : Tok} {Q : Value → Shared → Prop} (hy : y = S b) (h : Q (.bool (decide (a = b))) s) : wpAny (model prog w) A (compareOp .Eq (.str (S a) t) (.str y u)) Q E s := by
  subst hy
  refine eq_str ?_
  have e : ((S a : Str) == S b) = decide (a = b) := by
    rw [Bool.eq_iff_iff, beq_iff_eq, decide_eq_true_eq]; simp
  rw [e]; exact h
theorem iadd_SS {x y : Str} {a b : List Nat} {t u : Tok} {Q : Value → Shared → Prop} (hx : x = S a) (hy : y = S b) (hl : a.length + b.length ≤ 2 ^ 22) (h : ∀ t' tk, Q (.str (S (a ++ b)) t') { s with toks := tk }) : wpAny (model prog w) A (inplaceOp .Add (.str x t) (.str y u)) Q E s := by
  subst hx hy
  refine PyProof.Rows.iadd_str (fun t' tk => ?_) (by rw [S_len, S_len, sizeLine_eq]; omega)
  have e : S a ++ S b = S (a ++ b) := by show Str.append _ _ = _; simp [Str.append, S]
  rw [e]; exact h t' tk
end
theorem eight {P : Int → Prop} (h0 : P 0) (h1 : P 1) (h2 : P 2) (h3 : P 3) (h4 : P 4) (h5 : P 5) (h6 : P 6) (h7 : P 7) : ∀ j : Int, 0 ≤ j → j < 8 → P j := by
  intro j a b
  rcases (show j = 0 ∨ j = 1 ∨ j = 2 ∨ j = 3 ∨ j = 4 ∨ j = 5 ∨ j = 6 ∨ j = 7 by omega) with rfl | rfl | rfl | rfl | rfl | rfl | rfl | rfl <;> assumption
end Mine
namespace Mine
theorem dig_end2 {L : Addr} {lim k : Int} {a : DSt} (b : DSt) {m₀ m' : Str → Option Value} {rest own all : List (Addr × Obj)} {h' : Heap} {tk : Nat} {t1 t2 t3 t5 : Tok} {h₀ : Heap} {s : Shared} {Q : Flow → Shared → Prop} (F : Fr h₀ L h' m') (N : News h₀ L h' all) (hs : ∀ p ∈ rest ++ own, p ∈ all)
    (h1 : m' (Str.ofString "word") = some (.str (S b.word) t1)) (h2 : m' (Str.ofString "target") = some (.str (S b.targ) t2)) (h3 : m' (Str.ofString "level") = some (.int b.lev t3))
    (h4 : m' (Str.ofString "link") = some (.bool b.link)) (h5 : m' (Str.ofString "place") = some (.int b.place t5)) (he : digG lim a k = b)
    (hr : ∀ z, z ≠ Str.ofString "word" → z ≠ Str.ofString "target" → z ≠ Str.ofString "level" → z ≠ Str.ofString "link" → z ≠ Str.ofString "place" → [Str.ofString "digit", Str.ofString "piece"].contains z = false → m' z = m₀ z) :
    InvPostN h₀ L (fun m nx => nx = rest ∧ DRel (digG lim a k) m₀ m) own (rest.map (·.1)) s Q .next { s with heap := h', toks := tk } := by
  rw [he]; exact dig_end F N hs h1 h2 h3 h4 h5 hr
section
variable {lim k : Int} {a : DSt}
theorem dg_1 (x : a.place < 0) (y : a.link = true) (p : pieceL k = [40]) : digG lim a k = ⟨a.word ++ pieceL k, a.targ ++ targL k, a.lev + 1, decide (a.lev + 1 ≤ lim), a.place⟩ := by
  simp [digG, x, y, p]
theorem dg_2 (x : a.place < 0) (y : a.link = true) (p : ¬ pieceL k = [40]) (q : pieceL k = [41]) (z : a.lev = 0) : digG lim a k = ⟨a.word ++ pieceL k, a.targ, a.lev, a.link, a.word.length + 2⟩ := by
  have n : ¬ ((a.word.length : Int) + 2 < 0) := by omega
  simp [digG, x, y, q, z, n]
theorem dg_3 (x : a.place < 0) (y : a.link = true) (p : ¬ pieceL k = [40]) (q : pieceL k = [41]) (z : ¬ a.lev = 0) : digG lim a k = ⟨a.word ++ pieceL k, a.targ ++ targL k, a.lev - 1, a.link, a.place⟩ := by
  simp [digG, x, y, q, z]
theorem dg_4 (x : a.place < 0) (y : a.link = true) (p : ¬ pieceL k = [40]) (q : ¬ pieceL k = [41]) : digG lim a k = ⟨a.word ++ pieceL k, a.targ ++ targL k, a.lev, a.link, a.place⟩ := by
  simp [digG, x, y, p, q]
theorem dg_5 (x : a.place < 0) (y : a.link = false) : digG lim a k = ⟨a.word ++ pieceL k, a.targ ++ targL k, a.lev, a.link, a.place⟩ := by
  simp [digG, x, y]
theorem dg_6 (x : ¬ a.place < 0) : digG lim a k = ⟨a.word ++ pieceL k, a.targ, a.lev, a.link, a.place⟩ := by
  simp [digG, x]
end
end Mine

end SLW

section SPL
open PySem PySem.W PyProof.Rows PySem.Calls PySem.Spec
set_option Elab.async false
set_option maxRecDepth 100000
set_option maxHeartbeats 4000000
namespace Mine
/-- the pieces of the digits, laid together -/
def wordL (ds : List Int) : List Nat := (ds.map pieceL).flatten
def tgtL (ds : List Int) : List Nat := (ds.map targL).flatten
theorem wordL_cons (k : Int) (ds : List Int) : wordL (k :: ds) = pieceL k ++ wordL ds := by simp [wordL]
theorem tgtL_cons (k : Int) (ds : List Int) : tgtL (k :: ds) = targL k ++ tgtL ds := by simp [tgtL]
theorem piece_cases (k : Int) : (pieceL k = [40] ∧ targL k = [40]) ∨ (pieceL k = [41] ∧ targL k = [41]) ∨ (pieceL k = [97] ∧ targL k = [97]) ∨ (pieceL k = [91] ∧ targL k = [37, 53, 66]) ∨ (pieceL k = [92, 40] ∧ targL k = [40]) ∨ (pieceL k = [92, 41] ∧ targL k = [41]) := by
  unfold pieceL targL
  by_cases h0 : k = 0
  · simp [h0]
  by_cases h1 : k = 1
  · simp [h1]
  by_cases h2 : k = 2
  · simp [h2]
  by_cases h3 : k = 3
  · simp [h3]
  by_cases h4 : k = 4
  · simp [h4]
  by_cases h5 : k = 5
  · simp [h5]
  by_cases h6 : k = 6
  · simp [h6]
  simp [h0, h1, h2, h3, h4, h5, h6]
section
variable {lim lv : Int} {j : Nat} {r : List Nat}
theorem hrfA_open : hrfA lim j lv (40 :: r) = if lim < lv + 1 then none else hrfA lim (j + 1) (lv + 1) r := by
  rw [hrfA]; simp [isWs]
theorem hrfA_close : hrfA lim j lv (41 :: r) = if lv = 0 then some (j, lv) else hrfA lim (j + 1) (lv - 1) r := by
  rw [hrfA]; simp [isWs]
theorem hrfA_a : hrfA lim j lv (97 :: r) = hrfA lim (j + 1) lv r := by
  rw [hrfA]; simp [isWs]
theorem hrfA_br : hrfA lim j lv (91 :: r) = hrfA lim (j + 1) lv r := by
  rw [hrfA]; simp [isWs]
theorem hrfA_eo : hrfA lim j lv (92 :: 40 :: r) = hrfA lim (j + 2) lv r := by
  rw [hrfA]; simp [isWs, isPunct]
theorem hrfA_ec : hrfA lim j lv (92 :: 41 :: r) = hrfA lim (j + 2) lv r := by
  rw [hrfA]; simp [isWs, isPunct]
theorem hrfA_sp : hrfA lim j lv (32 :: r) = some (j, lv) := by
  rw [hrfA]; simp [isWs]
end
/-- once it is no link, or the place is told, digits only lengthen the word -/
theorem fold_dead {lim : Int} : ∀ (ds : List Int) (a : DSt), ¬ (a.place < 0) → ds.foldl (digG lim) a = ⟨a.word ++ wordL ds, a.targ, a.lev, a.link, a.place⟩ := by
  intro ds
  induction ds with
  | nil => intro a _; simp [wordL]
  | cons k r ih =>
    intro a h
    rw [List.foldl_cons, dg_6 h, wordL_cons, ← List.append_assoc]
    exact ih ⟨a.word ++ pieceL k, a.targ, a.lev, a.link, a.place⟩ h
theorem fold_nolink {lim : Int} : ∀ (ds : List Int) (a : DSt), a.place < 0 → a.link = false → ds.foldl (digG lim) a = ⟨a.word ++ wordL ds, a.targ ++ tgtL ds, a.lev, false, a.place⟩ := by
  intro ds
  induction ds with
  | nil => intro a _ h; simp [wordL, tgtL, ← h]
  | cons k r ih =>
    intro a h g
    rw [List.foldl_cons, dg_5 h g, wordL_cons, tgtL_cons, ← List.append_assoc, ← List.append_assoc]
    exact ih ⟨a.word ++ pieceL k, a.targ ++ targL k, a.lev, a.link, a.place⟩ h g
/-- what the digits' fold says of the destination -/
def Core (lim : Int) (ds : List Int) (a b : DSt) (j : Nat) : Prop :=
  b.word = a.word ++ wordL ds ∧
    ((b.link = false ∧ b.place < 0 ∧ ∀ R, hrfA lim j a.lev (wordL ds ++ R) = none) ∨
     (b.link = true ∧ ∃ d1 W, wordL ds = wordL d1 ++ 41 :: W ∧ (∀ R, hrfA lim j a.lev (wordL ds ++ R) = some (j + (wordL d1).length, 0)) ∧ b.place = (a.word.length + (wordL d1).length + 2 : Nat) ∧ b.targ = a.targ ++ tgtL d1) ∨
     (b.link = true ∧ b.place < 0 ∧ (∀ R, hrfA lim j a.lev (wordL ds ++ R) = hrfA lim (j + (wordL ds).length) b.lev R) ∧ b.targ = a.targ ++ tgtL ds ∧ 0 ≤ b.lev))
theorem fold_core {lim : Int} : ∀ (ds : List Int) (a : DSt) (j : Nat), a.place < 0 → a.link = true → 0 ≤ a.lev → Core lim ds a (ds.foldl (digG lim) a) j := by
  intro ds
  induction ds with
  | nil => intro a j h1 h2 h3; exact ⟨by simp [wordL], .inr (.inr ⟨h2, h1, by simp [wordL], by simp [tgtL], h3⟩)⟩
  | cons k r ih =>
    intro a j h1 h2 h3
    rw [List.foldl_cons]
    -- a turn that goes on: the piece p, the target q, the level
    have go : ∀ (lv : Int) (n : Nat), 0 ≤ lv → n = (pieceL k).length → digG lim a k = ⟨a.word ++ pieceL k, a.targ ++ targL k, lv, true, a.place⟩ → (∀ R, hrfA lim j a.lev (pieceL k ++ R) = hrfA lim (j + n) lv R) → Core lim (k :: r) a (r.foldl (digG lim) (digG lim a k)) j := fun lv n hlv hn hd hR => by
      have := ih ⟨a.word ++ pieceL k, a.targ ++ targL k, lv, true, a.place⟩ (j + n) h1 rfl hlv
      rw [← hd] at this
      obtain ⟨hw, hc⟩ := this
      unfold Core
      rw [wordL_cons]
      have e1 : (digG lim a k).word = a.word ++ pieceL k := rfl
      have e2 : (digG lim a k).targ = a.targ ++ targL k := by rw [hd]
      have e3 : (digG lim a k).lev = lv := by rw [hd]
      rw [e1] at hw hc
      rw [e2, e3] at hc
      have hR' : ∀ R, hrfA lim j a.lev ((pieceL k ++ wordL r) ++ R) = hrfA lim (j + n) lv (wordL r ++ R) := fun R => by rw [List.append_assoc, hR]
      refine ⟨by rw [hw, List.append_assoc], ?_⟩
      rcases hc with ⟨c1, c2, c3⟩ | ⟨c1, d1, W, c2, c3, c4, c5⟩ | ⟨c1, c2, c3, c4, c5⟩
      · exact .inl ⟨c1, c2, fun R => by rw [hR', c3]⟩
      · refine .inr (.inl ⟨c1, k :: d1, W, by rw [wordL_cons, c2, List.append_assoc], fun R => by rw [hR', c3, wordL_cons, List.length_append, hn, Nat.add_assoc], ?_, by rw [c5, tgtL_cons, List.append_assoc]⟩)
        rw [c4, wordL_cons, List.length_append, List.length_append]; omega
      · refine .inr (.inr ⟨c1, c2, fun R => by rw [hR', c3, List.length_append, hn, Nat.add_assoc], by rw [c4, tgtL_cons, List.append_assoc], c5⟩)
    rcases piece_cases k with ⟨p, q⟩ | ⟨p, q⟩ | ⟨p, q⟩ | ⟨p, q⟩ | ⟨p, q⟩ | ⟨p, q⟩
    · by_cases hl : a.lev + 1 ≤ lim
      · exact go (a.lev + 1) 1 (by omega) (by rw [p]; rfl) (by rw [dg_1 h1 h2 p, decide_eq_true hl]) fun R => by
          rw [p, List.cons_append, List.nil_append, hrfA_open, if_neg (by omega)]
      · have hd := dg_1 (lim := lim) h1 h2 p
        rw [decide_eq_false hl] at hd
        rw [hd, fold_nolink r ⟨a.word ++ pieceL k, a.targ ++ targL k, a.lev + 1, false, a.place⟩ h1 rfl]
        unfold Core
        rw [wordL_cons]
        refine ⟨by dsimp only; rw [List.append_assoc], .inl ⟨rfl, h1, fun R => ?_⟩⟩
        rw [p, List.cons_append, List.nil_append, List.cons_append, hrfA_open, if_pos (by omega)]
    · have np : ¬ pieceL k = [40] := by rw [p]; decide
      by_cases hl : a.lev = 0
      · have hd := dg_2 (lim := lim) h1 h2 np p hl
        rw [hd, fold_dead r ⟨a.word ++ pieceL k, a.targ, a.lev, a.link, a.word.length + 2⟩ (by show ¬ ((a.word.length : Int) + 2 < 0); omega)]
        unfold Core
        rw [wordL_cons]
        refine ⟨by dsimp only; rw [List.append_assoc], .inr (.inl ⟨h2, [], wordL r, by rw [p]; rfl, fun R => ?_, by show (a.word.length : Int) + 2 = _; simp [wordL], by simp [tgtL]⟩)⟩
        rw [p, List.cons_append, List.nil_append, List.cons_append, hrfA_close, if_pos hl, hl]; rfl
      · exact go (a.lev - 1) 1 (by omega) (by rw [p]; rfl) (by rw [dg_3 h1 h2 np p hl, h2]) fun R => by
          rw [p, List.cons_append, List.nil_append, hrfA_close, if_neg hl]
    · exact go a.lev 1 h3 (by rw [p]; rfl) (by rw [dg_4 h1 h2 (by rw [p]; decide) (by rw [p]; decide), h2]) fun R => by
          rw [p, List.cons_append, List.nil_append, hrfA_a]
    · exact go a.lev 1 h3 (by rw [p]; rfl) (by rw [dg_4 h1 h2 (by rw [p]; decide) (by rw [p]; decide), h2]) fun R => by
          rw [p, List.cons_append, List.nil_append, hrfA_br]
    · exact go a.lev 2 h3 (by rw [p]; rfl) (by rw [dg_4 h1 h2 (by rw [p]; decide) (by rw [p]; decide), h2]) fun R => by
          rw [p, List.cons_append, List.cons_append, List.nil_append, hrfA_eo]
    · exact go a.lev 2 h3 (by rw [p]; rfl) (by rw [dg_4 h1 h2 (by rw [p]; decide) (by rw [p]; decide), h2]) fun R => by
          rw [p, List.cons_append, List.cons_append, List.nil_append, hrfA_ec]
/-- the target: the escapes undone, the brackets in percent form -/
theorem quoteL_cons (c : Nat) (l : List Nat) : quoteL (c :: l) = quoteC c ++ quoteL l := by simp [quoteL]
theorem tgt_word : ∀ ds : List Int, quoteL (unescL (wordL ds)) = tgtL ds := by
  intro ds
  induction ds with
  | nil => rfl
  | cons k r ih =>
    rw [wordL_cons, tgtL_cons]
    rcases piece_cases k with ⟨p, q⟩ | ⟨p, q⟩ | ⟨p, q⟩ | ⟨p, q⟩ | ⟨p, q⟩ | ⟨p, q⟩ <;> rw [p, q] <;> simp only [List.cons_append, List.nil_append] <;> rw [unescL_cons]
    · rw [if_neg (by rintro ⟨x, _⟩; exact absurd x (by decide)), quoteL_cons, ih]; rfl
    · rw [if_neg (by rintro ⟨x, _⟩; exact absurd x (by decide)), quoteL_cons, ih]; rfl
    · rw [if_neg (by rintro ⟨x, _⟩; exact absurd x (by decide)), quoteL_cons, ih]; rfl
    · rw [if_neg (by rintro ⟨x, _⟩; exact absurd x (by decide)), quoteL_cons, ih]; rfl
    · rw [if_pos ⟨rfl, rfl⟩]; simp only [List.headD_cons, List.tail_cons]; rw [quoteL_cons, ih]; rfl
    · rw [if_pos ⟨rfl, rfl⟩]; simp only [List.headD_cons, List.tail_cons]; rw [quoteL_cons, ih]; rfl
end Mine

end SPL

section SPM
open PySem PySem.W PyProof.Rows PySem.Calls PySem.Spec
set_option Elab.async false
set_option maxRecDepth 100000
set_option maxHeartbeats 4000000
namespace Mine
section
variable {l r : List Nat} {c : Nat} {i : Int} {p : Nat → Bool}
theorem scanD_no (h0 : 0 ≤ i) (h : l.drop i.toNat = c :: r) (hc : p c = false) : scanI p l i = i := by
  unfold scanI
  rw [h, scanA, if_neg (by rw [hc]; decide)]; omega
theorem scanD_yes (h0 : 0 ≤ i) (h : l.drop i.toNat = c :: r) (hc : p c = true) : scanI p l i = scanI p l (i + 1) := by
  unfold scanI
  rw [h, scanA, if_pos hc, show (i + 1).toNat = i.toNat + 1 by omega, (drop_get h).2.2]
theorem startI_no (h0 : 0 ≤ i) (h : l.drop i.toNat = c :: r) (hb : isBl c = false) (hn : isNl c = false) : startI l i = i := by
  unfold startI
  rw [scanD_no h0 h hb]
  dsimp only
  rw [(drop_get h).2.1, if_neg (by rintro ⟨_, x⟩; rw [hn] at x; cases x)]
theorem subI_take {a b : List Nat} {e : Int} (h : l.drop i.toNat = a ++ b) (he : e = i + a.length) : subI l i e = a := by
  unfold subI
  rw [h, he, show (i + a.length - i).toNat = a.length by omega, List.take_append_of_le_length (Nat.le_refl _), List.take_length]
theorem titleR_no (h : l.drop i.toNat = c :: r) (hc : isWs c = false) : titleR l i = none :=
  titleR_2 (by rw [(drop_get h).2.1]; exact hc)
end
/-- the source of the law -/
def srcL (w : List Nat) (titled : Bool) : List Nat := 40 :: (w ++ ((if titled = true then [32, 34, 116, 92, 34, 117, 34] else []) ++ [41, 32, 100]))
theorem src_drop1 {w : List Nat} {titled : Bool} : (srcL w titled).drop 1 = w ++ ((if titled = true then [32, 34, 116, 92, 34, 117, 34] else []) ++ [41, 32, 100]) := rfl
theorem src_drop {w : List Nat} {titled : Bool} {n : Nat} : (srcL w titled).drop (n + 1 + w.length) = ((if titled = true then [32, 34, 116, 92, 34, 117, 34] else []) ++ [41, 32, 100]).drop n := by
  rw [show n + 1 + w.length = 1 + (w.length + n) by omega, ← List.drop_drop, src_drop1, ← List.drop_drop, List.drop_left]
theorem lenT : (srcL [] true).length = 11 := rfl
theorem src_len {w : List Nat} {titled : Bool} : (srcL w titled).length = w.length + (if titled = true then 11 else 4) := by
  unfold srcL; cases titled <;> simp
theorem href_src {lim : Int} {w : List Nat} {titled : Bool} {W : List Nat} (hw : w = 97 :: W) : hrefR lim (srcL w titled) 1 = (match hrfA lim 2 0 (W ++ ((if titled = true then [32, 34, 116, 92, 34, 117, 34] else []) ++ [41, 32, 100])) with
      | some (e, lv) => (if lv = 0 then some (subI (srcL w titled) 1 e, (e : Int)) else none) | none => none) := by
  have hd : (srcL w titled).drop (1 : Int).toNat = 97 :: (W ++ ((if titled = true then [32, 34, 116, 92, 34, 117, 34] else []) ++ [41, 32, 100])) := by rw [show (1 : Int).toNat = 1 from rfl, src_drop1, hw]; rfl
  have hs : startI (srcL w titled) 1 = 1 := startI_no (by omega) hd rfl rfl
  have hl := (drop_get hd).1
  unfold hrefR
  dsimp only
  rw [hs, if_neg (by omega), (drop_get hd).2.1, if_neg (by decide)]
  unfold hrfI
  rw [hd, hrfA_a, show (1 : Int).toNat + 1 = 2 from rfl]
  cases hrfA lim 2 0 (W ++ ((if titled = true then [32, 34, 116, 92, 34, 117, 34] else []) ++ [41, 32, 100])) with
  | none => rfl
  | some q => rfl
/-- what the law asks, of the plain functions -/
theorem law_plain (lim : Int) (ds : List Int) (titled : Bool) (b : DSt) (hb : ds.foldl (digG lim) digs0 = b) :
    (b.link = false → linkR lim (srcL b.word titled) 1 = none) ∧
    (b.place < 0 → b.lev ≠ 0 → linkR lim (srcL b.word titled) 1 = none) ∧
    (b.link = true → 0 ≤ b.place → ∃ h, linkR lim (srcL b.word titled) 1 = some (h, [], b.place) ∧ quoteL (unescL h) = b.targ) ∧
    (b.link = true → b.place < 0 → b.lev = 0 → ∃ h, linkR lim (srcL b.word titled) 1 = some (h, if titled = true then [116, 34, 117] else [], ((srcL b.word titled).length : Int) - 2) ∧ quoteL (unescL h) = b.targ) := by
  obtain ⟨hw, hc⟩ := fold_core (lim := lim) ds digs0 2 (by decide) rfl (by decide)
  rw [hb] at hw hc
  have hw' : b.word = 97 :: wordL ds := hw
  have H := href_src (lim := lim) (titled := titled) hw'
  have e0 : digs0.lev = 0 := rfl
  rw [e0] at hc
  have T97 : ∀ d : List Int, quoteL (unescL (97 :: wordL d)) = 97 :: tgtL d := fun d => by
    rw [unescL_cons, if_neg (by rintro ⟨x, _⟩; exact absurd x (by decide)), quoteL_cons, tgt_word]; rfl
  rcases hc with ⟨c1, c2, c3⟩ | ⟨c1, d1, W, c2, c3, c4, c5⟩ | ⟨c1, c2, c3, c4, c5⟩
  · rw [c3] at H
    have hn := linkR_1 H
    refine ⟨fun _ => hn, fun _ _ => hn, fun h => ?_, fun h => ?_⟩ <;> rw [c1] at h <;> cases h
  · rw [c3] at H
    dsimp only at H
    rw [if_pos rfl] at H
    have hd : (srcL b.word titled).drop (1 : Int).toNat = (97 :: wordL d1) ++ (41 :: (W ++ ((if titled = true then [32, 34, 116, 92, 34, 117, 34] else []) ++ [41, 32, 100]))) := by
      rw [show (1 : Int).toNat = 1 from rfl, src_drop1, hw', c2]; simp
    have hsub : subI (srcL b.word titled) 1 ((2 + (wordL d1).length : Nat) : Int) = 97 :: wordL d1 := subI_take hd (by simp; omega)
    rw [hsub] at H
    have hd2 : (srcL b.word titled).drop (((2 + (wordL d1).length : Nat) : Int)).toNat = 41 :: (W ++ ((if titled = true then [32, 34, 116, 92, 34, 117, 34] else []) ++ [41, 32, 100])) := by
      rw [show (((2 + (wordL d1).length : Nat) : Int)).toNat = 1 + (97 :: wordL d1).length by simp; omega, ← List.drop_drop, show List.drop 1 (srcL b.word titled) = (srcL b.word titled).drop (1 : Int).toNat from rfl, hd, List.drop_left]
    have hlen := (drop_get hd2).1
    have hsc : scanI isWs (srcL b.word titled) ((2 + (wordL d1).length : Nat) : Int) = _ := scanD_no (by omega) hd2 rfl
    have hL := linkR_7 H (titleR_no hd2 rfl) (by rw [hsc]; omega) (by rw [hsc, (drop_get hd2).2.1]; rfl)
    rw [hsc] at hL
    have hp : b.place = ((2 + (wordL d1).length : Nat) : Int) + 1 := by rw [c4]; show (((digs0.word.length + _ + 2 : Nat)) : Int) = _; simp [digs0]; omega
    refine ⟨fun h => ?_, fun h => ?_, fun _ _ => ⟨_, by rw [hL, hp], by rw [T97, c5]; rfl⟩, fun _ h => ?_⟩
    · rw [c1] at h; cases h
    · rw [hp] at h; omega
    · rw [hp] at h; omega
  · rw [c3] at H
    have hwl : b.word.length = (wordL ds).length + 1 := by rw [hw']; rfl
    have hsub : subI (srcL b.word titled) 1 ((2 + (wordL ds).length : Nat) : Int) = 97 :: wordL ds := by
      rw [← hw']; exact subI_take src_drop1 (by omega)
    have tot : quoteL (unescL (97 :: wordL ds)) = b.targ := by rw [T97, c4]; rfl
    cases titled with
    | true =>
      simp only [if_true, List.cons_append, List.nil_append] at H
      rw [hrfA_sp] at H
      dsimp only at H
      by_cases hz : b.lev = 0
      · rw [if_pos hz, hsub] at H
        have dr : ∀ n : Nat, (srcL b.word true).drop ((((2 + (wordL ds).length : Nat) : Int) + (n : Int)).toNat) = ([32, 34, 116, 92, 34, 117, 34, 41, 32, 100] : List Nat).drop n := fun n => by
          rw [show ((((2 + (wordL ds).length : Nat) : Int) + (n : Int)).toNat) = n + 1 + b.word.length by omega, src_drop]; rfl
        have g : ∀ n : Nat, (srcL b.word true).getD ((((2 + (wordL ds).length : Nat) : Int) + (n : Int)).toNat) 0 = ([32, 34, 116, 92, 34, 117, 34, 41, 32, 100] : List Nat).getD n 0 := fun n => by
          rw [← headD_drop, dr, headD_drop]
        have hlen : ((srcL b.word true).length : Int) = ((2 + (wordL ds).length : Nat) : Int) + 10 := by rw [src_len, if_pos rfl]; omega
        generalize ((2 + (wordL ds).length : Nat) : Int) = e at *
        have he : 0 ≤ e := by have := hlen; rw [src_len, if_pos rfl] at this; omega
        have g0 : (srcL b.word true).getD (e).toNat 0 = 32 := by simpa using g 0
        have g1 : (srcL b.word true).getD (e + 1).toNat 0 = 34 := g 1
        have g2 : (srcL b.word true).getD (e + 2).toNat 0 = 116 := g 2
        have g3 : (srcL b.word true).getD (e + 3).toNat 0 = 92 := g 3
        have g4 : (srcL b.word true).getD (e + 4).toNat 0 = 34 := g 4
        have g5 : (srcL b.word true).getD (e + 5).toNat 0 = 117 := g 5
        have g6 : (srcL b.word true).getD (e + 6).toNat 0 = 34 := g 6
        have g7 : (srcL b.word true).getD (e + 7).toNat 0 = 41 := g 7
        have d0 : (srcL b.word true).drop (e).toNat = [32, 34, 116, 92, 34, 117, 34, 41, 32, 100] := by simpa using dr 0
        have d1 : (srcL b.word true).drop (e + 1).toNat = [34, 116, 92, 34, 117, 34, 41, 32, 100] := dr 1
        have d7 : (srcL b.word true).drop (e + 7).toNat = [41, 32, 100] := dr 7
        have s0 : scanI isWs (srcL b.word true) e = e + 1 := by rw [scanD_yes he d0 rfl]; exact scanD_no (by omega) d1 rfl
        have tt : ttlI 34 34 (srcL b.word true) (e + 2) = some ([116, 92, 34, 117], e + 7) := by
          rw [ttl_eq (by omega) (by omega), g2, if_neg (by decide), if_neg (by decide), if_neg (by rintro ⟨x, _⟩; exact absurd x (by decide)), if_neg (by decide),
            show e + 2 + 1 = e + 3 by omega, ttl_eq (by omega) (by omega), g3, show e + 3 + 1 = e + 4 by omega, g4, if_neg (by decide), if_neg (by decide), if_pos (by decide),
            show e + 3 + 2 = e + 5 by omega, ttl_eq (by omega) (by omega), g5, if_neg (by decide), if_neg (by decide), if_neg (by rintro ⟨x, _⟩; exact absurd x (by decide)), if_neg (by decide),
            show e + 5 + 1 = e + 6 by omega, ttl_eq (by omega) (by omega), g6, if_neg (by decide), if_neg (by decide), if_neg (by rintro ⟨x, _⟩; exact absurd x (by decide)), if_pos (by decide)]
          show some ([116, 92, 34, 117], e + 6 + 1) = _
          rw [show e + 6 + 1 = e + 7 by omega]
        have ti : titleR (srcL b.word true) e = some (unescL [116, 92, 34, 117], e + 7) :=
          titleR_6 (cl := 34) (by omega) (by rw [g0]; rfl) (by rw [s0]; omega) (by rw [s0, g1]; rfl) (by rw [s0, g1, show e + 1 + 1 = e + 2 by omega]; exact tt)
        have s7 : scanI isWs (srcL b.word true) (e + 7) = e + 7 := scanD_no (by omega) d7 rfl
        have hL := linkR_6 H ti (by rw [s7]; omega) (by rw [s7, g7]; rfl)
        rw [s7] at hL
        refine ⟨fun h => ?_, fun _ h => absurd hz h, fun _ h => by omega, fun _ _ _ => ⟨_, ?_, tot⟩⟩
        · rw [c1] at h; cases h
        · rw [hL, hlen, show e + 10 - 2 = e + 7 + 1 by omega]; rfl
      · rw [if_neg hz] at H
        have hn := linkR_1 H
        exact ⟨fun _ => hn, fun _ _ => hn, fun _ h => by omega, fun _ _ h => absurd h hz⟩
    | false =>
      simp only [Bool.false_eq_true, if_false, List.nil_append] at H
      rw [hrfA_close] at H
      have dr : ∀ n : Nat, (srcL b.word false).drop ((((2 + (wordL ds).length : Nat) : Int) + (n : Int)).toNat) = ([41, 32, 100] : List Nat).drop n := fun n => by
        rw [show ((((2 + (wordL ds).length : Nat) : Int) + (n : Int)).toNat) = n + 1 + b.word.length by omega, src_drop]; rfl
      have hlen : ((srcL b.word false).length : Int) = ((2 + (wordL ds).length : Nat) : Int) + 3 := by rw [src_len, if_neg (by decide)]; omega
      have d0 : (srcL b.word false).drop (((2 + (wordL ds).length : Nat) : Int)).toNat = [41, 32, 100] := by simpa using dr 0
      have d1 : (srcL b.word false).drop (((2 + (wordL ds).length : Nat) : Int) + 1).toNat = [32, 100] := dr 1
      have d2 : (srcL b.word false).drop (((2 + (wordL ds).length : Nat) : Int) + 2).toNat = [100] := dr 2
      by_cases hz : b.lev = 0
      · rw [if_pos hz] at H
        dsimp only at H
        rw [hz, if_pos rfl, hsub] at H
        have s0 : scanI isWs (srcL b.word false) ((2 + (wordL ds).length : Nat) : Int) = _ := scanD_no (by omega) d0 rfl
        have hL := linkR_7 H (titleR_no d0 rfl) (by rw [s0]; omega) (by rw [s0, (drop_get d0).2.1]; rfl)
        rw [s0] at hL
        refine ⟨fun h => ?_, fun _ h => absurd hz h, fun _ h => by omega, fun _ _ _ => ⟨_, ?_, tot⟩⟩
        · rw [c1] at h; cases h
        · rw [hL, hlen, show ((2 + (wordL ds).length : Nat) : Int) + 3 - 2 = ((2 + (wordL ds).length : Nat) : Int) + 1 by omega]; rfl
      · rw [if_neg hz, hrfA_sp] at H
        have hn : linkR lim (srcL b.word false) 1 = none := by
          dsimp only at H
          split at H
          · have s1 : scanI isWs (srcL b.word false) (((2 + (wordL ds).length + 1 : Nat)) : Int) = ((2 + (wordL ds).length : Nat) : Int) + 2 := by
              rw [show (((2 + (wordL ds).length + 1 : Nat)) : Int) = ((2 + (wordL ds).length : Nat) : Int) + 1 by omega, scanD_yes (by omega) d1 rfl, show ((2 + (wordL ds).length : Nat) : Int) + 1 + 1 = ((2 + (wordL ds).length : Nat) : Int) + 2 by omega]
              exact scanD_no (by omega) d2 rfl
            exact linkR_5 H (titleR_4 (by rw [s1, (drop_get d2).2.1]; rfl)) (by rw [s1, (drop_get d2).2.1]; rfl)
          · exact linkR_1 H
        exact ⟨fun _ => hn, fun _ _ => hn, fun _ h => by omega, fun _ _ h => absurd h hz⟩
end Mine

end SPM

section SPN
open PySem PySem.W PyProof.Rows PySem.Calls PySem.Spec
set_option Elab.async false
set_option maxRecDepth 100000
set_option maxHeartbeats 4000000
namespace Mine
theorem subI_mem {l : List Nat} {i j : Int} : ∀ c ∈ subI l i j, c ∈ l := fun _ h => List.mem_of_mem_drop (List.mem_of_mem_take h)
theorem unescL_mem : ∀ (n : Nat) (l : List Nat), l.length ≤ n → ∀ c ∈ unescL l, c ∈ l := by
  intro n
  induction n with
  | zero => intro l hn; have : l = [] := List.length_eq_zero_iff.mp (by omega); subst this; simp [unescL]
  | succ n ih =>
    intro l hn
    cases l with
    | nil => simp [unescL]
    | cons c r =>
      rw [unescL_cons]
      simp only [List.length_cons] at hn
      intro x hx
      split at hx
      · rename_i hc
        have hr : r ≠ [] := by rintro rfl; exact absurd hc.2 (by decide)
        obtain ⟨d, r', rfl⟩ := List.exists_cons_of_ne_nil hr
        simp only [List.headD_cons, List.tail_cons, List.mem_cons] at hx
        rcases hx with hx | hx
        · simp [hx]
        · have := ih r' (by simp only [List.length_cons] at hn; omega) x hx; simp [this]
      · rcases List.mem_cons.mp hx with hx | hx
        · simp [hx]
        · have := ih r (by omega) x hx; simp [this]
theorem hrefR_mem {lim : Int} {l h : List Nat} {i e : Int} (hh : hrefR lim l i = some (h, e)) : ∀ c ∈ h, c ∈ l := by
  unfold hrefR at hh
  dsimp only at hh
  split at hh
  · cases hh
  · split at hh
    · split at hh
      · cases hh; exact subI_mem
      · cases hh
    · split at hh
      · split at hh
        · cases hh; exact subI_mem
        · cases hh
      · cases hh
/-- the signs of law 01 -/
def okS (c : Nat) : Prop := c ∈ [40, 41, 97, 92, 91, 32, 34, 116, 117, 100]
theorem okS_quot {c : Nat} (h : okS c) : (isKept c = true ∨ ∃ d, hexOf c = some d) ∧ c ≠ 38 ∧ c ≠ 10 := by
  unfold okS at h
  simp only [List.mem_cons, List.not_mem_nil, or_false] at h
  rcases h with rfl | rfl | rfl | rfl | rfl | rfl | rfl | rfl | rfl | rfl <;> refine ⟨?_, by decide, by decide⟩ <;> first | exact .inl (by decide) | exact .inr ⟨_, rfl⟩
theorem wordL_ok : ∀ ds : List Int, ∀ c ∈ wordL ds, okS c := by
  intro ds
  induction ds with
  | nil => intro c h; cases h
  | cons k r ih =>
    intro c h
    rw [wordL_cons] at h
    rcases List.mem_append.mp h with h | h
    · rcases piece_cases k with ⟨p, _⟩ | ⟨p, _⟩ | ⟨p, _⟩ | ⟨p, _⟩ | ⟨p, _⟩ | ⟨p, _⟩ <;> rw [p] at h <;> simp only [List.mem_cons, List.not_mem_nil, or_false] at h <;> simp only [okS, List.mem_cons, List.not_mem_nil, or_false] <;> omega
    · exact ih c h
theorem src_ok {w : List Nat} {titled : Bool} (hw : ∀ c ∈ w, okS c) : ∀ c ∈ srcL w titled, okS c := by
  intro c h
  unfold srcL at h
  rcases List.mem_cons.mp h with h | h
  · subst h; simp [okS]
  · rcases List.mem_append.mp h with h | h
    · exact hw c h
    · cases titled <;> simp at h <;> simp only [okS, List.mem_cons, List.not_mem_nil, or_false] <;> omega
theorem mem_getD {l : List Nat} {j : Nat} (h : l.getD j 0 ≠ 0) : l.getD j 0 ∈ l := by
  by_cases hj : j < l.length
  · rw [← List.getElem_eq_getD (h := hj)]; exact List.getElem_mem hj
  · rw [getD_of_le (by omega)] at h; exact absurd rfl h
theorem okS_noBlank {l : List Nat} (h : ∀ c ∈ l, okS c) : NoBlank l := by
  intro j _ hj
  have e : l.getD j.toNat 0 = 10 := by simpa using hj
  exact absurd e (okS_quot (h _ (mem_getD (by rw [e]; decide)))).2.2
theorem word_ok (lim : Int) (ds : List Int) : ∀ c ∈ (ds.foldl (digG lim) digs0).word, okS c := by
  have hw := (fold_core (lim := lim) ds digs0 2 (by decide) rfl (by decide)).1
  rw [hw]
  intro c h
  rcases List.mem_append.mp h with h | h
  · have : c = 97 := by simpa [digs0] using h
    subst this; simp [okS]
  · exact wordL_ok _ _ h
theorem okS_href {l : List Nat} (hl : ∀ c ∈ l, okS c) {lim i : Int} : ∀ h e, hrefR lim l i = some (h, e) → Quotable (unescL h) ∧ (unescL h).contains 38 = false := by
  intro h e hh
  have key : ∀ c ∈ unescL h, okS c := fun c hc => hl _ (hrefR_mem hh _ (unescL_mem _ _ (Nat.le_refl _) _ hc))
  refine ⟨fun c hc => (okS_quot (key c hc)).1, ?_⟩
  cases hb : (unescL h).contains 38 with
  | false => rfl
  | true => exact absurd rfl (okS_quot (key 38 (by simpa using hb))).2.1
end Mine

end SPN

section SLX
open PySem PySem.W PyProof.Rows PySem.Calls PySem.Spec
set_option Elab.async false
set_option maxRecDepth 100000
set_option maxHeartbeats 4000000
namespace Mine
/-- two values compared by one model -/
def EqM (prog : Program) (w : World) (A : Around) (s : Shared) (x y : Value) (b : Bool) : Prop :=
  ∀ (E : Value → Shared → Prop) (Q : Bool → Shared → Prop), Q b s → wpAny (model prog w) A (eqBool x y) Q E s
section
variable {prog : Program} {w : World} {A : Around} {E : Value → Shared → Prop} {s : Shared} {a b : Addr} {x1 x2 y1 y2 : Value} {b1 b2 : Bool}
theorem EqM.of {x y : Value} {c : Bool} (h : PySem.SeqAt.EqAt A s x y c) : EqM prog w A s x y c := fun E Q hq => h prog w E Q hq
theorem EqM.int {i j : Int} {t u : Tok} : EqM prog w A s (.int i t) (.int j u) (i == j) := EqM.of (PySem.SeqAt.EqAt.int_int i t j u)
theorem EqM.none : EqM prog w A s .none .none true := EqM.of (PySem.SeqAt.EqAt.same _)
theorem EqM.refs {l b : Addr} {k : Bool} (hne : @Ne Nat l b) (h : ∀ (E : Value → Shared → Prop) (Q : Value → Shared → Prop), Q (.bool k) s → wpAny (model prog w) A (compareOp .Eq (.ref l) (.ref b)) Q E s) : EqM prog w A s (.ref l) (.ref b) k := fun E Q hq => by
  unfold eqBool
  refine wpAny_holding ?_
  refine wpAny_ite_split (fun hab => absurd (by have := eq_of_beq hab; injection this) hne) (fun _ => ?_)
  exact wpAny_bind (h E _ (wpAny_truthy_bool hq))
theorem eq_pair {Q : Value → Shared → Prop} (ha : s.heap.get? a = some (tupObj [x1, x2])) (hb : s.heap.get? b = some (tupObj [y1, y2])) (hu : A.units < cLine)
    (h1 : EqM prog w A.in1 s x1 y1 b1) (h2 : b1 = true → EqM prog w A.in1 s x2 y2 b2) (h : Q (.bool (b1 && b2)) s) : wpAny (model prog w) A (compareOp .Eq (.ref a) (.ref b)) Q E s := by
  refine wpAny_richCompare_same_room (op := .Eq) ⟨_, ha, rfl⟩ ⟨_, hb, rfl⟩ PySem.F.slot_tuple_eq (wpAny_call_entry PySem.F.slot_tuple_eq ⟨_, ha, rfl⟩ PySem.F.entry_tuple_eq ?_ (PySem.F.args_tuple_eq_2 _ _)) hu
  show wpAny _ _ (isInstance (.ref b) (.type "tuple") >>= _) _ _ s
  refine wpAny_bind (wpAny_isInstance (T := "tuple") ⟨_, hb, rfl⟩ isSubtype_tuple_tuple ?_)
  simp only [Bool.not_true, Bool.false_eq_true, if_false]
  refine wpAny_bind (wpAny_tupleItemsOf ha rfl ?_)
  refine wpAny_bind (wpAny_tupleItemsOf hb rfl ?_)
  refine wpAny_bind ?_
  simp only [List.zip_cons_cons, List.zip_nil_right, List.forIn_cons, List.forIn_nil]
  refine wpAny_bind (wpAny_bind (h1 _ _ ?_))
  cases b1 with
  | false =>
    simp only [Bool.not_false, if_true]
    exact wpAny_bind (wpAny_pure (wpAny_pure (wpAny_pure (wpAny_pure ⟨_, rfl, (fun x => nomatch x), h⟩))))
  | true =>
    simp only [Bool.not_true, Bool.false_eq_true, if_false]
    refine wpAny_pure ?_
    refine wpAny_bind (wpAny_bind (h2 rfl _ _ ?_))
    cases b2 with
    | false =>
      simp only [Bool.not_false, if_true]
      exact wpAny_bind (wpAny_pure (wpAny_pure (wpAny_pure (wpAny_pure ⟨_, rfl, (fun x => nomatch x), h⟩))))
    | true =>
      simp only [Bool.not_true, Bool.false_eq_true, if_false]
      exact wpAny_pure (wpAny_pure (wpAny_pure ⟨_, rfl, (fun x => nomatch x), h⟩))
theorem ne_pair {Q : Value → Shared → Prop} (ha : s.heap.get? a = some (tupObj [x1, x2])) (hb : s.heap.get? b = some (tupObj [y1, y2])) (hu : A.units < cLine)
    (h1 : EqM prog w A.in1 s x1 y1 b1) (h2 : b1 = true → EqM prog w A.in1 s x2 y2 b2) (h : Q (.bool (!(b1 && b2))) s) : wpAny (model prog w) A (compareOp .NotEq (.ref a) (.ref b)) Q E s := by
  refine wpAny_richCompare_same_room (op := .NotEq) ⟨_, ha, rfl⟩ ⟨_, hb, rfl⟩ PySem.F.slot_tuple_ne (wpAny_call_entry PySem.F.slot_tuple_ne ⟨_, ha, rfl⟩ PySem.F.entry_tuple_ne ?_ (PySem.F.args_tuple_ne_2 _ _)) hu
  show wpAny _ _ (isInstance (.ref b) (.type "tuple") >>= _) _ _ s
  refine wpAny_bind (wpAny_isInstance (T := "tuple") ⟨_, hb, rfl⟩ isSubtype_tuple_tuple ?_)
  simp only [Bool.not_true, Bool.false_eq_true, if_false]
  refine wpAny_bind (wpAny_tupleItemsOf ha rfl ?_)
  refine wpAny_bind (wpAny_tupleItemsOf hb rfl ?_)
  refine wpAny_bind ?_
  simp only [List.zip_cons_cons, List.zip_nil_right, List.forIn_cons, List.forIn_nil]
  refine wpAny_bind (wpAny_bind (h1 _ _ ?_))
  cases b1 with
  | false =>
    simp only [Bool.not_false, if_true]
    exact wpAny_bind (wpAny_pure (wpAny_pure (wpAny_pure (wpAny_pure ⟨_, rfl, (fun x => nomatch x), h⟩))))
  | true =>
    simp only [Bool.not_true, Bool.false_eq_true, if_false]
    refine wpAny_pure ?_
    refine wpAny_bind (wpAny_bind (h2 rfl _ _ ?_))
    cases b2 with
    | false =>
      simp only [Bool.not_false, if_true]
      exact wpAny_bind (wpAny_pure (wpAny_pure (wpAny_pure (wpAny_pure ⟨_, rfl, (fun x => nomatch x), h⟩))))
    | true =>
      simp only [Bool.not_true, Bool.false_eq_true, if_false]
      exact wpAny_pure (wpAny_pure (wpAny_pure ⟨_, rfl, (fun x => nomatch x), h⟩))
end

theorem dict_rows (u a : List Nat) : KeqRows (dictD u a) (dictD u a) true := by
  unfold dictD
  split
  · have := KeqRows.hit (Db := [(PyData.str (Str.ofString "url"), PyData.str (S u))]) (k := .str (Str.ofString "url")) (v := .str (S u)) (u := .str (S u)) (r := []) (b := true) (by rfl) .nil
    simpa [PyData.eqv] using this
  · have := KeqRows.hit (Db := [(PyData.str (Str.ofString "url"), PyData.str (S u)), (PyData.str (Str.ofString "title"), PyData.str (S a))]) (k := .str (Str.ofString "url")) (v := .str (S u)) (u := .str (S u)) (by rfl)
      (KeqRows.hit (k := .str (Str.ofString "title")) (v := .str (S a)) (u := .str (S a)) (r := []) (b := true) (by rfl) .nil)
    simpa [PyData.eqv] using this
section
variable {prog : Program} {w : World} {A : Around} {E : Value → Shared → Prop} {s : Shared}
theorem EqM.links {d d2 : Addr} {od od2 : Obj} {u a : List Nat} (hd : s.heap.get? d = some od) (hd2 : s.heap.get? d2 = some od2) (lo : (d == sysModules) = false) (lo2 : (d2 == sysModules) = false) (h1 : LinkObj prog w od u a) (h2 : LinkObj prog w od2 u a) (hne : @Ne Nat d d2) (hu : A.units < cLine) :
    EqM prog w A s (.ref d) (.ref d2) true := by
  refine EqM.refs hne fun E Q hq => ?_
  obtain ⟨ps, hi, hf⟩ := h1
  obtain ⟨ps2, hi2, hf2⟩ := h2
  exact keq_tabs (knd := PySem.strKind _ _) (enc := PyData.str) PyProof.V.same_str ⟨lo, ps, Heap.dictOf_iff.mpr ⟨od, hd, hi⟩, hf⟩ ⟨lo2, ps2, Heap.dictOf_iff.mpr ⟨od2, hd2, hi2⟩, hf2⟩ rfl hu (dict_rows u a) hq
end
end Mine
namespace Mine
abbrev rawL (w T : List Nat) : List Nat := 40 :: (w ++ T ++ [41, 32, 100])
/-- what the law may read off: the four ways of one drawn word -/
def LawT (lim : Int) (b : DSt) (T a : List Nat) : Prop :=
  (b.link = false → linkR lim (rawL b.word T) 1 = none) ∧
  (b.link = true → ¬ b.place < 0 → ∃ h, linkR lim (rawL b.word T) 1 = some (h, [], b.place) ∧ quoteL (unescL h) = b.targ) ∧
  (b.link = true → b.place < 0 → (b.lev == 0) = false → linkR lim (rawL b.word T) 1 = none) ∧
  (b.link = true → b.place < 0 → (b.lev == 0) = true → ∃ h, linkR lim (rawL b.word T) 1 = some (h, a, ((rawL b.word T).length : Int) - 2) ∧ quoteL (unescL h) = b.targ)
def LawB (lim : Int) (b : DSt) : Prop := (∀ c ∈ b.word, okS c) ∧ b.word.length ≤ 17 ∧ b.targ.length ≤ 25 ∧ LawT lim b [] [] ∧ LawT lim b [32, 34, 116, 92, 34, 117, 34] [116, 34, 117]
theorem lawT_of (lim : Int) (ds : List Int) (titled : Bool) (b : DSt) (hb : ds.foldl (digG lim) digs0 = b) :
    LawT lim b (if titled = true then [32, 34, 116, 92, 34, 117, 34] else []) (if titled = true then [116, 34, 117] else []) := by
  have e : rawL b.word (if titled = true then [32, 34, 116, 92, 34, 117, 34] else []) = srcL b.word titled := by simp [rawL, srcL]
  obtain ⟨h1, h2, h3, h4⟩ := law_plain lim ds titled b hb
  unfold LawT
  rw [e]
  exact ⟨h1, fun x y => h3 x (by omega), fun _ y z => h2 y (by simpa using z), fun x y z => h4 x y (by simpa using z)⟩
theorem lawB_of (lim : Int) (ds : List Int) (h1 : (ds.foldl (digG lim) digs0).word.length ≤ 17) (h2 : (ds.foldl (digG lim) digs0).targ.length ≤ 25) : LawB lim (ds.foldl (digG lim) digs0) :=
  ⟨word_ok lim ds, h1, h2, lawT_of lim ds false _ rfl, lawT_of lim ds true _ rfl⟩
open PyProof.Rows.LCg
theorem dig_iter5 {prog : Program} {w : World} {A : Around} {E : Value → Shared → Prop} {s : Shared} {h₀ : Heap} {env : Env} {x : Str} {body : List Stmt} {Q : Flow → Shared → Prop} {D I ax c : Addr} {oI oax oc : Obj} {cmt : List (Addr × Obj)} {vs : List Value} {ds : List Int} {n : Nat} {m₀ : Str → Option Value} {all : List (Addr × Obj)} {t1 t2 t3 t5 tl : Tok} {lim : Int}
    (hoff : ∀ p ∈ cmt, p.1 ≠ I ∧ p.1 ≠ ax ∧ p.1 ≠ c) (hh : A.handled = none) (F : Fr h₀ env.locals s.heap m₀) (N : News h₀ env.locals s.heap all) (hD : (D, listOf (List.toArray vs) n) ∈ all) (hI : (I, oI) ∈ all) (hax : (ax, oax) ∈ all) (hc : (c, oc) ∈ all) (hsub : ∀ p ∈ cmt, p ∈ all)
    (ho1 : (@Ne Nat I D) ∧ (@Ne Nat ax D) ∧ (@Ne Nat c D) ∧ Off1 D cmt) (hi : IntsAre vs ds) (hl : ds.length ≤ 8) (hd : ∀ d ∈ ds, 0 ≤ d ∧ d < 8) (hlim : m₀ (Str.ofString "limit") = some (.int lim tl))
    (h1 : m₀ (Str.ofString "word") = some (.str (Str.ofString "a") t1)) (h2 : m₀ (Str.ofString "target") = some (.str (Str.ofString "a") t2)) (h3 : m₀ (Str.ofString "level") = some (.int 0 t3)) (h4 : m₀ (Str.ofString "link") = some (.bool true)) (h5 : m₀ (Str.ofString "place") = some (.int (-1) t5))
    (turn : ∀ k t (a : DSt) t1 t2 t3 t5 (u : Str → Option Value) h tk own, 0 ≤ k → k < 8 → a.word.length ≤ 17 → a.targ.length ≤ 25 → Fr h₀ env.locals h (fun y => if y = x then some (.int k t) else DFrm a t1 t2 t3 t5 u m₀ y) → News h₀ env.locals h ((I, oI) :: (ax, oax) :: (c, oc) :: (cmt ++ own)) →
      wpAny (model prog w) A (execs body env) (InvPostN h₀ env.locals (fun m nx => nx = (I, oI) :: (ax, oax) :: (c, oc) :: cmt ∧ DRel (digG lim a k) m₀ m) own (((I, oI) :: (ax, oax) :: (c, oc) :: cmt).map (·.1)) { s with heap := h, toks := tk } Q) E { s with heap := h, toks := tk })
    (done : ∀ (b : DSt) t1 t2 t3 t5 (u : Str → Option Value) h tk, LawB lim b → Fr h₀ env.locals h (DFrm b t1 t2 t3 t5 u m₀) → News h₀ env.locals h ((I, oI) :: (ax, oax) :: (c, oc) :: cmt) → Q .next { s with heap := h, toks := tk }) :
    wpAny (model prog w) A (pyIter (.ref D)) (fun it s₂ => LoopAtV prog w A h₀ env x body Q E it s₂) E s :=
  dig_iter3 hoff hh F N hD hI hax hc hsub ho1 hi hl hd hlim h1 h2 h3 h4 h5 turn fun t1 t2 t3 t5 u h tk dw dg => done _ t1 t2 t3 t5 u h tk (lawB_of lim ds dw dg)
section
variable {prog : Program} {w : World} {K : Frag} {dep : Nat} {f : Addr} {p : Program} {loose : List Str} {mean : ExcName → Option Value} {mg mb : Str → Option Value} {dp un : Nat} {gd : Option (List Code)} {cn : Str} {cs : Scope} {a : Addr} {ccd : Value} {cl : List (Str × Addr)} {outer : List Env} {A₀ : Around} {base h₀ : Heap} {L : Addr} {m : Str → Option Value} {s : Shared} {Q E : Value → Shared → Prop}
abbrev LinkPost (TL : List (Addr × Obj) → Prop) (prog : Program) (w : World) (lim : Int) (l : List Nat) (i : Int) (v : Value) (new mt' : List (Addr × Obj)) : Prop :=
  (∃ r, v = .ref r ∧ match linkR lim l i with
      | some (h, a, n) => ∃ d od t1, new = [(r, tupObj [.ref d, .int n t1]), (d, od)] ∧ (LinkObj prog w od (quoteL (unescL h)) a ∧ (d == sysModules) = false)
      | none => new = [(r, tupObj [.none, .none])]) ∧ TL mt'
abbrev LinkCon (TL : List (Addr × Obj) → Prop) (prog : Program) (w : World) (K : Frag) (dep : Nat) (f : Addr) : Prop :=
  ∀ (l : List Nat) (tx ti tl : Tok) (i lim : Int) (mt : List (Addr × Obj)), 0 ≤ i → i ≤ l.length → l.length < 2 ^ 19 → 0 ≤ lim → lim ≤ 100 → NoBlank l → TL mt →
    (∀ h e, hrefR lim l i = some (h, e) → Quotable (unescL h) ∧ (unescL h).contains 38 = false) →
    Con prog w K dep f [.str (S l) tx, .int i ti] [(Str.ofString "max_nested_level", .int lim tl)] mt (LinkPost TL prog w lim l i)
theorem law_call (TL : List (Addr × Obj) → Prop) {x1 x2 x3 x4 : Addr × Obj} {cmt : List (Addr × Obj)} {lim : Int} {b : DSt} {T aT : List Nat} {tx ti tl : Tok} (hc : LinkCon TL prog w K dep f) (B : Below A₀ base outer h₀) (F : Fr h₀ L s.heap m) (X : K.In h₀) (N : News h₀ L s.heap (x1 :: x2 :: x3 :: x4 :: cmt)) (T' : Top p loose mean mg mb h₀) (hk : cs.kind = .function) (hd : dp + dep < recursionLimit) (hu : un + 8 * dep < cLine)
    (hT : TL cmt) (ho : ∀ p ∈ cmt, p.1 ≠ x2.1 ∧ p.1 ≠ x3.1 ∧ p.1 ≠ x4.1) (hl : (@LT.lt Nat _ x2.1 x1.1) ∧ (@LT.lt Nat _ x3.1 x1.1) ∧ (@LT.lt Nat _ x4.1 x1.1) ∧ AllLt x1.1 cmt)
    (hlim : 1 ≤ lim ∧ lim ≤ 5) (hb : LawB lim b) (hLT : LawT lim b T aT) (hTl : T.length ≤ 7) (hTo : ∀ c ∈ T, okS c)
    (g1 : b.link = false → ∀ r (mt1 : List (Addr × Obj)) h' tk', TL mt1 → (∀ p ∈ mt1, p.1 ≠ x2.1 ∧ p.1 ≠ x3.1 ∧ p.1 ≠ x4.1) → Fr h₀ L h' m → News h₀ L h' ((r, tupObj [.none, .none]) :: x1 :: x2 :: x3 :: x4 :: mt1) → Q (.ref r) { s with heap := h', toks := tk' })
    (g2 : b.link = true → ¬ b.place < 0 → ∀ r d od t1 (mt1 : List (Addr × Obj)) h' tk', LinkObj prog w od b.targ [] → (d == sysModules) = false → (@Ne Nat d x1.1) → TL mt1 → (∀ p ∈ mt1, p.1 ≠ x2.1 ∧ p.1 ≠ x3.1 ∧ p.1 ≠ x4.1) → Fr h₀ L h' m → News h₀ L h' ((r, tupObj [.ref d, .int b.place t1]) :: (d, od) :: x1 :: x2 :: x3 :: x4 :: mt1) → Q (.ref r) { s with heap := h', toks := tk' })
    (g3 : b.link = true → b.place < 0 → (b.lev == 0) = false → ∀ r (mt1 : List (Addr × Obj)) h' tk', TL mt1 → (∀ p ∈ mt1, p.1 ≠ x2.1 ∧ p.1 ≠ x3.1 ∧ p.1 ≠ x4.1) → Fr h₀ L h' m → News h₀ L h' ((r, tupObj [.none, .none]) :: x1 :: x2 :: x3 :: x4 :: mt1) → Q (.ref r) { s with heap := h', toks := tk' })
    (g4 : b.link = true → b.place < 0 → (b.lev == 0) = true → ∀ r d od t1 (mt1 : List (Addr × Obj)) h' tk', LinkObj prog w od b.targ aT → (d == sysModules) = false → (@Ne Nat d x1.1) → TL mt1 → (∀ p ∈ mt1, p.1 ≠ x2.1 ∧ p.1 ≠ x3.1 ∧ p.1 ≠ x4.1) → Fr h₀ L h' m → News h₀ L h' ((r, tupObj [.ref d, .int (((rawL b.word T).length : Int) - 2) t1]) :: (d, od) :: x1 :: x2 :: x3 :: x4 :: mt1) → Q (.ref r) { s with heap := h', toks := tk' }) :
    wpAny (model prog w) (ktrTop dp un gd cn cs L a ccd cl outer) (call (.ref f) [.str (S (rawL b.word T)) tx, .int 1 ti] [(Str.ofString "max_nested_level", .int lim tl)]) Q E s := by
  have hlen : (rawL b.word T).length = b.word.length + T.length + 4 := by simp [rawL]; omega
  have hok : ∀ c ∈ rawL b.word T, okS c := by
    intro c hc
    rcases List.mem_cons.mp hc with rfl | hc
    · simp [okS]
    · rcases List.mem_append.mp hc with hc | hc
      · rcases List.mem_append.mp hc with hc | hc
        · exact hb.1 c hc
        · exact hTo c hc
      · simp only [List.mem_cons, List.not_mem_nil, or_false] at hc
        rcases hc with rfl | rfl | rfl <;> simp [okS]
  have hw := hb.2.1
  refine Con.useM [x1, x2, x3, x4] (hc (rawL b.word T) tx ti tl 1 lim cmt (by omega) (by omega) (by omega) (by omega) (by omega) (okS_noBlank hok) hT (okS_href hok)) B F X N (fun q hq => ?_) (fun p hp q hq => ?_) T' hk hd hu ?_
  · rcases List.mem_append.mp hq with hq | hq
    · exact .tail _ (.tail _ (.tail _ (.tail _ hq)))
    · simp only [List.mem_cons, List.not_mem_nil, or_false] at hq ⊢
      rcases hq with rfl | rfl | rfl | rfl <;> simp
  · have := ho p hp
    have h9 := allLt_mem hl.2.2.2 p hp
    simp only [List.mem_cons, List.not_mem_nil, or_false] at hq
    rcases hq with rfl | rfl | rfl | rfl
    · exact Nat.ne_of_lt h9
    · exact this.1
    · exact this.2.1
    · exact this.2.2
  · rintro v h' tk' new mt1 ⟨⟨r, rfl, hm1⟩, hTab1⟩ hne F' N'
    have hoff1 : ∀ p ∈ mt1, p.1 ≠ x2.1 ∧ p.1 ≠ x3.1 ∧ p.1 ≠ x4.1 := fun p hp => by
      have := hne p (List.mem_append_right _ hp)
      exact ⟨this x2 (by simp), this x3 (by simp), this x4 (by simp)⟩
    have none_ : linkR lim (rawL b.word T) 1 = none → News h₀ L h' ((r, tupObj [.none, .none]) :: x1 :: x2 :: x3 :: x4 :: mt1) := fun e => by
      rw [e] at hm1
      subst hm1
      intro q hq
      refine N' q ?_
      simp only [List.mem_cons, List.mem_append, List.not_mem_nil, or_false, false_or] at hq ⊢
      rcases hq with h | h | h | h | h | h <;> simp [h]
    have some_ : ∀ h aa n, linkR lim (rawL b.word T) 1 = some (h, aa, n) → ∃ d od t1, LinkObj prog w od (quoteL (unescL h)) aa ∧ (d == sysModules) = false ∧ (@Ne Nat d x1.1) ∧ News h₀ L h' ((r, tupObj [.ref d, .int n t1]) :: (d, od) :: x1 :: x2 :: x3 :: x4 :: mt1) := fun h aa n e => by
      rw [e] at hm1
      obtain ⟨d, od, t1, rfl, hlo, hsy⟩ := hm1
      refine ⟨d, od, t1, hlo, hsy, hne (d, od) (by simp) x1 (by simp), fun q hq => N' q ?_⟩
      simp only [List.mem_cons, List.mem_append, List.not_mem_nil, or_false, false_or] at hq ⊢
      rcases hq with h | h | h | h | h | h | h <;> simp [h]
    cases hlk : b.link with
    | false => exact g1 hlk r mt1 h' tk' hTab1 hoff1 F' (none_ (hLT.1 hlk))
    | true =>
      by_cases hp : b.place < 0
      · cases hz : (b.lev == 0) with
        | false => exact g3 hlk hp hz r mt1 h' tk' hTab1 hoff1 F' (none_ (hLT.2.2.1 hlk hp hz))
        | true =>
          obtain ⟨h, e, eq⟩ := hLT.2.2.2 hlk hp hz
          obtain ⟨d, od, t1, hlo, hsy, hdx, N''⟩ := some_ _ _ _ e
          rw [eq] at hlo
          exact g4 hlk hp hz r d od t1 mt1 h' tk' hlo hsy hdx hTab1 hoff1 F' N''
      · obtain ⟨h, e, eq⟩ := hLT.2.1 hlk hp
        obtain ⟨d, od, t1, hlo, hsy, hdx, N''⟩ := some_ _ _ _ e
        rw [eq] at hlo
        exact g2 hlk hp r d od t1 mt1 h' tk' hlo hsy hdx hTab1 hoff1 F' N''
end
theorem ab1 {b : DSt} (h : ¬ b.place < 0) (h' : b.place < 0) : False := h h'
theorem ab2 {b : DSt} (h : b.link = true) (h' : b.link = false) : False := by rw [h] at h'; cases h'
theorem ab3 {b : DSt} (h : ¬ b.link = true) (h' : b.link = true) : False := h h'
theorem CTurn.go {h₀ h' : Heap} {L I ax c : Addr} {oI oax oc' : Obj} {ln : Str} {lv : Value} {TM : List (Addr × Obj) → Prop} {s : Shared} {Q : Flow → Shared → Prop} {m' : Str → Option Value} {all : List (Addr × Obj)} {mt' : List (Addr × Obj)} {v : Option Value} {tk' : Nat}
    (hT : TM mt') (hoff : ∀ p ∈ mt', p.1 ≠ I ∧ p.1 ≠ ax ∧ p.1 ≠ c) (hoc : oc'.data = .cell v) (F : Fr h₀ L h' m') (hm : m' ln = some lv) (N : News h₀ L h' all) (h1 : (I, oI) ∈ all) (h2 : (ax, oax) ∈ all) (h3 : (c, oc') ∈ all) (h4 : ∀ p ∈ mt', p ∈ all) :
    CTurn h₀ L I ax c oI oax ln lv TM s Q .next { s with heap := h', toks := tk' } :=
  ⟨h', tk', m', mt', v, oc', rfl, F, hm, fun p hp => by
    rcases List.mem_cons.mp hp with rfl | hp
    · exact N _ h1
    · rcases List.mem_cons.mp hp with rfl | hp
      · exact N _ h2
      · rcases List.mem_cons.mp hp with rfl | hp
        · exact N _ h3
        · exact N _ (h4 p hp), hoc, hT, hoff⟩
theorem lawB_u {lim : Int} {b : DSt} (h : LawB lim b) : LawT lim b [] [] := h.2.2.2.1
theorem lawB_t {lim : Int} {b : DSt} (h : LawB lim b) : LawT lim b [32, 34, 116, 92, 34, 117, 34] [116, 34, 117] := h.2.2.2.2
theorem lawB_w {lim : Int} {b : DSt} (h : LawB lim b) : b.word.length ≤ 17 := h.2.1
theorem ok_nil : ∀ c ∈ ([] : List Nat), okS c := fun _ h => nomatch h
theorem ok_tt : ∀ c ∈ ([32, 34, 116, 92, 34, 117, 34] : List Nat), okS c := by simp [okS]
theorem LinkObj.yesX {prog : Program} {w : World} {od : Obj} {u a : List Nat} {x : Str} {t1 t2 t3 : Tok} (hd : Obj.IsDictOf (strKind prog w) od (stored (strPairs [(Value.str (Str.ofString "url") t1, Value.str (S u) t2)]) (Str.ofString "title") (Value.str x t3)))
    (hf : PyProof.V.FlatPairs PyData.str (stored (strPairs [(Value.str (Str.ofString "url") t1, Value.str (S u) t2)]) (Str.ofString "title") (Value.str x t3)) (PyProof.V.putD (PyData.str (Str.ofString "title")) (PyData.str x) (strData [(Value.str (Str.ofString "url") t1, Value.str (S u) t2)]))) (hx : x = S a) (ha : a.isEmpty = false) : LinkObj prog w od u a := by
  subst hx; exact LinkObj.yes hd hf ha
section
variable {prog : Program} {w : World} {A : Around} {E : Value → Shared → Prop} {s : Shared} {a b : Addr} {x1 x2 y1 y2 : Value} {Q : Value → Shared → Prop}
theorem EqM.int_same {i : Int} {t u : Tok} : EqM prog w A s (.int i t) (.int i u) true := by
  have := EqM.int (prog := prog) (w := w) (A := A) (s := s) (i := i) (j := i) (t := t) (u := u)
  rwa [beq_self_eq_true] at this
theorem ne_pair_same (ha : s.heap.get? a = some (tupObj [x1, x2])) (hb : s.heap.get? b = some (tupObj [y1, y2])) (hu : A.units < cLine) (h1 : EqM prog w A.in1 s x1 y1 true) (h2 : EqM prog w A.in1 s x2 y2 true) (h : Q (.bool false) s) :
    wpAny (model prog w) A (compareOp .NotEq (.ref a) (.ref b)) Q E s := ne_pair ha hb hu h1 (fun _ => h2) h
end
end Mine

end SLX

section SCL
open PySem PySem.W PyProof.Rows PySem.Calls PySem.Spec
theorem Mine.offCL : True := by w_top off; exact trivial
namespace Mine
theorem link_con (w : World) : LinkCon TabL PySem.Challenge.rw_ci0012_01.row.prog w (hd.heap_39 w.params) 7 105 :=
  fun l tx ti tl i lim mt a1 a2 a3 a4 a5 a6 a7 a8 => c_link w l tx ti tl i lim mt a1 a2 a3 a4 a5 a6 a7 a8
end Mine

end SCL

section SCK
open PySem PySem.W PyProof.Rows PySem.Calls PySem.Spec
theorem Mine.offCK : True := by w_top off; exact trivial
namespace Mine
section
local macro_rules | `(tactic| cell_enter) => `(tactic| (refine wpAny_call ?_; refine' con_code (by assumption) ?k1 ?k2 ?k3 ?k4 ?kz ?k5 ?kA ?kF ?kK ?k6 ?k7 ?k8 ?k9 ?kB (by assumption) ?kQ ?_ ?c2 ?c3 ?c4 ?c5; (case kA => exact rfl); (case kF => exact rfl); (case kK => assumption); (case k1 => k_asm); (case k2 => k_asm); (case k3 => k_asm); (case k4 => k_asm); (case kz => assumption); (case k5 => k_asm); (case k6 => k_is); (case k7 => k_is); (case k8 => ktr_room); (case k9 => (refine' kp_binds ?kx ?ke; (case kx => k_in); (case ke => exact fun _ => rfl))); (case kQ => exact fun _ _ q => q); (case c5 => decide); (case kB => exact locs rfl); (case c2 => exact rfl); (case c3 => exact rfl); (case c4 => exact rfl); k_whole; intro g' L' h' F' N' B' X' T' l0; (try k_lt l0); (try dsimp only); (try k_fold)))
local macro_rules | `(tactic| walk_at "subscriptTail") => `(tactic| ((with_reducible show wpAny _ _ (subscriptTail _ _ (Value.str (S _) _) (Value.int _ _)) _ _ _); refine sub_S (by omega) (by omega) (by omega) ?_))
local macro_rules | `(tactic| walk_at "subscriptTail Name Name str int") => `(tactic| (refine sub_S (by omega) (by omega) (by omega) ?_))
local macro_rules | `(tactic| walk_at "compareOp In str str") => `(tactic| first | refine in_ws ?_ | refine in_punct ?_ | refine in_blank ?_ | refine in_nl ?_ | refine in_ang ?_)
local macro_rules | `(tactic| walk_at "call builtin:len") => `(tactic| refine len_S (by omega) ?_)
local macro_rules | `(tactic| walk_at "call builtin:ord") => `(tactic| refine ord_ch ?_)
local macro_rules | `(tactic| walk_at "compareOp Eq str str") => `(tactic| first
  | refine eq_ch (d := 60) (by decide : Str.ofString "<" = S [60]) ?_
  | refine eq_ch (d := 62) (by decide : Str.ofString ">" = S [62]) ?_
  | refine eq_ch (d := 10) (by decide : Str.ofString "\n" = S [10]) ?_
  | refine eq_ch (d := 13) (by decide : Str.ofString "\x0d" = S [13]) ?_
  | refine eq_ch (d := 40) (by decide : Str.ofString "(" = S [40]) ?_
  | refine eq_ch (d := 41) (by decide : Str.ofString ")" = S [41]) ?_
  | refine eq_ch (d := 92) (by decide : Str.ofString "\\" = S [92]) ?_
  | refine eq_ch (d := 0) (by decide : Str.ofString "\x00" = S [0]) ?_
  | refine eq_ch (d := 127) (by decide : Str.ofString "\x7f" = S [127]) ?_)
local macro_rules | `(tactic| walk_at "compareOp NotEq str str") => `(tactic| first
  | refine ne_ch (d := 41) (by decide : Str.ofString ")" = S [41]) ?_)
local macro_rules | `(tactic| walk_at "subscriptTail Name Slice str ref") => `(tactic| ((with_reducible show wpAny _ _ (subscriptTail _ (Expr.Slice (some _) (some _) none _) (Value.str (S _) _) _) _ _ _); (refine slice_go (s := ⟨_, _, _, _, _⟩) (by assumption) (by assumption) (by omega) (by omega) (by omega) (by omega) ?_); intro h' t' tk' F' N'))
local macro_rules | `(tactic| walk_at "ite") => `(tactic| first
  | with_reducible refine ite_tt ?_ | with_reducible refine ite_ff ?_ | with_reducible refine split_not ?_
  | with_reducible refine boolT (by with_reducible assumption) ?_ | with_reducible refine boolF (by with_reducible assumption) ?_
  | with_reducible refine decT (by omega) ?_ | with_reducible refine decF (by omega) ?_
  | (with_reducible refine split_ine ?_ ?_ <;> intro _) | (with_reducible refine split_ieq ?_ ?_ <;> intro _)
  | (with_reducible refine PyProof.Rows.split_dec ?_ ?_ <;> intro _) | (with_reducible refine PyProof.Rows.split_bool ?_ ?_ <;> intro _))
local macro_rules | `(tactic| ksw_same) => `(tactic| (intro z h2 h3; (simp only [List.forall_mem_cons, List.not_mem_nil, false_implies, implies_true, and_true, ne_eq] at h2); (simp only [List.contains_cons, List.contains_nil, Bool.or_false, Bool.or_eq_false_iff, beq_eq_false_iff_ne, ne_eq] at h3); simp only [h2, h3, if_false, List.contains_cons, List.contains_nil, Bool.or_false, Bool.or_eq_true, beq_iff_eq, or_self, or_false, false_or, Bool.false_eq_true]))
local macro_rules | `(tactic| walk_at "MPost") => `(tactic| (dsimp only [MPost]))
local macro_rules | `(tactic| walk_at "truthy str") => `(tactic| first | refine truthy_cons (by simp only [List.length_nil]; omega) ?_ | refine truthy_S (by omega) ?_)
local macro_rules | `(tactic| walk_at "binaryOp Add str str") => `(tactic| first
  | (refine add_SS (a := []) (b := _) (by decide : Str.ofString "" = S []) rfl (by simp only [List.length_nil, List.length_cons]; omega) ?_; intro t' tk')
  | (refine add_SS rfl rfl (by simp only [List.length_nil, List.length_cons, List.length_append]; omega) ?_; intro t' tk'))
local macro_rules | `(tactic| walk_at "compareOp NotIn str str") => `(tactic| refine notin_ws ?_)

local macro_rules | `(tactic| walk_at "subscriptTail List") => `(tactic| ((with_reducible show wpAny _ _ (subscriptTail (Expr.List _ _) _ _ _) _ _ _); k_dflt (refine' slice_two (s := ⟨_, _, _, _, _⟩) (by assumption) (by assumption) ?hm ?h0 ?h2 ?_ ?hs; (case hs => with_unfolding_all rfl); (case hm => k_mem); (case h0 => omega); (case h2 => omega)); intro D' h' zs' F' N' l1 hIz'; k_lt l1))
local macro_rules | `(tactic| walk_at "exec For Name Subscript cons nil") => `(tactic| (k_dflt (refine for_cell (ln := Str.ofString "limit") TabL (by assumption) rfl rfl rfl rfl ?_)))
local macro_rules | `(tactic| walk_at "CFor") => `(tactic| (refine' CFor.intro [(76, tabObj #[])] ?hh ?hi ?F ?hm ?N ?h1 ?h2 ?h3 ?hoc ?hT ?hne ?hoff ?_ ?done; (case hh => rfl); (case hi => assumption); (case F => assumption); (case hm => rfl); (case N => assumption); (case h1 => k_mem); (case h2 => k_mem); (case h3 => lcg_sub); (case hoc => assumption); (case hT => exact .inl rfl); (case hne => omega); (case hoff => exact List.forall_mem_cons.mpr ⟨⟨by omega, by omega⟩, List.forall_mem_nil _⟩); (case done => (intro h' tk' m' mt' hT' F' N'; k_steps)); intro ck ct cu ch ctk cmt coc cI coI cT chd cne coff cF cN))
theorem grown_of {h₀ h : Heap} {L : Addr} {mt : List (Addr × Obj)} (hT : TabL mt) (N : News h₀ L h mt) : GrownAll [(80, 76)] h := by
  rcases hT with rfl | ⟨c', oc, vs, t, rfl, _⟩
  · exact ⟨⟨_, (N _ (.head _)).1⟩, trivial⟩
  · exact ⟨⟨_, (N _ (.head _)).1⟩, trivial⟩
local macro_rules | `(tactic| walk_at "GrownAll") => `(tactic| exact grown_of (by assumption) (by assumption))
open PyProof.Rows.LCg
local macro_rules | `(tactic| walk_at "exec Assign cons ListComp") => `(tactic| (k_dflt (refine Assign_ListComp_G (by assumption) (by rfl) (by with_unfolding_all rfl) (by with_unfolding_all rfl) (by decide) (by rfl) (by decide) (by rfl) (by rfl) (by rfl) ?_)))
local macro_rules | `(tactic| walk_at "SrcG") => `(tactic| ((with_reducible show SrcG _ _ _ _ _ _ _ _ _ _ _ _ (Value.ref _) _); k_dflt (refine SrcG.range (by rfl) (by assumption) (by assumption) (by assumption) ?_); intro g'; k_dflt (refine turnsD (fm9n _) ?_ ?_); intro k' t' I' oI' C' oC' D' m' ys' h' tk' E' hk0' hk8' hC' hx' F' N' off' ne'; (have off2' := off'); (try simp only [Off3, and_true] at off2'); (rcases (by omega : k' = 0 ∨ k' = 1 ∨ k' = 2 ∨ k' = 3 ∨ k' = 4 ∨ k' = 5 ∨ k' = 6 ∨ k' = 7) with e9 | e9 | e9 | e9 | e9 | e9 | e9 | e9 <;> subst e9)))
local macro_rules | `(tactic| walk_at "CompEnd") => `(tactic| (refine CompEnd.intro (by assumption) (by assumption) _ ?sub (by assumption) True.intro RowD.mk; (case sub => exact fun _ h => h)))
local macro_rules | `(tactic| walk_at "exec For Name Name cons nil") => `(tactic| (k_dflt (refine' For_invVF (by assumption) ?k1 ?k2 ?_; (case k1 => exact rfl); (case k2 => exact rfl))))
local macro_rules | `(tactic| walk_at "pyIter ref") => `(tactic| (k_dflt (focus (refine' dig_iter5 ?hoff ?hh ?F ?N ?hD ?hI ?hax ?hc ?hsub ?ho1 ?hi ?hl ?hd ?hlim ?h1 ?h2 ?h3 ?h4 ?h5 ?_ ?_; (case hoff => assumption); (case hh => rfl); (case F => assumption); (case N => assumption); (case hD => k_mem); (case hI => k_mem); (case hax => k_mem); (case hc => k_mem); (case hsub => (intro p9 hp9; repeat' (first | exact hp9 | refine List.Mem.tail _ ?_))); (case ho1 => assumption); (case hi => assumption); (case hl => assumption); (case hd => assumption); (case hlim => rfl); (case h1 => rfl); (case h2 => rfl); (case h3 => rfl); (case h4 => rfl); (case h5 => rfl); (all_goals (first | (intro (db : DSt) t1' t2' t3' t5' du h' tk' dB F' N'; (dsimp only [DFrm] at F'); (have dw9 := lawB_w dB)) | (intro dk dt da t1' t2' t3' t5' du h' tk' own' dk0 dk8 dw dg F' N'; (dsimp only [DFrm] at F'); (have dp2 := pieceL_le dk); (have dp3 := targL_le dk))))))))
local macro_rules | `(tactic| walk_at "subscriptTail") => `(tactic| ((with_reducible show wpAny _ _ (subscriptTail (Expr.Call _ _ _ _) _ (Value.ref _) (Value.int _ _)) _ _ _); k_dflt (refine item_tab pieceL (News.isList (by assumption) (by k_mem)) (eight ⟨_, rfl⟩ ⟨_, rfl⟩ ⟨_, rfl⟩ ⟨_, rfl⟩ ⟨_, rfl⟩ ⟨_, rfl⟩ ⟨_, rfl⟩ ⟨_, rfl⟩) (by omega) (by omega) ?_); intro tpi))
local macro_rules | `(tactic| walk_at "subscriptTail Name Name ref int") => `(tactic| (k_dflt (refine item_tab targL ⟨_, (Frag.In.keeps (by assumption) (Fr.keep (by assumption))) _ _ (by k_is), rfl, _, rfl⟩ (eight ⟨_, rfl⟩ ⟨_, rfl⟩ ⟨_, rfl⟩ ⟨_, rfl⟩ ⟨_, rfl⟩ ⟨_, rfl⟩ ⟨_, rfl⟩ ⟨_, rfl⟩) (by omega) (by omega) ?_); intro tti))
local macro_rules | `(tactic| walk_at "compareOp Eq str str") => `(tactic| first
  | refine eq_SL (b := [40]) (by decide : Str.ofString "(" = S [40]) ?_
  | refine eq_SL (b := [41]) (by decide : Str.ofString ")" = S [41]) ?_)
local macro_rules | `(tactic| walk_at "inplaceOp Add str str") => `(tactic| (refine iadd_SS rfl rfl (by omega) ?_; intro t' tk'))
theorem ieqT {a b : Int} {P Q : Prop} (h : a = b) (p : P) : if (a == b) = true then P else Q := by rw [if_pos (by simpa using h)]; exact p
theorem ieqF {a b : Int} {P Q : Prop} (h : ¬ a = b) (q : Q) : if (a == b) = true then P else Q := by rw [if_neg (by simpa using h)]; exact q
local macro_rules | `(tactic| walk_at "ite") => `(tactic| first | with_reducible refine ieqT (by with_reducible assumption) ?_ | with_reducible refine ieqF (by with_reducible assumption) ?_ | with_reducible refine decT (by with_reducible assumption) ?_ | with_reducible refine decF (by with_reducible assumption) ?_)
local macro_rules | `(tactic| walk_at "InvPostN") => `(tactic| (k_dflt (refine' dig_end2 ⟨_, _, _, _, _⟩ ?F ?N ?hs ?h1 ?h2 ?h3 ?h4 ?h5 ?he ?hr; (case F => assumption); (case N => assumption); (case hs => (intro p9 hp9; repeat' (first | exact hp9 | refine List.Mem.tail _ ?_))); (case h1 => rfl); (case h2 => rfl); (case h3 => rfl); (case h4 => rfl); (case h5 => rfl); (case he => first | exact dg_1 (by assumption) (by assumption) (by assumption) | exact dg_2 (by assumption) (by assumption) (by assumption) (by assumption) (by assumption) | exact dg_3 (by assumption) (by assumption) (by assumption) (by assumption) (by assumption) | exact dg_4 (by assumption) (by assumption) (by assumption) (by assumption) | exact dg_5 (by assumption) (by assumption) | exact dg_6 (by assumption)); (case hr => (intro z e1 e2 e3 e4 e5 e6; (have e7 := e6); (simp only [List.contains_cons, List.contains_nil, Bool.or_false, Bool.or_eq_false_iff, beq_eq_false_iff_ne, ne_eq] at e7); simp only [e1, e2, e3, e4, e5, e6, e7, if_false, Bool.false_eq_true])))))
local macro_rules | `(tactic| walk_at "binaryOp Add str str") => `(tactic| (first
  | refine add_SS (a := [40]) (by decide : Str.ofString "(" = S [40]) rfl (by simp only [List.length_append, List.length_cons, List.length_nil]; omega) ?_
  | refine add_SS rfl (by decide : Str.ofString " \"t\\\"u\"" = S [32, 34, 116, 92, 34, 117, 34]) (by simp only [List.length_append, List.length_cons, List.length_nil]; omega) ?_
  | refine add_SS rfl (by decide : Str.ofString "" = S []) (by simp only [List.length_append, List.length_cons, List.length_nil]; omega) ?_
  | refine add_SS rfl (by decide : Str.ofString ") d" = S [41, 32, 100]) (by simp only [List.length_append, List.length_cons, List.length_nil]; omega) ?_); intro t' tk')
local macro_rules | `(tactic| walk_at "call builtin:len") => `(tactic| refine len_S (by simp only [List.length_append, List.length_cons, List.length_nil]; omega) ?_)
local macro_rules | `(tactic| walk_at "call ref") => `(tactic| (k_dflt (focus (refine' law_call TabL (link_con _) ?B ?F ?X ?N ?T ?hk ?hd ?hu ?hT ?ho ?hl ?hlim ?hb ?hLT ?hTl ?hTo ?_ ?_ ?_ ?_; (case B => assumption); (case F => assumption); (case X => assumption); (case N => assumption); (case T => assumption); (case hk => rfl); (case hd => ktr_room); (case hu => ktr_units); (case hT => assumption); (case ho => assumption); (case hl => assumption); (case hlim => exact lim_le _); (case hb => assumption); (case hLT => first | exact lawB_u (by assumption) | exact lawB_t (by assumption)); (case hTl => decide); (case hTo => first | exact ok_nil | exact ok_tt); (all_goals (first | (intro hk9; exact (ab2 (by assumption) hk9).elim) | (intro hk9; exact (ab2 hk9 (by assumption)).elim) | (intro hk9 hp9; exact (ab1 hp9 (by assumption)).elim) | (intro hk9 hp9; exact (ab1 (by assumption) hp9).elim) | (intro (hk9 : DSt.link _ = false) r' mt1' h' tk' hTab1' hoff1' F' N') | (intro (hk9 : DSt.link _ = true) (hp9 : ¬ DSt.place _ < 0) r' d' od' t1' mt1' h' tk' hlo' hsy' hdx' hTab1' hoff1' F' N') | (intro (hk9 : DSt.link _ = true) (hp9 : DSt.place _ < 0) (hz9 : (DSt.lev _ == 0) = false) r' mt1' h' tk' hTab1' hoff1' F' N') | (intro (hk9 : DSt.link _ = true) (hp9 : DSt.place _ < 0) (hz9 : (DSt.lev _ == 0) = true) r' d' od' t1' mt1' h' tk' hlo' hsy' hdx' hTab1' hoff1' F' N')))))))
local macro_rules | `(tactic| walk_at "compareOp NotEq ref ref") => `(tactic| (k_dflt (first | refine ne_pair_same (News.get (by assumption) (by k_mem)) (News.get (by assumption) (by k_mem)) (by k_units) EqM.none EqM.none ?_ | (refine' ne_pair_same ?p1 ?p2 ?u1 ?e1 ?e2 ?_; (case p1 => exact News.get (by assumption) (by k_mem)); (case p2 => exact News.get (by assumption) (by k_mem)); (case u1 => k_units); (case e1 => (refine' EqM.links ?h1 ?h2 ?lo ?lo2 ?L1 ?L2 ?ne ?u; (case h1 => exact News.get (by assumption) (by k_mem)); (case h2 => exact News.get (by assumption) (by k_mem)); (case lo => assumption); (case lo2 => assumption); (case L1 => assumption); (case L2 => first | exact LinkObj.no (by assumption) (by assumption) rfl | exact LinkObj.yesX (by assumption) (by assumption) (by decide) rfl); (case ne => assumption); (case u => k_units))); (case e2 => exact EqM.int_same)))))
local macro_rules | `(tactic| walk_at "CTurn") => `(tactic| (k_dflt (refine' CTurn.go ?hT ?hoff ?hoc ?F ?hm ?N ?h1 ?h2 ?h3 ?h4; (case hT => assumption); (case hoff => assumption); (case hoc => assumption); (case F => assumption); (case hm => rfl); (case N => assumption); (case h1 => k_mem); (case h2 => k_mem); (case h3 => k_mem); (case h4 => (intro p9 hp9; repeat' (first | exact hp9 | refine List.Mem.tail _ ?_))))))
set_option pp.maxSteps 2000
set_option pp.deepTerms false
theorem t1 : PySem.Challenge.rw_ci0012_01.Holds := hd (by
  k_go0
  all_goals try k_fold
  k_steps)
end
end Mine

end SCK

theorem PySem.Challenge.cw_ci0012_01_holds : PySem.Challenge.rw_ci0012_01.Holds :=
  Mine.t1
