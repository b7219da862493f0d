import PyProof.Rows.All
import Wide.All
import OpenK.AllK
import Wide.FinOn
import PySem.Challenge.RW_nb0020_01
open PySem PySem.W PyProof.Rows PySem.Calls
set_option Elab.async false
set_option maxRecDepth 100000
namespace Mine
set_option maxHeartbeats 8000000 in
open_top hd for PySem.Challenge.rw_nb0020_01
theorem calm : True := by (w_top off; trivial)
/-- a def's end: opaque to the walk -/
def Ended (Q : Value → Shared → Prop) (v : Value) (s : Shared) : Prop := Q v s

section
variable {prog : Program} {w : World} {A₀ A : Around} {s : Shared} {base h₀ : Heap} {outer : List Env} {L : Addr} {m mg mb : Str → Option Value} {env : Env} {K : Frag} {p : Program} {loose : List Str} {mean : ExcName → Option Value}
  {Q E : Value → Shared → Prop} {name qual : Str} {params : Arguments} {body : List Stmt} {scope : Scope} {dV kV doc pm cdv ct oc : Value} {an od : Option Addr} {osl : Array (Option Value)} {f : Addr} {pos : List Value} {kw : List (Str × Value)} {binds : List (Str × Value)}

/-- a call of a def, the whole heap kept as the new frame's ground -/
theorem code_keep (B : Below A₀ base outer h₀) (F : Fr h₀ L s.heap m) (X₀ : K.In h₀) (T : Top p loose mean mg mb h₀) (hA : A.frames = some (env :: outer)) (hf : env.frame = some L) (hke : env.scope.kind = .function)
    (ho : K.lookup f = some ⟨oc, od, .func (fnOf name qual params body scope dV kV doc pm an cdv ct), osl⟩) (hcd : codeIn K cdv qual = true) (hroom : A.depth < recursionLimit)
    (hbind : BindsTo s (fnOf name qual params body scope dV kV doc pm an cdv ct) ⟨pos, kw⟩ binds) (hloc : ∀ y ∈ binds, scope.names.lookup y.1 = some .local)
    (h : ∀ g L' h₁, g = s.heap → Fr g L' h₁ (fun y => binds.reverse.lookup y) → News g L' h₁ [] → Below A base (env :: outer) g → K.In g → Top p loose mean mg mb g →
      wpAny (model prog w) (A.deeper (envOf qual scope L' f cdv)) (execs body (envOf qual scope L' f cdv))
        (fun fl s' => Ended Q (match fl with | .ret v => v | _ => .none) s')
        (fun e s' => wpAny (model prog w) (A.deeper (envOf qual scope L' f cdv)) (leaving (envOf qual scope L' f cdv) e) (fun _ s'' => E e s'') (fun e' s'' => E e' s'') s')
        { s with heap := h₁, toks := s.toks + binds.length })
    (hco : scope.isCoroutine = false) (hgen : scope.isGenerator = false) (hk : scope.kind = .function)
    (hcell : ∀ x ∈ scope.names, x.2 ≠ .cell) : wpAny (model prog w) A (call (.ref f) pos kw) Q E s := by
  have X := X₀.keeps F.keep
  have T' := T.keeps F.keep
  have B' := pushX (env := env) B F hf hke
  refine wpAny_call ?_
  refine codeAny_call_def (fd := fnOf name qual params body scope dV kV doc pm an cdv ct) (body := body) (binds := binds) hroom (X _ _ ho) rfl (T.nolimit.keeps F.keep) (codeRec_of X hcd) rfl hbind hcell hloc (fun h₁ hns hk₁ => ?_) hco hgen hk
  refine wpAny_mono (h s.heap s.heap.objs.size h₁ rfl ⟨hns, hk₁, Nat.le_refl _⟩ News.nil ?_ X T') (fun fl s' hl => hl) fun _ _ y => y
  exact ⟨hA, B'.stays, B'.frames⟩
end
/-- what a def's call gives, called from a frame of depth two: the value r with P r, and all that stood still stands -/
def Ctr (w : World) (f : Addr) (pos : List Value) (kw : List (Str × Value)) (Pre : Heap → Prop) (P : Value → Heap → Heap → Prop) : Prop :=
  ∀ (p : Program) (loose : List Str) (mean : ExcName → Option Value) (mg mb : Str → Option Value) (e1 e2 : Env) (A₀ : Around) (base h₀ : Heap) (L : Addr) (m : Str → Option Value) (s : Shared) (Q E : Value → Shared → Prop),
    Below A₀ base [e1] h₀ → Fr h₀ L s.heap m → (Mine.hd.heap_39 w.params).In h₀ → Top p loose mean mg mb h₀ → e2.frame = some L → e2.scope.kind = .function → Pre s.heap →
    (∀ r h' tk', s.heap.StaysIn h' → P r s.heap h' → Q r { s with heap := h', toks := tk' }) →
    wpAny (model PySem.Challenge.rw_nb0020_01.row.prog w) ((callerA.deeper e1).deeper e2) (call (.ref f) pos kw) Q E s
/-- the same from a frame of depth three -/
def Ctr3 (w : World) (f : Addr) (pos : List Value) (kw : List (Str × Value)) (Pre : Heap → Prop) (P : Value → Heap → Heap → Prop) : Prop :=
  ∀ (p : Program) (loose : List Str) (mean : ExcName → Option Value) (mg mb : Str → Option Value) (e1 e2 e3 : Env) (A₀ : Around) (base h₀ : Heap) (L : Addr) (m : Str → Option Value) (s : Shared) (Q E : Value → Shared → Prop),
    Below A₀ base [e2, e1] h₀ → Fr h₀ L s.heap m → (Mine.hd.heap_39 w.params).In h₀ → Top p loose mean mg mb h₀ → e3.frame = some L → e3.scope.kind = .function → Pre s.heap →
    (∀ r h' tk', s.heap.StaysIn h' → P r s.heap h' → Q r { s with heap := h', toks := tk' }) →
    wpAny (model PySem.Challenge.rw_nb0020_01.row.prog w) (((callerA.deeper e1).deeper e2).deeper e3) (call (.ref f) pos kw) Q E s
section
variable {w : World} {f : Addr} {pos : List Value} {kw : List (Str × Value)} {Pre : Heap → Prop} {P : Value → Heap → Heap → Prop} {p : Program} {loose : List Str} {mean : ExcName → Option Value} {mg mb : Str → Option Value} {e1 e2 e3 : Env} {A₀ : Around} {base h₀ : Heap} {L : Addr} {m : Str → Option Value} {s : Shared} {Q E : Value → Shared → Prop} {news : List (Addr × Obj)}
theorem Ctr.use (C : Ctr w f pos kw Pre P) (B : Below A₀ base [e1] h₀) (F : Fr h₀ L s.heap m) (X : (Mine.hd.heap_39 w.params).In h₀) (N : News h₀ L s.heap news) (T : Top p loose mean mg mb h₀) (hf : e2.frame = some L) (hk : e2.scope.kind = .function) (hp : Pre s.heap)
    (ret : ∀ r h' tk', s.heap.StaysIn h' → P r s.heap h' → Fr h₀ L h' m → News h₀ L h' news → Q r { s with heap := h', toks := tk' }) :
    wpAny (model PySem.Challenge.rw_nb0020_01.row.prog w) ((callerA.deeper e1).deeper e2) (call (.ref f) pos kw) Q E s :=
  C p loose mean mg mb e1 e2 A₀ base h₀ L m s Q E B F X T hf hk hp fun r h' tk' st hP => ret r h' tk' st hP (F.keptAll st) (N.grown st)
theorem Ctr3.use (C : Ctr3 w f pos kw Pre P) (B : Below A₀ base [e2, e1] h₀) (F : Fr h₀ L s.heap m) (X : (Mine.hd.heap_39 w.params).In h₀) (N : News h₀ L s.heap news) (T : Top p loose mean mg mb h₀) (hf : e3.frame = some L) (hk : e3.scope.kind = .function) (hp : Pre s.heap)
    (ret : ∀ r h' tk', s.heap.StaysIn h' → P r s.heap h' → Fr h₀ L h' m → News h₀ L h' news → Q r { s with heap := h', toks := tk' }) :
    wpAny (model PySem.Challenge.rw_nb0020_01.row.prog w) (((callerA.deeper e1).deeper e2).deeper e3) (call (.ref f) pos kw) Q E s :=
  C p loose mean mg mb e1 e2 e3 A₀ base h₀ L m s Q E B F X T hf hk hp fun r h' tk' st hP => ret r h' tk' st hP (F.keptAll st) (N.grown st)
end
/-- the sixty-four signs of binascii, as ints -/
def figL : List Int := [65, 66, 67, 68, 69, 70, 71, 72, 73, 74, 75, 76, 77, 78, 79, 80, 81, 82, 83, 84, 85, 86, 87, 88, 89, 90, 97, 98, 99, 100, 101, 102, 103, 104, 105, 106, 107, 108, 109, 110, 111, 112, 113, 114, 115, 116, 117, 118, 119, 120, 121, 122, 48, 49, 50, 51, 52, 53, 54, 55, 56, 57, 43, 47]
def figI (i : Int) : Int := figL.getD i.toNat 0
theorem land_high (x n : Nat) (h : n < 256) : x * 256 &&& n = 0 := by
  apply Nat.eq_of_testBit_eq
  intro i
  rw [Nat.testBit_and, Nat.zero_testBit]
  by_cases hi : i < 8
  · have : (x * 256).testBit i = false := by
      have e : x * 256 = x * 2 ^ 8 := rfl
      rw [e, Nat.testBit_mul_two_pow]
      simp
      omega
    rw [this]; rfl
  · have : n.testBit i = false := Nat.testBit_lt_two_pow (Nat.lt_of_lt_of_le h (by
      have : 2 ^ 8 ≤ 2 ^ i := Nat.pow_le_pow_right (by decide) (by omega)
      exact this))
    rw [this]; simp
theorem or_256 (x n : Int) (hx : 0 ≤ x) (h0 : 0 ≤ n) (h1 : n < 256) : Builtin.bitOr (x * 256) n = x * 256 + n := by
  have e1 : Builtin.bitOr (x * 256) n = x * 256 + n - Builtin.bitAnd (x * 256) n := by
    have := bitXor_and (x * 256) n
    unfold Builtin.bitXor at this
    omega
  have e2 : Builtin.bitAnd (x * 256) n = 0 := by
    obtain ⟨a, rfl⟩ := Int.eq_ofNat_of_zero_le hx
    obtain ⟨b, rfl⟩ := Int.eq_ofNat_of_zero_le h0
    have hb : b < 256 := by omega
    have p1 : (0 : Int) ≤ (a : Int) * 256 := by omega
    unfold Builtin.bitAnd
    rw [decide_eq_true p1, decide_eq_true h0]
    show (((((a : Int) * 256).toNat &&& ((b : Int)).toNat : Nat)) : Int) = 0
    have q1 : ((a : Int) * 256).toNat = a * 256 := by omega
    rw [q1, Int.toNat_natCast, land_high a b hb]
    rfl
  omega
section
variable {prog : Program} {w : World} {A : Around} {E : Value → Shared → Prop} {s : Shared} {t u : Tok} {Q : Value → Shared → Prop}
theorem orK {x n : Int} (hx : 0 ≤ x) (h0 : 0 ≤ n) (h1 : n < 256) (h : Q (.int (x * 256 + n) s.toks) { s with toks := s.toks + 1 }) :
    wpAny (model prog w) A (binaryOp .BitOr (.int (x * 2 ^ Int.toNat 8) t) (.int n u)) Q E s := by
  refine or_int ?_
  have e : x * 2 ^ Int.toNat 8 = x * 256 := rfl
  rw [e, or_256 x n hx h0 h1]
  exact h
theorem and65535 {x : Int} (h : Q (.int (x % 65536) s.toks) { s with toks := s.toks + 1 }) : wpAny (model prog w) A (binaryOp .BitAnd (.int x t) (.int 65535 u)) Q E s := by
  refine and_int ?_
  have e : (65535 : Int) = 2 ^ 16 - 1 := rfl
  rw [e, kbt_mask]
  exact h
theorem and63 {x : Int} (h : Q (.int (x % 64) s.toks) { s with toks := s.toks + 1 }) : wpAny (model prog w) A (binaryOp .BitAnd (.int x t) (.int 63 u)) Q E s := by
  refine and_int ?_
  rw [bitAnd_m6]
  exact h
theorem and15 {x : Int} (h : Q (.int (x % 16) s.toks) { s with toks := s.toks + 1 }) : wpAny (model prog w) A (binaryOp .BitAnd (.int x t) (.int 15 u)) Q E s := by
  refine and_int ?_
  rw [bitAnd_m4]
  exact h
theorem and3 {x : Int} (h : Q (.int (x % 4) s.toks) { s with toks := s.toks + 1 }) : wpAny (model prog w) A (binaryOp .BitAnd (.int x t) (.int 3 u)) Q E s := by
  refine and_int ?_
  rw [bitAnd_m2]
  exact h
theorem shrK {x n : Int} (hn : 0 ≤ n) (h : Q (.int (x / 2 ^ n.toNat) s.toks) { s with toks := s.toks + 1 }) : wpAny (model prog w) A (binaryOp .RShift (.int x t) (.int n u)) Q E s := by
  refine rshift_int hn ?_
  rw [Int.fdiv_eq_ediv_of_nonneg _ (Int.le_of_lt (kbt_pos _))]
  exact h
theorem item64 {value slice : Expr} {i : Int} {tb ui : Tok} (h0 : 0 ≤ i) (h1 : i < 64)
    (h : ∀ t' k, 0 ≤ figI i → figI i < 256 → Q (.int (figI i) t') { s with toks := k })
    (hs : subscripted slice false (.bytes #[65, 66, 67, 68, 69, 70, 71, 72, 73, 74, 75, 76, 77, 78, 79, 80, 81, 82, 83, 84, 85, 86, 87, 88, 89, 90, 97, 98, 99, 100, 101, 102, 103, 104, 105, 106, 107, 108, 109, 110, 111, 112, 113, 114, 115, 116, 117, 118, 119, 120, 121, 122, 48, 49, 50, 51, 52, 53, 54, 55, 56, 57, 43, 47] tb) (.int i ui) = operate [.bytes #[65, 66, 67, 68, 69, 70, 71, 72, 73, 74, 75, 76, 77, 78, 79, 80, 81, 82, 83, 84, 85, 86, 87, 88, 89, 90, 97, 98, 99, 100, 101, 102, 103, 104, 105, 106, 107, 108, 109, 110, 111, 112, 113, 114, 115, 116, 117, 118, 119, 120, 121, 122, 48, 49, 50, 51, 52, 53, 54, 55, 56, 57, 43, 47] tb, .int i ui] (getItem (.bytes #[65, 66, 67, 68, 69, 70, 71, 72, 73, 74, 75, 76, 77, 78, 79, 80, 81, 82, 83, 84, 85, 86, 87, 88, 89, 90, 97, 98, 99, 100, 101, 102, 103, 104, 105, 106, 107, 108, 109, 110, 111, 112, 113, 114, 115, 116, 117, 118, 119, 120, 121, 122, 48, 49, 50, 51, 52, 53, 54, 55, 56, 57, 43, 47] tb) (.int i ui)))
    (ht : ∀ r, letTemporaryGo value (.bytes #[65, 66, 67, 68, 69, 70, 71, 72, 73, 74, 75, 76, 77, 78, 79, 80, 81, 82, 83, 84, 85, 86, 87, 88, 89, 90, 97, 98, 99, 100, 101, 102, 103, 104, 105, 106, 107, 108, 109, 110, 111, 112, 113, 114, 115, 116, 117, 118, 119, 120, 121, 122, 48, 49, 50, 51, 52, 53, 54, 55, 56, 57, 43, 47] tb) r = pure ()) :
    wpAny (model prog w) A (subscriptTail value slice (.bytes #[65, 66, 67, 68, 69, 70, 71, 72, 73, 74, 75, 76, 77, 78, 79, 80, 81, 82, 83, 84, 85, 86, 87, 88, 89, 90, 97, 98, 99, 100, 101, 102, 103, 104, 105, 106, 107, 108, 109, 110, 111, 112, 113, 114, 115, 116, 117, 118, 119, 120, 121, 122, 48, 49, 50, 51, 52, 53, 54, 55, 56, 57, 43, 47] tb) (.int i ui)) Q E s :=
  KBw.item_K (ks := figL) (by rfl) (by decide) h0 (by have : figL.length = 64 := rfl; omega) h hs ht
end
section
variable {prog : Program} {w : World} {A : Around} {E : Value → Shared → Prop} {s : Shared} {Q : Value → Shared → Prop} {h₀ : Heap} {L D : Addr} {m : Str → Option Value} {own : List (Addr × Obj)}
theorem app_head {vs : List Value} {n : Nat} {x : Value} (F : Fr h₀ L s.heap m) (N : News h₀ L s.heap ((D, listOf vs.toArray n) :: own)) (off : OwnOff own [D]) (hsz : vs.length ≤ 16777216)
    (h : ∀ h', Fr h₀ L h' m → News h₀ L h' ((D, listOf (vs ++ [x]).toArray (n + 1)) :: own) → Q .none { s with heap := h' }) : wpAny (model prog w) A (call (.builtin "list.append") [.ref D, x]) Q E s := by
  refine append_K (its := vs.toArray) F N (Upd.head fun p hp => off p hp D (by simp)) ?_ (by rw [List.size_toArray]; exact hsz)
  intro h' F' N'
  rw [List.push_toArray] at N'
  exact h h' F' N'
end
/-- one octet more, as binascii's loop does it -/
def bStep (c : Int × Int × List Int) (b : Int) : Int × Int × List Int :=
  if c.2.1 = 0 then ((c.1 * 256 + b) % 65536, 2, c.2.2 ++ [figI ((c.1 * 256 + b) % 65536 / 4 % 64)])
  else if c.2.1 = 2 then ((c.1 * 256 + b) % 65536, 4, c.2.2 ++ [figI ((c.1 * 256 + b) % 65536 / 16 % 64)])
  else ((c.1 * 256 + b) % 65536, 0, c.2.2 ++ [figI ((c.1 * 256 + b) % 65536 / 64 % 64), figI ((c.1 * 256 + b) % 65536 % 64)])
def bFin (c : Int × Int × List Int) : List Int :=
  if c.2.1 = 2 then c.2.2 ++ [figI (c.1 % 4 * 16), 61, 61] else if c.2.1 = 4 then c.2.2 ++ [figI (c.1 % 16 * 4), 61] else c.2.2
def b2aL (ns : List Int) : List Int := bFin (ns.foldl bStep (0, 0, []))
structure BInv (pre : List Int) (lc lb : Int) (out : List Int) : Prop where
  eq : pre.foldl bStep (0, 0, []) = (lc, lb, out)
  lo : 0 ≤ lc
  hi : lc < 65536
  len : out.length ≤ 2 * pre.length
  oct : ∀ x ∈ out, 0 ≤ x ∧ x < 256
  lb : lb = 0 ∨ lb = 2 ∨ lb = 4
theorem figI_in (i : Int) : 0 ≤ figI i ∧ figI i < 256 := by
  unfold figI
  exact KBw.getD_in (by decide)
theorem BInv.nil : BInv [] 0 0 [] := ⟨rfl, by decide, by decide, by decide, (fun _ h => nomatch h), .inl rfl⟩
theorem oct_snoc {out : List Int} {i : Int} (h : ∀ x ∈ out, 0 ≤ x ∧ x < 256) : ∀ x ∈ out ++ [figI i], 0 ≤ x ∧ x < 256 := by
  intro x hx
  rcases List.mem_append.mp hx with hx | hx
  · exact h x hx
  · rw [List.mem_singleton.mp hx]; exact figI_in i
theorem BInv.step0 {pre : List Int} {lc n : Int} {out : List Int} (h : BInv pre lc 0 out) :
    BInv (pre ++ [n]) ((lc * 256 + n) % 65536) (0 + 8 - 6) (out ++ [figI ((lc * 256 + n) % 65536 / 2 ^ (0 + 8 - 6 : Int).toNat % 64)]) := by
  refine ⟨?_, by omega, by omega, ?_, oct_snoc h.oct, .inr (.inl rfl)⟩
  · rw [List.foldl_append, h.eq]; rfl
  · have := h.len; simp only [List.length_append, List.length_cons, List.length_nil]; omega
theorem BInv.step2 {pre : List Int} {lc n : Int} {out : List Int} (h : BInv pre lc 2 out) :
    BInv (pre ++ [n]) ((lc * 256 + n) % 65536) (2 + 8 - 6) (out ++ [figI ((lc * 256 + n) % 65536 / 2 ^ (2 + 8 - 6 : Int).toNat % 64)]) := by
  refine ⟨?_, by omega, by omega, ?_, oct_snoc h.oct, .inr (.inr rfl)⟩
  · rw [List.foldl_append, h.eq]; rfl
  · have := h.len; simp only [List.length_append, List.length_cons, List.length_nil]; omega
theorem BInv.step4 {pre : List Int} {lc n : Int} {out : List Int} (h : BInv pre lc 4 out) :
    BInv (pre ++ [n]) ((lc * 256 + n) % 65536) (4 + 8 - 6 - 6) (out ++ [figI ((lc * 256 + n) % 65536 / 2 ^ (4 + 8 - 6 : Int).toNat % 64)] ++ [figI ((lc * 256 + n) % 65536 / 2 ^ (4 + 8 - 6 - 6 : Int).toNat % 64)]) := by
  refine ⟨?_, by omega, by omega, ?_, oct_snoc (oct_snoc h.oct), .inl rfl⟩
  · rw [List.foldl_append, h.eq, List.append_assoc]
    have e : (lc * 256 + n) % 65536 / 2 ^ (4 + 8 - 6 - 6 : Int).toNat % 64 = (lc * 256 + n) % 65536 % 64 := by
      have : (2 : Int) ^ (4 + 8 - 6 - 6 : Int).toNat = 1 := rfl
      rw [this, Int.ediv_one]
    rw [e]
    rfl
  · have := h.len; simp only [List.length_append, List.length_cons, List.length_nil]; omega
theorem ints_snoc {v : Int} {t : Tok} : ∀ {vs : List Value} {ns : List Int}, IntsAre vs ns → IntsAre (vs ++ [.int v t]) (ns ++ [v])
  | _, _, .nil => .cons _ _ .nil
  | _, _, .cons i u r => .cons i u (ints_snoc r)
section
variable {prog : Program} {w : World} {A : Around} {E : Value → Shared → Prop} {s : Shared} {t u : Tok} {Q : Value → Shared → Prop}
theorem shl4 {x : Int} (h0 : 0 ≤ x) (h1 : x < 65536) (h : Q (.int (x * 16) s.toks) { s with toks := s.toks + 1 }) : wpAny (model prog w) A (binaryOp .LShift (.int x t) (.int 4 u)) Q E s :=
  lshift_int_small (by decide) (by decide) (by omega) h
theorem shl2 {x : Int} (h0 : 0 ≤ x) (h1 : x < 65536) (h : Q (.int (x * 4) s.toks) { s with toks := s.toks + 1 }) : wpAny (model prog w) A (binaryOp .LShift (.int x t) (.int 2 u)) Q E s :=
  lshift_int_small (by decide) (by decide) (by omega) h
end
theorem BInv.fin0 {pre : List Int} {lc : Int} {out : List Int} (h : BInv pre lc 0 out) : b2aL pre = out := by unfold b2aL; rw [h.eq]; rfl
theorem BInv.fin2 {pre : List Int} {lc : Int} {out : List Int} (h : BInv pre lc 2 out) : b2aL pre = out ++ [figI (lc % 4 * 16)] ++ [61] ++ [61] := by
  unfold b2aL; rw [h.eq, List.append_assoc, List.append_assoc]; rfl
theorem BInv.fin4 {pre : List Int} {lc : Int} {out : List Int} (h : BInv pre lc 4 out) : b2aL pre = out ++ [figI (lc % 16 * 4)] ++ [61] := by
  unfold b2aL; rw [h.eq, List.append_assoc]; rfl
theorem oct_61 {out : List Int} (h : ∀ x ∈ out, 0 ≤ x ∧ x < 256) : ∀ x ∈ out ++ [61], 0 ≤ x ∧ x < 256 := by
  intro x hx
  rcases List.mem_append.mp hx with hx | hx
  · exact h x hx
  · rw [List.mem_singleton.mp hx]; decide
theorem own_nil {D : Addr} : OwnOff ([] : List (Addr × Obj)) [D] := fun _ h => nomatch h
theorem b2aL_len_aux (ns : List Int) : ∀ c : Int × Int × List Int, (ns.foldl bStep c).2.2.length ≤ c.2.2.length + 2 * ns.length := by
  induction ns with
  | nil => intro c; simp
  | cons n r ih =>
    intro c
    rw [List.foldl_cons]
    refine Nat.le_trans (ih _) ?_
    have : (bStep c n).2.2.length ≤ c.2.2.length + 2 := by
      unfold bStep
      split
      · simp
      · split <;> simp
    rw [List.length_cons]
    omega
theorem b2aL_len (ns : List Int) : (b2aL ns).length ≤ 2 * ns.length + 3 := by
  have h := b2aL_len_aux ns (0, 0, [])
  unfold b2aL bFin
  generalize ns.foldl bStep (0, 0, []) = c at h
  simp only [List.length_nil, Nat.zero_add] at h
  split
  · simp only [List.length_append, List.length_cons, List.length_nil]; omega
  · split
    · simp only [List.length_append, List.length_cons, List.length_nil]; omega
    · omega
/-- place k of fs holds v -/
def GetAt (fs : List Int) (k v : Int) : Prop := 0 ≤ k ∧ k < (fs.length : Int) ∧ fs.getD k.toNat 0 = v
section
variable {prog : Program} {w : World} {A : Around} {E : Value → Shared → Prop} {s : Shared} {t u : Tok} {Q : Value → Shared → Prop}
theorem fdivP {a b : Int} (hb : 0 < b) (hp : b < 1073741824) (h : Q (.int (a / b) s.toks) { s with toks := s.toks + 1 }) : wpAny (model prog w) A (binaryOp .FloorDiv (.int a t) (.int b u)) Q E s := by
  refine floordiv_int (by omega) ?_ (.inl (PyProof.noPylong_small (by omega)))
  rw [Int.fdiv_eq_ediv_of_nonneg _ (by omega)]
  exact h
theorem fmodP {a b : Int} (hb : 0 < b) (h : Q (.int (a % b) s.toks) { s with toks := s.toks + 1 }) : wpAny (model prog w) A (binaryOp .Mod (.int a t) (.int b u)) Q E s := by
  refine mod_int' (by omega) ?_
  rw [Int.fmod_eq_emod_of_nonneg _ (by omega)]
  exact h
theorem item_at {value slice : Expr} {h₀ : Heap} {L D : Addr} {news : List (Addr × Obj)} {vs : List Value} {fs : List Int} {ep : Nat} {k v : Int} (N : News h₀ L s.heap news) (hm : (D, listOf vs.toArray ep) ∈ news) (hi : IntsAre vs fs) (G : GetAt fs k v) (hl : fs.length ≤ 16777216)
    (h : ∀ t', Q (.int v t') s)
    (hs : subscripted slice false (.ref D) (.int k u) = operate [.ref D, .int k u] (getItem (.ref D) (.int k u))) :
    wpAny (model prog w) A (subscriptTail value slice (.ref D) (.int k u)) Q E s := by
  obtain ⟨h0, h1, e⟩ := G
  have hL : s.heap.IsList D vs.toArray := ⟨_, (N _ hm).1, rfl, ep, rfl⟩
  have hlen := IntsAre.length hi
  have hk : k.toNat < vs.length := by omega
  obtain ⟨n, t', e1, e2⟩ := IntsAre.at hi k.toNat _ (List.getElem?_eq_getElem hk)
  refine tail_any hL.typeIs slot_list_getitem.lookup (wpAny_getItem_list hL h0 (by omega) (x := .int v t') ?_ (h t')) hs
  rw [List.getElem?_toArray, List.getElem?_eq_getElem hk, e1]
  rw [List.getD_eq_getElem?_getD, e2] at e
  have e' : n = v := e
  rw [e']
end
namespace BM
open Builtin
theorem slot_tr : Slot "bytes" "translate" "bytes.translate" :=
  .of (owner := "bytes") (n := "translate") (by rw [typeLookup_type, builtinLookup_eq_fast]; kernel_rfl) (by decide +kernel) (by decide +kernel) (by decide +kernel)
    (by first | exact .inl (by decide +kernel) | exact .inr (by decide +kernel)) (by rw [isSubtype_type]; kernel_rfl)
theorem type_tr : typeOf (.builtin "bytes.translate") = pure (.type "method_descriptor") := by show builtinType _ = _; rw [builtinType_eq_fast]; kernel_rfl
theorem entry_tr : entryFor table "bytes.translate" = some Builtin.«bytes.translate» := entryFor_of_tree (by kernel_rfl)
theorem args_tr (a b : Value) : argsOk "bytes.translate" ⟨[a, b], []⟩ := by unfold argsOk; kernel_rfl
theorem plain_mk : plainId "bytes.maketrans" = true := by decide +kernel
theorem entry_mk : entryFor table "bytes.maketrans" = some Builtin.«bytes.maketrans» := entryFor_of_tree (by kernel_rfl)
theorem args_mk (a b : Value) : argsOk "bytes.maketrans" ⟨[a, b], []⟩ := by unfold argsOk; kernel_rfl
/-- the table of two signs -/
def tab2 (c d : UInt8) : Array UInt8 := (((Array.range 256).map (·.toUInt8)).setIfInBounds 43 c).setIfInBounds 47 d
theorem tab2_size (c d : UInt8) : (tab2 c d).size = 256 := by simp [tab2]
theorem check_mk (a b : Value) : checkBuiltinCall "bytes.maketrans" ⟨[a, b], []⟩ = pure () := by
  have hk : builtinKind "bytes.maketrans" = some .staticMethod := by decide +kernel
  have hs : splitId "bytes.maketrans" = some ("bytes", "maketrans") := by decide +kernel
  have ha := args_mk a b
  unfold argsOk at ha
  unfold checkBuiltinCall
  rw [hk, hs]
  cases hsig : Manifest.signature? "bytes.maketrans" with
  | none => rfl
  | some sig =>
    rw [hsig] at ha
    exact ha
theorem run_mk {M : Model} {A : Around} {E : Value → Shared → Prop} {s : Shared} {c d : UInt8} {t u : Tok} {P : Fin → Shared → Prop} (h : ∀ t' k, P (.done (.ret (.bytes (tab2 c d) t'))) { s with toks := k }) :
    wpAny M A («bytes.maketrans» ⟨[.bytes #[43, 47] t, .bytes #[c, d] u], []⟩) P E s := by
  show wpAny _ _ (noKeywords _ _ >>= fun r => _) _ _ s
  refine wpAny_bind (wpAny_of_eq (a := ()) rfl ?_)
  refine wpAny_bind (wpAny_of_eq (a := ()) rfl ?_)
  refine wpAny_bind (wpAny_of_eq KBd.like_eq ?_)
  refine wpAny_bind (wpAny_of_eq KBd.like_eq ?_)
  show wpAny _ _ (mkBytes (tab2 c d) >>= fun v => ret v) _ _ s
  refine wpAny_bind ?_
  unfold mkBytes
  rw [if_neg (by rw [tab2_size]; decide)]
  exact fun _ _ _ _ _ _ => h _ _
theorem run_tr {M : Model} {A : Around} {E : Value → Shared → Prop} {s : Shared} {b tb : Array UInt8} {t u : Tok} {P : Fin → Shared → Prop} (hb : b.size ≤ 16777216) (ht : tb.size = 256) (h : ∀ t' k, P (.done (.ret (.bytes (b.map fun c => tb.getD c.toNat c) t'))) { s with toks := k }) :
    wpAny M A («bytes.translate» ⟨[.bytes b t, .bytes tb u], []⟩) P E s := by
  have hf : b.filter (fun x => !(#[] : Array UInt8).contains x) = b := by
    rw [Array.filter_eq_self]
    intro a _
    simp
  show wpAny _ _ (Bytes.bytesLike _ (.bytes tb u) >>= fun r => _) _ _ s
  refine wpAny_bind (wpAny_of_eq KBd.like_eq ?_)
  have hc : (tb.size != 256) = false := by rw [ht]; rfl
  rw [hc]
  show wpAny _ _ (pure (some tb) >>= fun table => _) _ _ s
  refine wpAny_bind (wpAny_pure ?_)
  show wpAny _ _ (pure #[] >>= fun delete => _) _ _ s
  refine wpAny_bind (wpAny_pure ?_)
  refine wpAny_bind (wpAny_of_eq (a := b) rfl ?_)
  rw [hf]
  refine wpAny_ite ?_
  by_cases hq : ((b.map fun c => tb.getD c.toNat c) == b) = true
  · refine (if_pos hq).mpr ?_
    refine wpAny_bind (wpAny_rule ?_)
    refine wpAny_bind (wpAny_of_eq (a := .bytes b t) ?_ ?_)
    · rfl
    · have := h t s.toks
      rw [eq_of_beq hq] at this
      exact wpAny_pure this
  · refine (if_neg hq).mpr ?_
    refine wpAny_bind ?_
    show wpAny M A (mkBytes (b.map fun c => tb.getD c.toNat c)) _ _ s
    unfold mkBytes
    rw [if_neg (by rw [Array.size_map]; exact Nat.not_lt.mpr hb)]
    exact fun _ _ _ _ _ _ => h _ _
section
variable {prog : Program} {w : World} {A : Around} {E : Value → Shared → Prop} {s : Shared} {Q : Value → Shared → Prop} {h₀ : Heap} {L : Addr} {m : Str → Option Value} {K : Frag}
theorem call_mk {c d : UInt8} {t u : Tok} (h : ∀ t' k, Q (.bytes (tab2 c d) t') { s with toks := k }) : wpAny (model prog w) A (call (.builtin "bytes.maketrans") [.bytes #[43, 47] t, .bytes #[c, d] u]) Q E s := by
  refine wpAny_call (codeAny_call_builtin plain_mk entry_mk ?_)
  rw [check_mk]
  exact wpAny_pure (run_mk h)
theorem call_tr {b tb : Array UInt8} {t u : Tok} (hb : b.size ≤ 16777216) (ht : tb.size = 256) (h : ∀ t' k, Q (.bytes (b.map fun c => tb.getD c.toNat c) t') { s with toks := k }) :
    wpAny (model prog w) A (call (.builtin "bytes.translate") [.bytes b t, .bytes tb u]) Q E s :=
  call_meets slot_tr (typeIs_bytes _ _ _) entry_tr (args_tr _ _) (S := fun _ R s => ∀ t' k, R (.ok (.ret (.bytes (b.map fun c => tb.getD c.toNat c) t'))) { s with toks := k }) (.of_wp fun _ _ _ _ _ h' => run_tr hb ht fun t' k => ⟨_, rfl, h' t' k⟩) h
theorem method_tr {M : Model} {b : Array UInt8} {t : Tok} {pl : Sem Bool} {Q : Value × List Value → Shared → Prop} (h : Q (.builtin "bytes.translate", [.bytes b t]) s) : wpAny M A (getMethod (.bytes b t) (Str.ofString "translate") pl) Q E s := by
  with_reducible exact KBd.method_of (.bytes b t) (typeIs_bytes _ _ _) slot_tr type_tr KBd.noRef h
theorem getm_mk {pl : Sem Bool} {Q : Value × List Value → Shared → Prop} (F : Fr h₀ L s.heap m) (X₀ : K.In h₀)
    (e : findCls K (.type "bytes") (.type "type") (Str.ofString "maketrans") = some (.val (.builtin "bytes.maketrans")))
    (h : Q (.builtin "bytes.maketrans", []) { s with toks := s.toks + 1 }) : wpAny (model prog w) A (getMethod (.type "bytes") (Str.ofString "maketrans") pl) Q E s := by
  have X := X₀.keeps F.keep
  have hstub : opaqueClassAbove (.type "bytes") = pure none := by unfold opaqueClassAbove; dsimp only; rw [show Manifest.isStub "bytes" = false by decide +kernel]; rfl
  have ht : typeOf (.type "bytes") = pure (.type "type") := by first | rfl | kernel_rfl
  have L0 : Looks (model prog w) s.heap (typeOf (.type "bytes")) (.type "type") := Looks.of_pure ht
  have hg : findIn K (.type "type") "__getattribute__" = some (some (.builtin "type.__getattribute__")) := type_tga
  unfold getMethod specialOf
  refine wpAny_bind (wpAny_bind (L0.here ((looks_findIn X hg).here ?_)))
  dsimp only
  rw [if_pos canon_tga]
  refine wpAny_bind (wpAny_mono (Q := fun v => Q (v, [])) (E := E) ?_ (fun _ _ z => wpAny_pure z) fun _ _ z => z)
  have LO : Looks (model prog w) s.heap (opaqueClassAbove (.type "bytes")) none := Looks.of_pure hstub
  refine cls_open X LO L0 hg (looks_hook X (r := none) (by rfl)) (by show subIn K _ _ = _; rfl) e ?_
  exact wpAny_pure (by show wpAny _ _ (handedOut _) _ _ _; rw [handedOut_of rfl]; exact wpAny_pure h)
end
end BM
namespace RX
open Sre
def code : Array Nat := #[14, 14, 4, 1, 1, 9, 0, 4227896069, 939524097, 0, 0, 0, 0, 0, 0, 13, 11, 9, 0, 4227896069, 939524097, 0, 0, 0, 0, 0, 0, 1]
/-- the sixteen signs -/
def special (c : Nat) : Bool := c < 256 && (code.getD (6 + c / 32) 0).testBit (c % 32)
theorem special_eq (c : Nat) : special c = ([32, 34, 40, 41, 44, 47, 58, 59, 60, 61, 62, 63, 64, 91, 92, 93] : List Nat).contains c := by
  by_cases h : c < 256
  · have : ∀ c : Fin 256, special c.val = ([32, 34, 40, 41, 44, 47, 58, 59, 60, 61, 62, 63, 64, 91, 92, 93] : List Nat).contains c.val := by decide +kernel
    exact this ⟨c, h⟩
  · have e : special c = false := by unfold special; rw [decide_eq_false h]; rfl
    rw [e]
    symm
    rw [Bool.eq_false_iff]
    intro hc
    rw [List.contains_iff_mem] at hc
    simp at hc
    omega
theorem set5 (c : Nat) (seen : Sre.Seen) : ∃ s', inSet code c 28 5 true seen = .ok (special c, s') := by
  have e : inSet code c 28 5 true seen = if c < 256 && (code.getD (5 + (1 + c / 32)) 0).testBit (c % 32) then .ok (true, seen.add 9) else .ok (false, (seen.add 9).add 0) := by rfl
  rw [e]
  have e2 : 5 + (1 + c / 32) = 6 + c / 32 := by omega
  rw [e2]
  cases h : special c with
  | true => rw [if_pos (by unfold special at h; exact h)]; exact ⟨_, rfl⟩
  | false => rw [if_neg (by unfold special at h; rw [h]; decide)]; exact ⟨_, rfl⟩
theorem set17 (c : Nat) (seen : Sre.Seen) : ∃ s', inSet code c 28 17 true seen = .ok (special c, s') := by
  have e : inSet code c 28 17 true seen = if c < 256 && (code.getD (17 + (1 + c / 32)) 0).testBit (c % 32) then .ok (true, seen.add 9) else .ok (false, (seen.add 9).add 0) := by rfl
  rw [e]
  have e2 : (code.getD (17 + (1 + c / 32)) 0).testBit (c % 32) = (code.getD (6 + c / 32) 0).testBit (c % 32) ∨ 256 ≤ c := by
    by_cases h : c < 256
    · refine .inl ?_
      have : ∀ k : Fin 8, code.getD (17 + (1 + k.val)) 0 = code.getD (6 + k.val) 0 := by decide
      rw [this ⟨c / 32, by omega⟩]
    · exact .inr (by omega)
  have e3 : (decide (c < 256) && (code.getD (17 + (1 + c / 32)) 0).testBit (c % 32)) = special c := by
    unfold special
    rcases e2 with e2 | e2
    · rw [e2]
    · rw [decide_eq_false (by omega)]; rfl
  rw [e3]
  cases special c with
  | true => exact ⟨_, rfl⟩
  | false => exact ⟨_, rfl⟩
theorem admitted_spec (m : M) (hc : m.code = code) : ∀ (fuel s : Nat) (seen : Sre.Seen), m.lim < fuel + s →
    (∃ s', (∀ i, s ≤ i → i < m.lim → special (m.text.getD i 0) = false) ∧ m.admitted fuel s seen = .ok (none, s')) ∨
    ∃ k s', s ≤ k ∧ k < m.lim ∧ special (m.text.getD k 0) = true ∧ m.admitted fuel s seen = .ok (some k, s') := by
  intro fuel
  induction fuel with
  | zero => intro s seen h; exact .inl ⟨seen, fun i h1 h2 => by omega, rfl⟩
  | succ fuel ih =>
    intro s seen h
    by_cases hl : s ≥ m.lim
    · refine .inl ⟨seen, fun i h1 h2 => by omega, ?_⟩
      unfold M.admitted
      rw [if_pos hl]
    · obtain ⟨s', e⟩ := set5 (m.text.getD s 0) seen
      cases hs : special (m.text.getD s 0) with
      | true =>
        refine .inr ⟨s, s', Nat.le_refl _, by omega, hs, ?_⟩
        unfold M.admitted
        rw [if_neg hl, hc, show code.size = 28 from rfl, e, hs]
      | false =>
        have ee : m.admitted (fuel + 1) s seen = m.admitted fuel (s + 1) s' := by
          conv => lhs; unfold M.admitted
          rw [if_neg hl, hc, show code.size = 28 from rfl, e, hs]
        rw [ee]
        rcases ih (s + 1) s' (by omega) with ⟨s2, h1, h2⟩ | ⟨k, s2, h1, h2, h3, h4⟩
        · refine .inl ⟨s2, fun i hi1 hi2 => ?_, h2⟩
          by_cases hi : i = s
          · rw [hi]; exact hs
          · exact h1 i (by omega) hi2
        · exact .inr ⟨k, s2, by omega, h2, h3, h4⟩
theorem step1 (m : M) (hc : m.code = code) (hpc : m.pc = 15) (ho : m.outcome = none) (ha : m.answer = none) (hlt : m.pos < m.lim) (hs : special (m.text.getD m.pos 0) = true) :
    ∃ s', m.step = { m with seen := s', pc := 27, pos := m.pos + 1 } := by
  obtain ⟨c0, text, lim, start, lastStart, wholeText, mustAdvance, pc, pos, handed, outermost, marks, lastmark, lastindex, loops, inner, frames, weight, answer, seen, outcome⟩ := m
  simp only at hc hpc ho ha hlt hs
  subst hc hpc ho ha
  obtain ⟨s', e⟩ := set17 (text.getD pos 0) (seen.add 13)
  rw [hs] at e
  refine ⟨s', ?_⟩
  have hn : ¬ (pos ≥ lim) := by omega
  have e2 : accepts code 15 (text.getD pos 0) (seen.add 13) = .ok (true, s') := e
  show (if pos ≥ lim then _ else match accepts code 15 (text.getD pos 0) (seen.add 13) with | .error why => _ | .ok (false, seen) => _ | .ok (true, seen) => _) = _
  rw [if_neg hn, e2]
  rfl
theorem run_matched (m : M) (f : Sre.Frame) (hc : m.code = code) (hpc : m.pc = 15) (ho : m.outcome = none) (ha : m.answer = none) (hlt : m.pos < m.lim) (hs : special (m.text.getD m.pos 0) = true)
    (hf : m.frames = [f]) (hw : f.wait = .nextStart) (hwt : m.wholeText = false) (hma : m.mustAdvance = false) : (M.runFor 4 m).outcome = some .matched := by
  obtain ⟨s', e⟩ := step1 m hc hpc ho ha hlt hs
  have e1 : M.runFor 4 m = M.runFor 3 m.step := by
    show (if m.outcome.isSome = true then m else M.runFor 3 m.step) = _
    rw [ho]; rfl
  rw [e1, e]
  obtain ⟨c0, text, lim, start, lastStart, wholeText, mustAdvance, pc, pos, handed, outermost, marks, lastmark, lastindex, loops, inner, frames, weight, answer, seen, outcome⟩ := m
  obtain ⟨wait, fpc, fpos, fo, fc, fk, fl, fb⟩ := f
  simp only at hc hpc ho ha hlt hs hf hw hwt hma
  subst hc hpc ho ha hf hw hwt hma
  cases outermost <;> rfl
theorem run_failed (m : M) (ho : m.outcome = none) (ha : m.answer = some false) (hf : m.frames = []) : (M.runFor 4 m).outcome = some .failed := by
  obtain ⟨c0, text, lim, start, lastStart, wholeText, mustAdvance, pc, pos, handed, outermost, marks, lastmark, lastindex, loops, inner, frames, weight, answer, seen, outcome⟩ := m
  simp only at ho ha hf
  subst ho ha hf
  rfl
theorem search_start (text : Array Nat) (n : Nat) (hn : 1 ≤ n) : ∃ m1 : M, forSearch code text 0 0 n false = m1.attemptFrom 0 true ∧ m1.code = code ∧ m1.text = text ∧ m1.lim = n ∧ m1.pc = 15 ∧ m1.frames = [] ∧ m1.answer = none ∧ m1.outcome = none ∧ m1.wholeText = false ∧ m1.mustAdvance = false ∧ m1.weight = 0 := by
  unfold forSearch
  have h1 : ¬ ((decide (0 > n) || decide (n - 0 < (header code).1)) = true) := by
    have : (header code).1 = 1 := rfl
    rw [this]
    simp
    omega
  dsimp only
  rw [if_neg h1]
  exact ⟨_, rfl, rfl, rfl, rfl, rfl, rfl, rfl, rfl, rfl, rfl, rfl⟩
theorem search_spec (text : Array Nat) (hn : 1 ≤ text.size) :
    ((text.any special = false) ∧ (M.runFor 4 (forSearch code text 0 0 text.size false)).outcome = some .failed) ∨ ((text.any special = true) ∧ (M.runFor 4 (forSearch code text 0 0 text.size false)).outcome = some .matched) := by
  obtain ⟨m1, e, hc, ht, hl, hpc, hf, ha, ho, hw, hm, hwt⟩ := search_start text text.size hn
  rw [e]
  have hfs : m1.hasFirstSet = true := by unfold M.hasFirstSet; rw [hc]; rfl
  have hat : m1.attemptFrom 0 true = match m1.admitted (m1.lim + 1 - 0) 0 m1.seen with
      | .ok (some s, seen) => { m1 with mustAdvance := false, seen }.attemptAt s true
      | .ok (none, seen) => { m1 with seen }.say false
      | .error why => m1.stick why := by
    conv => lhs; unfold M.attemptFrom
    rw [hfs]
    rfl
  rw [hat]
  have gd : ∀ i, i < text.size → text.getD i 0 = text[i]! := fun i hi => by simp [hi]
  rcases admitted_spec m1 hc (m1.lim + 1 - 0) 0 m1.seen (by omega) with ⟨s', h1, h2⟩ | ⟨k, s', h1, h2, h3, h4⟩
  · refine .inl ⟨?_, ?_⟩
    · rw [Bool.eq_false_iff]
      intro hx
      rw [Array.any_eq_true] at hx
      obtain ⟨i, hi, hx⟩ := hx
      have := h1 i (Nat.zero_le _) (by rw [hl]; exact hi)
      rw [ht] at this
      simp [hi] at this
      rw [this] at hx
      cases hx
    · rw [h2]
      exact run_failed _ ho rfl hf
  · refine .inr ⟨?_, ?_⟩
    · rw [Array.any_eq_true]
      rw [hl] at h2
      refine ⟨k, h2, ?_⟩
      rw [ht] at h3
      simpa [h2] using h3
    · rw [h4]
      have hatt : ({ m1 with mustAdvance := false, seen := s' } : M).attemptAt k true = ({ m1 with mustAdvance := false, seen := s', start := k, pos := k, lastmark := -1, lastindex := -1, frames := [{ wait := .nextStart, pc := 15, pos := k, outermost := true }], weight := 1, pc := 15, handed := k, outermost := true } : M) := by
        obtain ⟨c0, text', lim, start, lastStart, wholeText, mustAdvance, pc, pos, handed, outermost, marks, lastmark, lastindex, loops, inner, frames, weight, answer, seen, outcome⟩ := m1
        simp only at hc ht hl hpc hf ha ho hw hm hwt
        subst hc hpc hf ha ho hw hm hwt
        rfl
      show (M.runFor 4 (({ m1 with mustAdvance := false, seen := s' } : M).attemptAt k true)).outcome = _
      rw [hatt]
      exact run_matched _ _ hc rfl ho ha h2 h3 rfl rfl hw rfl
end RX
namespace RX
open Sre Builtin Builtin.Re
section
variable {M' : Model} {A : Around} {E : Value → Shared → Prop} {s : Shared}
theorem forIn_quiet {α : Type} {f : α → PUnit → Sem (ForInStep PUnit)} (hf : ∀ i r (Q : ForInStep PUnit → Shared → Prop) s, Q (.yield ⟨⟩) s → wpAny M' A (f i r) Q E s) :
    ∀ (l : List α) {Q : PUnit → Shared → Prop} {s : Shared}, Q ⟨⟩ s → wpAny M' A (forIn l PUnit.unit f) Q E s
  | [], _, _, h => by rw [List.forIn_nil]; exact wpAny_pure h
  | i :: r, _, _, h => by
    rw [List.forIn_cons]
    exact wpAny_bind (hf i _ _ _ (forIn_quiet hf r h))
theorem drive {m : Sre.M} {o : Sre.Outcome} {Q : Sre.M → Shared → Prop} (ho : (Sre.M.runFor 4 m).outcome = some o) (h : Q (Sre.M.runFor 4 m) s) : wpAny M' A (reDrive (2 ^ 64) m) Q E s := by
  have e : (2 : Nat) ^ 64 = 18446744073709551615 + 1 := rfl
  rw [e]
  show wpAny M' A (if (Sre.M.runFor 4 m).outcome.isSome = true then pure (Sre.M.runFor 4 m) else _) Q E s
  rw [ho]
  exact wpAny_pure h
theorem run_end {m : Sre.M} {o : Sre.Outcome} {Q : Option Sre.M → Shared → Prop} (ho : (Sre.M.runFor 4 m).outcome = some o) (h : match o with | .matched => Q (some (Sre.M.runFor 4 m)) s | .failed => Q none s | .stuck _ => False) : wpAny M' A (reRunToEnd m) Q E s := by
  unfold reRunToEnd
  refine wpAny_bind (drive ho ?_)
  refine wpAny_bind (forIn_quiet ?_ _ ?_)
  · intro i r Q' s' hq
    refine wpAny_ite ?_
    split
    · exact wpAny_bind (wpAny_rule (wpAny_pure hq))
    · exact wpAny_pure hq
  · rw [ho]
    cases o with
    | matched => exact wpAny_pure h
    | failed => exact wpAny_pure h
    | stuck => exact h.elim
def patObj (x : Value) (y : Value) (b : Addr) : Obj := { cls := .type "re.Pattern", data := .fields #[x, y, .int 0 0, .none, .none, .ref b, .int 0 0] }
def codeVals : Array Value := #[.int 14 0, .int 14 0, .int 4 0, .int 1 0, .int 1 0, .int 9 0, .int 0 0, .int 4227896069 0, .int 939524097 0, .int 0 0, .int 0 0, .int 0 0, .int 0 0, .int 0 0, .int 0 0, .int 13 0, .int 11 0, .int 9 0, .int 0 0, .int 4227896069 0, .int 939524097 0, .int 0 0, .int 0 0, .int 0 0, .int 0 0, .int 0 0, .int 0 0, .int 1 0]
def codeObj : Obj := { cls := .type "tuple", data := .seq codeVals }
theorem code_raw : (codeVals.map reRawOf).map (fun x => x.toNat) = code := by decide +kernel
def target (a : Addr) (v : Str) (t : Tok) : ReTarget := { pattern := .ref a, string := .str v t, code := code, text := v.cps, kind := 0, groups := 0, pos := 0, lim := v.cps.size }
theorem target_run {a b : Addr} {x y : Value} {v : Str} {t : Tok} {Q : ReTarget → Shared → Prop} (hp : s.heap.get? a = some (patObj x y b)) (hb : s.heap.get? b = some codeObj) (hv : v.cps.size ≤ 16777216) (h : Q (target a v t) s) :
    wpAny M' A (reTarget "re.Pattern.search" "search" ⟨[.ref a, .str v t], []⟩) Q E s := by
  unfold reTarget
  dsimp only
  refine wpAny_bind (wpAny_of_eq (a := [some (.str v t), none, none]) rfl ?_)
  dsimp only
  refine wpAny_bind (wpAny_pure ?_)
  refine wpAny_bind (wpAny_pure ?_)
  refine wpAny_bind (wpAny_fieldsOf hp rfl ?_)
  refine wpAny_bind (wpAny_of_eq (a := (v.cps, 0)) rfl ?_)
  show wpAny M' A (reNoCollectionInside (.str v t) 0 >>= fun _ => reRawItems (.ref b) >>= fun l => pure _) Q E s
  refine wpAny_bind (wpAny_of_eq (a := ()) rfl ?_)
  refine wpAny_bind ?_
  unfold reRawItems
  refine wpAny_bind (wpAny_seqItems hb rfl ?_)
  refine wpAny_pure (wpAny_pure ?_)
  have e : min ((2 : Int) ^ 63 - 1).toNat v.cps.size = v.cps.size := by
    have : ((2 : Int) ^ 63 - 1).toNat = 9223372036854775807 := by decide
    rw [this]; omega
  have e0 : min (0 : Int).toNat v.cps.size = 0 := by simp
  show Q { pattern := .ref a, string := .str v t, code := (codeVals.map reRawOf).map (fun x => x.toNat), text := v.cps, kind := 0, groups := 0, pos := min (0 : Int).toNat v.cps.size, lim := min ((2 : Int) ^ 63 - 1).toNat v.cps.size } s
  rw [e, e0, code_raw]
  exact h
/-- the object that a found place makes -/
def matchObj (v : Str) (t : Tok) (a : Addr) (li : Int) (n : Nat) (l : Addr) : Obj := { cls := .type "re.Match", data := .fields #[.str v t, .ref a, .int 0 0, .int n 0, .int li 0, .ref l] }
theorem search_run {a b : Addr} {x y : Value} {v : Str} {t : Tok} {P : Fin → Shared → Prop} (hp : s.heap.get? a = some (patObj x y b)) (hb : s.heap.get? b = some codeObj) (hv : v.cps.size ≤ 16777216) (h1 : 1 ≤ v.cps.size)
    (hno : v.cps.any special = false → P (.done (.ret .none)) s)
    (hyes : v.cps.any special = true → ∀ q h' o, (∀ b o, s.heap.get? b = some o → h'.get? b = some o) → h'.get? q = some o → o.cls = .type "re.Match" → P (.done (.ret (.ref q))) { s with heap := h' }) :
    wpAny M' A («re.Pattern.search» ⟨[.ref a, .str v t], []⟩) P E s := by
  unfold «re.Pattern.search»
  refine wpAny_bind (target_run hp hb hv ?_)
  unfold reAnswer
  rcases search_spec v.cps h1 with ⟨ha, ho⟩ | ⟨ha, ho⟩
  · exact wpAny_bind (run_end ho (wpAny_pure (hno ha)))
  · refine wpAny_bind (run_end ho ?_)
    dsimp only
    refine wpAny_bind ?_
    unfold reNewMatch
    dsimp only
    show wpAny M' A (newTuple _ >>= fun l => newFields "re.Match" _) _ E s
    refine wpAny_bind (wpAny_newObj_type ?_ (by show (List.toArray _).size ≤ sizeLine; rw [List.size_toArray]; show 2 ≤ sizeLine; decide))
    refine wpAny_newObj_type ?_ (by show 6 ≤ sizeLine + 2; decide)
    exact wpAny_pure (hyes ha _ _ _ (fun b o e => Heap.get?_push_of_some _ (Heap.get?_push_of_some _ e)) (Heap.get?_push_size _ rfl) rfl)
theorem slot_se : Slot "re.Pattern" "search" "re.Pattern.search" :=
  .of (owner := "re.Pattern") (n := "search") (by rw [typeLookup_type, builtinLookup_eq_fast]; kernel_rfl) (by decide +kernel) (by decide +kernel) (by decide +kernel)
    (by first | exact .inl (by decide +kernel) | exact .inr (by decide +kernel)) (by rw [isSubtype_type]; kernel_rfl)
theorem type_se : typeOf (.builtin "re.Pattern.search") = pure (.type "method_descriptor") := by show builtinType _ = _; rw [builtinType_eq_fast]; kernel_rfl
theorem entry_se : entryFor table "re.Pattern.search" = some Builtin.«re.Pattern.search» := entryFor_of_tree (by kernel_rfl)
theorem args_se (a b : Value) : argsOk "re.Pattern.search" ⟨[a, b], []⟩ := by unfold argsOk; kernel_rfl
theorem plainAttrs_pat : PlainAttrs "re.Pattern" :=
  ⟨⟨"object.__getattribute__", by rw [typeLookup_type, builtinLookup_eq_fast]; kernel_rfl, by decide +kernel⟩, by rw [typeLookup_type, builtinLookup_eq_fast]; kernel_rfl⟩
theorem noBool_m : typeLookup (.type "re.Match") "__bool__" = pure none := by rw [typeLookup_type, builtinLookup_eq_fast]; kernel_rfl
theorem noLen_m : typeLookup (.type "re.Match") "__len__" = pure none := by rw [typeLookup_type, builtinLookup_eq_fast]; kernel_rfl
theorem truthy_m {q : Addr} {o : Obj} {Q : Bool → Shared → Prop} (hq : s.heap.get? q = some o) (hc : o.cls = .type "re.Match") (h : Q true s) : wpAny M' A (truthy (.ref q)) Q E s := by
  have hT : s.TypeIs (.ref q) "re.Match" := ⟨o, hq, hc⟩
  unfold truthy
  refine wpAny_bind (wpAny_callSpecial?_none (name := Str.ofString "__bool__") hT noBool_m ?_)
  refine wpAny_bind (wpAny_specialOf (name := Str.ofString "__len__") hT noLen_m ?_)
  exact wpAny_pure h
end
section
variable {prog : Program} {w : World} {A : Around} {E : Value → Shared → Prop} {s : Shared} {h₀ : Heap} {L : Addr} {m : Str → Option Value} {K : Frag} {news : List (Addr × Obj)}
theorem method_se {M : Model} {a b : Addr} {x y : Value} {pl : Sem Bool} {Q : Value × List Value → Shared → Prop} (F : Fr h₀ L s.heap m) (X : K.In h₀) (hp : K.lookup a = some (patObj x y b)) (h : Q (.builtin "re.Pattern.search", [.ref a]) s) :
    wpAny M A (getMethod (.ref a) (Str.ofString "search") pl) Q E s := by
  have hg := (X.keeps F.keep) _ _ hp
  exact getMethod_builtin (T := "re.Pattern") ⟨_, hg, rfl⟩ plainAttrs_pat slot_se type_se (fun c e => by cases e; exact ⟨_, hg, rfl⟩) h
theorem call_se {a b : Addr} {x y : Value} {v : Str} {t : Tok} {Q : Value → Shared → Prop} (F : Fr h₀ L s.heap m) (X : K.In h₀) (N : News h₀ L s.heap news) (hp : K.lookup a = some (patObj x y b)) (hb : K.lookup b = some codeObj) (hv : v.length ≤ 16777216) (h1 : 1 ≤ v.length)
    (hno : v.cps.any special = false → Q .none s)
    (hyes : v.cps.any special = true → ∀ q h' o, Fr h₀ L h' m → News h₀ L h' news → h'.get? q = some o → o.cls = .type "re.Match" → Q (.ref q) { s with heap := h' }) :
    wpAny (model prog w) A (call (.builtin "re.Pattern.search") [.ref a, .str v t]) Q E s := by
  have hg := (X.keeps F.keep) _ _ hp
  have hc := (X.keeps F.keep) _ _ hb
  refine call_meets slot_se ⟨_, hg, rfl⟩ entry_se (args_se _ _) (S := fun _ R s' => s' = s ∧ (v.cps.any special = false → R (.ok (.ret .none)) s) ∧ (v.cps.any special = true → ∀ q h' o, (∀ b o, s.heap.get? b = some o → h'.get? b = some o) → h'.get? q = some o → o.cls = .type "re.Match" → R (.ok (.ret (.ref q))) { s with heap := h' })) (.of_wp fun _ _ _ _ s' h' => ?_) ⟨rfl, hno, fun ha q h' o hk hq hcl => hyes ha q h' o (F.keptAll hk) (N.grown hk) hq hcl⟩
  obtain ⟨rfl, h1', h2'⟩ := h'
  exact search_run hg hc hv h1 (fun e => ⟨_, rfl, h1' e⟩) fun e q h' o hk hq hcl => ⟨_, rfl, h2' e q h' o hk hq hcl⟩
end
end RX
namespace SM
open Builtin Builtin.Str
/-- each sign c becomes the signs of z -/
def sub1 (c : Nat) (z : List Nat) (l : List Nat) : List Nat := l.flatMap fun a => if a = c then z else [a]
theorem sub1_append (c : Nat) (z a b : List Nat) : sub1 c z (a ++ b) = sub1 c z a ++ sub1 c z b := List.flatMap_append
theorem sub1_free (c : Nat) (z : List Nat) : ∀ l : List Nat, c ∉ l → sub1 c z l = l
  | [], _ => rfl
  | a :: r, h => by
    have ha : a ≠ c := fun e => h (by rw [e]; exact .head _)
    show (if a = c then z else [a]) ++ sub1 c z r = a :: r
    rw [if_neg ha, sub1_free c z r fun m => h (.tail _ m)]
    rfl
theorem sub1_one (c : Nat) (z : List Nat) : sub1 c z [c] = z := by simp [sub1]
theorem sub1_join (c : Nat) (z : Str) : ∀ parts : List Str, (∀ p ∈ parts, c ∉ p.cps.toList) → sub1 c z.cps.toList (Str.join ⟨#[c]⟩ parts).cps.toList = (Str.join z parts).cps.toList
  | [], _ => rfl
  | [p], h => sub1_free c _ _ (h p (.head _))
  | p :: q :: r, h => by
    show sub1 c _ ((p.cps ++ #[c]) ++ (Str.join ⟨#[c]⟩ (q :: r)).cps).toList = ((p.cps ++ z.cps) ++ (Str.join z (q :: r)).cps).toList
    rw [Array.toList_append, Array.toList_append, Array.toList_append, Array.toList_append, sub1_append, sub1_append, sub1_free c _ _ (h p (.head _)), sub1_join c z (q :: r) fun p' hp => h p' (.tail _ hp)]
    have : sub1 c z.cps.toList #[c].toList = z.cps.toList := sub1_one c _
    rw [this]
theorem repl_flat (x z : Str) (c : Nat) : (Txt.replace x ⟨#[c]⟩ z).cps.toList = sub1 c z.cps.toList x.cps.toList := by
  rw [StrLaws.replace_one]
  conv => rhs; rw [← StrLaws.join_split x ⟨#[c]⟩]
  exact (sub1_join c z _ (StrLaws.split_free x c)).symm
section
variable {prog : Program} {w : World} {A : Around} {E : Value → Shared → Prop} {s : Shared} {x y z : Str} {t u v : Tok} {Q : Value → Shared → Prop}
theorem replaceP (hu : u ≠ 0) (hv : v ≠ 0) (huv : u ≠ v) (hyz : (y == z) = false) (hb : x.length + (x.length + 1) * z.length ≤ 16777216)
    (hq : ∀ t' k, s.toks ≤ k → Q (.str (Txt.replace x y z) t') { s with toks := k }) : wpAny (model prog w) A (call (.builtin "str.replace") [.str x t, .str y u, .str z v]) Q E s := by
  have hl : tooLong (x.length + (occurrences x y 0 x.length (x.length + 1)).length * z.length) = false := by
    have h1 := StrLaws.occ_length_le x y 0 x.length (x.length + 1)
    have h2 : (occurrences x y 0 x.length (x.length + 1)).length * z.length ≤ (x.length + 1) * z.length := Nat.mul_le_mul_right _ h1
    unfold tooLong sizeLine
    exact decide_eq_false (by have e : (2 : Nat) ^ 24 = 16777216 := by decide
                              omega)
  refine call_gives F.slot_str_replace (typeIs_str _ _ _) F.entry_str_replace (F.args_str_replace_3 _ _ _) (gives_str_replace x y z t u v fun _ => ⟨by simp [hu, hv], by simp [huv], hyz, hl⟩) ?_
  unfold Txt.replace at hq
  by_cases hc : ((occurrences x y 0 x.length (x.length + 1)).isEmpty || (y.length == 0 && z.length == 0)) = true
  · rw [if_pos hc] at hq ⊢
    exact hq t s.toks (Nat.le_refl _)
  · rw [if_neg hc] at hq ⊢
    exact ⟨fits_replaced y hb, hq _ _ (Nat.le_succ _)⟩
theorem sub1_len (c : Nat) (z : List Nat) (hz : z.length ≤ 2) : ∀ l : List Nat, (sub1 c z l).length ≤ 2 * l.length
  | [] => Nat.le_refl _
  | a :: r => by
    have ih := sub1_len c z hz r
    show ((if a = c then z else [a]) ++ sub1 c z r).length ≤ _
    rw [List.length_append, List.length_cons]
    split
    · omega
    · simp only [List.length_cons, List.length_nil]; omega
theorem repl_esc {c : Nat} (hy : y = ⟨#[c]⟩) (hz : z.length = 2) (hu : @LT.lt Nat _ 0 u) (huv : @LT.lt Nat _ u v) (hyz : (y == z) = false) (hx : x.length ≤ 1000000)
    (hq : ∀ t' k x', x'.cps.toList = sub1 c z.cps.toList x.cps.toList → x'.length ≤ 2 * x.length → s.toks ≤ k → Q (.str x' t') { s with toks := k }) :
    wpAny (model prog w) A (call (.builtin "str.replace") [.str x t, .str y u, .str z v]) Q E s := by
  subst hy
  have hz' : z.cps.size = 2 := hz
  refine replaceP (Nat.ne_of_gt hu) (Nat.ne_of_gt (Nat.lt_trans hu huv)) (Nat.ne_of_lt huv) hyz (by rw [hz]; omega) fun t' k hk => hq t' k _ (repl_flat x z c) ?_ hk
  show (Txt.replace x ⟨#[c]⟩ z).cps.size ≤ 2 * x.cps.size
  rw [← Array.length_toList, repl_flat, ← Array.length_toList]
  exact sub1_len c _ (by rw [Array.length_toList, hz']; exact Nat.le_refl _) _
end
section
variable {M : Model} {A : Around} {E : Value → Shared → Prop} {α : Type} {tr : Sem α} {Q : α → Shared → Prop} {h : Heap} {g : Array GenState} {d : Drawn} {n : Nat} {os : OsState}
theorem gen_pos (hp : 0 < n) (k : ∀ tk, 0 < tk → wpAny M A tr Q E ⟨h, g, d, tk, os⟩) : wpAny M A tr Q E ⟨h, g, d, n, os⟩ := k n hp
end
section
variable {prog : Program} {w : World} {A : Around} {E : Value → Shared → Prop} {s : Shared} {x y : Str} {t u : Tok} {Q : Value → Shared → Prop}
theorem item_txt {value slice : Expr} {i : Int} (h0 : 0 ≤ i) (h1 : i < (x.length : Int)) (h2 : x.length ≤ 16777216)
    (h : ∀ t' k z, z.cps.toList = [x.cps.toList.getD i.toNat 0] → z.length = 1 → Q (.str z t') { s with toks := k })
    (hs : subscripted slice false (.str x t) (.int i u) = operate [.str x t, .int i u] (getItem (.str x t) (.int i u)))
    (ht : ∀ r, letTemporaryGo value (.str x t) r = pure ()) :
    wpAny (model prog w) A (subscriptTail value slice (.str x t) (.int i u)) Q E s := by
  refine subscriptTail_builtin (typeIs_str s x t) F.slot_str_getitem.lookup ?_ hs ht
  have hl : i.toNat < x.cps.size := by
    have : x.length = x.cps.size := rfl
    omega
  refine P.getItem_str (c := x.cps.toList.getD i.toNat 0) ?_ ?_ (h _ _ _ rfl rfl)
  · simp only [Bool.or_eq_false_iff, decide_eq_false_iff_not]
    omega
  · refine StrLaws.at_nonneg h0 ?_
    rw [← Array.getElem?_toList, List.getD_eq_getElem?_getD]
    have : i.toNat < x.cps.toList.length := by rw [Array.length_toList]; exact hl
    rw [List.getElem?_eq_getElem this]
    rfl
theorem add_txt (hsz : x.length + y.length ≤ 16777216) (h : ∀ t' k z, z.cps.toList = x.cps.toList ++ y.cps.toList → z.length = x.length + y.length → Q (.str z t') { s with toks := k }) :
    wpAny (model prog w) A (binaryOp .Add (.str x t) (.str y u)) Q E s :=
  add_str (fun t' tk => h t' tk _ (by rw [Str.cps_append, Array.toList_append]) (Str.length_append x y)) hsz
theorem mul_txt {c : Nat} {i : Int} (hx : x = ⟨#[c]⟩) (h0 : 0 ≤ i) (h1 : i ≤ 1000000) (h : ∀ t' k z, z.cps.toList = List.replicate i.toNat c → z.length = i.toNat → Q (.str z t') { s with toks := k }) :
    wpAny (model prog w) A (binaryOp .Mult (.str x t) (.int i u)) Q E s := by
  subst hx
  refine SB.mul (mulOk_of 16 1000000 (by show 1 ≤ 16; decide) (by omega) (by omega) (by decide) (by decide)) fun t' k => h t' k _ (mul_one_list c i) ?_
  show (Txt.mul ⟨#[c]⟩ i).cps.size = _
  rw [← Array.length_toList, mul_one_list, List.length_replicate]
theorem cut_txt {value slice : Expr} {j : Int} {uj : Tok} {h₀ : Heap} {L : Addr} {m : Str → Option Value} {news : List (Addr × Obj)} (F : Fr h₀ L s.heap m) (N : News h₀ L s.heap news) (h0 : 0 ≤ j) (h1 : j ≤ (x.length : Int)) (h2 : x.length ≤ 16777216)
    (h : ∀ h' t' k z, Fr h₀ L h' m → News h₀ L h' news → z.cps.toList = x.cps.toList.take j.toNat → z.length = j.toNat → Q (.str z t') { s with heap := h', toks := k })
    (hs : subscripted slice false (.str x t) (.ref s.heap.objs.size) = operate [.ref s.heap.objs.size, .str x t] (getItem (.str x t) (.ref s.heap.objs.size)))
    (ht : ∀ r, letTemporaryGo value (.str x t) r = pure ()) :
    wpAny (model prog w) A (subscriptTail value slice (.str x t) (.ref s.heap.objs.size)) Q E { s with heap := s.heap.push { cls := .type "slice", data := .fields #[.none, .int j uj, .none] } } := by
  have e : Txt.slice x none (some j) = ⟨(x.cps.toList.take j.toNat).toArray⟩ := by
    have := StrLaws.sliceText_to (x := x) (j := j) ⟨h0, by rw [Array.length_toList]; exact h1⟩
    rw [List.drop_zero, Int.sub_zero] at this
    exact this
  refine slice_strN_ns F N (fun h' t' k F' N' => h h' t' k _ F' N' (by rw [e]) ?_) hs ht (by rw [sizeLine_eq]; exact h2)
  rw [e]
  show (x.cps.toList.take j.toNat).toArray.size = _
  have : x.length = x.cps.size := rfl
  rw [List.size_toArray, List.length_take, Array.length_toList]
  omega
end
end SM
namespace CW
open LCg
def BAt (b : Array UInt8) (i : Nat) (v : Value) : Prop := ∃ c u, b[i]? = some c ∧ v = .int (c.toNat : Int) u
/-- a value whose n items can be walked, each as P says -/
def Iter (prog : Program) (w : World) (A : Around) (xv : Value) (n : Nat) (P : Nat → Value → Prop) : Prop :=
  ∀ (s₁ : Shared) (Q : Value → Shared → Prop) (E : Value → Shared → Prop),
    (∀ o St, Walks prog w A s₁.heap.objs.size [s₁.heap.objs.size] [s₁.heap.objs.size] n P St → (∀ i h, St i h → ∃ o, h.get? s₁.heap.objs.size = some o) → St 0 (s₁.heap.push o) → Q (.ref s₁.heap.objs.size) { s₁ with heap := s₁.heap.push o }) →
    wpAny (model prog w) A (pyIter xv) Q E s₁
section
variable {prog : Program} {w : World} {A : Around} {E : Value → Shared → Prop} {s : Shared} {h₀ : Heap} {L : Addr} {m : Str → Option Value} {env : Env}
theorem Iter.str (hh : A.handled = none) {x : Str} {t : Tok} : Iter prog w A (.str x t) x.cps.size (SignAt x) := by
  intro s₁ Q E h
  cases ha : x.cps.all (· < 128)
  · exact wpAny_pyIter_wide ha (h _ _ (Walks.strWide hh _ x t) (fun i h st => by obtain ⟨o, e, _⟩ := st; exact ⟨o, e⟩) ⟨_, Heap.get?_push_size _ rfl, rfl, rfl⟩)
  · exact wpAny_pyIter_ascii ha (h _ _ (Walks.strAscii hh _ x t) (fun i h st => by obtain ⟨o, e, _⟩ := st; exact ⟨o, e⟩) ⟨_, Heap.get?_push_size _ rfl, rfl, rfl⟩)
theorem Iter.bytes (hh : A.handled = none) {b : Array UInt8} {t : Tok} : Iter prog w A (.bytes b t) b.size (BAt b) := by
  intro s₁ Q E h
  exact KBw.pyIter_bytes (h _ _ (KBw.walks hh _ b t) (fun i h st => by obtain ⟨o, e, _⟩ := st; exact ⟨o, e⟩) ⟨_, Heap.get?_push_size _ rfl, rfl, rfl⟩)
def SrcW (prog : Program) (w : World) (A : Around) (h₀ : Heap) (L : Addr) (m : Str → Option Value) (env : Env) (elt : Expr) (x : Str) (scope : Scope) (cl : List (Str × Addr)) (Fin : Shared → List Value → List (Addr × Obj) → Prop) (xv : Value) (s₁ : Shared) : Prop :=
  ∃ n P news, Fr h₀ L s₁.heap m ∧ News h₀ L s₁.heap news ∧ Iter prog w A xv n P ∧ n ≤ sizeLine ∧
    ∀ g, CompRest prog w A h₀ L m env elt x scope cl { s₁ with heap := g } (fun _ => True) P (Fin { s₁ with heap := g }) n 0 [] news
def SrcWT (prog : Program) (w : World) (A : Around) (h₀ : Heap) (L : Addr) (m : Str → Option Value) (env : Env) (ct elt : Expr) (x : Str) (scope : Scope) (cl : List (Str × Addr)) (Fin : Shared → List Value → List (Addr × Obj) → Prop) (xv : Value) (s₁ : Shared) : Prop :=
  ∃ n P news, Fr h₀ L s₁.heap m ∧ News h₀ L s₁.heap news ∧ Iter prog w A xv n P ∧ n ≤ sizeLine ∧
    ∀ g, LCt.CompRestT prog w A h₀ L m env ct elt x scope cl { s₁ with heap := g } (fun _ => True) P (Fin { s₁ with heap := g }) n 0 [] news
theorem st_keep {I : Addr} {n : Nat} {P : Nat → Value → Prop} {St : Nat → Heap → Prop} (W : Walks prog w A I [I] [I] n P St) : ∀ i (h h' : Heap) (o : Obj) (nw : List (Addr × Obj)), St i h → h.get? I = some o → h'.get? I = some o → (∀ b o, h₀.get? b = some o → h'.get? b = some o) → News h₀ L h' nw → True → St i h' :=
  fun i h h' o nw st e e' _ _ _ => W.frame i h h' st fun b hb o' q => by
    rw [List.mem_singleton.mp hb] at q ⊢
    rw [e] at q
    rw [e', q]
theorem ListComp_W {elt iter : Expr} {x : Str} {px : Pos} {scope : Scope} {cl : List (Str × Addr)} {pos : Pos} {Q : Value → Shared → Prop} (F₀ : Fr h₀ L s.heap m)
    (hclos : closureFor scope env = pure cl) (hcell : ∀ y ∈ scope.names, y.2 ≠ .cell) (hkind : scope.kind = .function)
    (hnames : ∀ y ∈ scope.names, y.2 = .local → scope.names.lookup y.1 = some .local) (hx : scope.names.lookup x = some .local)
    (h : wpAny (model prog w) A (eval iter env) (SrcW prog w A h₀ L m env elt x scope cl (fun s₂ => FinE h₀ L m s₂ Q)) E s)
    (hs : ∀ x, foldedSetIterable iter env x = pure x := by intro _; rfl) :
    wpAny (model prog w) A (eval (.ListComp elt [⟨.Name x px, iter, [], 0⟩] scope pos) env) Q E s := by
  rw [eval_ListComp]
  refine wpAny_comprehension_free (use := none) rfl hs hclos hkind hnames (wpAny_mono h (fun xv s₁ h₁ => ?_) fun _ _ e => e)
  obtain ⟨n, P, news, F, N, it, hsz, R⟩ := h₁
  refine it _ _ _ fun o St W hIo hst => ?_
  have up : ∀ b o', s₁.heap.get? b = some o' → (s₁.heap.push o).get? b = some o' := fun b o' e => Heap.get?_push_of_some _ e
  refine block_U W hsz hIo (st_keep W) hcell hkind hx hst (fun b hb => ?_) (F.keeps up) (N.grown up) (Nat.ne_of_lt F.ns.lt) (next_is_new F) (fun p hp => Nat.ne_of_lt (Heap.lt_size (N p hp).1)) trivial (R _) ?_
  · rw [List.mem_singleton.mp hb]
    show s₁.heap.objs.size < (s₁.heap.push _).objs.size
    rw [Heap.size_push]; exact Nat.lt_succ_self _
  · intro D C h tk m' ys news' F' N' o1 hn hC₀ hD₀ hCL hDL hCD offC fin
    refine ⟨m', hn, fun h'' hs'' => fin D h'' tk (F'.change hs'' hCL hC₀) (fun p hp => ?_) o1⟩
    refine ⟨hs''.extBut _ _ ?_ (N' p hp).1, (N' p hp).2⟩
    rcases List.mem_cons.mp hp with rfl | hp
    · exact Ne.symm hCD
    · exact offC p hp
theorem ListComp_WT {ct elt iter : Expr} {x : Str} {px : Pos} {scope : Scope} {cl : List (Str × Addr)} {pos : Pos} {Q : Value → Shared → Prop} (F₀ : Fr h₀ L s.heap m)
    (hclos : closureFor scope env = pure cl) (hcell : ∀ y ∈ scope.names, y.2 ≠ .cell) (hkind : scope.kind = .function)
    (hnames : ∀ y ∈ scope.names, y.2 = .local → scope.names.lookup y.1 = some .local) (hx : scope.names.lookup x = some .local)
    (h : wpAny (model prog w) A (eval iter env) (SrcWT prog w A h₀ L m env ct elt x scope cl (fun s₂ => FinE h₀ L m s₂ Q)) E s)
    (hs : ∀ x, foldedSetIterable iter env x = pure x := by intro _; rfl) :
    wpAny (model prog w) A (eval (.ListComp elt [⟨.Name x px, iter, [ct], 0⟩] scope pos) env) Q E s := by
  rw [eval_ListComp]
  refine wpAny_comprehension_free (use := none) rfl hs hclos hkind hnames (wpAny_mono h (fun xv s₁ h₁ => ?_) fun _ _ e => e)
  obtain ⟨n, P, news, F, N, it, hsz, R⟩ := h₁
  refine it _ _ _ fun o St W hIo hst => ?_
  have up : ∀ b o', s₁.heap.get? b = some o' → (s₁.heap.push o).get? b = some o' := fun b o' e => Heap.get?_push_of_some _ e
  refine LCt.block_T W hsz hIo (st_keep W) hcell hkind hx hst (fun b hb => ?_) (F.keeps up) (N.grown up) (Nat.ne_of_lt F.ns.lt) (next_is_new F) (fun p hp => Nat.ne_of_lt (Heap.lt_size (N p hp).1)) trivial (R _) ?_
  · rw [List.mem_singleton.mp hb]
    show s₁.heap.objs.size < (s₁.heap.push _).objs.size
    rw [Heap.size_push]; exact Nat.lt_succ_self _
  · intro D C h tk m' ys news' F' N' o1 hn hC₀ hD₀ hCL hDL hCD offC fin
    refine ⟨m', hn, fun h'' hs'' => fin D h'' tk (F'.change hs'' hCL hC₀) (fun p hp => ?_) o1⟩
    refine ⟨hs''.extBut _ _ ?_ (N' p hp).1, (N' p hp).2⟩
    rcases List.mem_cons.mp hp with rfl | hp
    · exact Ne.symm hCD
    · exact offC p hp
theorem Assign_ListComp_W {elt iter : Expr} {x y : Str} {px py : Pos} {scope : Scope} {cl : List (Str × Addr)} {pos spos : Pos} {Q : Flow → Shared → Prop} (F₀ : Fr h₀ L s.heap m) (hLe : env.locals = L)
    (hsw : swapsWith (.ListComp elt [⟨.Name x px, iter, [], 0⟩] scope pos) (some (.Name y py)) spos.line env = pure true)
    (hclos : closureFor scope env = pure cl) (hcell : ∀ z ∈ scope.names, z.2 ≠ .cell) (hkind : scope.kind = .function)
    (hnames : ∀ z ∈ scope.names, z.2 = .local → scope.names.lookup z.1 = some .local) (hx : scope.names.lookup x = some .local)
    (hy : env.kindOf y = some .local) (hp : (env.scope.kind == .class || (env.scope.kind == .module && env.locals != env.globals)) = false)
    (h : wpAny (model prog w) A (eval iter env) (SrcW prog w A h₀ L m env elt x scope cl (fun s₂ => FinA h₀ L m s₂ y Q)) E s)
    (hs : ∀ x, foldedSetIterable iter env x = pure x := by intro _; rfl) :
    wpAny (model prog w) A (exec (.Assign [.Name y py] (.ListComp elt [⟨.Name x px, iter, [], 0⟩] scope pos) spos) env) Q E s := by
  subst hLe
  rw [exec_Assign_Name_used _ _ _ _ hsw]
  refine wpAny_bind (wpAny_standAt (wpAny_bind ?_))
  show wpAny _ A (do let _ ← comprehension (.ListComp elt [⟨.Name x px, iter, [], 0⟩] scope pos) scope env _ (newList []) false (eval iter env) (some (assign (.Name y py) env))) _ _ s
  refine wpAny_bind (wpAny_mono (wpAny_comprehension_free (use := some (assign (.Name y py) env)) (Q := fun _ s' => Q .next s') rfl hs hclos hkind hnames
    (wpAny_mono h (fun xv s₁ h₁ => ?_) fun _ _ e => e)) (fun _ s' hq => wpAny_pure (wpAny_pure hq)) fun _ _ e => e)
  obtain ⟨n, P, news, F, N, it, hsz, R⟩ := h₁
  refine it _ _ _ fun o St W hIo hst => ?_
  have up : ∀ b o', s₁.heap.get? b = some o' → (s₁.heap.push o).get? b = some o' := fun b o' e => Heap.get?_push_of_some _ e
  refine block_U W hsz hIo (st_keep W) hcell hkind hx hst (fun b hb => ?_) (F.keeps up) (N.grown up) (Nat.ne_of_lt F.ns.lt) (next_is_new F) (fun p hp => Nat.ne_of_lt (Heap.lt_size (N p hp).1)) trivial (R _) ?_
  · rw [List.mem_singleton.mp hb]
    show s₁.heap.objs.size < (s₁.heap.push _).objs.size
    rw [Heap.size_push]; exact Nat.lt_succ_self _
  · intro D C h' tk m' ys news' F' N' o1 hn hC₀ hD₀ hCL hDL hCD offC fin
    show wpAny _ A (assign (.Name y py) env (.ref D)) _ _ _
    refine wpAny_assign_Name (wpAny_storeName_local hy F'.ns (fun h₂ hn₂ hs₂ => ?_) hp)
    have hL₀ : h₀.get? env.locals = none := Heap.get?_none_of_le F'.above
    have F₂ : Fr h₀ env.locals h₂ (fun z => if z = y then some (.ref D) else m z) := ⟨hn₂, fun b o e => hs₂.extBut b o (fun q => by rw [q, hL₀] at e; cases e) (F'.keep b o e), F'.above⟩
    refine ⟨m', hn.sameBut hs₂ hCL, fun h'' hs'' => fin D h'' _ (F₂.change hs'' hCL hC₀) (fun p hp => ?_) o1⟩
    have z : h₂.get? p.1 = some p.2 := hs₂.extBut _ _ (N' p hp).2.1 (N' p hp).1
    refine ⟨hs''.extBut _ _ ?_ z, (N' p hp).2⟩
    rcases List.mem_cons.mp hp with rfl | hp
    · exact Ne.symm hCD
    · exact offC p hp
end
/-- what an item's turn hands on -/
def El (news : List (Addr × Obj)) (R : Value → Prop) (y : Value) (news' : List (Addr × Obj)) : Prop := news' = news ∧ R y
def Done (p : Prop) : Prop := p
section
variable {prog : Program} {w : World} {A : Around} {h₀ : Heap} {L : Addr} {m : Str → Option Value} {env : Env} {ct elt : Expr} {x : Str} {scope : Scope} {cl : List (Str × Addr)} {s : Shared} {S : List (Addr × Obj) → Prop} {P : Nat → Value → Prop} {Fin : List Value → List (Addr × Obj) → Prop} {news : List (Addr × Obj)}
/-- all turns alike: item i gives a value as R i says -/
theorem rest_map {n : Nat} (R : Nat → Value → Prop)
    (turn : ∀ i v I oI C oC D m₂ ys h tk (E' : Value → Shared → Prop), i < n → P i v → NsObj oC m₂ → m₂ x = some v → Fr h₀ L h m → News h₀ L h ((I, oI) :: (C, oC) :: (D, lst ys) :: news) → Off3 I C D news → ((@Ne Nat I C) ∧ (@Ne Nat I D) ∧ (@Ne Nat C D)) →
      wpAny (model prog w) A (eval elt (compEnvC scope cl C env)) (CompEnd h₀ L m { s with heap := h, toks := tk } I oI C oC D (lst ys) S (El news (R i))) E' { s with heap := h, toks := tk })
    (fin : ∀ ys : List Value, ys.length = n → (∀ i y, ys[i]? = some y → R i y) → Fin ys news) : CompRest prog w A h₀ L m env elt x scope cl s S P Fin n 0 [] news := by
  have key : ∀ (j i : Nat) (ys : List Value), i + j = n → ys.length = i → (∀ k y, ys[k]? = some y → R k y) → CompRest prog w A h₀ L m env elt x scope cl s S P Fin j i ys news := by
    intro j
    induction j with
    | zero =>
      intro i ys hi hl hy
      exact LCg.CompRest.zero (fin ys (by omega) hy)
    | succ j ih =>
      intro i ys hi hl hy
      refine LCg.CompRest.succ ?_
      intro v I oI C oC D m₂ h tk E' hv hC hx F N off ne
      refine wpAny_mono (turn i v I oI C oC D m₂ ys h tk E' (by omega) hv hC hx F N off ne) (fun y s₂ hq => ?_) fun _ _ e => e
      obtain ⟨h', tk', nw, e, F', N', off', hS, rfl, hy'⟩ := hq
      refine ⟨h', tk', nw, e, F', N', off', hS, ?_⟩
      refine ih (i + 1) _ (by omega) (by rw [List.length_append, List.length_singleton, hl]) fun k z hz => ?_
      by_cases hk : k < ys.length
      · rw [List.getElem?_append_left hk] at hz
        exact hy k z hz
      · by_cases hk2 : k = ys.length
        · subst hk2
          rw [List.getElem?_append_right (Nat.le_refl _), Nat.sub_self] at hz
          simp at hz
          rw [← hz, hl]
          exact hy'
        · rw [List.getElem?_eq_none (by rw [List.length_append, List.length_singleton]; omega)] at hz
          cases hz
  exact key n 0 [] (by omega) rfl (fun _ _ h => by simp at h)
/-- a filter: item i is kept (as itself, by R i) exactly if keep i -/
theorem rest_filter {n : Nat} (keep : Nat → Bool) (Ok : Value → Prop)
    (turn : ∀ i v I oI C oC D m₂ ys h tk (E' : Value → Shared → Prop), i < n → P i v → NsObj oC m₂ → m₂ x = some v → Fr h₀ L h m → News h₀ L h ((I, oI) :: (C, oC) :: (D, lst ys) :: news) → Off3 I C D news → ((@Ne Nat I C) ∧ (@Ne Nat I D) ∧ (@Ne Nat C D)) →
      wpAny (model prog w) A (isTrue ct (compEnvC scope cl C env) (eval ct (compEnvC scope cl C env))) (fun ok s' => if ok = true then
        wpAny (model prog w) A (eval elt (compEnvC scope cl C env)) (CompEnd h₀ L m { s with heap := h, toks := tk } I oI C oC D (lst ys) S (El news (fun y => keep i = true ∧ Ok y))) E' s'
        else CompEnd h₀ L m { s with heap := h, toks := tk } I oI C oC D (lst ys) S (El news (fun _ => keep i = false)) Value.none s') E' { s with heap := h, toks := tk })
    (fin : ∀ ys : List Value, ys.length ≤ n → (∀ y ∈ ys, Ok y) → (ys = [] ↔ ∀ i, i < n → keep i = false) → Fin ys news) : LCt.CompRestT prog w A h₀ L m env ct elt x scope cl s S P Fin n 0 [] news := by
  have key : ∀ (j i : Nat) (ys : List Value), i + j = n → ys.length ≤ i → (∀ y ∈ ys, Ok y) → (ys = [] ↔ ∀ k, k < i → keep k = false) → LCt.CompRestT prog w A h₀ L m env ct elt x scope cl s S P Fin j i ys news := by
    intro j
    induction j with
    | zero =>
      intro i ys hi hl ho hy
      have e : i = n := by omega
      subst e
      exact LCt.CompRestT.zero (fin ys hl ho hy)
    | succ j ih =>
      intro i ys hi hl ho hy
      refine LCt.CompRestT.succ ?_
      intro v I oI C oC D m₂ h tk E' hv hC hx F N off ne
      refine wpAny_mono (turn i v I oI C oC D m₂ ys h tk E' (by omega) hv hC hx F N off ne) (fun ok s₂ hq => ?_) fun _ _ e => e
      cases ok with
      | true =>
        simp only [if_true] at hq ⊢
        refine wpAny_mono hq (fun y s₃ hq => ?_) fun _ _ e => e
        obtain ⟨h', tk', nw, e, F', N', off', hS, rfl, hy', hok⟩ := hq
        refine ⟨h', tk', nw, e, F', N', off', hS, ih (i + 1) _ (by omega) (by rw [List.length_append, List.length_singleton]; omega) (fun z hz => ?_) ⟨fun h => by simp at h, fun h => ?_⟩⟩
        · rcases List.mem_append.mp hz with hz | hz
          · exact ho z hz
          · rw [List.mem_singleton.mp hz]; exact hok
        have := h i (Nat.lt_succ_self _)
        rw [hy'] at this
        cases this
      | false =>
        simp only [Bool.false_eq_true, if_false] at hq ⊢
        obtain ⟨h', tk', nw, e, F', N', off', hS, rfl, hy'⟩ := hq
        refine ⟨h', tk', nw, e, F', N', off', hS, ih (i + 1) _ (by omega) (by omega) ho ⟨fun h k hk => ?_, fun h => hy.mpr fun k hk => h k (by omega)⟩⟩
        by_cases hk2 : k = i
        · rw [hk2]; exact hy'
        · exact hy.mp h k (by omega)
  exact key n 0 [] (by omega) (Nat.le_refl _) (fun _ h => nomatch h) ⟨fun _ k hk => absurd hk (Nat.not_lt_zero _), fun _ => rfl⟩
end
theorem ints_of {f : Nat → Int} : ∀ {l : List Nat} {ys : List Value}, ys.length = l.length → (∀ (i : Nat) (c : Nat) (y : Value), l[i]? = some c → ys[i]? = some y → ∃ t : Tok, y = Value.int (f c) t) → IntsAre ys (l.map f)
  | [], [], _, _ => .nil
  | [], _ :: _, h, _ => by simp at h
  | _ :: _, [], h, _ => by simp at h
  | c :: l, y :: ys, h, H => by
    obtain ⟨t, e⟩ := H 0 c y rfl rfl
    subst e
    exact .cons _ _ (ints_of (by simpa using h) fun i c' y' h1 h2 => H (i + 1) c' y' (by simpa using h1) (by simpa using h2))
theorem strs_of {f : Nat → List Nat} : ∀ {l : List Nat} {ys : List Value}, ys.length = l.length → (∀ (i : Nat) (c : Nat) (y : Value), l[i]? = some c → ys[i]? = some y → ∃ (t : Tok) (z : Str), y = Value.str z t ∧ z.cps.toList = f c) → ∃ zs : List Str, StrsAre ys zs ∧ zs.map (fun z => z.cps.toList) = l.map f
  | [], [], _, _ => ⟨[], .nil, rfl⟩
  | [], _ :: _, h, _ => by simp at h
  | _ :: _, [], h, _ => by simp at h
  | c :: l, y :: ys, h, H => by
    obtain ⟨t, z, e, hz⟩ := H 0 c y rfl rfl
    subst e
    obtain ⟨zs, h1, h2⟩ := strs_of (f := f) (l := l) (ys := ys) (by simpa using h) fun i c' y' h1 h2 => H (i + 1) c' y' (by simpa using h1) (by simpa using h2)
    exact ⟨z :: zs, .cons _ _ h1, by rw [List.map_cons, List.map_cons, h2, hz]⟩
theorem strs_any : ∀ {ys : List Value}, (∀ y ∈ ys, ∃ (z : Str) (t : Tok), y = Value.str z t ∧ PyData.strOk z = true) → ∃ zs : List Str, StrsAre ys zs ∧ ∀ z ∈ zs, PyData.strOk z = true
  | [], _ => ⟨[], .nil, fun _ h => nomatch h⟩
  | y :: ys, h => by
    obtain ⟨z, t, e, ok⟩ := h y (.head _)
    obtain ⟨zs, hz, hok⟩ := strs_any (ys := ys) fun y' hy => h y' (.tail _ hy)
    subst e
    refine ⟨z :: zs, .cons _ _ hz, fun x hx => ?_⟩
    rcases List.mem_cons.mp hx with rfl | hx
    · exact ok
    · exact hok x hx
/-- a sign of the escaped text -/
def escc (c : Nat) : List Nat := if c = 34 ∨ c = 92 then [92, c] else [c]
theorem escc_len (c : Nat) : (escc c).length ≤ 2 := by
  unfold escc
  split
  · exact Nat.le_refl 2
  · exact Nat.le_succ 1
theorem one_len (c : Nat) : ([c] : List Nat).length ≤ 2 := Nat.le_succ 1
section
variable {prog : Program} {w : World} {A : Around} {h₀ : Heap} {L : Addr} {m : Str → Option Value} {env : Env} {ct elt : Expr} {x : Str} {scope : Scope} {cl : List (Str × Addr)} {s : Shared} {S : List (Addr × Obj) → Prop} {Fin : List Value → List (Addr × Obj) → Prop} {news : List (Addr × Obj)}
theorem rest_txt_int {xt : Str}
    (turn : ∀ (c : Nat) (t : Tok) I oI C oC D m₂ ys h tk (E' : Value → Shared → Prop), c ∈ xt.cps.toList → NsObj oC m₂ → m₂ x = some (.str ⟨#[c]⟩ t) → Fr h₀ L h m → News h₀ L h ((I, oI) :: (C, oC) :: (D, lst ys) :: news) → Off3 I C D news → ((@Ne Nat I C) ∧ (@Ne Nat I D) ∧ (@Ne Nat C D)) →
      wpAny (model prog w) A (eval elt (compEnvC scope cl C env)) (CompEnd h₀ L m { s with heap := h, toks := tk } I oI C oC D (lst ys) S (El news (fun y => ∃ t', y = .int (c : Int) t'))) E' { s with heap := h, toks := tk })
    (fin : ∀ ys : List Value, IntsAre ys (xt.cps.toList.map fun (c : Nat) => (c : Int)) → Fin ys news) : CompRest prog w A h₀ L m env elt x scope cl s S (SignAt xt) Fin xt.cps.size 0 [] news := by
  refine rest_map (fun i y => ∀ c, xt.cps.toList[i]? = some c → ∃ t, y = .int (c : Int) t) ?_ ?_
  · rintro i v I oI C oC D m₂ ys h tk E' hi ⟨c, t, hc, rfl⟩ hC hx F N off ne
    have hc' : xt.cps.toList[i]? = some c := by rw [Array.getElem?_toList]; exact hc
    refine wpAny_mono (turn c t I oI C oC D m₂ ys h tk E' (List.mem_of_getElem? hc') hC hx F N off ne) (fun y s₂ hq => ?_) fun _ _ e => e
    obtain ⟨h', tk', nw, e, F', N', off', hS, h1, h2⟩ := hq
    exact ⟨h', tk', nw, e, F', N', off', hS, h1, fun c' e' => by rw [hc'] at e'; cases e'; exact h2⟩
  · intro ys hl hy
    exact fin ys (ints_of (by rw [hl, Array.length_toList]) fun i c y h1 h2 => hy i y h2 c h1)
theorem rest_txt_str {xt : Str} (f : Nat → List Nat)
    (turn : ∀ (c : Nat) (t : Tok) I oI C oC D m₂ ys h tk (E' : Value → Shared → Prop), c ∈ xt.cps.toList → NsObj oC m₂ → m₂ x = some (.str ⟨#[c]⟩ t) → Fr h₀ L h m → News h₀ L h ((I, oI) :: (C, oC) :: (D, lst ys) :: news) → Off3 I C D news → ((@Ne Nat I C) ∧ (@Ne Nat I D) ∧ (@Ne Nat C D)) →
      wpAny (model prog w) A (eval elt (compEnvC scope cl C env)) (CompEnd h₀ L m { s with heap := h, toks := tk } I oI C oC D (lst ys) S (El news (fun y => ∃ t' z, y = .str z t' ∧ z.cps.toList = f c))) E' { s with heap := h, toks := tk })
    (fin : ∀ (ys : List Value) (zs : List Str), StrsAre ys zs → zs.map (fun z => z.cps.toList) = xt.cps.toList.map f → Fin ys news) : CompRest prog w A h₀ L m env elt x scope cl s S (SignAt xt) Fin xt.cps.size 0 [] news := by
  refine rest_map (fun i y => ∀ c, xt.cps.toList[i]? = some c → ∃ t z, y = .str z t ∧ z.cps.toList = f c) ?_ ?_
  · rintro i v I oI C oC D m₂ ys h tk E' hi ⟨c, t, hc, rfl⟩ hC hx F N off ne
    have hc' : xt.cps.toList[i]? = some c := by rw [Array.getElem?_toList]; exact hc
    refine wpAny_mono (turn c t I oI C oC D m₂ ys h tk E' (List.mem_of_getElem? hc') hC hx F N off ne) (fun y s₂ hq => ?_) fun _ _ e => e
    obtain ⟨h', tk', nw, e, F', N', off', hS, h1, h2⟩ := hq
    exact ⟨h', tk', nw, e, F', N', off', hS, h1, fun c' e' => by rw [hc'] at e'; cases e'; exact h2⟩
  · intro ys hl hy
    obtain ⟨zs, h1, h2⟩ := strs_of (f := f) (l := xt.cps.toList) (ys := ys) (by rw [hl, Array.length_toList]) fun i c y h1 h2 => hy i y h2 c h1
    exact fin ys zs h1 h2
theorem rest_bytes_str {b : Array UInt8}
    (turn : ∀ (c : Nat) (t : Tok) I oI C oC D m₂ ys h tk (E' : Value → Shared → Prop), c < 256 → NsObj oC m₂ → m₂ x = some (.int (c : Int) t) → Fr h₀ L h m → News h₀ L h ((I, oI) :: (C, oC) :: (D, lst ys) :: news) → Off3 I C D news → ((@Ne Nat I C) ∧ (@Ne Nat I D) ∧ (@Ne Nat C D)) →
      wpAny (model prog w) A (eval elt (compEnvC scope cl C env)) (CompEnd h₀ L m { s with heap := h, toks := tk } I oI C oC D (lst ys) S (El news (fun y => ∃ t' z, y = .str z t' ∧ z.cps.toList = [c]))) E' { s with heap := h, toks := tk })
    (fin : ∀ (ys : List Value) (zs : List Str), StrsAre ys zs → zs.map (fun z => z.cps.toList) = (b.toList.map fun c => c.toNat).map (fun c => [c]) → Fin ys news) : CompRest prog w A h₀ L m env elt x scope cl s S (BAt b) Fin b.size 0 [] news := by
  refine rest_map (fun i y => ∀ c, (b.toList.map fun c => c.toNat)[i]? = some c → ∃ t z, y = .str z t ∧ z.cps.toList = [c]) ?_ ?_
  · rintro i v I oI C oC D m₂ ys h tk E' hi ⟨c, t, hc, rfl⟩ hC hx F N off ne
    have hc' : (b.toList.map fun c => c.toNat)[i]? = some c.toNat := by rw [List.getElem?_map, Array.getElem?_toList, hc]; rfl
    refine wpAny_mono (turn c.toNat t I oI C oC D m₂ ys h tk E' c.toNat_lt hC hx F N off ne) (fun y s₂ hq => ?_) fun _ _ e => e
    obtain ⟨h', tk', nw, e, F', N', off', hS, h1, h2⟩ := hq
    exact ⟨h', tk', nw, e, F', N', off', hS, h1, fun c' e' => by rw [hc'] at e'; cases e'; exact h2⟩
  · intro ys hl hy
    obtain ⟨zs, h1, h2⟩ := strs_of (f := fun c => [c]) (l := b.toList.map fun c => c.toNat) (ys := ys) (by rw [hl, List.length_map, Array.length_toList]) fun i c y h1 h2 => hy i y h2 c h1
    exact fin ys zs h1 h2
theorem rest_txt_none {xt : Str} (k : Nat → Bool)
    (turn : ∀ (c : Nat) (t : Tok) I oI C oC D m₂ ys h tk (E' : Value → Shared → Prop), c ∈ xt.cps.toList → NsObj oC m₂ → m₂ x = some (.str ⟨#[c]⟩ t) → Fr h₀ L h m → News h₀ L h ((I, oI) :: (C, oC) :: (D, lst ys) :: news) → Off3 I C D news → ((@Ne Nat I C) ∧ (@Ne Nat I D) ∧ (@Ne Nat C D)) →
      wpAny (model prog w) A (isTrue ct (compEnvC scope cl C env) (eval ct (compEnvC scope cl C env))) (fun ok s' => if ok = true then
        wpAny (model prog w) A (eval elt (compEnvC scope cl C env)) (CompEnd h₀ L m { s with heap := h, toks := tk } I oI C oC D (lst ys) S (El news (fun y => k c = true ∧ ∃ (z : Str) (t' : Tok), y = Value.str z t' ∧ PyData.strOk z = true))) E' s'
        else CompEnd h₀ L m { s with heap := h, toks := tk } I oI C oC D (lst ys) S (El news (fun _ => k c = false)) Value.none s') E' { s with heap := h, toks := tk })
    (fin : ∀ (ys : List Value) (zs : List Str), ys.length ≤ xt.length → StrsAre ys zs → (∀ z ∈ zs, PyData.strOk z = true) → (ys = [] ↔ xt.cps.toList.any k = false) → Fin ys news) : LCt.CompRestT prog w A h₀ L m env ct elt x scope cl s S (SignAt xt) Fin xt.cps.size 0 [] news := by
  refine rest_filter (fun i => k (xt.cps.toList.getD i 0)) (fun y => ∃ (z : Str) (t' : Tok), y = Value.str z t' ∧ PyData.strOk z = true) ?_ ?_
  · rintro i v I oI C oC D m₂ ys h tk E' hi ⟨c, t, hc, rfl⟩ hC hx F N off ne
    have hc' : xt.cps.toList[i]? = some c := by rw [Array.getElem?_toList]; exact hc
    have e0 : xt.cps.toList.getD i 0 = c := by rw [List.getD_eq_getElem?_getD, hc']; rfl
    rw [e0]
    exact turn c t I oI C oC D m₂ ys h tk E' (List.mem_of_getElem? hc') hC hx F N off ne
  · intro ys hl ho hy
    obtain ⟨zs, hzs, hok⟩ := strs_any ho
    refine fin ys zs hl hzs hok (hy.trans ⟨fun H => ?_, fun H i hi => ?_⟩)
    · rw [Bool.eq_false_iff]
      intro ha
      obtain ⟨c, hc, hk⟩ := List.any_eq_true.mp ha
      obtain ⟨i, hi, e⟩ := List.getElem_of_mem hc
      have := H i (by rw [Array.length_toList] at hi; exact hi)
      rw [List.getD_eq_getElem?_getD, List.getElem?_eq_getElem hi, e] at this
      rw [show k (Option.getD (some c) 0) = k c from rfl, hk] at this
      cases this
    · have hi' : i < xt.cps.toList.length := by rw [Array.length_toList]; exact hi
      have hm : xt.cps.toList.getD i 0 ∈ xt.cps.toList := by rw [List.getD_eq_getElem?_getD, List.getElem?_eq_getElem hi']; exact List.getElem_mem hi'
      cases hk : k (xt.cps.toList.getD i 0) with
      | false => rfl
      | true => rw [List.any_eq_true.mpr ⟨_, hm, hk⟩] at H; cases H
end
theorem join_cps : ∀ zs : List Str, (Str.join (Str.ofString "") zs).cps.toList = (zs.map fun z => z.cps.toList).flatten
  | [] => rfl
  | [z] => by simp [Str.join]
  | z :: y :: r => by
    show ((z.cps ++ (Str.ofString "").cps) ++ (Str.join (Str.ofString "") (y :: r)).cps).toList = _
    rw [Array.toList_append, Array.toList_append, join_cps (y :: r)]
    show (z.cps.toList ++ []) ++ _ = _
    rw [List.append_nil]
    rfl
section
variable {prog : Program} {w : World} {A : Around} {E : Value → Shared → Prop} {s : Shared} {h₀ : Heap} {L D : Addr} {news : List (Addr × Obj)} {t u : Tok} {Q : Value → Shared → Prop}
theorem join_txt {ys : List Value} {zs : List Str} {f : Nat → List Nat} {l : List Nat} (N : News h₀ L s.heap ((D, lst ys) :: news)) (hz : StrsAre ys zs) (hm : zs.map (fun z => z.cps.toList) = l.map f) (hf : ∀ c, (f c).length ≤ 2) (hl : l.length ≤ 1000000)
    (h : ∀ t' k z, z.cps.toList = l.flatMap f → z.length ≤ 2 * l.length → Q (.str z t') { s with toks := k }) : wpAny (model prog w) A (call (.builtin "str.join") [.str (Str.ofString "") t, .ref D]) Q E s := by
  have hL : s.heap.IsList D ys.toArray := ⟨_, (N _ (.head _)).1, rfl, _, rfl⟩
  have hlen : zs.length = l.length := by have := congrArg List.length hm; simpa using this
  have hsum : ∀ (l : List Nat) (zs : List Str), zs.map (fun z => z.cps.toList) = l.map f → (zs.map (·.length)).sum ≤ 2 * l.length := by
    intro l
    induction l with
    | nil => intro zs h; rw [List.map_nil, List.map_eq_nil_iff] at h; subst h; exact Nat.le_refl _
    | cons c l ih =>
      intro zs h
      cases zs with
      | nil => cases h
      | cons z zs =>
        rw [List.map_cons, List.map_cons] at h
        obtain ⟨h1, h2⟩ := List.cons.inj h
        have := ih zs h2
        have h3 : z.length = (f c).length := by rw [← h1, Array.length_toList]; rfl
        have := hf c
        rw [List.map_cons, List.sum_cons, List.length_cons]
        omega
  have h2 := hsum l zs hm
  have he : (Str.ofString "").length = 0 := rfl
  refine join_list hL (by simpa using hz) (by rw [he]; omega) fun t' k => ?_
  have e : (Txt.join (Str.ofString "") zs).cps.toList = l.flatMap f := by
    show (Builtin.Str.glued (Str.ofString "") zs).cps.toList = _
    rw [StrLaws.glued_eq_join, join_cps, hm, List.flatMap_def]
  refine h t' k _ e ?_
  show (Txt.join (Str.ofString "") zs).cps.size ≤ _
  rw [← Array.length_toList, e]
  have : ∀ l : List Nat, (l.flatMap f).length ≤ 2 * l.length := by
    intro l
    induction l with
    | nil => exact Nat.le_refl _
    | cons c l ih => rw [List.flatMap_cons, List.length_append, List.length_cons]; have := hf c; omega
  exact this l
theorem in_sign {y : Str} {c : Nat} (h : Q (.bool (decide (c ∈ y.cps.toList))) s) : wpAny (model prog w) A (compareOp .In (.str ⟨#[c]⟩ u) (.str y t)) Q E s := by
  refine P.in_str ?_
  rw [StrLaws.found_one]
  exact h
end
theorem canLay_strs : ∀ zs : List Str, (∀ z ∈ zs, PyData.strOk z = true) → PyData.canLayAll0 (zs.map PyData.str) = true
  | [], _ => rfl
  | z :: r, h => by simp [PyData.canLayAll0, PyData.canLay0, canLay_strs r fun z hz => h z (.tail _ hz), h z (.head _)]
theorem depth_strs : ∀ zs : List Str, PyData.depthAll (zs.map PyData.str) = 0
  | [] => rfl
  | _ :: r => by simp [PyData.depthAll, PyData.depth, depth_strs r]
theorem shaped_strs (zs : List Str) (h : ∀ z ∈ zs, PyData.strOk z = true) : SeqAt.shaped (.list (zs.map PyData.str)) = true := by
  simp [SeqAt.shaped, PyData.canLay0, PyData.depth, canLay_strs zs h, depth_strs]
section
variable {prog : Program} {w : World} {A : Around} {E : Value → Shared → Prop} {s : Shared} {h₀ : Heap} {L D b : Addr} {news : List (Addr × Obj)} {Q : Value → Shared → Prop}
theorem eq_nil {ys : List Value} {zs : List Str} {n : Nat} (N : News h₀ L s.heap news) (h1 : (D, lst ys) ∈ news) (h2 : (b, W.listOf #[] n) ∈ news) (hz : StrsAre ys zs) (hok : ∀ z ∈ zs, PyData.strOk z = true) (hu : A.units + 64 < cLine) (h : Q (.bool (decide (ys = []))) s) :
    wpAny (model prog w) A (compareOp .Eq (.ref D) (.ref b)) Q E s := by
  have hL : s.heap.IsList D ys.toArray := ⟨_, (N _ h1).1, rfl, _, rfl⟩
  have hB : s.heap.IsList b ([] : List Value).toArray := ⟨_, (N _ h2).1, rfl, _, rfl⟩
  refine eq_dataH_same (reads_newData hL hz.carried) (reads_newData (ds := ([] : List Str).map PyData.str) hB .nil) (shaped_strs _ hok) (shaped_strs _ (fun _ h => nomatch h)) hu (SeqAt.noMix_of_shape (.list .str) rfl _ _ (list_map_has fun _ => rfl) (list_map_has fun _ => rfl)) ?_
  have e : PySem.Spec.same (.list (zs.map PyData.str)) (.list (([] : List Str).map PyData.str)) = decide (ys = []) := by
    cases hz with
    | nil => simp [PySem.Spec.same, PySem.Spec.sameAll]
    | cons => simp [PySem.Spec.same, PySem.Spec.sameAll]
  rw [e]
  exact h
end
/-- the ends of an item's turn -/
theorem el_esc1 {news : List (Addr × Obj)} {c : Nat} {z : Str} {t : Tok} (hz : z.cps.toList = (Str.ofString "\\").cps.toList ++ (⟨#[c]⟩ : Str).cps.toList) (hc : c ∈ (Str.ofString "\"\\").cps.toList) : El news (fun y => ∃ t' z, y = Value.str z t' ∧ z.cps.toList = escc c) (.str z t) news := by
  refine ⟨rfl, t, z, rfl, ?_⟩
  have a1 : (Str.ofString "\\").cps.toList = [92] := by decide +kernel
  have a2 : (Str.ofString "\"\\").cps.toList = [34, 92] := by decide +kernel
  rw [a2] at hc
  rw [hz, a1]
  unfold escc
  rw [if_pos (by simpa using hc)]
  rfl
theorem el_esc0 {news : List (Addr × Obj)} {c : Nat} {t : Tok} (hc : ¬ c ∈ (Str.ofString "\"\\").cps.toList) : El news (fun y => ∃ t' z, y = Value.str z t' ∧ z.cps.toList = escc c) (.str ⟨#[c]⟩ t) news := by
  refine ⟨rfl, t, _, rfl, ?_⟩
  have a2 : (Str.ofString "\"\\").cps.toList = [34, 92] := by decide +kernel
  rw [a2] at hc
  unfold escc
  rw [if_neg (by simpa using hc)]
theorem sixteen (c : Nat) : decide (c ∈ (Str.ofString " ()<>@,;:\\\"/[]?=").cps.toList) = RX.special c := by
  have a2 : (Str.ofString " ()<>@,;:\\\"/[]?=").cps.toList = [32, 40, 41, 60, 62, 64, 44, 59, 58, 92, 34, 47, 91, 93, 63, 61] := by decide +kernel
  rw [a2, RX.special_eq]
  rw [Bool.eq_iff_iff, decide_eq_true_iff, List.contains_iff_mem]
  simp only [List.mem_cons, List.not_mem_nil, or_false]
  omega
theorem el_yes {news : List (Addr × Obj)} {c : Nat} {t : Tok} (hc : c ∈ (Str.ofString " ()<>@,;:\\\"/[]?=").cps.toList) : El news (fun y => RX.special c = true ∧ ∃ (z : Str) (t' : Tok), y = Value.str z t' ∧ PyData.strOk z = true) (.str ⟨#[c]⟩ t) news := by
  refine ⟨rfl, by rw [← sixteen]; exact decide_eq_true hc, _, _, rfl, ?_⟩
  have a2 : (Str.ofString " ()<>@,;:\\\"/[]?=").cps.toList = [32, 40, 41, 60, 62, 64, 44, 59, 58, 92, 34, 47, 91, 93, 63, 61] := by decide +kernel
  rw [a2] at hc
  have : ∀ d ∈ ([32, 40, 41, 60, 62, 64, 44, 59, 58, 92, 34, 47, 91, 93, 63, 61] : List Nat), PyData.strOk ⟨#[d]⟩ = true := by decide +kernel
  exact this c hc
theorem el_no {news : List (Addr × Obj)} {c : Nat} {v : Value} (hc : ¬ c ∈ (Str.ofString " ()<>@,;:\\\"/[]?=").cps.toList) : El news (fun _ => RX.special c = false) v news :=
  ⟨rfl, by rw [← sixteen]; exact decide_eq_false hc⟩
theorem el_int {news : List (Addr × Obj)} {c : Int} {t : Tok} : El news (fun y => ∃ t', y = Value.int c t') (.int c t) news := ⟨rfl, _, rfl⟩
theorem el_str {news : List (Addr × Obj)} {c : Nat} {z : Str} {t : Tok} (hz : z.cps.toList = [c]) : El news (fun y => ∃ t' z, y = Value.str z t' ∧ z.cps.toList = [c]) (.str z t) news := ⟨rfl, _, _, rfl, hz⟩
end CW
/-- a backslash ahead of each quotation mark and backslash -/
def escL (l : List Nat) : List Nat := SM.sub1 34 [92, 34] (SM.sub1 92 [92, 92] l)
/-- what _formatparam writes -/
def fmtL (name v : List Nat) (q : Int) : List Nat :=
  if v.length = 0 then name else if q ≠ 0 ∨ v.any RX.special = true then name ++ [61, 34] ++ escL v ++ [34] else name ++ [61] ++ v
def fmtP (name v : Str) (q : Int) : Str := ⟨(fmtL name.cps.toList v.cps.toList q).toArray⟩
theorem str_of {x : Str} {l : List Nat} (h : x.cps.toList = l) : x = ⟨l.toArray⟩ := by
  obtain ⟨a⟩ := x
  subst h
  rfl
theorem any_list (v : Str) : v.cps.toList.any RX.special = v.cps.any RX.special := by rw [Array.any_toList]
theorem fmt_q {name v x1 x2 : Str} {q : Int} (h0 : 0 < (v.length : Int)) (hq : q ≠ 0 ∨ v.cps.any RX.special = true) (h1 : x1.cps.toList = SM.sub1 92 (Str.ofString "\\\\").cps.toList v.cps.toList) (h2 : x2.cps.toList = SM.sub1 34 (Str.ofString "\\\"").cps.toList x1.cps.toList) (t0 : Tok) :
    ∃ t, Value.str (Str.empty ++ name ++ Str.ofString "=\"" ++ x2 ++ Str.ofString "\"") t0 = Value.str (fmtP name v q) t := by
  refine ⟨t0, congrArg (Value.str · t0) (str_of ?_)⟩
  have a1 : (Str.ofString "\\\\").cps.toList = [92, 92] := by decide +kernel
  have a2 : (Str.ofString "\\\"").cps.toList = [92, 34] := by decide +kernel
  have a3 : (Str.ofString "=\"").cps.toList = [61, 34] := by decide +kernel
  have a4 : (Str.ofString "\"").cps.toList = [34] := by decide +kernel
  have a5 : Str.empty.cps.toList = [] := rfl
  rw [a1] at h1
  rw [a2, h1] at h2
  have hv : ¬ v.cps.toList.length = 0 := by
    rw [Array.length_toList]
    have : v.length = v.cps.size := rfl
    omega
  unfold fmtL
  rw [if_neg hv, if_pos (by rw [any_list]; exact hq)]
  simp only [Str.cps_append, Array.toList_append, a3, a4, a5, h2, escL, List.nil_append]
theorem fmt_b {name v : Str} {q : Int} (h0 : 0 < (v.length : Int)) (hq : q = 0) (hs : v.cps.any RX.special = false) (t0 : Tok) :
    ∃ t, Value.str (Str.empty ++ name ++ Str.ofString "=" ++ v) t0 = Value.str (fmtP name v q) t := by
  refine ⟨t0, congrArg (Value.str · t0) (str_of ?_)⟩
  have a3 : (Str.ofString "=").cps.toList = [61] := by decide +kernel
  have a5 : Str.empty.cps.toList = [] := rfl
  have hv : ¬ v.cps.toList.length = 0 := by
    rw [Array.length_toList]
    have : v.length = v.cps.size := rfl
    omega
  unfold fmtL
  rw [if_neg hv, if_neg (by rw [any_list, hs]; simp [hq])]
  simp only [Str.cps_append, Array.toList_append, a3, a5, List.nil_append]
theorem fmt_e {name v : Str} {q : Int} (h0 : ¬ 0 < (v.length : Int)) (t0 : Tok) : ∃ t, Value.str name t0 = Value.str (fmtP name v q) t := by
  refine ⟨t0, congrArg (Value.str · t0) (str_of ?_)⟩
  have hv : v.cps.toList.length = 0 := by
    rw [Array.length_toList]
    have : v.length = v.cps.size := rfl
    omega
  unfold fmtL
  rw [if_pos hv]
/-- noughts up to whole threes -/
def padN (n : Nat) : Nat := (3 - n % 3) % 3
def padL (ns : List Int) : List Int := ns ++ List.replicate (padN ns.length) 0
theorem pad_eq (ns : List Int) : ns ++ (List.replicate ((-(ns.length : Int)) % 3).toNat [0]).flatten = padL ns := by
  have e : ((-(ns.length : Int)) % 3).toNat = padN ns.length := by
    unfold padN
    omega
  rw [e]
  unfold padL
  congr 1
  rw [List.flatten_replicate_singleton]
theorem news_head {h₀ h : Heap} {L : Addr} {q : Addr × Obj} {r : List (Addr × Obj)} (N : News h₀ L h (q :: r)) : News h₀ L h [q] := fun p hp => N p (by rw [List.mem_singleton.mp hp]; exact .head _)
theorem padL_len (ns : List Int) : (padL ns).length = ns.length + padN ns.length := by simp [padL]
theorem padL_mod (ns : List Int) : (padL ns).length % 3 = 0 := by rw [padL_len]; unfold padN; omega
theorem padL_oct {ns : List Int} (h : ∀ n ∈ ns, 0 ≤ n ∧ n < 256) : ∀ n ∈ padL ns, 0 ≤ n ∧ n < 256 := by
  intro n hn
  rcases List.mem_append.mp hn with hn | hn
  · exact h n hn
  · rw [List.eq_of_mem_replicate hn]; decide
/-- the figures of whole threes of octets -/
def figs : List Int → List Int
  | a :: b :: c :: r => a / 4 :: (a % 4 * 16 + b / 16) :: (b % 16 * 4 + c / 64) :: (c % 64) :: figs r
  | _ => []
def alpha62 : List Nat := [65, 66, 67, 68, 69, 70, 71, 72, 73, 74, 75, 76, 77, 78, 79, 80, 81, 82, 83, 84, 85, 86, 87, 88, 89, 90, 97, 98, 99, 100, 101, 102, 103, 104, 105, 106, 107, 108, 109, 110, 111, 112, 113, 114, 115, 116, 117, 118, 119, 120, 121, 122, 48, 49, 50, 51, 52, 53, 54, 55, 56, 57]
/-- a figure's sign, the last two by the pair -/
def sgn (pair : List Nat) (f : Int) : Nat := (alpha62 ++ pair).getD f.toNat 0
theorem figs_step : ∀ (i : Nat) (fs : List Int), 3 * (i + 1) ≤ fs.length → figs (fs.take (3 * (i + 1))) = figs (fs.take (3 * i)) ++
    [fs.getD (3 * i) 0 / 4, fs.getD (3 * i) 0 % 4 * 16 + fs.getD (3 * i + 1) 0 / 16, fs.getD (3 * i + 1) 0 % 16 * 4 + fs.getD (3 * i + 2) 0 / 64, fs.getD (3 * i + 2) 0 % 64]
  | 0, a :: b :: c :: r, _ => by simp [figs]
  | 0, [], h => by simp at h
  | 0, [_], h => by simp at h
  | 0, [_, _], h => by simp at h
  | i + 1, [], h => by simp at h
  | i + 1, [_], h => by simp only [List.length_cons, List.length_nil] at h; omega
  | i + 1, [_, _], h => by simp only [List.length_cons, List.length_nil] at h; omega
  | i + 1, a :: b :: c :: r, h => by
    simp only [List.length_cons] at h
    have ih := figs_step i r (by omega)
    have e1 : 3 * (i + 1 + 1) = 3 * (i + 1) + 1 + 1 + 1 := by omega
    have e2 : 3 * (i + 1) = 3 * i + 1 + 1 + 1 := by omega
    rw [e1, List.take_succ_cons, List.take_succ_cons, List.take_succ_cons]
    show _ :: _ :: _ :: _ :: figs (r.take (3 * (i + 1))) = _
    rw [ih]
    conv => rhs; rw [e2, List.take_succ_cons, List.take_succ_cons, List.take_succ_cons]
    show _ = (a / 4 :: (a % 4 * 16 + b / 16) :: (b % 16 * 4 + c / 64) :: (c % 64) :: figs (r.take (3 * i))) ++ _
    simp only [List.cons_append, List.getD_cons_succ]
theorem getD_mem {fs : List Int} {i : Nat} (h : i < fs.length) : fs.getD i 0 ∈ fs := by
  rw [List.getD_eq_getElem?_getD, List.getElem?_eq_getElem h]
  exact List.getElem_mem h
theorem figs_mem {fs : List Int} {i : Nat} (h : 3 * (i + 1) ≤ fs.length) : ∀ f ∈ [fs.getD (3 * i) 0 / 4, fs.getD (3 * i) 0 % 4 * 16 + fs.getD (3 * i + 1) 0 / 16, fs.getD (3 * i + 1) 0 % 16 * 4 + fs.getD (3 * i + 2) 0 / 64, fs.getD (3 * i + 2) 0 % 64], f ∈ figs fs := by
  have key : ∀ (j : Nat), 3 * (i + 1) + 3 * j ≤ fs.length → ∀ f ∈ figs (fs.take (3 * (i + 1))), f ∈ figs (fs.take (3 * (i + 1) + 3 * j)) := by
    intro j
    induction j with
    | zero => intro _ f hf; exact hf
    | succ j ih =>
      intro hj f hf
      have e : 3 * (i + 1) + 3 * (j + 1) = 3 * (i + 1 + j + 1) := by omega
      rw [e, figs_step (i + 1 + j) fs (by omega)]
      have e2 : 3 * (i + 1 + j) = 3 * (i + 1) + 3 * j := by omega
      rw [e2]
      exact List.mem_append_left _ (ih (by omega) f hf)
  intro f hf
  have h1 : f ∈ figs (fs.take (3 * (i + 1))) := by rw [figs_step i fs h]; exact List.mem_append_right _ hf
  have h2 := key ((fs.length - 3 * (i + 1)) / 3) (by omega) f h1
  by_cases hm : fs.length % 3 = 0
  · rw [List.take_of_length_le (by omega)] at h2
    exact h2
  · have h3 : ∀ (n : Nat) (l : List Int), l.length < 3 * n + 3 → figs (l.take (3 * n)) = figs l ∨ l.length < 3 * n := by
      intro n
      induction n with
      | zero =>
        intro l hl
        refine .inl ?_
        match l, hl with
        | [], _ => rfl
        | [_], _ => rfl
        | [_, _], _ => rfl
        | _ :: _ :: _ :: _, hl => simp only [List.length_cons] at hl; omega
      | succ n ih =>
        intro l hl
        match l, hl with
        | [], _ => exact .inr (by simp)
        | [_], _ => exact .inr (by simp only [List.length_cons, List.length_nil]; omega)
        | [_, _], _ => exact .inr (by simp only [List.length_cons, List.length_nil]; omega)
        | a :: b :: c :: r, hl =>
          simp only [List.length_cons] at hl ⊢
          have e2 : 3 * (n + 1) = 3 * n + 1 + 1 + 1 := by omega
          rcases ih r (by omega) with q | q
          · refine .inl ?_
            rw [e2, List.take_succ_cons, List.take_succ_cons, List.take_succ_cons]
            show _ :: _ :: _ :: _ :: figs (r.take (3 * n)) = _ :: _ :: _ :: _ :: figs r
            rw [q]
          · exact .inr (by omega)
    have e4 : 3 * (i + 1) + 3 * ((fs.length - 3 * (i + 1)) / 3) = 3 * (i + 1 + (fs.length - 3 * (i + 1)) / 3) := by omega
    rw [e4] at h2
    rcases h3 (i + 1 + (fs.length - 3 * (i + 1)) / 3) fs (by omega) with q | q
    · rw [q] at h2; exact h2
    · omega
/-- the text so far -/
structure SigInv (fs : List Int) (pair : List Nat) (i : Nat) (x : Str) : Prop where
  eq : x.cps.toList = (figs (fs.take (3 * i))).map (sgn pair)
  len : x.length = 4 * i
theorem SigInv.zero (fs : List Int) (pair : List Nat) : SigInv fs pair 0 (Str.ofString "") := ⟨rfl, rfl⟩
theorem sgn_at {plain : Str} {pair : List Nat} {j f : Int} {p : Str} (hp : plain.cps.toList = alpha62 ++ pair) (e : p.cps.toList = [plain.cps.toList.getD j.toNat 0]) (hj : j = f) : p.cps.toList = [sgn pair f] := by
  subst hj
  rw [e, hp]
  rfl
theorem SigInv.step {fs : List Int} {pair : List Nat} {i : Nat} {x x1 x2 x3 x4 p0 p1 p2 p3 plain : Str} {a b c : Int} (h : SigInv fs pair i x) (hl : 3 * (i + 1) ≤ fs.length)
    (ga : fs.getD (3 * i) 0 = a) (gb : fs.getD (3 * i + 1) 0 = b) (gc : fs.getD (3 * i + 2) 0 = c) (a0 : 0 ≤ a) (a1 : a < 256) (b0 : 0 ≤ b) (b1 : b < 256) (c0 : 0 ≤ c) (c1 : c < 256)
    (hp : plain.cps.toList = alpha62 ++ pair)
    (k4 : x4.cps.toList = x3.cps.toList ++ p3.cps.toList) (k3 : x3.cps.toList = x2.cps.toList ++ p2.cps.toList) (k2 : x2.cps.toList = x1.cps.toList ++ p1.cps.toList) (k1 : x1.cps.toList = x.cps.toList ++ p0.cps.toList)
    (e0 : p0.cps.toList = [plain.cps.toList.getD ((65536 * a + 256 * b + c) / 262144).toNat 0]) (e1 : p1.cps.toList = [plain.cps.toList.getD ((65536 * a + 256 * b + c) / 4096 % 64).toNat 0])
    (e2 : p2.cps.toList = [plain.cps.toList.getD ((65536 * a + 256 * b + c) / 64 % 64).toNat 0]) (e3 : p3.cps.toList = [plain.cps.toList.getD ((65536 * a + 256 * b + c) % 64).toNat 0]) : SigInv fs pair (i + 1) x4 := by
  have q0 := sgn_at (f := a / 4) hp e0 (by omega)
  have q1 := sgn_at (f := a % 4 * 16 + b / 16) hp e1 (by omega)
  have q2 := sgn_at (f := b % 16 * 4 + c / 64) hp e2 (by omega)
  have q3 := sgn_at (f := c % 64) hp e3 (by omega)
  have e : x4.cps.toList = (figs (fs.take (3 * (i + 1)))).map (sgn pair) := by
    rw [figs_step i fs hl, ga, gb, gc, List.map_append, k4, k3, k2, k1, h.eq, q0, q1, q2, q3]
    simp
  refine ⟨e, ?_⟩
  have hx := h.len
  show x4.cps.size = _
  have hx' : x.cps.size = 4 * i := hx
  rw [← Array.length_toList, k4, k3, k2, k1, q0, q1, q2, q3]
  simp only [List.length_append, List.length_cons, List.length_nil, Array.length_toList]
  omega
/-- the text that _law_signs gives -/
def sigL (pair : List Nat) (ns : List Int) : List Nat := ((figs (padL ns)).map (sgn pair)).take (4 * ((padL ns).length / 3) - padN ns.length) ++ List.replicate (padN ns.length) 61
theorem slice_to {x : Str} {j : Int} (h0 : 0 ≤ j) (h1 : j ≤ (x.length : Int)) : (Txt.slice x none (some j)).cps.toList = x.cps.toList.take j.toNat := by
  have := StrLaws.sliceText_to (x := x) (j := j) ⟨h0, by rw [Array.length_toList]; exact h1⟩
  rw [List.drop_zero, Int.sub_zero] at this
  have e : Txt.slice x none (some j) = ⟨(x.cps.toList.take j.toNat).toArray⟩ := this
  rw [e]
theorem sig_fin {ns : List Int} {pair : List Nat} {x y z : Str} (hP : SigInv (padL ns) pair ((padL ns).length / 3) x)
    (hz : z.cps.toList = (Txt.slice x none (some ((x.length : Int) - (((padL ns).length : Int) - (ns.length : Int))))).cps.toList ++ y.cps.toList) (hy : y.cps.toList = List.replicate (((padL ns).length : Int) - (ns.length : Int)).toNat 61) : z.cps.toList = sigL pair ns := by
  have h1 := padL_len ns
  have h2 := padL_mod ns
  have h3 : padN ns.length ≤ 2 := by unfold padN; omega
  have h4 := hP.len
  have h5 : padN ns.length = 0 ∨ 3 ≤ (padL ns).length := by unfold padN at h1 ⊢; omega
  have e1 : (((padL ns).length : Int) - (ns.length : Int)).toNat = padN ns.length := by omega
  rw [hz, hy, slice_to (by omega) (by omega), hP.eq, e1, List.take_of_length_le (show (padL ns).length ≤ 3 * ((padL ns).length / 3) by omega)]
  unfold sigL
  congr 2
  omega
theorem figs_len : ∀ fs : List Int, (figs fs).length = 4 * (fs.length / 3)
  | [] => rfl
  | [_] => by simp [figs]
  | [_, _] => by simp [figs]
  | a :: b :: c :: r => by
    show (figs r).length + 1 + 1 + 1 + 1 = _
    rw [figs_len r]
    simp only [List.length_cons]
    omega
theorem sig_len {x : Str} {pair : List Nat} {ns : List Int} (h : x.cps.toList = sigL pair ns) (hlen : ns.length ≤ 20000) : x.length ≤ 60000 := by
  have e : x.length = (sigL pair ns).length := by rw [← h, Array.length_toList]; rfl
  have h1 := padL_len ns
  have h3 : padN ns.length ≤ 2 := by unfold padN; omega
  rw [e]
  unfold sigL
  rw [List.length_append, List.length_take, List.length_map, figs_len, List.length_replicate]
  omega
theorem figs_all {P : Int → Prop} (h : ∀ a b c : Int, (0 ≤ a ∧ a < 256) → (0 ≤ b ∧ b < 256) → (0 ≤ c ∧ c < 256) → P (a / 4) ∧ P (a % 4 * 16 + b / 16) ∧ P (b % 16 * 4 + c / 64) ∧ P (c % 64)) : ∀ fs : List Int, (∀ n ∈ fs, 0 ≤ n ∧ n < 256) → ∀ f ∈ figs fs, P f
  | [], _, _, hf => by cases hf
  | [_], _, _, hf => by cases hf
  | [_, _], _, _, hf => by cases hf
  | a :: b :: c :: r, ho, f, hf => by
    obtain ⟨p0, p1, p2, p3⟩ := h a b c (ho a (.head _)) (ho b (.tail _ (.head _))) (ho c (.tail _ (.tail _ (.head _))))
    have hf' : f ∈ a / 4 :: (a % 4 * 16 + b / 16) :: (b % 16 * 4 + c / 64) :: (c % 64) :: figs r := hf
    simp only [List.mem_cons] at hf'
    rcases hf' with rfl | rfl | rfl | rfl | hf'
    · exact p0
    · exact p1
    · exact p2
    · exact p3
    · exact figs_all h r (fun n hn => ho n (.tail _ (.tail _ (.tail _ hn)))) f hf'
theorem figs_all2 {P : Int → Prop} {O : Int → Prop} (h : ∀ a b c : Int, O a → O b → O c → P (a / 4) ∧ P (a % 4 * 16 + b / 16) ∧ P (b % 16 * 4 + c / 64) ∧ P (c % 64)) : ∀ fs : List Int, (∀ n ∈ fs, O n) → ∀ f ∈ figs fs, P f
  | [], _, _, hf => by cases hf
  | [_], _, _, hf => by cases hf
  | [_, _], _, _, hf => by cases hf
  | a :: b :: c :: r, ho, f, hf => by
    obtain ⟨p0, p1, p2, p3⟩ := h a b c (ho a (.head _)) (ho b (.tail _ (.head _))) (ho c (.tail _ (.tail _ (.head _))))
    have hf' : f ∈ a / 4 :: (a % 4 * 16 + b / 16) :: (b % 16 * 4 + c / 64) :: (c % 64) :: figs r := hf
    simp only [List.mem_cons] at hf'
    rcases hf' with rfl | rfl | rfl | rfl | hf'
    · exact p0
    · exact p1
    · exact p2
    · exact p3
    · exact figs_all2 h r (fun n hn => ho n (.tail _ (.tail _ (.tail _ hn)))) f hf'
theorem figs_lo {ns : List Int} (hoct : ∀ n ∈ ns, 0 ≤ n ∧ n < 256) : ∀ f ∈ figs (padL ns), 0 ≤ f ∧ f < 64 :=
  figs_all (fun a b c ha hb hc => by refine ⟨⟨?_, ?_⟩, ⟨?_, ?_⟩, ⟨?_, ?_⟩, ?_, ?_⟩ <;> omega) _ (padL_oct hoct)
theorem fig_any {ns : List Int} {pair : Str} (hoct : ∀ n ∈ ns, 0 ≤ n ∧ n < 256) (hp : pair.length = 2) : ∀ f ∈ figs (padL ns), f < 62 + (pair.length : Int) := by
  intro f hf
  have := (figs_lo hoct f hf).2
  omega
/-- the octets that the walk filters -/
def hard (a : Int) : Bool := if 127 < a then true else if 61 < a.fmod 64 then true else false
theorem hard_iff (a : Int) : hard a = true ↔ 127 < a ∨ 61 < a % 64 := by
  unfold hard
  rw [Int.fmod_eq_emod_of_nonneg _ (by decide)]
  split
  · simp; omega
  · split
    · simp; omega
    · simp; omega
theorem easy_of {ns : List Int} (h : decide (List.map (fun a => a) (List.filter (fun a => if 127 < a then true else if 61 < a.fmod 64 then true else false) ns) = []) = true) : ∀ n ∈ ns, hard n = false := by
  have h' := of_decide_eq_true h
  rw [List.map_eq_nil_iff, List.filter_eq_nil_iff] at h'
  intro n hn
  have := h' n hn
  rw [Bool.eq_false_iff]
  exact this
theorem hard_of {ns : List Int} (h : decide (List.map (fun a => a) (List.filter (fun a => if 127 < a then true else if 61 < a.fmod 64 then true else false) ns) = []) = false) : ¬ ∀ n ∈ ns, hard n = false := by
  intro he
  have h' := of_decide_eq_false h
  refine h' ?_
  rw [List.map_eq_nil_iff, List.filter_eq_nil_iff]
  intro n hn
  rw [Bool.not_eq_true]
  exact he n hn
theorem figs_easy {ns : List Int} (hoct : ∀ n ∈ ns, 0 ≤ n ∧ n < 256) (he : ∀ n ∈ ns, hard n = false) : ∀ f ∈ figs (padL ns), 0 ≤ f ∧ f < 62 := by
  refine figs_all2 (O := fun n => 0 ≤ n ∧ n ≤ 127 ∧ n % 64 ≤ 61) (fun a b c ha hb hc => ?_) _ ?_
  · refine ⟨⟨?_, ?_⟩, ⟨?_, ?_⟩, ⟨?_, ?_⟩, ?_, ?_⟩ <;> omega
  · intro n hn
    rcases List.mem_append.mp hn with hn | hn
    · have h1 := hoct n hn
      have h2 := he n hn
      have h3 : ¬ (127 < n ∨ 61 < n % 64) := fun q => by rw [(hard_iff n).mpr q] at h2; cases h2
      omega
    · rw [List.eq_of_mem_replicate hn]; decide
theorem fig_easy {ns : List Int} (hoct : ∀ n ∈ ns, 0 ≤ n ∧ n < 256) (h : decide (List.map (fun a => a) (List.filter (fun a => if 127 < a then true else if 61 < a.fmod 64 then true else false) ns) = []) = true) : ∀ f ∈ figs (padL ns), f < 62 + ((Str.ofString "").length : Int) := by
  intro f hf
  have h1 := (figs_easy hoct (easy_of h) f hf).2
  have h2 : (Str.ofString "").length = 0 := rfl
  omega
/-- what _law_param writes -/
def parL (name pair : List Nat) (mk : Int) (ns : List Int) : List Nat :=
  if ns = [] then name
  else if ns.any hard = false then
    (if mk = 0 ∧ ns.length % 3 = 0 then name ++ [61] ++ sigL [] ns else name ++ [61, 34] ++ (sigL [] ns).flatMap CW.escc ++ [34])
  else
    (if mk = 0 ∧ (sigL pair ns).any RX.special = false then name ++ [61] ++ sigL pair ns else name ++ [61, 34] ++ (sigL pair ns).flatMap CW.escc ++ [34])
section
variable {ns : List Int} {name pair : Str} {mk : Int} {t0 : Tok} {x z1 z2 z3 z4 : Str}
abbrev Easy (ns : List Int) (b : Bool) : Prop := decide (List.map (fun a => a) (List.filter (fun a => if 127 < a then true else if 61 < a.fmod 64 then true else false) ns) = []) = b
theorem easy_any {b : Bool} (h : Easy ns b) : ns.any hard = !b := by
  cases b with
  | true =>
    rw [Bool.not_true, Bool.eq_false_iff]
    intro ha
    obtain ⟨n, hn, hh⟩ := List.any_eq_true.mp ha
    rw [easy_of h n hn] at hh
    cases hh
  | false =>
    rw [Bool.not_false]
    cases ha : ns.any hard with
    | true => rfl
    | false =>
      refine absurd (fun n hn => ?_) (hard_of h)
      rw [Bool.eq_false_iff]
      intro hh
      rw [List.any_eq_true.mpr ⟨n, hn, hh⟩] at ha
      cases ha
theorem fmod3 (h : ((ns.length : Nat) : Int).fmod 3 = 0) : ns.length % 3 = 0 := by
  rw [Int.fmod_eq_emod_of_nonneg _ (by decide)] at h
  omega
theorem fmod3' (h : ((ns.length : Nat) : Int).fmod 3 ≠ 0) : ¬ ns.length % 3 = 0 := by
  rw [Int.fmod_eq_emod_of_nonneg _ (by decide)] at h
  omega
theorem par_nil (h : decide (ns = []) = true) : ∃ t x, Value.str name t0 = Value.str x t ∧ x.cps.toList = parL name.cps.toList pair.cps.toList mk ns :=
  ⟨t0, name, rfl, by unfold parL; rw [if_pos (of_decide_eq_true h)]⟩
theorem bare_eq {sg : List Nat} (h1 : z1.cps.toList = name.cps.toList ++ (Str.ofString "=").cps.toList) (h2 : z2.cps.toList = z1.cps.toList ++ x.cps.toList) (hx : x.cps.toList = sg) : z2.cps.toList = name.cps.toList ++ [61] ++ sg := by
  have a : (Str.ofString "=").cps.toList = [61] := by decide +kernel
  rw [h2, h1, a, hx]
theorem quot_eq {sg : List Nat} (h1 : z1.cps.toList = name.cps.toList ++ (Str.ofString "=\"").cps.toList) (h2 : z2.cps.toList = List.flatMap CW.escc x.cps.toList) (h3 : z3.cps.toList = z1.cps.toList ++ z2.cps.toList) (h4 : z4.cps.toList = z3.cps.toList ++ (Str.ofString "\"").cps.toList) (hx : x.cps.toList = sg) :
    z4.cps.toList = name.cps.toList ++ [61, 34] ++ sg.flatMap CW.escc ++ [34] := by
  have a : (Str.ofString "=\"").cps.toList = [61, 34] := by decide +kernel
  have b : (Str.ofString "\"").cps.toList = [34] := by decide +kernel
  rw [h4, h3, h1, h2, a, b, hx]
theorem par_e1 (h0 : decide (ns = []) = false) (he : Easy ns true) (hm : mk = 0) (hl : ((ns.length : Nat) : Int).fmod 3 = 0) (hx : x.cps.toList = sigL (Str.ofString "").cps.toList ns) (h1 : z1.cps.toList = name.cps.toList ++ (Str.ofString "=").cps.toList) (h2 : z2.cps.toList = z1.cps.toList ++ x.cps.toList) :
    ∃ t x, Value.str z2 t0 = Value.str x t ∧ x.cps.toList = parL name.cps.toList pair.cps.toList mk ns := by
  refine ⟨t0, z2, rfl, ?_⟩
  rw [bare_eq h1 h2 hx]
  unfold parL
  rw [if_neg (of_decide_eq_false h0), if_pos (show ns.any hard = false from easy_any he), if_pos ⟨hm, fmod3 hl⟩]
  rfl
theorem par_e2 (h0 : decide (ns = []) = false) (he : Easy ns true) (hl : mk ≠ 0 ∨ ((ns.length : Nat) : Int).fmod 3 ≠ 0) (hx : x.cps.toList = sigL (Str.ofString "").cps.toList ns) (h1 : z1.cps.toList = name.cps.toList ++ (Str.ofString "=\"").cps.toList) (h2 : z2.cps.toList = List.flatMap CW.escc x.cps.toList) (h3 : z3.cps.toList = z1.cps.toList ++ z2.cps.toList) (h4 : z4.cps.toList = z3.cps.toList ++ (Str.ofString "\"").cps.toList) :
    ∃ t x, Value.str z4 t0 = Value.str x t ∧ x.cps.toList = parL name.cps.toList pair.cps.toList mk ns := by
  refine ⟨t0, z4, rfl, ?_⟩
  rw [quot_eq h1 h2 h3 h4 hx]
  unfold parL
  rw [if_neg (of_decide_eq_false h0), if_pos (show ns.any hard = false from easy_any he), if_neg (fun q => hl.elim (fun a => a q.1) fun a => fmod3' a q.2)]
  rfl
theorem par_h1 {ys : List Value} (h0 : decide (ns = []) = false) (he : Easy ns false) (hm : mk = 0) (hE : ys = [] ↔ x.cps.toList.any RX.special = false) (hy : ys = []) (hx : x.cps.toList = sigL pair.cps.toList ns) (h1 : z1.cps.toList = name.cps.toList ++ (Str.ofString "=").cps.toList) (h2 : z2.cps.toList = z1.cps.toList ++ x.cps.toList) :
    ∃ t x, Value.str z2 t0 = Value.str x t ∧ x.cps.toList = parL name.cps.toList pair.cps.toList mk ns := by
  refine ⟨t0, z2, rfl, ?_⟩
  rw [bare_eq h1 h2 hx]
  unfold parL
  have := hE.mp hy
  rw [hx] at this
  rw [if_neg (of_decide_eq_false h0), if_neg (by rw [easy_any he]; decide), if_pos ⟨hm, this⟩]
theorem par_h2 {ys : List Value} (h0 : decide (ns = []) = false) (he : Easy ns false) (hE : ys = [] ↔ x.cps.toList.any RX.special = false) (hy : ¬ ys = []) (hx : x.cps.toList = sigL pair.cps.toList ns) (h1 : z1.cps.toList = name.cps.toList ++ (Str.ofString "=\"").cps.toList) (h2 : z2.cps.toList = List.flatMap CW.escc x.cps.toList) (h3 : z3.cps.toList = z1.cps.toList ++ z2.cps.toList) (h4 : z4.cps.toList = z3.cps.toList ++ (Str.ofString "\"").cps.toList) :
    ∃ t x, Value.str z4 t0 = Value.str x t ∧ x.cps.toList = parL name.cps.toList pair.cps.toList mk ns := by
  refine ⟨t0, z4, rfl, ?_⟩
  rw [quot_eq h1 h2 h3 h4 hx]
  unfold parL
  rw [hx] at hE
  rw [if_neg (of_decide_eq_false h0), if_neg (by rw [easy_any he]; decide), if_neg (fun q => hy (hE.mpr q.2))]
theorem par_h3 (h0 : decide (ns = []) = false) (he : Easy ns false) (hm : mk ≠ 0) (hx : x.cps.toList = sigL pair.cps.toList ns) (h1 : z1.cps.toList = name.cps.toList ++ (Str.ofString "=\"").cps.toList) (h2 : z2.cps.toList = List.flatMap CW.escc x.cps.toList) (h3 : z3.cps.toList = z1.cps.toList ++ z2.cps.toList) (h4 : z4.cps.toList = z3.cps.toList ++ (Str.ofString "\"").cps.toList) :
    ∃ t x, Value.str z4 t0 = Value.str x t ∧ x.cps.toList = parL name.cps.toList pair.cps.toList mk ns := by
  refine ⟨t0, z4, rfl, ?_⟩
  rw [quot_eq h1 h2 h3 h4 hx]
  unfold parL
  rw [if_neg (of_decide_eq_false h0), if_neg (by rw [easy_any he]; decide), if_neg (fun q => hm q.1)]
end
set_option rowWalk.seconds 0
section
local macro_rules | `(tactic| walk_at "call type:type") => `(tactic| (k_here; (with_reducible show wpAny _ _ (call (Value.type "type") [Value.bytes _ _]) _ _ _); refine call_type_of (Tx := "bytes") rfl (by decide +kernel) ?_))
local macro_rules | `(tactic| walk_at "call type:type") => `(tactic| (k_here; (with_reducible show wpAny _ _ (call (Value.type "type") [Value.bool _]) _ _ _); refine call_type_of (Tx := "bool") rfl (by decide +kernel) ?_))
local macro_rules | `(tactic| walk_at "binaryOp BitOr int int") => `(tactic| (k_here; (with_reducible show wpAny _ _ (binaryOp Operator.BitOr (Value.int (_ * 2 ^ Int.toNat 8) _) (Value.int _ _)) _ _ _); refine' orK ?k1 ?k2 ?k3 ?_; (case k1 => omega); (case k2 => omega); (case k3 => omega)))
local macro_rules | `(tactic| walk_at "binaryOp BitAnd int int") => `(tactic| (k_here; first | (with_reducible refine and65535 ?_) | (with_reducible refine and63 ?_) | (with_reducible refine and15 ?_) | (with_reducible refine and3 ?_)))
local macro_rules | `(tactic| walk_at "binaryOp RShift int int") => `(tactic| (k_here; refine' shrK ?k1 ?_; (case k1 => decide)))
local macro_rules | `(tactic| walk_at "subscriptTail") => `(tactic| (k_here; (with_reducible show wpAny _ _ (subscriptTail _ _ (Value.bytes _ _) (Value.int _ _)) _ _ _); (with_reducible refine' item64 ?k1 ?k2 ?_ ?k3 ?k4); (case k3 => with_unfolding_all rfl); (case k4 => intro _; with_unfolding_all rfl); (case k1 => omega); (case k2 => omega); intro t9 k9 fl9 fh9; (try dsimp only)))
local macro_rules | `(tactic| walk_at "call builtin:list.append") => `(tactic| (k_here; (with_reducible show wpAny _ _ (call (Value.builtin "list.append") [Value.ref _, Value.int _ _]) _ _ _); refine' app_head ?kF ?kN ?ko ?kz ?_; (case kF => k_asm); (case kN => k_asm); (case ko => first | assumption | exact own_nil); (case kz => ((try simp only [List.length_append, List.length_cons, List.length_nil]); omega)); intro h' F' N'; (try k_sweep); (try dsimp only)))
local macro_rules | `(tactic| walk_at "binaryOp LShift int int") => `(tactic| (k_here; first | (with_reducible refine' shl4 ?k1 ?k2 ?_; (case k1 => omega); (case k2 => omega)) | (with_reducible refine' shl2 ?k1 ?k2 ?_; (case k1 => omega); (case k2 => omega))))
local macro_rules | `(tactic| walk_at "getMethod bytes") => `(tactic| (k_here; (with_reducible show wpAny _ _ (getMethod (Value.bytes _ _) (PySem.Str.ofString "translate") _) _ _ _); refine BM.method_tr ?_; (try dsimp only)))
local macro_rules | `(tactic| walk_at "getMethod") => `(tactic| (k_here; (with_reducible show wpAny _ _ (getMethod (Value.type "bytes") (PySem.Str.ofString "maketrans") _) _ _ _); k_dflt (refine' BM.getm_mk ?k1 ?k2 ?k3 ?_; (case k1 => k_asm); (case k2 => k_asm); (case k3 => k_is); k_whole); (try dsimp only)))
local macro_rules | `(tactic| walk_at "call builtin:bytes.maketrans") => `(tactic| (k_here; (with_unfolding_all refine BM.call_mk ?_); intro t9 k9; (try dsimp only)))
local macro_rules | `(tactic| walk_at "call builtin:bytes.translate") => `(tactic| (k_here; (with_unfolding_all refine' BM.call_tr ?k1 ?k2 ?_); (case k1 => (rw [byteArr_size]; assumption)); (case k2 => exact BM.tab2_size _ _); intro t9 k9; (try dsimp only)))
section
/-- the loop's state: leftchar, its token, leftbits, its token, out's values, out's ints, its epoch -/
structure BSt where
  lc : Int
  t1 : Tok
  lb : Int
  t2 : Tok
  vs : List Value
  ns : List Int
  ep : Nat
section
variable {prog : Program} {w : World} {A : Around} {E : Value → Shared → Prop} {s : Shared} {env : Env} {h₀ : Heap} {body : List Stmt} {Q : Flow → Shared → Prop}
theorem b2a_loop {b : Array UInt8} {tb t1 t2 : Tok} {l : Addr} {n0 : Nat} {m₀ : Str → Option Value} (P : List Int → Int → Int → List Int → Prop)
    (F : Fr h₀ env.locals s.heap m₀) (N : News h₀ env.locals s.heap [(l, listOf #[] n0)]) (h1 : m₀ (Str.ofString "leftchar") = some (.int 0 t1)) (h2 : m₀ (Str.ofString "leftbits") = some (.int 0 t2)) (hh : A.handled = none) (hP : P [] 0 0 [])
    (turn : ∀ (lc lb : Int) (u1 u2 : Tok) (vs : List Value) (ns : List Int) (ep : Nat) (pre post : List Int) (n : Int) t (u : PySem.Str → Option Value) h tk own, KBw.bInts b = pre ++ n :: post → 0 ≤ n → n < 256 → OwnOff own [l] → IntsAre vs ns → P pre lc lb ns →
      Fr h₀ env.locals h (fun y => if y = Str.ofString "b" then some (.int n t) else if y = Str.ofString "leftchar" then some (.int lc u1) else if y = Str.ofString "leftbits" then some (.int lb u2) else m₀ y) → News h₀ env.locals h ((l, listOf vs.toArray ep) :: own) →
      wpAny (model prog w) A (execs body env) (InvPostN h₀ env.locals (KstS (fun c : BSt => [(l, listOf c.vs.toArray c.ep)]) (fun c => [(Str.ofString "leftchar", .int c.lc c.t1), (Str.ofString "leftbits", .int c.lb c.t2)]) (fun c => IntsAre c.vs c.ns) (Str.ofString "b") [] m₀ (fun pre c => P pre c.lc c.lb c.ns) (pre ++ [n])) own [l] { s with heap := h, toks := tk } Q) E { s with heap := h, toks := tk })
    (done : ∀ (lc lb : Int) (u1 u2 : Tok) (vs : List Value) (ns : List Int) (ep : Nat) (u : PySem.Str → Option Value) h tk, IntsAre vs ns → P (KBw.bInts b) lc lb ns →
      Fr h₀ env.locals h (fun y => if y = Str.ofString "b" then u y else if y = Str.ofString "leftchar" then some (.int lc u1) else if y = Str.ofString "leftbits" then some (.int lb u2) else m₀ y) → News h₀ env.locals h [(l, listOf vs.toArray ep)] → Q .next { s with heap := h, toks := tk }) :
    wpAny (model prog w) A (pyIter (.bytes b tb)) (fun it s₂ => LoopAtV prog w A h₀ env (Str.ofString "b") body Q E it s₂) E s := by
  refine KStb.kst_bytes (σ := BSt) (ks := KBw.bInts b) (len := (KBw.bInts b).length) (m₀ := m₀) (fun c : BSt => [(l, listOf c.vs.toArray c.ep)]) (fun c => [(Str.ofString "leftchar", .int c.lc c.t1), (Str.ofString "leftbits", .int c.lb c.t2)]) (fun c => IntsAre c.vs c.ns) [] (fun pre c => P pre c.lc c.lb c.ns)
    ⟨0, t1, 0, t2, [], [], n0⟩ rfl rfl hh F N .nil ?_ hP ?_ ?_
  · exact List.forall_mem_cons.mpr ⟨h1, List.forall_mem_cons.mpr ⟨h2, List.forall_mem_nil _⟩⟩
  · rintro ⟨lc, u1, lb, u2, vs, ns, ep⟩ pre post n t u h tk own e _ hn0 hn1 hoff hf hp F₁ N₁
    refine turn lc lb u1 u2 vs ns ep pre post n t u h tk own e hn0 hn1 hoff hf hp ?_ N₁
    have : (fun y => if y = Str.ofString "b" then some (Value.int n t) else kstB (fun z => if ([] : List Str).contains z then u z else m₀ z) [(Str.ofString "leftchar", Value.int lc u1), (Str.ofString "leftbits", Value.int lb u2)] y) = (fun y => if y = Str.ofString "b" then some (.int n t) else if y = Str.ofString "leftchar" then some (.int lc u1) else if y = Str.ofString "leftbits" then some (.int lb u2) else m₀ y) := by
      funext y
      simp [kstB]
    rw [← this]
    exact F₁
  · rintro ⟨lc, u1, lb, u2, vs, ns, ep⟩ u h tk _ hf hp F₁ N₁
    refine done lc lb u1 u2 vs ns ep u h tk hf hp ?_ N₁
    have : (fun y => if y = Str.ofString "b" then u y else kstB (fun z => if ([] : List Str).contains z then u z else m₀ z) [(Str.ofString "leftchar", Value.int lc u1), (Str.ofString "leftbits", Value.int lb u2)] y) = (fun y => if y = Str.ofString "b" then u y else if y = Str.ofString "leftchar" then some (.int lc u1) else if y = Str.ofString "leftbits" then some (.int lb u2) else m₀ y) := by
      funext y
      simp [kstB]
    rw [← this]
    exact F₁
end
section
variable {h₀ : Heap} {L : Addr}
theorem b2a_end {l : Addr} {P : List Int → Int → Int → List Int → Prop} {m₀ m' : Str → Option Value} {pre : List Int} {vs : List Value} {ns : List Int} {ep : Nat} {own : List (Addr × Obj)} {lc lb : Int} {t1 t2 : Tok} {s₁ : Shared} {h' : Heap} {tk : Nat}
    (F : Fr h₀ L h' m') (N : News h₀ L h' ((l, listOf vs.toArray ep) :: own)) (hi : IntsAre vs ns) (h1 : m' (Str.ofString "leftchar") = some (.int lc t1)) (h2 : m' (Str.ofString "leftbits") = some (.int lb t2))
    (hr : ∀ z, z ≠ Str.ofString "b" → z ≠ Str.ofString "leftchar" → z ≠ Str.ofString "leftbits" → m' z = m₀ z) (hp : P pre lc lb ns) :
    InvEndN h₀ L (KstS (fun c : BSt => [(l, listOf c.vs.toArray c.ep)]) (fun c => [(Str.ofString "leftchar", .int c.lc c.t1), (Str.ofString "leftbits", .int c.lb c.t2)]) (fun c => IntsAre c.vs c.ns) (Str.ofString "b") [] m₀ (fun pre c => P pre c.lc c.lb c.ns) pre) own [l] s₁ { s₁ with heap := h', toks := tk } := by
  refine kst_end (⟨lc, t1, lb, t2, vs, ns, ep⟩ : BSt) F N (fun p hp => ?_) (fun p hp => .tail _ hp) rfl hi ?_ ?_ hp
  · rw [List.mem_singleton.mp hp]; exact .head _
  · exact List.forall_mem_cons.mpr ⟨h1, List.forall_mem_cons.mpr ⟨h2, List.forall_mem_nil _⟩⟩
  · intro z hz hps _
    exact hr z hz (hps _ (.head _)) (hps _ (.tail _ (.head _)))
end
set_option maxHeartbeats 8000000 in
set_option pp.maxSteps 8000 in
theorem b2a_ctr (w : World) (bs : Array UInt8) (tb : Tok) (hsz : bs.size ≤ 100000) :
    Ctr3 w 73 [.bytes bs tb] [(Str.ofString "newline", .bool false)] (fun _ => True) (fun r _ _ => ∃ t, r = .bytes (byteArr (b2aL (KBw.bInts bs))) t) := by
  unfold Ctr3
  k_fill
  intro p loose mean mg mb e1 e2 e3 A₀ base h₀ L m s Q E B F X T hfr hk hpre hret
  clear hpre
  (k_dflt (refine' code_keep (binds := [(Str.ofString "data", .bytes bs tb), (Str.ofString "newline", .bool false)]) ?k1 ?k2 ?k3 ?k5 ?kA ?kF ?kK ?k6 ?k7 ?k8 ?k9 ?kB ?_ ?c2 ?c3 ?c4 ?c5; (case kA => exact rfl); (case kF => assumption); (case kK => assumption); (case k1 => k_asm); (case k2 => k_asm); (case k3 => k_asm); (case k5 => k_asm); (case k6 => k_is); (case k7 => k_is); (case k8 => k_room); (case k9 => exact BindsTo.of_eq rfl); (case c5 => decide); (case kB => exact locs rfl); (case c2 => exact rfl); (case c3 => exact rfl); (case c4 => exact rfl); k_whole))
  intro g' L' h' hg' F' N' B' X' T'
  (try dsimp only)
  (try k_fold)
  k_steps
  (rename Fr _ _ _ _ => F9)
  (rename News _ _ _ _ => N9)
  refine b2a_loop BInv F9 N9 (by with_unfolding_all rfl) (by with_unfolding_all rfl) rfl BInv.nil ?_ ?_
  · clear F9 N9
    intro lc lb u1 u2 vs ns ep pre post n t u h tk own hpre hn0 hn1 hoff hi hP F9 N9
    have hlc0 := hP.lo
    have hlc1 := hP.hi
    have hlen := hP.len
    have hlb := hP.lb
    have hvl : vs.length = ns.length := IntsAre.length hi
    have hpl : pre.length ≤ 100000 := by
      have h9 := congrArg List.length hpre
      rw [KBw.ints_length, List.length_append] at h9
      omega
    clear hpre hret post u
    dsimp only
    (try k_fold)
    rcases hlb with rfl | rfl | rfl
    · k_steps
      (rename Fr _ _ _ _ => F8)
      (rename News _ _ _ _ => N8)
      exact b2a_end F8 N8 (ints_snoc hi) (by with_unfolding_all rfl) (by with_unfolding_all rfl) (by intro z h1 h2 h3; simp only [if_neg h1, if_neg h2, if_neg h3]) hP.step0
    · k_steps
      (rename Fr _ _ _ _ => F8)
      (rename News _ _ _ _ => N8)
      exact b2a_end F8 N8 (ints_snoc hi) (by with_unfolding_all rfl) (by with_unfolding_all rfl) (by intro z h1 h2 h3; simp only [if_neg h1, if_neg h2, if_neg h3]) hP.step2
    · k_steps
      (rename Fr _ _ _ _ => F8)
      (rename News _ _ _ _ => N8)
      exact b2a_end F8 N8 (ints_snoc (ints_snoc hi)) (by with_unfolding_all rfl) (by with_unfolding_all rfl) (by intro z h1 h2 h3; simp only [if_neg h1, if_neg h2, if_neg h3]) hP.step4
  · clear F9 N9
    intro lc lb u1 u2 vs ns ep u h tk hi hP F9 N9
    have hlc0 := hP.lo
    have hlc1 := hP.hi
    have hlen := hP.len
    have hlb := hP.lb
    have hvl : vs.length = ns.length := IntsAre.length hi
    have hbl : (KBw.bInts bs).length ≤ 100000 := by rw [KBw.ints_length]; exact hsz
    dsimp only
    (try k_fold)
    rcases hlb with rfl | rfl | rfl
    · k_steps
      (rename Fr _ _ _ _ => F8)
      (rename News _ _ _ _ => N8)
      refine KBa.make_K F8 N8 rfl (News.isList N8 (.head _)) hi hP.oct (by omega) ?_
      intro h7 t7 k7 F7 N7 _
      exact hret _ _ _ (fun b o e => F7.keep b o (by rw [hg']; exact e)) ⟨t7, by rw [hP.fin0]⟩
    · k_steps
      (rename Fr _ _ _ _ => F8)
      (rename News _ _ _ _ => N8)
      refine KBa.make_K F8 N8 rfl (News.isList N8 (.head _)) (ints_snoc (ints_snoc (ints_snoc hi))) (oct_61 (oct_61 (oct_snoc hP.oct))) (by simp only [List.length_append, List.length_cons, List.length_nil]; omega) ?_
      intro h7 t7 k7 F7 N7 _
      exact hret _ _ _ (fun b o e => F7.keep b o (by rw [hg']; exact e)) ⟨t7, by rw [hP.fin2]⟩
    · k_steps
      (rename Fr _ _ _ _ => F8)
      (rename News _ _ _ _ => N8)
      refine KBa.make_K F8 N8 rfl (News.isList N8 (.head _)) (ints_snoc (ints_snoc hi)) (oct_61 (oct_snoc hP.oct)) (by simp only [List.length_append, List.length_cons, List.length_nil]; omega) ?_
      intro h7 t7 k7 F7 N7 _
      exact hret _ _ _ (fun b o e => F7.keep b o (by rw [hg']; exact e)) ⟨t7, by rw [hP.fin4]⟩
end
section
local macro_rules | `(tactic| walk_at "call ref") => `(tactic| (k_here; (with_reducible show wpAny _ _ (call (Value.ref 73) [Value.bytes _ _] _) _ _ _); k_dflt (refine' (b2a_ctr _ _ _ ?hs).use ?k1 ?k2 ?k3 ?k4 ?k5 ?k6 ?k7 ?k8 ?_; (case hs => assumption); (case k1 => k_asm); (case k2 => k_asm); (case k3 => k_asm); (case k4 => k_asm); (case k5 => k_asm); (case k6 => exact rfl); (case k7 => exact rfl); (case k8 => exact True.intro); k_whole); intro r9 h9 tk9 st9 hP9 F' N'; (try k_sweep); (obtain ⟨t9, e9⟩ := hP9); (subst e9); (try dsimp only)))
set_option maxHeartbeats 8000000 in
set_option pp.maxSteps 8000 in
theorem b64_ctr (w : World) (bs : Array UInt8) (c d : UInt8) (tb ta : Tok) (hsz : bs.size ≤ 100000) :
    Ctr w 81 [.bytes bs tb, .bytes #[c, d] ta] [] (fun _ => True) (fun r _ _ => ∃ t, r = .bytes ((byteArr (b2aL (KBw.bInts bs))).map fun x => (BM.tab2 c d).getD x.toNat x) t) := by
  unfold Ctr
  k_fill
  intro p loose mean mg mb e1 e2 A₀ base h₀ L m s Q E B F X T hfr hk hpre hret
  clear hpre
  have hbl : (b2aL (KBw.bInts bs)).length ≤ 16777216 := by
    have h1 := b2aL_len (KBw.bInts bs)
    rw [KBw.ints_length] at h1
    omega
  (k_dflt (refine' code_keep (binds := [(Str.ofString "s", .bytes bs tb), (Str.ofString "altchars", .bytes #[c, d] ta)]) ?k1 ?k2 ?k3 ?k5 ?kA ?kF ?kK ?k6 ?k7 ?k8 ?k9 ?kB ?_ ?c2 ?c3 ?c4 ?c5; (case kA => exact rfl); (case kF => assumption); (case kK => assumption); (case k1 => k_asm); (case k2 => k_asm); (case k3 => k_asm); (case k5 => k_asm); (case k6 => k_is); (case k7 => k_is); (case k8 => k_room); (case k9 => (refine' BindsTo.of_defaults ?d1 ?d2 ?d3 ?d4 ?d5; (case d1 => exact rfl); (case d2 => exact (Frag.In.keeps X F.keep) _ _ (by k_is)); (case d3 => exact rfl); (case d4 => exact rfl); (case d5 => exact rfl))); (case c5 => decide); (case kB => exact locs rfl); (case c2 => exact rfl); (case c3 => exact rfl); (case c4 => exact rfl); k_whole))
  intro g' L' h' hg' F' N' B' X' T'
  (try dsimp only)
  (try k_fold)
  k_steps
  · (rename Fr _ _ _ _ => F8)
    exact hret _ _ _ (fun b o e => F8.keep b o (by rw [hg']; exact e)) ⟨_, rfl⟩
  · (rename (((_ : Nat) : Int) ≠ 2) => hne9)
    exact absurd rfl hne9
end
section
section
local macro_rules | `(tactic| walk_at "execs cons") => `(tactic| (k_here; (with_reducible show wpAny _ _ (execs (_ :: _) _) _ _ (Shared.mk _ _ _ (_ + _) _)); refine' SM.gen_pos ?kp ?_; (case kp => omega); intro tk htk))
local macro_rules | `(tactic| walk_at "call builtin:str.replace") => `(tactic| (k_here; (with_reducible show wpAny _ _ (call (Value.builtin "str.replace") [Value.str _ _, Value.str (Str.ofString "\\") _, Value.str _ _]) _ _ _); k_dflt (refine' SM.repl_esc (c := 92) ?a1 ?a2 ?a3 ?a5 ?a6 ?a7 ?_; (case a1 => decide +kernel); (case a2 => decide +kernel); (case a6 => decide +kernel); (case a3 => omega); (case a5 => omega); (case a7 => omega)); intro t9 k9 x9 hx9 hl9 hk9; (try dsimp only at hk9); (try dsimp only)))
local macro_rules | `(tactic| walk_at "call builtin:str.replace") => `(tactic| (k_here; (with_reducible show wpAny _ _ (call (Value.builtin "str.replace") [Value.str _ _, Value.str (Str.ofString "\"") _, Value.str _ _]) _ _ _); k_dflt (refine' SM.repl_esc (c := 34) ?a1 ?a2 ?a3 ?a5 ?a6 ?a7 ?_; (case a1 => decide +kernel); (case a2 => decide +kernel); (case a6 => decide +kernel); (case a3 => omega); (case a5 => omega); (case a7 => omega)); intro t9 k9 x9 hx9 hl9 hk9; (try dsimp only at hk9); (try dsimp only)))
local macro_rules | `(tactic| walk_at "getMethod ref") => `(tactic| (k_here; (with_reducible show wpAny _ _ (getMethod (Value.ref 43) _ _) _ _ _); k_dflt (refine' RX.method_se ?k1 ?k2 ?k3 ?_; (case k1 => k_asm); (case k2 => k_asm); (case k3 => with_unfolding_all k_is); k_whole); (try dsimp only)))
local macro_rules | `(tactic| walk_at "call builtin:re.Pattern.search") => `(tactic| (k_here; k_dflt (refine' RX.call_se ?k1 ?k2 ?k3 ?k4 ?k5 ?k6 ?k7 ?_ ?_; (case k1 => k_asm); (case k2 => k_asm); (case k3 => k_asm); (case k4 => with_unfolding_all k_is); (case k5 => with_unfolding_all k_is); (case k6 => omega); (case k7 => omega)); (first | (intro hS9; (try dsimp only)) | (intro hS9 q9 h9 o9 F' N' ho9 hc9; (try dsimp only)))))
local macro_rules | `(tactic| walk_at "truthy ref") => `(tactic| (k_here; (refine' RX.truthy_m ?k1 ?k2 ?_; (case k1 => assumption); (case k2 => assumption)); (try dsimp only)))
set_option maxHeartbeats 8000000 in
theorem fmt_ctr (w : World) (name v : Str) (q : Int) (t1 t2 t3 : Tok) (pos : List Value) (hn : name.length ≤ 1000) (hv : v.length ≤ 100000) (hpos : pos = [.str name t1, .str v t2, .int q t3] ∨ (pos = [.str name t1, .str v t2] ∧ q = 1 ∧ t3 = 325)) :
    Ctr w 51 pos [] (fun _ => True) (fun r _ _ => ∃ t, r = .str (fmtP name v q) t) := by
  unfold Ctr
  k_fill
  intro p loose mean mg mb e1 e2 A₀ base h₀ L m s Q E B F X T hfr hk hpre hret
  clear hpre
  (k_dflt (refine' code_keep (binds := [(Str.ofString "param", .str name t1), (Str.ofString "value", .str v t2), (Str.ofString "quote", .int q t3)]) ?k1 ?k2 ?k3 ?k5 ?kA ?kF ?kK ?k6 ?k7 ?k8 ?k9 ?kB ?_ ?c2 ?c3 ?c4 ?c5; (case kA => exact rfl); (case kF => assumption); (case kK => assumption); (case k1 => k_asm); (case k2 => k_asm); (case k3 => k_asm); (case k5 => k_asm); (case k6 => k_is); (case k7 => k_is); (case k8 => k_room); (case k9 => (rcases hpos with rfl | ⟨rfl, rfl, rfl⟩ <;> (refine' BindsTo.of_defaults ?d1 ?d2 ?d3 ?d4 ?d5; (case d1 => exact rfl); (case d2 => exact (Frag.In.keeps X F.keep) _ _ (by k_is)); (case d3 => exact rfl); (case d4 => exact rfl); (case d5 => exact rfl)))); (case c5 => decide); (case kB => exact locs rfl); (case c2 => exact rfl); (case c3 => exact rfl); (case c4 => exact rfl); k_whole))
  intro g' L' h' hg' F' N' B' X' T'
  clear hpos
  (try dsimp only)
  (try k_fold)
  k_steps
  · (rename Fr _ _ _ _ => F8)
    exact hret _ _ _ (fun b o e => F8.keep b o (by rw [hg']; exact e)) (fmt_q (by assumption) (.inl (by assumption)) (by assumption) (by assumption) _)
  · (rename Fr _ _ _ _ => F8)
    exact hret _ _ _ (fun b o e => F8.keep b o (by rw [hg']; exact e)) (fmt_b (by assumption) (by assumption) (by assumption) _)
  · (rename Fr _ _ _ _ => F8)
    exact hret _ _ _ (fun b o e => F8.keep b o (by rw [hg']; exact e)) (fmt_q (by assumption) (.inr (by assumption)) (by assumption) (by assumption) _)
  · (rename Fr _ _ _ _ => F8)
    exact hret _ _ _ (fun b o e => F8.keep b o (by rw [hg']; exact e)) (fmt_e (by assumption) _)
end
end
section
section
variable {prog : Program} {w : World} {A : Around} {E : Value → Shared → Prop} {s : Shared} {env : Env} {h₀ : Heap} {body : List Stmt} {Q : Flow → Shared → Prop}
def SigJ (PP : Nat → Str → Prop) (m₀ : Str → Option Value) (news : List (Addr × Obj)) (i : Nat) (m' : Str → Option Value) (nx : List (Addr × Obj)) : Prop :=
  nx = news ∧ ∃ x t, m' (Str.ofString "signs") = some (.str x t) ∧ PP i x ∧ ∀ z, z ≠ Str.ofString "k" → z ≠ Str.ofString "signs" → z ≠ Str.ofString "number" → m' z = m₀ z
theorem fits_long {x : Int} (h0 : -1000000000 ≤ x) (h1 : x ≤ 1000000000) : Builtin.Range.rangeFitsLong x = true := by
  unfold Builtin.Range.rangeFitsLong
  rw [decide_eq_true (by omega), decide_eq_true (by omega)]
  rfl
theorem sig_loop {r : Addr} {b : Int} {t₁ t₂ t₃ tx : Tok} {n : Nat} {x₀ : Str} {m₀ : Str → Option Value} {news : List (Addr × Obj)} (PP : Nat → Str → Prop) (hb : b = 3 * (n : Int)) (hn : n ≤ 100000)
    (hr : IsRange s.heap r 0 b 3 t₁ t₂ t₃) (F : Fr h₀ env.locals s.heap m₀) (N : News h₀ env.locals s.heap news) (hh : A.handled = none) (h1 : m₀ (Str.ofString "signs") = some (.str x₀ tx)) (hP : PP 0 x₀)
    (turn : ∀ (i : Nat) (x : Str) (t t' : Tok) (u : Str → Option Value) h tk own, i < n → OwnOff own (news.map (·.1)) → PP i x →
      Fr h₀ env.locals h (fun y => if y = Str.ofString "k" then some (.int (3 * (i : Int)) t) else if y = Str.ofString "signs" then some (.str x t') else if y = Str.ofString "number" then u y else m₀ y) → News h₀ env.locals h (news ++ own) →
      wpAny (model prog w) A (execs body env) (InvPostN h₀ env.locals (SigJ PP m₀ news (i + 1)) own (news.map (·.1)) { s with heap := h, toks := tk } Q) E { s with heap := h, toks := tk })
    (done : ∀ (x : Str) (t : Tok) (u : Str → Option Value) h tk, PP n x →
      Fr h₀ env.locals h (fun y => if y = Str.ofString "k" then u y else if y = Str.ofString "signs" then some (.str x t) else if y = Str.ofString "number" then u y else m₀ y) → News h₀ env.locals h news → Q .next { s with heap := h, toks := tk }) :
    wpAny (model prog w) A (pyIter (.ref r)) (fun it s₂ => LoopAtV prog w A h₀ env (Str.ofString "k") body Q E it s₂) E s := by
  subst hb
  have hsz : Builtin.Range.rangeSize 0 (3 * (n : Int)) 3 = (n : Int) := by
    unfold Builtin.Range.rangeSize
    rw [if_pos (by decide)]
    split <;> omega
  have hsm : Builtin.Range.small 0 (3 * (n : Int)) 3 = true := by
    have f0 := fits_long (x := 0) (by decide) (by decide)
    have f1 := fits_long (x := 3 * (n : Int)) (by omega) (by omega)
    have f2 := fits_long (x := 3) (by decide) (by decide)
    have f3 := fits_long (x := (n : Int)) (by omega) (by omega)
    have f4 := fits_long (x := 3 * (n : Int) + (3 - 1)) (by omega) (by omega)
    unfold Builtin.Range.small
    rw [hsz, f0, f1, f2, f3, if_pos (by decide), f4, Bool.or_true]
    rfl
  refine wpAny_pyIter_range hr hsm ?_
  have W := (Walks.range (prog := prog) (w := w) hh s.heap.objs.size 0 3 n)
  refine loop_invN (fun i m nx => SigJ PP m₀ news i m nx) W ?_ ?_ ?_ ?_ (by show IsRangeIter _ _ _ _ _; rw [hsz]; simpa using Heap.get?_push_size _ rfl) (F.push _) (fun p hp => ⟨Heap.get?_push_of_some _ (N p hp).1, (N p hp).2⟩) ⟨rfl, x₀, tx, h1, hP, fun _ _ _ _ => rfl⟩ ?_ ?_
  · intro hm
    exact absurd F.ns.lt ((List.mem_singleton.mp hm) ▸ Nat.lt_irrefl _)
  · intro b' hb
    rw [List.mem_singleton.mp hb]
    exact next_is_new F
  · intro p hp hI
    exact absurd (Heap.lt_size (N p hp).1) ((List.mem_singleton.mp hI) ▸ Nat.lt_irrefl _)
  · intro p hp hI
    exact absurd (Heap.lt_size (N p hp).1) ((List.mem_singleton.mp hI) ▸ Nat.lt_irrefl _)
  · rintro i v m₁ nx h tk own hi ⟨t, rfl⟩ _ hoff ⟨rfl, x, t', hx, hp, hz⟩ F₁ N₁
    refine turn i x t t' m₁ h tk own hi hoff hp ?_ N₁
    have e : (fun y => if y = Str.ofString "k" then some (Value.int (3 * (i : Int)) t) else if y = Str.ofString "signs" then some (.str x t') else if y = Str.ofString "number" then m₁ y else m₀ y) = fun y => if y = Str.ofString "k" then some (Value.int (0 + (i : Int) * 3) t) else m₁ y := by
      funext y
      by_cases h1 : y = Str.ofString "k"
      · rw [if_pos h1, if_pos h1, Int.zero_add, Int.mul_comm]
      · rw [if_neg h1, if_neg h1]
        by_cases h2 : y = Str.ofString "signs"
        · rw [if_pos h2, h2, hx]
        · rw [if_neg h2]
          by_cases h3 : y = Str.ofString "number"
          · rw [if_pos h3]
          · rw [if_neg h3, hz y h1 h2 h3]
    rw [e]
    exact F₁
  · rintro m₁ nx h tk ⟨rfl, x, t', hx, hp, hz⟩ F₁ N₁
    refine done x t' m₁ h tk hp ?_ N₁
    have e : (fun y => if y = Str.ofString "k" then m₁ y else if y = Str.ofString "signs" then some (.str x t') else if y = Str.ofString "number" then m₁ y else m₀ y) = m₁ := by
      funext y
      by_cases h1 : y = Str.ofString "k"
      · rw [if_pos h1]
      · rw [if_neg h1]
        by_cases h2 : y = Str.ofString "signs"
        · rw [if_pos h2, h2, hx]
        · rw [if_neg h2]
          by_cases h3 : y = Str.ofString "number"
          · rw [if_pos h3]
          · rw [if_neg h3, hz y h1 h2 h3]
    rw [e]
    exact F₁
theorem sig_end {L : Addr} {PP : Nat → Str → Prop} {m₀ m' : Str → Option Value} {news own news' : List (Addr × Obj)} {i : Nat} {x : Str} {t : Tok} {s₁ : Shared} {h' : Heap} {tk : Nat} (F : Fr h₀ L h' m') (N : News h₀ L h' news') (hn : ∀ p ∈ news, p ∈ news') (ho : ∀ p ∈ own, p ∈ news')
    (hx : m' (Str.ofString "signs") = some (.str x t)) (hz : ∀ z, z ≠ Str.ofString "k" → z ≠ Str.ofString "signs" → z ≠ Str.ofString "number" → m' z = m₀ z) (hp : PP i x) :
    InvEndN h₀ L (SigJ PP m₀ news i) own (news.map (·.1)) s₁ { s₁ with heap := h', toks := tk } :=
  InvEndN.intro F N ⟨rfl, x, t, hx, hp, hz⟩ rfl hn ho
end
section
local macro_rules | `(tactic| walk_at "binaryOp Add str str") => `(tactic| (k_here; refine' SM.add_txt ?kz ?_; (case kz => omega); intro t9 k9 z9 hz9 hl9; (try dsimp only)))
local macro_rules | `(tactic| walk_at "binaryOp FloorDiv int int") => `(tactic| (k_here; refine' fdivP ?k1 ?k2 ?_; (case k1 => decide); (case k2 => decide); (try dsimp only)))
local macro_rules | `(tactic| walk_at "binaryOp Mod int int") => `(tactic| (k_here; refine' fmodP ?k1 ?_; (case k1 => decide); (try dsimp only)))
local macro_rules | `(tactic| walk_at "subscriptTail") => `(tactic| (k_here; (with_reducible show wpAny _ _ (subscriptTail _ _ (Value.str _ _) (Value.int _ _)) _ _ _); refine' SM.item_txt ?k1 ?k2 ?k3 ?_ ?k4 ?k5; (case k4 => with_unfolding_all rfl); (case k5 => intro _; with_unfolding_all rfl); (case k1 => omega); (case k2 => omega); (case k3 => omega); intro t9 k9 z9 hz9 hl9; (try dsimp only)))
local macro_rules | `(tactic| walk_at "subscriptTail Name BinOp str int") => `(tactic| (k_here; (with_reducible show wpAny _ _ (subscriptTail _ _ (Value.str _ _) (Value.int _ _)) _ _ _); refine' SM.item_txt ?k1 ?k2 ?k3 ?_ ?k4 ?k5; (case k4 => with_unfolding_all rfl); (case k5 => intro _; with_unfolding_all rfl); (case k1 => omega); (case k2 => omega); (case k3 => omega); intro t9 k9 z9 hz9 hl9; (try dsimp only)))
local macro_rules | `(tactic| walk_at "subscriptTail") => `(tactic| (k_here; (with_reducible show wpAny _ _ (subscriptTail _ _ (Value.ref _) (Value.int _ _)) _ _ _); k_dflt (refine' item_at ?k1 ?k2 ?k3 ?k4 ?k5 ?_ ?k6; (case k1 => k_asm); (case k2 => exact List.Mem.head _); (case k3 => assumption); (case k4 => assumption); (case k5 => omega); (case k6 => with_unfolding_all rfl)); intro t9; (try dsimp only)))
local macro_rules | `(tactic| walk_at "subscriptTail Name Name ref int") => `(tactic| (k_here; (with_reducible show wpAny _ _ (subscriptTail _ _ (Value.ref _) (Value.int _ _)) _ _ _); k_dflt (refine' item_at ?k1 ?k2 ?k3 ?k4 ?k5 ?_ ?k6; (case k1 => k_asm); (case k2 => exact List.Mem.head _); (case k3 => assumption); (case k4 => assumption); (case k5 => omega); (case k6 => with_unfolding_all rfl)); intro t9; (try dsimp only)))
local macro_rules | `(tactic| walk_at "subscriptTail Name BinOp ref int") => `(tactic| (k_here; (with_reducible show wpAny _ _ (subscriptTail _ _ (Value.ref _) (Value.int _ _)) _ _ _); k_dflt (refine' item_at ?k1 ?k2 ?k3 ?k4 ?k5 ?_ ?k6; (case k1 => k_asm); (case k2 => exact List.Mem.head _); (case k3 => assumption); (case k4 => assumption); (case k5 => omega); (case k6 => with_unfolding_all rfl)); intro t9; (try dsimp only)))
local macro_rules | `(tactic| walk_at "call builtin:len") => `(tactic| (k_here; (with_reducible show wpAny _ _ (call (Value.builtin "len") [Value.ref _]) _ _ _); k_dflt (refine' kst_len ?k1 ?k2 ?k3 ?k4 ?_; (case k1 => k_asm); (case k2 => exact List.Mem.head _); (case k3 => exact IntsAre.length (by assumption)); (case k4 => omega); k_whole); (try dsimp only)))
local macro_rules | `(tactic| walk_at "call builtin:len") => `(tactic| (k_here; (with_reducible show wpAny _ _ (call (Value.builtin "len") [Value.str _ _]) _ _ _); refine' P.len_str ?k1 ?_; (case k1 => omega); (try dsimp only)))
local macro_rules | `(tactic| walk_at "binaryOp Mult str int") => `(tactic| (k_here; k_dflt (refine' SM.mul_txt (c := 61) ?k0 ?k1 ?k2 ?_; (case k0 => decide +kernel); (case k1 => omega); (case k2 => omega)); intro t9 k9 z9 hz9 hl9; (try dsimp only)))
local macro_rules | `(tactic| walk_at "subscriptTail") => `(tactic| (k_here; (with_reducible show wpAny _ _ (subscriptTail _ (Expr.Slice _ _ _ _) (Value.str _ _) (Value.ref _)) _ _ _); k_dflt (refine' SM.cut_txt ?k1 ?k2 ?k3 ?k4 ?k5 ?_ ?k6 ?k7; (case k1 => k_asm); (case k2 => k_asm); (case k6 => with_unfolding_all rfl); (case k7 => intro _; with_unfolding_all rfl); (case k3 => omega); (case k4 => omega); (case k5 => omega)); intro h9 t9 k9 z9 F' N' hz9 hl9; (try k_sweep); (try dsimp only)))
set_option maxHeartbeats 8000000 in
set_option pp.maxSteps 8000 in
theorem sig_ctr (w : World) (l : Addr) (vs : List Value) (ns : List Int) (pair : Str) (t2 : Tok) (hi : IntsAre vs ns) (hlen : ns.length ≤ 20000) (hoct : ∀ n ∈ ns, 0 ≤ n ∧ n < 256) (hp : pair.length ≤ 2) (hfig : ∀ f ∈ figs (padL ns), f < 62 + (pair.length : Int)) :
    Ctr3 w 95 [.ref l, .str pair t2] [] (fun h => h.IsList l vs.toArray) (fun r _ _ => ∃ t x, r = .str x t ∧ x.cps.toList = sigL pair.cps.toList ns) := by
  unfold Ctr3
  k_fill
  intro p loose mean mg mb e1 e2 e3 A₀ base h₀ L m s Q E B F X T hfr hk hpre hret
  (k_dflt (refine' code_keep (binds := [(Str.ofString "octets", .ref l), (Str.ofString "pair", .str pair t2)]) ?k1 ?k2 ?k3 ?k5 ?kA ?kF ?kK ?k6 ?k7 ?k8 ?k9 ?kB ?_ ?c2 ?c3 ?c4 ?c5; (case kA => exact rfl); (case kF => assumption); (case kK => assumption); (case k1 => k_asm); (case k2 => k_asm); (case k3 => k_asm); (case k5 => k_asm); (case k6 => k_is); (case k7 => k_is); (case k8 => k_room); (case k9 => exact BindsTo.of_eq rfl); (case c5 => decide); (case kB => exact locs rfl); (case c2 => exact rfl); (case c3 => exact rfl); (case c4 => exact rfl); k_whole))
  intro g' L' h' hg' F' N' B' X' T'
  rw [← hg'] at hpre
  have ha62 : (Str.ofString "ABCDEFGHIJKLMNOPQRSTUVWXYZabcdefghijklmnopqrstuvwxyz0123456789").length = 62 := by decide +kernel
  have ha62' : (Str.ofString "ABCDEFGHIJKLMNOPQRSTUVWXYZabcdefghijklmnopqrstuvwxyz0123456789").cps.toList = alpha62 := by decide +kernel
  have hfl := padL_len ns
  have hfm := padL_mod ns
  have hpn : padN ns.length ≤ 2 := by unfold padN; omega
  (try dsimp only)
  (try k_fold)
  k_steps
  (rename IntsAre _ (ns ++ _) => hI9)
  (rename IsRange _ _ _ _ _ _ _ _ => hR9)
  rw [pad_eq] at hI9
  rw [← List.length_append, pad_eq] at hR9
  (rename News _ _ _ _ => N9)
  (rename Fr _ _ _ _ => F9)
  have hoct' := padL_oct hoct
  (rename (_ : Str).cps.toList = _ ++ pair.cps.toList => hz0)
  rw [ha62'] at hz0
  refine sig_loop (n := (padL ns).length / 3) (SigInv (padL ns) pair.cps.toList) (by omega) (by omega) hR9 F9 (news_head N9) rfl (by with_unfolding_all rfl) (SigInv.zero _ _) ?_ ?_
  · clear N9 F9 hret hR9
    intro i x t t' u h tk own hin hoff hP F9 N9
    have hx4 := hP.len
    have hfi := figs_mem (fs := padL ns) (i := i) (by omega)
    have g0 : GetAt (padL ns) (3 * (i : Int)) ((padL ns).getD (3 * i) 0) := ⟨by omega, by omega, by congr 1⟩
    have g1 : GetAt (padL ns) (3 * (i : Int) + 1) ((padL ns).getD (3 * i + 1) 0) := ⟨by omega, by omega, by congr 1⟩
    have g2 : GetAt (padL ns) (3 * (i : Int) + 2) ((padL ns).getD (3 * i + 2) 0) := ⟨by omega, by omega, by congr 1⟩
    have b0 := hoct' _ (getD_mem (fs := padL ns) (i := 3 * i) (by omega))
    have b1 := hoct' _ (getD_mem (fs := padL ns) (i := 3 * i + 1) (by omega))
    have b2 := hoct' _ (getD_mem (fs := padL ns) (i := 3 * i + 2) (by omega))
    generalize ea : (padL ns).getD (3 * i) 0 = a at g0 b0 hfi
    generalize eb : (padL ns).getD (3 * i + 1) 0 = b at g1 b1 hfi
    generalize ec : (padL ns).getD (3 * i + 2) 0 = c at g2 b2 hfi
    have q0 := hfig _ (hfi _ (.head _))
    have q1 := hfig _ (hfi _ (.tail _ (.head _)))
    have q2 := hfig _ (hfi _ (.tail _ (.tail _ (.head _))))
    have q3 := hfig _ (hfi _ (.tail _ (.tail _ (.tail _ (.head _)))))
    obtain ⟨b00, b01⟩ := b0
    obtain ⟨b10, b11⟩ := b1
    obtain ⟨b20, b21⟩ := b2
    clear hfi
    have u0 : 0 ≤ (65536 * a + 256 * b + c) / 262144 ∧ (65536 * a + 256 * b + c) / 262144 < 62 + (pair.length : Int) := by
      have : (65536 * a + 256 * b + c) / 262144 = a / 4 := by omega
      omega
    have u1 : 0 ≤ (65536 * a + 256 * b + c) / 4096 % 64 ∧ (65536 * a + 256 * b + c) / 4096 % 64 < 62 + (pair.length : Int) := by
      have : (65536 * a + 256 * b + c) / 4096 % 64 = a % 4 * 16 + b / 16 := by omega
      omega
    have u2 : 0 ≤ (65536 * a + 256 * b + c) / 64 % 64 ∧ (65536 * a + 256 * b + c) / 64 % 64 < 62 + (pair.length : Int) := by
      have : (65536 * a + 256 * b + c) / 64 % 64 = b % 16 * 4 + c / 64 := by omega
      omega
    have u3 : 0 ≤ (65536 * a + 256 * b + c) % 64 ∧ (65536 * a + 256 * b + c) % 64 < 62 + (pair.length : Int) := by
      have : (65536 * a + 256 * b + c) % 64 = c % 64 := by omega
      omega
    clear q0 q1 q2 q3
    simp only [List.cons_append, List.nil_append] at N9
    dsimp only
    (try k_fold)
    k_steps
    (rename Fr _ _ _ _ => F8)
    (rename News _ _ _ _ => N8)
    exact sig_end F8 N8 (fun p hp => by rw [List.mem_singleton.mp hp]; exact .head _) (fun p hp => .tail _ hp) (by with_unfolding_all rfl) (by intro z h1 h2 h3; simp only [if_neg h1, if_neg h2, if_neg h3])
      (hP.step (by omega) ea eb ec b00 b01 b10 b11 b20 b21 hz0 (by assumption) (by assumption) (by assumption) (by assumption) (by assumption) (by assumption) (by assumption) (by assumption))
  · clear N9 F9
    intro x t u h tk hP F9 N9
    have hx4 := hP.len
    dsimp only
    (try k_fold)
    k_steps
    (rename Fr _ _ _ _ => F8)
    exact hret _ _ _ (fun b o e => F8.keep b o (by rw [hg']; exact e)) ⟨_, _, rfl, sig_fin hP (by assumption) (by assumption)⟩
end
end
section
def LevP (r : Value) (h h' : Heap) : Prop :=
  ∃ (q : Addr) (name pair : Str) (mk : Int) (c d : Nat) (u1 u2 u3 : Tok), r = .ref q ∧ h.get? q = none ∧ h'.get? q = some { cls := .type "tuple", data := .seq #[.str name u1, .int mk u2, .str pair u3] } ∧
    name.length ≤ 3 ∧ (∀ x ∈ name.cps.toList, x < 256) ∧ (mk = 0 ∨ mk = 1) ∧ pair.cps.toList = [c, d] ∧ c < 256 ∧ d < 256
def OneB (z : Str) : Prop := ∃ c, z.cps.toList = [c] ∧ c < 256
def TwoB (z : Str) : Prop := ∃ c d, z.cps.toList = [c, d] ∧ c < 256 ∧ d < 256
theorem menu_lt (i : Nat) : (Str.ofString " ()<>@,;:\\\"/[]?=+-_.~Aa9").cps.toList.getD i 0 < 256 := by
  have h : ∀ x ∈ (Str.ofString " ()<>@,;:\\\"/[]?=+-_.~Aa9").cps.toList, x < 256 := by decide +kernel
  rw [List.getD_eq_getElem?_getD]
  cases e : (Str.ofString " ()<>@,;:\\\"/[]?=+-_.~Aa9").cps.toList[i]? with
  | none => decide
  | some v => exact h v (List.mem_of_getElem? e)
theorem one_menu {z : Str} {i : Nat} (h : z.cps.toList = [(Str.ofString " ()<>@,;:\\\"/[]?=+-_.~Aa9").cps.toList.getD i 0]) : OneB z := ⟨_, h, menu_lt i⟩
theorem one_chr {y : Int} : OneB ⟨#[(y % 256).toNat]⟩ := ⟨_, rfl, by omega⟩
theorem two_of {a b z : Str} (h : z.cps.toList = a.cps.toList ++ b.cps.toList) (ha : OneB a) (hb : OneB b) : TwoB z := by
  obtain ⟨c, e1, h1⟩ := ha
  obtain ⟨d, e2, h2⟩ := hb
  exact ⟨c, d, by rw [h, e1, e2]; rfl, h1, h2⟩
theorem two_app {a b : Str} (ha : OneB a) (hb : OneB b) : TwoB (a ++ b) := two_of (by show (a.cps ++ b.cps).toList = _; exact Array.toList_append) ha hb
theorem lev_end {g h' h₀' : Heap} {L' D : Addr} {rest : List (Addr × Obj)} {nm pair : Str} {mk : Int} {u1 u2 u3 : Tok} (hg : g = h₀')
    (N : News g L' h' ((D, { cls := .type "tuple", data := .seq #[.str nm u1, .int mk u2, .str pair u3] }) :: rest)) (hm : mk = 0 ∨ mk = 1) (hn : nm.length ≤ 3) (hb : ∀ x ∈ nm.cps.toList, x < 256) (hp : TwoB pair) : LevP (.ref D) h₀' h' := by
  obtain ⟨c, d, e, h1, h2⟩ := hp
  subst hg
  exact ⟨D, nm, pair, mk, c, d, u1, u2, u3, rfl, (N _ (.head _)).2.2, (N _ (.head _)).1, hn, hb, hm, e, h1, h2⟩
section
local macro_rules | `(tactic| walk_at "binaryOp Add str str") => `(tactic| (k_here; refine' SM.add_txt ?kz ?_; (case kz => omega); intro t9 k9 z9 hz9 hl9; (try dsimp only)))
local macro_rules | `(tactic| walk_at "binaryOp FloorDiv int int") => `(tactic| (k_here; refine' fdivP ?k1 ?k2 ?_; (case k1 => decide); (case k2 => decide); (try dsimp only)))
local macro_rules | `(tactic| walk_at "binaryOp Mod int int") => `(tactic| (k_here; refine' fmodP ?k1 ?_; (case k1 => decide); (try dsimp only)))
local macro_rules | `(tactic| walk_at "subscriptTail Name Name str int") => `(tactic| (k_here; (with_reducible show wpAny _ _ (subscriptTail _ _ (Value.str _ _) (Value.int _ _)) _ _ _); refine' SM.item_txt ?k1 ?k2 ?k3 ?_ ?k4 ?k5; (case k4 => with_unfolding_all rfl); (case k5 => intro _; with_unfolding_all rfl); (case k1 => omega); (case k2 => omega); (case k3 => omega); intro t9 k9 z9 hz9 hl9; (try dsimp only)))
set_option maxHeartbeats 8000000 in
set_option pp.maxSteps 8000 in
theorem lev_ctr (w : World) (y : Int) (t1 : Tok) :
    Ctr w 88 [.int y t1] [] (fun _ => True) LevP := by
  unfold Ctr
  k_fill
  intro p loose mean mg mb e1 e2 A₀ base h₀ L m s Q E B F X T hfr hk hpre hret
  clear hpre
  (k_dflt (refine' code_keep (binds := [(Str.ofString "y", .int y t1)]) ?k1 ?k2 ?k3 ?k5 ?kA ?kF ?kK ?k6 ?k7 ?k8 ?k9 ?kB ?_ ?c2 ?c3 ?c4 ?c5; (case kA => exact rfl); (case kF => assumption); (case kK => assumption); (case k1 => k_asm); (case k2 => k_asm); (case k3 => k_asm); (case k5 => k_asm); (case k6 => k_is); (case k7 => k_is); (case k8 => k_room); (case k9 => exact BindsTo.of_eq rfl); (case c5 => decide); (case kB => exact locs rfl); (case c2 => exact rfl); (case c3 => exact rfl); (case c4 => exact rfl); k_whole))
  intro g' L' h' hg' F' N' B' X' T'
  have hmn : (Str.ofString " ()<>@,;:\\\"/[]?=+-_.~Aa9").length = 24 := by decide +kernel
  (try dsimp only)
  (try k_fold)
  k_steps
  all_goals (
    (rename Fr _ _ _ _ => F8)
    (rename News _ _ _ _ => N8)
    exact hret _ _ _ (fun b o e => F8.keep b o (by rw [hg']; exact e)) (lev_end hg' N8 (by omega) (by decide +kernel) (by decide +kernel)
      (by
        have q0 : ∀ {i : Nat} {z : Str}, z.cps.toList = [(Str.ofString " ()<>@,;:\\\"/[]?=+-_.~Aa9").cps.toList.getD i 0] → OneB z := one_menu
        first
        | exact two_of (by assumption) (one_menu (by assumption)) (one_menu (by assumption))
        | exact two_of (by assumption) (one_menu (by assumption)) one_chr
        | exact two_of (by assumption) one_chr (one_menu (by assumption))
        | exact two_app one_chr one_chr
        | exact two_app (one_menu (by assumption)) one_chr
        | exact two_app one_chr (one_menu (by assumption)))))
end
end
section
local macro_rules | `(tactic| walk_at "eval ListComp") => `(tactic| (k_here; (with_reducible show wpAny _ _ (eval (Expr.ListComp _ [Comprehension.mk (Expr.Name (Str.ofString "sign") _) _ [] _] _ _) _) _ _ _); k_dflt (refine CW.ListComp_W (F₀ := by k_asm) (by rfl) (by decide) (by rfl) (by decide) (by rfl) ?_)))
local macro_rules | `(tactic| walk_at "eval ListComp") => `(tactic| (k_here; (with_reducible show wpAny _ _ (eval (Expr.ListComp _ [Comprehension.mk (Expr.Name (Str.ofString "sign") _) _ [_] _] _ _) _) _ _ _); k_dflt (refine CW.ListComp_WT (F₀ := by k_asm) (by rfl) (by decide) (by rfl) (by decide) (by rfl) ?_)))
local macro_rules | `(tactic| walk_at "eval ListComp") => `(tactic| (k_here; (with_reducible show wpAny _ _ (eval (Expr.ListComp (Expr.Call (Expr.Name (Str.ofString "chr") _) _ _ _) [Comprehension.mk (Expr.Name (Str.ofString "octet") _) _ [] _] _ _) _) _ _ _); k_dflt (refine CW.ListComp_W (F₀ := by k_asm) (by rfl) (by decide) (by rfl) (by decide) (by rfl) ?_)))
local macro_rules | `(tactic| walk_at "SrcW") => `(tactic| (k_dflt (refine' ⟨_, _, _, ?f9, ?n9, CW.Iter.str (by rfl), ?z9, ?_⟩; (case f9 => k_asm); (case n9 => k_asm); (case z9 => (show Str.length _ ≤ sizeLine; rw [sizeLine_eq]; omega)); intro gH9; (first | (refine' CW.rest_txt_int ?_ ?_; (intro c9 t9 I9 oI9 C9 oC9 D9 m9 ys9 h9 tk9 E9 hm9 hC9 hx9 F' N' off9 ne9; (try simp only [LCg.Off3, and_true] at off9); (try dsimp only)); rotate_left; (intro ys9 hI9)) ))))
local macro_rules | `(tactic| walk_at "SrcW") => `(tactic| ((with_reducible show CW.SrcW _ _ _ _ _ _ _ (Expr.IfExp _ _ _ _) _ _ _ _ _ _); k_dflt (refine' ⟨_, _, _, ?f9, ?n9, CW.Iter.str (by rfl), ?z9, ?_⟩; (case f9 => k_asm); (case n9 => k_asm); (case z9 => (show Str.length _ ≤ sizeLine; rw [sizeLine_eq]; omega)); intro gH9; (refine' CW.rest_txt_str CW.escc ?_ ?_; (intro c9 t9 I9 oI9 C9 oC9 D9 m9 ys9 h9 tk9 E9 hm9 hC9 hx9 F' N' off9 ne9; (try simp only [LCg.Off3, and_true] at off9); (try dsimp only)); rotate_left; (intro ys9 zs9 hS9 hM9)))))
local macro_rules | `(tactic| walk_at "SrcW") => `(tactic| ((with_reducible show CW.SrcW _ _ _ _ _ _ _ (Expr.Call (Expr.Name (Str.ofString "chr") _) _ _ _) _ _ _ _ _ _); k_dflt (refine' ⟨_, _, _, ?f9, ?n9, CW.Iter.bytes (by rfl), ?z9, ?_⟩; (case f9 => k_asm); (case n9 => k_asm); (case z9 => (rw [sizeLine_eq]; omega)); intro gH9; (refine' CW.rest_bytes_str ?_ ?_; (intro c9 t9 I9 oI9 C9 oC9 D9 m9 ys9 h9 tk9 E9 hm9 hC9 hx9 F' N' off9 ne9; (try simp only [LCg.Off3, and_true] at off9); (try dsimp only)); rotate_left; (intro ys9 zs9 hS9 hM9)))))
local macro_rules | `(tactic| walk_at "SrcWT") => `(tactic| (k_dflt (refine' ⟨_, _, _, ?f9, ?n9, CW.Iter.str (by rfl), ?z9, ?_⟩; (case f9 => k_asm); (case n9 => k_asm); (case z9 => (show Str.length _ ≤ sizeLine; rw [sizeLine_eq]; omega)); intro gH9; (refine' CW.rest_txt_none RX.special ?_ ?_; (intro c9 t9 I9 oI9 C9 oC9 D9 m9 ys9 h9 tk9 E9 hm9 hC9 hx9 F' N' off9 ne9; (try simp only [LCg.Off3, and_true] at off9); (try dsimp only)); rotate_left; (intro ys9 zs9 hL9 hS9 hO9 hE9)))))
local macro_rules | `(tactic| walk_at "compareOp In str str") => `(tactic| (k_here; (with_reducible refine CW.in_sign ?_); (try dsimp only)))
local macro_rules | `(tactic| walk_at "call builtin:str.join") => `(tactic| (k_here; (with_reducible show wpAny _ _ (call (Value.builtin "str.join") [Value.str (Str.ofString "") _, Value.ref _]) _ _ _); k_dflt (refine' CW.join_txt ?j1 ?j2 ?j3 ?j4 ?j5 ?_; (case j1 => k_asm); (case j2 => assumption); (case j3 => assumption); (case j4 => first | exact CW.escc_len | exact CW.one_len); (case j5 => first | (show Str.length _ ≤ 1000000; omega) | (simp only [List.length_map, Array.length_toList]; omega))); intro t9 k9 z9 hz9 hl9; (try (k_dflt (change _ ≤ 2 * Str.length _ at hl9))); (try dsimp only)))
local macro_rules | `(tactic| walk_at "El") => `(tactic| (k_dflt (first | exact CW.el_esc1 (by assumption) (by assumption) | exact CW.el_esc0 (by assumption) | exact CW.el_yes (by assumption) | exact CW.el_no (by assumption) | exact CW.el_int | exact CW.el_str (by first | assumption | rfl))))
local macro_rules | `(tactic| walk_at "compareOp Eq ref ref") => `(tactic| (k_here; (with_reducible show wpAny _ _ (compareOp CmpOp.Eq (Value.ref _) (Value.ref _)) _ _ _); k_dflt (refine' CW.eq_nil ?k1 ?k2 ?k3 ?k4 ?k6 ?k5 ?_; (case k1 => k_asm); (case k2 => k_mem); (case k3 => k_mem); (case k4 => assumption); (case k6 => assumption); (case k5 => ke_room)); (try dsimp only)))
local macro_rules | `(tactic| walk_at "binaryOp Add str str") => `(tactic| (k_here; refine' SM.add_txt ?kz ?_; (case kz => first | omega | k_dflt (show Str.length _ + 1 ≤ 16777216; omega)); intro t9 k9 z9 hz9 hl9; (try dsimp only)))
section
section
local macro_rules | `(tactic| walk_at "call ref") => `(tactic| (k_here; (with_reducible show wpAny _ _ (call (Value.ref 95) _ _) _ _ _); k_dflt (refine' (sig_ctr _ _ _ _ _ _ ?q1 ?q2 ?q3 ?q4 ?q5).use ?k1 ?k2 ?k3 ?k4 ?k5 ?k6 ?k7 ?k8 ?_; (case k8 => is_list); (case q1 => assumption); (case q2 => assumption); (case q3 => assumption); (case q4 => first | omega | decide +kernel); (case q5 => first | exact fig_any (by assumption) (by assumption) | exact fig_easy (by assumption) (by assumption)); (case k1 => k_asm); (case k2 => k_asm); (case k3 => k_asm); (case k4 => k_asm); (case k5 => k_asm); (case k6 => exact rfl); (case k7 => exact rfl); k_whole); intro r9 h9 tk9 st9 hP9 F' N'; (try k_sweep); (obtain ⟨t9, x9, e9, hx9⟩ := hP9); (subst e9); (have hl9 := sig_len hx9 (by assumption)); (try dsimp only)))
set_option maxHeartbeats 8000000 in
set_option pp.maxSteps 8000 in
theorem par_ctr (w : World) (l : Addr) (vs : List Value) (ns : List Int) (name pair : Str) (mk : Int) (t1 t2 t3 : Tok) (hi : IntsAre vs ns) (hlen : ns.length ≤ 20000) (hoct : ∀ n ∈ ns, 0 ≤ n ∧ n < 256) (hp : pair.length = 2) (hn : name.length ≤ 1000) :
    Ctr w 100 [.str name t1, .int mk t2, .str pair t3, .ref l] [] (fun h => h.IsList l vs.toArray) (fun r _ _ => ∃ t x, r = .str x t ∧ x.cps.toList = parL name.cps.toList pair.cps.toList mk ns) := by
  unfold Ctr
  k_fill
  intro p loose mean mg mb e1 e2 A₀ base h₀ L m s Q E B F X T hfr hk hpre hret
  (k_dflt (refine' code_keep (binds := [(Str.ofString "name", .str name t1), (Str.ofString "marked", .int mk t2), (Str.ofString "pair", .str pair t3), (Str.ofString "octets", .ref l)]) ?k1 ?k2 ?k3 ?k5 ?kA ?kF ?kK ?k6 ?k7 ?k8 ?k9 ?kB ?_ ?c2 ?c3 ?c4 ?c5; (case kA => exact rfl); (case kF => assumption); (case kK => assumption); (case k1 => k_asm); (case k2 => k_asm); (case k3 => k_asm); (case k5 => k_asm); (case k6 => k_is); (case k7 => k_is); (case k8 => k_room); (case k9 => exact BindsTo.of_eq rfl); (case c5 => decide); (case kB => exact locs rfl); (case c2 => exact rfl); (case c3 => exact rfl); (case c4 => exact rfl); k_whole))
  intro g' L' h' hg' F' N' B' X' T'
  rw [← hg'] at hpre
  have hq1 : (Str.ofString "=").length = 1 := by decide +kernel
  have hq2 : (Str.ofString "=\"").length = 2 := by decide +kernel
  have hq3 : (Str.ofString "\"").length = 1 := by decide +kernel
  have hq4 : (Str.ofString "\\").length = 1 := by decide +kernel
  (try dsimp only)
  (try k_fold)
  k_steps
  all_goals (
    (rename Fr _ _ _ _ => F8)
    first
    | exact hret _ _ _ (fun b o e => F8.keep b o (by rw [hg']; exact e)) (par_nil (by assumption))
    | exact absurd (by assumption : mk = 0) (by assumption)
    | exact hret _ _ _ (fun b o e => F8.keep b o (by rw [hg']; exact e)) (par_e1 (by assumption) (by assumption) (by assumption) (by assumption) (by assumption) (by assumption) (by assumption))
    | exact hret _ _ _ (fun b o e => F8.keep b o (by rw [hg']; exact e)) (par_h1 (by assumption) (by assumption) (by assumption) (by assumption) (by assumption) (by assumption) (by assumption) (by assumption))
    | exact hret _ _ _ (fun b o e => F8.keep b o (by rw [hg']; exact e)) (par_e2 (by assumption) (by assumption) (.inl (by assumption)) (by assumption) (by assumption) (by assumption) (by assumption) (by assumption))
    | exact hret _ _ _ (fun b o e => F8.keep b o (by rw [hg']; exact e)) (par_e2 (by assumption) (by assumption) (.inr (by assumption)) (by assumption) (by assumption) (by assumption) (by assumption) (by assumption))
    | exact hret _ _ _ (fun b o e => F8.keep b o (by rw [hg']; exact e)) (par_h2 (by assumption) (by assumption) (by assumption) (by assumption) (by assumption) (by assumption) (by assumption) (by assumption) (by assumption))
    | exact hret _ _ _ (fun b o e => F8.keep b o (by rw [hg']; exact e)) (par_h3 (by assumption) (by assumption) (by assumption) (by assumption) (by assumption) (by assumption) (by assumption) (by assumption)))
end
end
section
/-- the same from a frame of depth one -/
def Ctr1 (w : World) (f : Addr) (pos : List Value) (kw : List (Str × Value)) (Pre : Heap → Prop) (P : Value → Heap → Heap → Prop) : Prop :=
  ∀ (p : Program) (loose : List Str) (mean : ExcName → Option Value) (mg mb : Str → Option Value) (e1 : Env) (A₀ : Around) (base h₀ : Heap) (L : Addr) (m : Str → Option Value) (s : Shared) (Q E : Value → Shared → Prop),
    Below A₀ base [] h₀ → Fr h₀ L s.heap m → (Mine.hd.heap_39 w.params).In h₀ → Top p loose mean mg mb h₀ → e1.frame = some L → e1.scope.kind = .function → Pre s.heap →
    (∀ r h' tk', s.heap.StaysIn h' → P r s.heap h' → Q r { s with heap := h', toks := tk' }) →
    wpAny (model PySem.Challenge.rw_nb0020_01.row.prog w) (callerA.deeper e1) (call (.ref f) pos kw) Q E s
theorem Ctr1.use {w : World} {f : Addr} {pos : List Value} {kw : List (Str × Value)} {Pre : Heap → Prop} {P : Value → Heap → Heap → Prop} {p : Program} {loose : List Str} {mean : ExcName → Option Value} {mg mb : Str → Option Value} {e1 : Env} {A₀ : Around} {base h₀ : Heap} {L : Addr} {m : Str → Option Value} {s : Shared} {Q E : Value → Shared → Prop} {news : List (Addr × Obj)}
    (C : Ctr1 w f pos kw Pre P) (B : Below A₀ base [] h₀) (F : Fr h₀ L s.heap m) (X : (Mine.hd.heap_39 w.params).In h₀) (N : News h₀ L s.heap news) (T : Top p loose mean mg mb h₀) (hf : e1.frame = some L) (hk : e1.scope.kind = .function) (hp : Pre s.heap)
    (ret : ∀ r h' tk', s.heap.StaysIn h' → P r s.heap h' → Fr h₀ L h' m → News h₀ L h' news → Q r { s with heap := h', toks := tk' }) :
    wpAny (model PySem.Challenge.rw_nb0020_01.row.prog w) (callerA.deeper e1) (call (.ref f) pos kw) Q E s :=
  C p loose mean mg mb e1 A₀ base h₀ L m s Q E B F X T hf hk hp fun r h' tk' st hP => ret r h' tk' st hP (F.keptAll st) (N.grown st)
def bnd : Nat → Nat
  | 0 => 4
  | i + 1 => 8 * ((bnd i + 2) / 3) + 6
theorem bnd_le : ∀ i < 7, bnd i ≤ 4000 := by decide
structure Oct (i : Nat) (ns : List Int) : Prop where
  len : ns.length ≤ bnd i
  oct : ∀ n ∈ ns, 0 ≤ n ∧ n < 256
/-- the seven names that a turn stores -/
def Mine7 (z : Str) : Prop := z = Str.ofString "y" ∨ z = Str.ofString "name" ∨ z = Str.ofString "marked" ∨ z = Str.ofString "pair" ∨ z = Str.ofString "written" ∨ z = Str.ofString "value" ∨ z = Str.ofString "told" ∨ z = Str.ofString "octets"
/-- an address that holds the list vs in every heap that keeps the ground and the ledger -/
def Holds1 (h₀ : Heap) (L : Addr) (own : List (Addr × Obj)) (l : Addr) (vs : List Value) : Prop := ∀ h m rest, Fr h₀ L h m → News h₀ L h rest → (∀ p ∈ own, p ∈ rest) → h.IsList l vs.toArray
def RunEnd (h₀ : Heap) (L : Addr) (i : Nat) (own : List (Addr × Obj)) (s₁ s₂ : Shared) : Prop :=
  ∃ h' tk m' news' D vs ns ep, s₂ = { s₁ with heap := h', toks := tk } ∧ Fr h₀ L h' m' ∧ News h₀ L h' news' ∧ (∀ p ∈ own, p ∈ news') ∧ (D, W.listOf vs.toArray ep) ∈ news' ∧ m' (Str.ofString "octets") = some (.ref D) ∧ IntsAre vs ns ∧ Oct i ns
def RunPost (h₀ : Heap) (L : Addr) (i : Nat) (own : List (Addr × Obj)) (s₁ : Shared) (Q : Flow → Shared → Prop) (f : Flow) (s₂ : Shared) : Prop :=
  match f with
  | .ret v => Q (.ret v) s₂
  | .brk => Q .next s₂
  | _ => RunEnd h₀ L i own s₁ s₂
def RunJ (h₀ : Heap) (i : Nat) (m' : Str → Option Value) (nx : List (Addr × Obj)) : Prop :=
  ∃ l vs ns, m' (Str.ofString "octets") = some (.ref l) ∧ IntsAre vs ns ∧ Oct i ns ∧ ((h₀.IsList l vs.toArray ∧ nx = []) ∨ ∃ ep, nx = [(l, W.listOf vs.toArray ep)])
section
variable {prog : Program} {w : World} {A : Around} {E : Value → Shared → Prop} {s : Shared} {env : Env} {h₀ : Heap} {body : List Stmt} {Q : Flow → Shared → Prop}
theorem run_loop {l oc : Addr} {vs os : List Value} {ls ns₀ : List Int} {m₀ : Str → Option Value}
    (hh : A.handled = none) (hl : h₀.IsList l vs.toArray) (hi : IntsAre vs ls) (F : Fr h₀ env.locals s.heap m₀) (ho : h₀.IsList oc os.toArray) (hoi : IntsAre os ns₀) (hO : Oct 0 ns₀) (hm : m₀ (Str.ofString "octets") = some (.ref oc))
    (turn : ∀ (i : Nat) (n : Int) (t : Tok) (m₁ : Str → Option Value) (h : Heap) (tk : Nat) (own : List (Addr × Obj)) (o : Addr) (os' : List Value) (ns : List Int), i < ls.length → Holds1 h₀ env.locals own o os' → IntsAre os' ns → Oct i ns →
      Fr h₀ env.locals h (fun z => if z = Str.ofString "y" then some (.int n t) else if z = Str.ofString "octets" then some (.ref o) else m₁ z) → News h₀ env.locals h own →
      wpAny (model prog w) A (execs body env) (RunPost h₀ env.locals (i + 1) own { s with heap := h, toks := tk } Q) E { s with heap := h, toks := tk })
    (done : ∀ m₁ h tk, Fr h₀ env.locals h m₁ → Q .next { s with heap := h, toks := tk }) :
    wpAny (model prog w) A (pyIter (.ref l)) (fun it s₂ => LoopAtV prog w A h₀ env (Str.ofString "y") body Q E it s₂) E s := by
  have hls : s.heap.IsList l vs.toArray := hl.at fun o e => F.keep l o e
  obtain ⟨ol, hol, _⟩ := id hl
  have hlt : l < h₀.objs.size := Heap.lt_size hol
  have hne : l ≠ s.heap.objs.size := Nat.ne_of_lt (Nat.lt_trans (Nat.lt_of_lt_of_le hlt F.above) F.ns.lt)
  refine wpAny_pyIter_list hls ?_
  have WW := Walks.list (prog := prog) (w := w) hh s.heap.objs.size l hne vs.toArray
  have hlen : vs.toArray.size = ls.length := by simp [hi.length]
  rw [hlen] at WW
  refine ⟨_, _, _, ls.length, _, _, m₀, [], RunJ h₀, rfl, WW, ?_, ?_, (fun p hp => nomatch hp), ⟨⟨_, Heap.get?_push_size _ rfl, rfl, rfl⟩, hls.at fun o e => Heap.get?_push_of_some _ e⟩, F.push _, (fun p hp => nomatch hp), ⟨oc, os, ns₀, hm, hoi, hO, .inl ⟨ho, rfl⟩⟩, ?_, ?_⟩
  · intro hm
    rcases List.mem_cons.mp hm with e | hm
    · exact absurd F.ns.lt (e ▸ Nat.lt_irrefl _)
    · exact absurd (Nat.lt_of_lt_of_le hlt F.above) ((List.mem_singleton.mp hm) ▸ Nat.lt_irrefl _)
  · intro b hb
    rw [List.mem_singleton.mp hb]
    exact next_is_new F
  · rintro i v m₁ news₁ s₁ own ⟨hh', tk', rfl⟩ hin hP ⟨o, os', ns, hmo, hI', hO', hcase⟩ hoff hown hat hhas hst F₁ N₁
    have hlt' : i < ls.length := hin
    obtain ⟨t, hx⟩ := hi.get i ls[i] (by simp [hlt'])
    have hv : v = .int ls[i] t := by
      have hP' : vs[i]? = some v := by simpa using hP
      rw [hx] at hP'; exact (Option.some.inj hP').symm
    subst hv
    have e : (fun z => if z = Str.ofString "y" then some (Value.int ls[i] t) else if z = Str.ofString "octets" then some (.ref o) else m₁ z) = fun z => if z = Str.ofString "y" then some (Value.int ls[i] t) else m₁ z := by
      funext z
      by_cases h1 : z = Str.ofString "y"
      · rw [if_pos h1, if_pos h1]
      · rw [if_neg h1, if_neg h1]
        by_cases h2 : z = Str.ofString "octets"
        · rw [if_pos h2, h2, hmo]
        · rw [if_neg h2]
    rw [← e] at F₁
    obtain ⟨⟨oi, hoi1, hoi2, hoi3⟩, _⟩ := hst
    have hin' := hhas s.heap.objs.size (List.mem_cons_self ..) (next_is_new F) oi hoi1
    refine wpAny_mono (turn i ls[i] t m₁ hh' tk' (own ++ news₁) o os' ns hlt' ?_ hI' hO' F₁ N₁) (fun f s₂ p => ?_) fun _ _ e => e
    · intro h m rest Fx Nx hsub
      rcases hcase with ⟨hg, rfl⟩ | ⟨ep, rfl⟩
      · exact hg.at fun o e => Fx.keep _ o e
      · exact ⟨_, (Nx _ (hsub _ (List.mem_append_right _ (.head _)))).1, rfl, ep, rfl⟩
    have fin : RunEnd h₀ env.locals (i + 1) (own ++ news₁) { s with heap := hh', toks := tk' } s₂ → LoopStepU h₀ env.locals [s.heap.objs.size] own (RunJ h₀ (i + 1)) { s with heap := hh', toks := tk' } .next s₂ := by
      rintro ⟨h', tk, m', news', D, vs', ns', ep, e, F', N', hn, hD, hmD, hI'', hO''⟩
      refine ⟨rfl, h', tk, m', [(D, W.listOf vs'.toArray ep)], e, F', fun p hp => ?_, fun p hp hq => ?_, ⟨D, vs', ns', hmD, hI'', hO'', .inr ⟨ep, rfl⟩⟩⟩
      · rcases List.mem_append.mp hp with hp | hp
        · exact N' p (hn p (List.mem_append_left _ hp))
        · rw [List.mem_singleton.mp hp]; exact N' _ hD
      · rw [List.mem_singleton.mp hp] at hq
        have hq' : D = s.heap.objs.size := List.mem_singleton.mp hq
        have h1 := (N' _ (hn _ (List.mem_append_left _ hin'))).1
        have h2 := (N' _ hD).1
        rw [hq'] at h2
        rw [h1] at h2
        have h3 := Option.some.inj h2
        rw [show oi = W.listOf vs'.toArray ep from h3] at hoi3
        unfold W.listOf at hoi3
        cases hoi3
    cases f with
    | ret v => exact .ret p
    | brk => exact .brk p
    | next => exact .next (fin p)
    | cont => exact .cont (fin p)
  · rintro h' tk m' news' F' N' _ _
    exact done m' h' tk F'
end
section
variable {prog : Program} {w : World} {A : Around} {E : Value → Shared → Prop} {s : Shared} {h₀ : Heap} {L : Addr} {m : Str → Option Value} {news : List (Addr × Obj)}
theorem news_lev {h h' : Heap} {q : Addr} {o : Obj} (F : Fr h₀ L h m) (N : News h₀ L h' news) (hn : h.get? q = none) (ho : h'.get? q = some o) : News h₀ L h' ((q, o) :: news) := by
  intro p hp
  rcases List.mem_cons.mp hp with rfl | hp
  · refine ⟨ho, ?_, ?_⟩
    · intro e
      obtain ⟨o', es, ep, h1, _⟩ := F.ns
      rw [← show q = L from e] at h1
      rw [hn] at h1
      cases h1
    · cases e : h₀.get? q with
      | none => rfl
      | some o' =>
        have := F.keep _ _ e
        rw [hn] at this
        cases this
  · exact N p hp
theorem ne_same {x y : Str} {t u : Tok} {Q : Value → Shared → Prop} (e : x = y) (h : Q (.bool false) s) : wpAny (model prog w) A (compareOp .NotEq (.str x t) (.str y u)) Q E s := by
  subst e
  refine ne_str ?_
  have : (x == x) = true := by simp
  simpa using h
theorem Holds1.get {own rest : List (Addr × Obj)} {l : Addr} {vs : List Value} {h : Heap} (H : Holds1 h₀ L own l vs) (F : Fr h₀ L h m) (N : News h₀ L h rest) (hs : ∀ p ∈ own, p ∈ rest) : h.IsList l vs.toArray := H _ _ _ F N hs
theorem lev_use {p : Program} {loose : List Str} {mean : ExcName → Option Value} {mg mb : Str → Option Value} {e1 e2 : Env} {A₀ : Around} {base : Heap} {Q : Value → Shared → Prop} {y : Int} {t1 : Tok}
    (B : Below A₀ base [e1] h₀) (F : Fr h₀ L s.heap m) (X : (Mine.hd.heap_39 w.params).In h₀) (N : News h₀ L s.heap news) (T : Top p loose mean mg mb h₀) (hf : e2.frame = some L) (hk : e2.scope.kind = .function)
    (ret : ∀ (q : Addr) (name pair : Str) (mk : Int) (c d : Nat) (u1 u2 u3 : Tok) h' tk', name.length ≤ 3 → (∀ x ∈ name.cps.toList, x < 256) → (mk = 0 ∨ mk = 1) → pair.cps.toList = [c, d] → c < 256 → d < 256 → pair.length = 2 →
      Fr h₀ L h' m → News h₀ L h' ((q, { cls := .type "tuple", data := .seq #[.str name u1, .int mk u2, .str pair u3] }) :: news) → Q (.ref q) { s with heap := h', toks := tk' }) :
    wpAny (model PySem.Challenge.rw_nb0020_01.row.prog w) ((callerA.deeper e1).deeper e2) (call (.ref 88) [.int y t1] []) Q E s := by
  refine (lev_ctr w y t1).use B F X N T hf hk trivial ?_
  rintro r h' tk' st ⟨q, name, pair, mk, c, d, u1, u2, u3, rfl, hn, ho, hl, hb, hm, hp, hc, hd⟩ F' N'
  exact ret q name pair mk c d u1 u2 u3 h' tk' hl hb hm hp hc hd (by show pair.cps.size = 2; rw [← Array.length_toList, hp]; rfl) F' (news_lev F N' hn ho)
end
end
section
/-- the sign list of whole figures, by the plain sixty-four -/
def enc (ns : List Int) : List Int := ((figs (padL ns)).map figI).take (4 * ((padL ns).length / 3) - padN ns.length) ++ List.replicate (padN ns.length) 61
theorem fold_acc : ∀ (ns : List Int) (lc lb : Int) (out : List Int), (ns.foldl bStep (lc, lb, out)) = ((ns.foldl bStep (lc, lb, [])).1, (ns.foldl bStep (lc, lb, [])).2.1, out ++ (ns.foldl bStep (lc, lb, [])).2.2)
  | [], lc, lb, out => by simp
  | n :: r, lc, lb, out => by
    have key : ∀ (o : List Int), ∃ x y z, bStep (lc, lb, o) n = (x, y, o ++ z) ∧ bStep (lc, lb, []) n = (x, y, z) := by
      intro o
      unfold bStep
      by_cases h0 : lb = 0
      · simp only [if_pos h0]; exact ⟨_, _, _, rfl, rfl⟩
      · by_cases h2 : lb = 2
        · simp only [if_neg h0, if_pos h2]; exact ⟨_, _, _, rfl, rfl⟩
        · simp only [if_neg h0, if_neg h2]; exact ⟨_, _, _, rfl, rfl⟩
    obtain ⟨x, y, z, e1, e2⟩ := key out
    simp only [List.foldl_cons]
    rw [e1, e2, fold_acc r x y (out ++ z), fold_acc r x y z]
    simp
theorem bFin_acc (lc lb : Int) (a b : List Int) : bFin (lc, lb, a ++ b) = a ++ bFin (lc, lb, b) := by
  unfold bFin
  by_cases h2 : lb = 2
  · simp [h2]
  · by_cases h4 : lb = 4
    · simp [h4]
    · simp [h2, h4]
/-- what b2a_base64 has yet to write, lc being what is left over -/
theorem fin_lc : ∀ (ns : List Int) (lc lc' : Int), 0 ≤ lc → 0 ≤ lc' → (∀ n ∈ ns, 0 ≤ n ∧ n < 256) → bFin (ns.foldl bStep (lc, 0, [])) = bFin (ns.foldl bStep (lc', 0, []))
  | [], _, _, _, _, _ => by unfold bFin; simp
  | [a], lc, lc', h, h', ho => by
    have ha := ho a (.head _)
    have e : (lc * 256 + a) % 65536 / 4 % 64 = (lc' * 256 + a) % 65536 / 4 % 64 := by omega
    have e2 : (lc * 256 + a) % 4 * 16 = (lc' * 256 + a) % 4 * 16 := by omega
    simp [bFin, bStep, e, e2]
  | [a, b], lc, lc', h, h', ho => by
    have ha := ho a (.head _)
    have hb := ho b (.tail _ (.head _))
    have e : (lc * 256 + a) % 65536 / 4 % 64 = (lc' * 256 + a) % 65536 / 4 % 64 := by omega
    have e1 : ((lc * 256 + a) % 65536 * 256 + b) % 65536 = ((lc' * 256 + a) % 65536 * 256 + b) % 65536 := by omega
    simp [bFin, bStep, e, e1]
  | a :: b :: c :: r, lc, lc', h, h', ho => by
    have ha := ho a (.head _)
    have hb := ho b (.tail _ (.head _))
    have hc := ho c (.tail _ (.tail _ (.head _)))
    have e : (lc * 256 + a) % 65536 / 4 % 64 = (lc' * 256 + a) % 65536 / 4 % 64 := by omega
    have e1 : ((lc * 256 + a) % 65536 * 256 + b) % 65536 = ((lc' * 256 + a) % 65536 * 256 + b) % 65536 := by omega
    simp only [List.foldl_cons]
    have s3 : ∀ l : Int, bStep (bStep (bStep (l, 0, []) a) b) c = ((((l * 256 + a) % 65536 * 256 + b) % 65536 * 256 + c) % 65536, 0, [figI ((l * 256 + a) % 65536 / 4 % 64), figI (((l * 256 + a) % 65536 * 256 + b) % 65536 / 16 % 64), figI ((((l * 256 + a) % 65536 * 256 + b) % 65536 * 256 + c) % 65536 / 64 % 64), figI ((((l * 256 + a) % 65536 * 256 + b) % 65536 * 256 + c) % 65536 % 64)]) := by
      intro l
      simp [bStep]
    rw [s3 lc, s3 lc', e, e1]
theorem b2a_one (a : Int) (ha : 0 ≤ a ∧ a < 256) : b2aL [a] = [figI (a / 4), figI (a % 4 * 16), 61, 61] := by
  have e : (0 * 256 + a) % 65536 / 4 % 64 = a / 4 := by omega
  have e2 : (0 * 256 + a) % 65536 % 4 * 16 = a % 4 * 16 := by omega
  simp only [b2aL, List.foldl_cons, List.foldl_nil, bStep, bFin]
  simp only [e, e2, if_true]
  rfl
theorem b2a_two (a b : Int) (ha : 0 ≤ a ∧ a < 256) (hb : 0 ≤ b ∧ b < 256) : b2aL [a, b] = [figI (a / 4), figI (a % 4 * 16 + b / 16), figI (b % 16 * 4), 61] := by
  have e : (0 * 256 + a) % 65536 / 4 % 64 = a / 4 := by omega
  have e2 : ((0 * 256 + a) % 65536 * 256 + b) % 65536 / 16 % 64 = a % 4 * 16 + b / 16 := by omega
  have e3 : ((0 * 256 + a) % 65536 * 256 + b) % 65536 % 16 * 4 = b % 16 * 4 := by omega
  simp only [b2aL, List.foldl_cons, List.foldl_nil, bStep, bFin]
  simp only [e, e2, e3, if_true, show ((2 : Int) = 0) = False by decide, show ((4 : Int) = 2) = False by decide, if_false]
  rfl
theorem b2a_three (a b c : Int) (r : List Int) (ha : 0 ≤ a ∧ a < 256) (hb : 0 ≤ b ∧ b < 256) (hc : 0 ≤ c ∧ c < 256) (hr : ∀ n ∈ r, 0 ≤ n ∧ n < 256) :
    b2aL (a :: b :: c :: r) = [figI (a / 4), figI (a % 4 * 16 + b / 16), figI (b % 16 * 4 + c / 64), figI (c % 64)] ++ b2aL r := by
  have e : (0 * 256 + a) % 65536 / 4 % 64 = a / 4 := by omega
  have e2 : ((0 * 256 + a) % 65536 * 256 + b) % 65536 / 16 % 64 = a % 4 * 16 + b / 16 := by omega
  have e3 : (((0 * 256 + a) % 65536 * 256 + b) % 65536 * 256 + c) % 65536 / 64 % 64 = b % 16 * 4 + c / 64 := by omega
  have e4 : (((0 * 256 + a) % 65536 * 256 + b) % 65536 * 256 + c) % 65536 % 64 = c % 64 := by omega
  have s3 : bStep (bStep (bStep (0, 0, []) a) b) c = ((((0 * 256 + a) % 65536 * 256 + b) % 65536 * 256 + c) % 65536, 0, [figI (a / 4), figI (a % 4 * 16 + b / 16), figI (b % 16 * 4 + c / 64), figI (c % 64)]) := by
    rw [← e, ← e2, ← e3, ← e4]
    simp [bStep]
  unfold b2aL
  simp only [List.foldl_cons]
  rw [s3, fold_acc, bFin_acc]
  congr 1
  exact fin_lc r _ 0 (by omega) (by decide) hr
theorem padL_three (a b c : Int) (r : List Int) : padL (a :: b :: c :: r) = a :: b :: c :: padL r := by
  unfold padL
  have : padN (a :: b :: c :: r).length = padN r.length := by
    unfold padN
    simp only [List.length_cons]
    omega
  rw [this]
  rfl
theorem padN_three (a b c : Int) (r : List Int) : padN (a :: b :: c :: r).length = padN r.length := by
  unfold padN
  simp only [List.length_cons]
  omega
theorem enc_three (a b c : Int) (r : List Int) : enc (a :: b :: c :: r) = [figI (a / 4), figI (a % 4 * 16 + b / 16), figI (b % 16 * 4 + c / 64), figI (c % 64)] ++ enc r := by
  unfold enc
  rw [padN_three, padL_three]
  have hl : 4 * ((a :: b :: c :: padL r).length / 3) - padN r.length = 4 + (4 * ((padL r).length / 3) - padN r.length) := by
    have h1 := padL_len r
    have h2 := padL_mod r
    have h3 : padN r.length ≤ 2 := by unfold padN; omega
    have h4 : padN r.length ≤ 4 * ((padL r).length / 3) := by
      by_cases hz : r.length = 0
      · rw [hz]; exact Nat.zero_le _
      · omega
    simp only [List.length_cons]
    omega
  rw [hl]
  show List.take (4 + _) (figI (a / 4) :: figI (a % 4 * 16 + b / 16) :: figI (b % 16 * 4 + c / 64) :: figI (c % 64) :: (figs (padL r)).map figI) ++ _ = _
  rw [Nat.add_comm 4]
  rfl
theorem b2a_enc : ∀ ns : List Int, (∀ n ∈ ns, 0 ≤ n ∧ n < 256) → b2aL ns = enc ns
  | [], _ => by decide
  | [a], ho => by
    rw [b2a_one a (ho a (.head _))]
    simp [enc, padL, padN, figs, List.replicate]
  | [a, b], ho => by
    rw [b2a_two a b (ho a (.head _)) (ho b (.tail _ (.head _)))]
    simp [enc, padL, padN, figs, List.replicate]
  | a :: b :: c :: r, ho => by
    have hr : ∀ n ∈ r, 0 ≤ n ∧ n < 256 := fun n hn => ho n (.tail _ (.tail _ (.tail _ hn)))
    rw [b2a_three a b c r (ho a (.head _)) (ho b (.tail _ (.head _))) (ho c (.tail _ (.tail _ (.head _)))) hr, enc_three, b2a_enc r hr]
/-- an octet by the table -/
def trn (c d : Nat) (x : Int) : Nat := ((BM.tab2 c.toUInt8 d.toUInt8).getD (x.toNat.toUInt8).toNat (x.toNat.toUInt8)).toNat
theorem trn_fig {c d : Nat} (hc : c < 256) (hd : d < 256) : ∀ f : Int, 0 ≤ f → f < 64 → trn c d (figI f) = sgn [c, d] f := by
  have hcc : c.toUInt8.toNat = c := by simp; omega
  have hdd : d.toUInt8.toNat = d := by simp; omega
  have h : ∀ i : Fin 64, trn c d (figI (i.val : Int)) = sgn [c, d] (i.val : Int) := by
    intro i
    have key : ∀ i : Fin 62, (figI (i.val : Int)).toNat.toUInt8.toNat ≠ 43 ∧ (figI (i.val : Int)).toNat.toUInt8.toNat ≠ 47 ∧ (figI (i.val : Int)).toNat.toUInt8.toNat = alpha62.getD i.val 0 := by decide +kernel
    by_cases h62 : i.val < 62
    · obtain ⟨k1, k2, k3⟩ := key ⟨i.val, h62⟩
      simp only at k1 k2 k3
      unfold trn sgn BM.tab2
      have hlt := ((figI (i.val : Int)).toNat.toUInt8).toNat_lt
      rw [Array.getD_eq_getD_getElem?, Array.getElem?_setIfInBounds_ne (by omega), Array.getElem?_setIfInBounds_ne (by omega)]
      rw [show ((i.val : Int)).toNat = i.val from rfl, List.getD_eq_getElem?_getD, List.getElem?_append_left (by show i.val < 62; exact h62), ← List.getD_eq_getElem?_getD, ← k3]
      have hlt' : ((figI (i.val : Int)).toNat.toUInt8).toNat < 256 := hlt
      have hr : ((Array.range 256).map (·.toUInt8))[((figI (i.val : Int)).toNat.toUInt8).toNat]? = some ((figI (i.val : Int)).toNat.toUInt8) := by
        rw [Array.getElem?_map, Array.getElem?_eq_getElem (by rw [Array.size_range]; exact hlt'), Array.getElem_range]
        exact congrArg some UInt8.ofNat_toNat
      rw [hr]
      rfl
    · have : i.val = 62 ∨ i.val = 63 := by omega
      rcases this with e | e
      · rw [e]
        unfold trn sgn BM.tab2
        show (((((Array.range 256).map (·.toUInt8)).setIfInBounds 43 c.toUInt8).setIfInBounds 47 d.toUInt8).getD 43 _).toNat = c
        rw [Array.getD_eq_getD_getElem?, Array.getElem?_setIfInBounds_ne (by decide), Array.getElem?_setIfInBounds_self_of_lt (by simp)]
        exact hcc
      · rw [e]
        unfold trn sgn BM.tab2
        show (((((Array.range 256).map (·.toUInt8)).setIfInBounds 43 c.toUInt8).setIfInBounds 47 d.toUInt8).getD 47 _).toNat = d
        rw [Array.getD_eq_getD_getElem?, Array.getElem?_setIfInBounds_self_of_lt (by simp)]
        exact hdd
  intro f h0 h1
  have := h ⟨f.toNat, by omega⟩
  simp only at this
  rw [show ((f.toNat : Nat) : Int) = f by omega] at this
  exact this
theorem trn_61 (c d : Nat) : trn c d 61 = 61 := by
  unfold trn BM.tab2
  show (((((Array.range 256).map (·.toUInt8)).setIfInBounds 43 c.toUInt8).setIfInBounds 47 d.toUInt8).getD 61 _).toNat = 61
  rw [Array.getD_eq_getD_getElem?, Array.getElem?_setIfInBounds_ne (by decide), Array.getElem?_setIfInBounds_ne (by decide)]
  simp
theorem b64_sig {ns : List Int} {c d : Nat} (hoct : ∀ n ∈ ns, 0 ≤ n ∧ n < 256) (hc : c < 256) (hd : d < 256) :
    ((byteArr (b2aL (KBw.bInts (byteArr ns)))).map fun x => (BM.tab2 c.toUInt8 d.toUInt8).getD x.toNat x).toList.map (fun c => c.toNat) = sigL [c, d] ns := by
  rw [KBa.ints_make hoct, b2a_enc ns hoct]
  have e : ((byteArr (enc ns)).map fun x => (BM.tab2 c.toUInt8 d.toUInt8).getD x.toNat x).toList.map (fun c => c.toNat) = (enc ns).map (trn c d) := by
    unfold byteArr trn
    simp only [List.map_toArray, List.toList_toArray, List.map_map]
    rfl
  rw [e]
  unfold enc sigL
  rw [List.map_append, List.map_take, List.map_map, List.map_replicate, trn_61]
  congr 2
  refine List.map_congr_left fun f hf => ?_
  have := figs_lo hoct f hf
  exact trn_fig hc hd f this.1 this.2
theorem escL_eq : ∀ l : List Nat, escL l = l.flatMap CW.escc
  | [] => rfl
  | a :: l => by
    have h : escL (a :: l) = CW.escc a ++ escL l := by
      have e : SM.sub1 92 [92, 92] (a :: l) = (if a = 92 then [92, 92] else [a]) ++ SM.sub1 92 [92, 92] l := rfl
      unfold escL
      rw [e, SM.sub1_append]
      congr 1
      unfold CW.escc
      by_cases h1 : a = 92
      · subst h1; decide
      · rw [if_neg h1]
        by_cases h2 : a = 34
        · subst h2; decide
        · rw [if_neg (by omega)]
          exact SM.sub1_free _ _ _ (by simp; omega)
    rw [h, escL_eq l]
    rfl
theorem flat_len : ∀ l : List Nat, (l.flatMap CW.escc).length ≤ 2 * l.length
  | [] => Nat.le_refl _
  | a :: l => by
    have h1 := CW.escc_len a
    have h2 := flat_len l
    rw [List.flatMap_cons, List.length_append, List.length_cons]
    omega
theorem fmtL_len (name v : List Nat) (q : Int) : (fmtL name v q).length ≤ name.length + 3 + 2 * v.length := by
  have h := flat_len v
  unfold fmtL
  rw [escL_eq]
  split
  · omega
  · split
    · simp only [List.length_append, List.length_cons, List.length_nil]; omega
    · simp only [List.length_append, List.length_cons, List.length_nil]; omega
theorem fmt_len {name v : Str} {q : Int} : (fmtP name v q).length ≤ name.length + 3 + 2 * v.length := by
  have h := fmtL_len name.cps.toList v.cps.toList q
  show (fmtL name.cps.toList v.cps.toList q).toArray.size ≤ name.cps.size + 3 + 2 * v.cps.size
  rw [List.size_toArray, ← Array.length_toList, ← Array.length_toList]
  exact h
theorem sigL_len (pair : List Nat) (ns : List Int) : (sigL pair ns).length = 4 * ((ns.length + 2) / 3) := by
  have h1 := padL_len ns
  have h2 := padL_mod ns
  have h3 : padN ns.length = (3 - ns.length % 3) % 3 := rfl
  unfold sigL
  rw [List.length_append, List.length_take, List.length_map, figs_len, List.length_replicate]
  by_cases h0 : ns.length = 0
  · rw [h0] at h1 h3 ⊢
    simp at h3
    rw [h3] at h1 ⊢
    rw [h1]
    simp
  · omega
theorem sgn_lt {c d : Nat} (hc : c < 256) (hd : d < 256) (f : Int) : sgn [c, d] f < 256 := by
  unfold sgn
  rw [List.getD_eq_getElem?_getD]
  cases e : (alpha62 ++ [c, d])[f.toNat]? with
  | none => decide
  | some v =>
    have hm := List.mem_of_getElem? e
    rcases List.mem_append.mp hm with h | h
    · have : ∀ x ∈ alpha62, x < 256 := by decide
      exact this v h
    · rcases List.mem_cons.mp h with rfl | h
      · exact hc
      · rw [List.mem_singleton.mp h]; exact hd
theorem sig_lt {c d : Nat} (hc : c < 256) (hd : d < 256) (ns : List Int) : ∀ x ∈ sigL [c, d] ns, x < 256 := by
  intro x hx
  rcases List.mem_append.mp hx with h | h
  · obtain ⟨f, _, rfl⟩ := List.mem_map.mp (List.mem_of_mem_take h)
    exact sgn_lt hc hd f
  · rw [List.eq_of_mem_replicate h]; decide
theorem esc_lt {l : List Nat} (h : ∀ x ∈ l, x < 256) : ∀ x ∈ escL l, x < 256 := by
  rw [escL_eq]
  intro x hx
  obtain ⟨a, ha, hx⟩ := List.mem_flatMap.mp hx
  have := h a ha
  unfold CW.escc at hx
  split at hx
  · rcases List.mem_cons.mp hx with rfl | hx
    · decide
    · rw [List.mem_singleton.mp hx]; exact this
  · rw [List.mem_singleton.mp hx]; exact this
theorem fmt_lt {name v : List Nat} {q : Int} (hn : ∀ x ∈ name, x < 256) (hv : ∀ x ∈ v, x < 256) : ∀ x ∈ fmtL name v q, x < 256 := by
  intro x hx
  unfold fmtL at hx
  split at hx
  · exact hn x hx
  · split at hx
    · rcases List.mem_append.mp hx with hx | hx
      · rcases List.mem_append.mp hx with hx | hx
        · rcases List.mem_append.mp hx with hx | hx
          · exact hn x hx
          · have : ∀ y ∈ [61, 34], y < 256 := by decide
            exact this x hx
        · exact esc_lt hv x hx
      · rw [List.mem_singleton.mp hx]; decide
    · rcases List.mem_append.mp hx with hx | hx
      · rcases List.mem_append.mp hx with hx | hx
        · exact hn x hx
        · rw [List.mem_singleton.mp hx]; decide
      · exact hv x hx
theorem told_oct {name v x pair : Str} {q : Int} {ns : List Int} {c d i : Nat} (hx : x = fmtP name v q) (hv : v.cps.toList = sigL pair.cps.toList ns) (hp : pair.cps.toList = [c, d]) (hc : c < 256) (hd : d < 256) (hoct : ∀ n ∈ ns, 0 ≤ n ∧ n < 256) (hn : name.length ≤ 3) (hb : ∀ x ∈ name.cps.toList, x < 256) (hl : ns.length ≤ bnd i) : Oct (i + 1) (x.cps.toList.map fun (c : Nat) => (c : Int)) := by
  rw [hp] at hv
  refine ⟨?_, ?_⟩
  · have h1 := fmt_len (name := name) (v := v) (q := q)
    rw [← hx] at h1
    have h2 : v.length = 4 * ((ns.length + 2) / 3) := by
      show v.cps.size = _
      rw [← Array.length_toList, hv, sigL_len]
    rw [List.length_map, Array.length_toList]
    show x.length ≤ 8 * ((bnd i + 2) / 3) + 6
    omega
  · intro n hn'
    obtain ⟨k, hk, rfl⟩ := List.mem_map.mp hn'
    subst hx
    have := fmt_lt (q := q) hb (by rw [hv]; exact sig_lt hc hd ns) k hk
    exact ⟨Int.natCast_nonneg k, Int.ofNat_lt.mpr this⟩
theorem sgn_easy (p q : List Nat) {f : Int} (h0 : 0 ≤ f) (h1 : f < 62) : sgn p f = sgn q f := by
  unfold sgn
  have h : f.toNat < alpha62.length := by show f.toNat < 62; omega
  rw [List.getD_eq_getElem?_getD, List.getD_eq_getElem?_getD, List.getElem?_append_left h, List.getElem?_append_left h]
theorem sgn_plain (p : List Nat) {f : Int} (h0 : 0 ≤ f) (h1 : f < 62) : RX.special (sgn p f) = false := by
  have key : ∀ i : _root_.Fin 62, RX.special (alpha62.getD i.val 0) = false := by decide +kernel
  have h : f.toNat < alpha62.length := by show f.toNat < 62; omega
  have := key ⟨f.toNat, by omega⟩
  unfold sgn
  rw [List.getD_eq_getElem?_getD, List.getElem?_append_left h, ← List.getD_eq_getElem?_getD]
  exact this
theorem sig_easy (p q : List Nat) {ns : List Int} (hoct : ∀ n ∈ ns, 0 ≤ n ∧ n < 256) (he : ∀ n ∈ ns, hard n = false) : sigL p ns = sigL q ns := by
  unfold sigL
  congr 2
  refine List.map_congr_left fun f hf => ?_
  have := figs_easy hoct he f hf
  exact sgn_easy p q this.1 this.2
theorem any_easy (p : List Nat) {ns : List Int} (hoct : ∀ n ∈ ns, 0 ≤ n ∧ n < 256) (he : ∀ n ∈ ns, hard n = false) : (sigL p ns).any RX.special = true ↔ ¬ ns.length % 3 = 0 := by
  constructor
  · intro h hz
    obtain ⟨x, hx, hs⟩ := List.any_eq_true.mp h
    rcases List.mem_append.mp hx with h | h
    · obtain ⟨f, hf, rfl⟩ := List.mem_map.mp (List.mem_of_mem_take h)
      have := figs_easy hoct he f hf
      rw [sgn_plain p this.1 this.2] at hs
      cases hs
    · have : padN ns.length = 0 := by unfold padN; omega
      rw [this] at h
      cases h
  · intro h
    refine List.any_eq_true.mpr ⟨61, List.mem_append_right _ ?_, by decide +kernel⟩
    refine List.mem_replicate.mpr ⟨?_, rfl⟩
    unfold padN
    omega
theorem fmt_par {name : List Nat} {q mk : Int} {ns : List Int} {c d : Nat} (hoct : ∀ n ∈ ns, 0 ≤ n ∧ n < 256) (hm : mk = 0 ∨ mk = 1) (hq : (mk = 1 ∧ q = 1) ∨ (¬ mk = 1 ∧ q = 0)) : fmtL name (sigL [c, d] ns) q = parL name [c, d] mk ns := by
  have hl := sigL_len [c, d] ns
  unfold fmtL parL
  by_cases h0 : ns = []
  · subst h0
    rw [if_pos (by rw [hl]; rfl), if_pos rfl]
  · have hn : ns.length ≠ 0 := fun h => h0 (List.length_eq_zero_iff.mp h)
    rw [if_neg (by omega), if_neg h0, escL_eq]
    by_cases he : ns.any hard = false
    · have he' : ∀ n ∈ ns, hard n = false := by
        intro n hn
        rw [Bool.eq_false_iff]
        intro ht
        have : ns.any hard = true := List.any_eq_true.mpr ⟨n, hn, ht⟩
        rw [he] at this
        cases this
      have ha := any_easy [c, d] hoct he'
      rw [if_pos he, sig_easy [] [c, d] hoct he']
      by_cases hs : q ≠ 0 ∨ (sigL [c, d] ns).any RX.special = true
      · rw [if_pos hs, if_neg]
        rintro ⟨h1, h2⟩
        rcases hs with h | h
        · omega
        · exact ha.mp h h2
      · rw [if_neg hs, if_pos]
        refine ⟨?_, ?_⟩
        · have : ¬ q ≠ 0 := fun h => hs (.inl h)
          omega
        · exact Classical.byContradiction fun h => hs (.inr (ha.mpr h))
    · rw [if_neg he]
      by_cases hs : q ≠ 0 ∨ (sigL [c, d] ns).any RX.special = true
      · rw [if_pos hs, if_neg]
        rintro ⟨h1, h2⟩
        rcases hs with h | h
        · omega
        · rw [h2] at h; cases h
      · rw [if_neg hs, if_pos]
        refine ⟨?_, ?_⟩
        · have : ¬ q ≠ 0 := fun h => hs (.inl h)
          omega
        · rw [Bool.eq_false_iff]
          exact fun h => hs (.inr h)
theorem told_eq {name v x y pair : Str} {q mk : Int} {ns : List Int} {c d : Nat} (hx : x = fmtP name v q) (hy : y.cps.toList = parL name.cps.toList pair.cps.toList mk ns) (hv : v.cps.toList = sigL pair.cps.toList ns) (hp : pair.cps.toList = [c, d]) (hc : c < 256) (hd : d < 256) (hoct : ∀ n ∈ ns, 0 ≤ n ∧ n < 256) (hm : mk = 0 ∨ mk = 1) (hq : (mk = 1 ∧ q = 1) ∨ (¬ mk = 1 ∧ q = 0)) : x = y := by
  rw [str_of hy, hx]
  unfold fmtP
  rw [hv, hp, fmt_par hoct hm hq]
end
section
theorem b64_ctr' (w : World) (ns : List Int) (pair : Str) (c d : Nat) (tb ta : Tok) (hoct : ∀ n ∈ ns, 0 ≤ n ∧ n < 256) (hlen : ns.length ≤ 20000) (hp : pair.cps.toList = [c, d]) (hc : c < 256) (hd : d < 256) :
    Ctr w 81 [.bytes (byteArr ns) tb, .bytes (byteArr (pair.cps.toList.map fun (c : Nat) => (c : Int))) ta] [] (fun _ => True) (fun r _ _ => ∃ t b, r = .bytes b t ∧ b.toList.map (fun c => c.toNat) = sigL pair.cps.toList ns ∧ b.size ≤ 60000) := by
  have e1 : byteArr (pair.cps.toList.map fun (c : Nat) => (c : Int)) = #[c.toUInt8, d.toUInt8] := by rw [hp]; rfl
  rw [e1, hp]
  have hs : (byteArr ns).size ≤ 100000 := by rw [byteArr_size]; omega
  intro p loose mean mg mb ea eb A₀ base h₀ L m s Q E B F X T hf hk hpre hret
  refine b64_ctr w (byteArr ns) c.toUInt8 d.toUInt8 tb ta hs p loose mean mg mb ea eb A₀ base h₀ L m s Q E B F X T hf hk hpre fun r h' tk' st hP => hret r h' tk' st ?_
  obtain ⟨t, rfl⟩ := hP
  refine ⟨t, _, rfl, b64_sig hoct hc hd, ?_⟩
  have h1 := b2aL_len (KBw.bInts (byteArr ns))
  rw [KBw.ints_length, byteArr_size] at h1
  rw [Array.size_map, byteArr_size]
  omega
theorem pair_in {pair : Str} {c d : Nat} (hp : pair.cps.toList = [c, d]) (hc : c < 256) (hd : d < 256) : KBa.In (pair.cps.toList.map fun (c : Nat) => (c : Int)) := by
  rw [hp]
  intro n hn
  rcases List.mem_cons.mp hn with rfl | hn
  · exact ⟨Int.natCast_nonneg c, Int.ofNat_lt.mpr hc⟩
  · rw [List.mem_singleton.mp hn]; exact ⟨Int.natCast_nonneg d, Int.ofNat_lt.mpr hd⟩
theorem pair_len {pair : Str} {c d : Nat} (hp : pair.cps.toList = [c, d]) : (pair.cps.toList.map fun (c : Nat) => (c : Int)).length ≤ 16777216 := by rw [hp, List.length_map]; exact Nat.le_of_ble_eq_true rfl
theorem val_sig {v : Str} {b : Array UInt8} {sg : List Nat} (h : v.cps.toList = (b.toList.map fun c => c.toNat).flatMap fun c => [c]) (hb : b.toList.map (fun c => c.toNat) = sg) : v.cps.toList = sg := by
  rw [h, hb]; simp
theorem val_len {v : Str} {b : Array UInt8} (h : v.cps.toList = (b.toList.map fun c => c.toNat).flatMap fun c => [c]) (hb : b.size ≤ 60000) : v.length ≤ 60000 := by
  have : v.cps.toList.length = b.size := by rw [h]; simp
  show v.cps.size ≤ 60000
  rw [← Array.length_toList, this]; exact hb
structure Hid (p : Prop) : Prop where
  un : p
theorem run_end {s₁ : Shared} {h₀ h' : Heap} {L D : Addr} {m' : Str → Option Value} {i : Nat} {own rest : List (Addr × Obj)} {ys : List Value} {ns : List Int} {tk : Nat} (F : Fr h₀ L h' m') (N : News h₀ L h' ((D, LCg.lst ys) :: rest)) (hs : ∀ p ∈ own, p ∈ (D, LCg.lst ys) :: rest)
    (hm : m' (Str.ofString "octets") = some (.ref D)) (hi : IntsAre ys ns) (hO : Oct i ns) : RunEnd h₀ L i own s₁ { s₁ with heap := h', toks := tk } :=
  ⟨h', tk, m', _, D, ys, ns, ys.length, rfl, F, N, hs, .head _, hm, hi, hO⟩
theorem fmt_ctr3 (w : World) (name v : Str) (q : Int) (t1 t2 t3 : Tok) (hn : name.length ≤ 1000) (hv : v.length ≤ 100000) : Ctr w 51 [.str name t1, .str v t2, .int q t3] [] (fun _ => True) (fun r _ _ => ∃ t x, r = .str x t ∧ x = fmtP name v q ∧ x.length ≤ name.length + 3 + 2 * v.length) := by
  intro p loose mean mg mb ea eb A₀ base h₀ L m s Q E B F X T hf hk hpre hret
  refine fmt_ctr w name v q t1 t2 t3 _ hn hv (.inl rfl) p loose mean mg mb ea eb A₀ base h₀ L m s Q E B F X T hf hk hpre fun r h' tk' st hP => hret r h' tk' st ?_
  obtain ⟨t, rfl⟩ := hP
  exact ⟨t, _, rfl, rfl, fmt_len⟩
theorem fmt_ctr2 (w : World) (name v : Str) (t1 t2 : Tok) (hn : name.length ≤ 1000) (hv : v.length ≤ 100000) : Ctr w 51 [.str name t1, .str v t2] [] (fun _ => True) (fun r _ _ => ∃ t x, r = .str x t ∧ x = fmtP name v 1 ∧ x.length ≤ name.length + 3 + 2 * v.length) := by
  intro p loose mean mg mb ea eb A₀ base h₀ L m s Q E B F X T hf hk hpre hret
  refine fmt_ctr w name v 1 t1 t2 325 _ hn hv (.inr ⟨rfl, rfl, rfl⟩) p loose mean mg mb ea eb A₀ base h₀ L m s Q E B F X T hf hk hpre fun r h' tk' st hP => hret r h' tk' st ?_
  obtain ⟨t, rfl⟩ := hP
  exact ⟨t, _, rfl, rfl, fmt_len⟩
section
local macro_rules | `(tactic| walk_at "call ref") => `(tactic| (k_here; (with_reducible show wpAny _ _ (call (Value.ref 88) _ _) _ _ _); k_dflt (refine' lev_use ?k1 ?k2 ?k3 ?k4 ?k5 ?k6 ?k7 ?_; (case k1 => k_asm); (case k2 => k_asm); (case k3 => k_asm); (case k4 => k_asm); (case k5 => k_asm); (case k6 => exact rfl); (case k7 => exact rfl); k_whole); intro q9 name9 pair9 mk9 c9 d9 u1 u2 u3 h9 tk9 hn9 hb9 hm9 hp9 hc9 hd9 hp2 F' N'; (try k_sweep); (try dsimp only)))
local macro_rules | `(tactic| walk_at "call type:bytes") => `(tactic| (k_here; (with_reducible show wpAny _ _ (call (Value.type "bytes") [Value.ref _]) _ _ _); k_dflt (refine' KBa.make_K ?k1 ?k2 ?k3 ?k4 ?k5 ?k6 ?k7 ?_; (case k1 => k_asm); (case k2 => k_asm); (case k3 => rfl); (case k4 => exact Holds1.get (by assumption) (by k_asm) (by k_asm) (by (intro p9 hp9; repeat (first | exact hp9 | apply List.Mem.tail)))); (case k5 => assumption); (case k6 => assumption); (case k7 => omega)); intro h9 t9 k9 F' N' kbaIn; (try k_sweep); (try dsimp only)))
local macro_rules | `(tactic| walk_at "call type:bytes") => `(tactic| (k_here; (with_reducible show wpAny _ _ (call (Value.type "bytes") [Value.ref _]) _ _ _); k_dflt (refine' KBa.make_K ?k1 ?k2 ?k3 ?k4 ?k5 ?k6 ?k7 ?_; (case k1 => k_asm); (case k2 => k_asm); (case k3 => rfl); (case k4 => is_list); (case k5 => assumption); (case k6 => exact pair_in (by assumption) (by assumption) (by assumption)); (case k7 => exact pair_len (by assumption))); intro h9 t9 k9 F' N' kbaIn; (try k_sweep); (try dsimp only)))
local macro_rules | `(tactic| walk_at "call ref") => `(tactic| (k_here; (with_reducible show wpAny _ _ (call (Value.ref 81) _ _) _ _ _); k_dflt (refine' (b64_ctr' _ _ _ _ _ _ _ ?q1 ?q2 ?q3 ?q4 ?q5).use ?k1 ?k2 ?k3 ?k4 ?k5 ?k6 ?k7 ?k8 ?_; (case k8 => exact True.intro); (case q1 => assumption); (case q2 => omega); (case q3 => assumption); (case q4 => assumption); (case q5 => assumption); (case k1 => k_asm); (case k2 => k_asm); (case k3 => k_asm); (case k4 => k_asm); (case k5 => k_asm); (case k6 => exact rfl); (case k7 => exact rfl); k_whole); intro r9 h9 tk9 st9 hP9 F' N'; (try k_sweep); (obtain ⟨t9, b9, e9, hb9, hs9⟩ := hP9); (subst e9); (try dsimp only)))
local macro_rules | `(tactic| walk_at "call ref") => `(tactic| (k_here; (with_reducible show wpAny _ _ (call (Value.ref 51) [_, _] _) _ _ _); (have hv9 := val_sig (by assumption) (by assumption)); (have hv8 := val_len (by assumption) (by assumption)); k_dflt (refine' (fmt_ctr2 _ _ _ _ _ ?q1 ?q2).use ?k1 ?k2 ?k3 ?k4 ?k5 ?k6 ?k7 ?k8 ?_; (case k8 => exact True.intro); (case q1 => omega); (case q2 => omega); (case k1 => k_asm); (case k2 => k_asm); (case k3 => k_asm); (case k4 => k_asm); (case k5 => k_asm); (case k6 => exact rfl); (case k7 => exact rfl); k_whole); intro r9 h9 tk9 st9 hP9 F' N'; (try k_sweep); (obtain ⟨t9, x9, e9, hx9, hl9⟩ := hP9); (subst e9); (try dsimp only)))
local macro_rules | `(tactic| walk_at "call ref") => `(tactic| (k_here; (with_reducible show wpAny _ _ (call (Value.ref 51) [_, _, _] _) _ _ _); (have hv9 := val_sig (by assumption) (by assumption)); (have hv8 := val_len (by assumption) (by assumption)); k_dflt (refine' (fmt_ctr3 _ _ _ _ _ _ _ ?q1 ?q2).use ?k1 ?k2 ?k3 ?k4 ?k5 ?k6 ?k7 ?k8 ?_; (case k8 => exact True.intro); (case q1 => omega); (case q2 => omega); (case k1 => k_asm); (case k2 => k_asm); (case k3 => k_asm); (case k4 => k_asm); (case k5 => k_asm); (case k6 => exact rfl); (case k7 => exact rfl); k_whole); intro r9 h9 tk9 st9 hP9 F' N'; (try k_sweep); (obtain ⟨t9, x9, e9, hx9, hl9⟩ := hP9); (subst e9); (try dsimp only)))
local macro_rules | `(tactic| walk_at "call ref") => `(tactic| (k_here; (with_reducible show wpAny _ _ (call (Value.ref 100) _ _) _ _ _); k_dflt (refine' (par_ctr _ _ _ _ _ _ _ _ _ _ ?q1 ?q2 ?q3 ?q4 ?q5).use ?k1 ?k2 ?k3 ?k4 ?k5 ?k6 ?k7 ?k8 ?_; (case k8 => exact Holds1.get (by assumption) (by k_asm) (by k_asm) (by (intro p9 hp9; repeat (first | exact hp9 | apply List.Mem.tail)))); (case q1 => assumption); (case q2 => omega); (case q3 => assumption); (case q4 => assumption); (case q5 => omega); (case k1 => k_asm); (case k2 => k_asm); (case k3 => k_asm); (case k4 => k_asm); (case k5 => k_asm); (case k6 => exact rfl); (case k7 => exact rfl); k_whole); intro r9 h9 tk9 st9 hP9 F' N'; (try k_sweep); (obtain ⟨t9, x9, e9, hx9⟩ := hP9); (subst e9); (try dsimp only)))
local macro_rules | `(tactic| walk_at "CompEnd") => `(tactic| (k_dflt (refine' LCg.CompEnd.intro ?c1 ?c2 _ (fun _ hp => hp) ?c4 trivial ?c6; (case c1 => k_asm); (case c2 => k_asm); (case c4 => assumption); (case c6 => first | exact CW.el_int | exact CW.el_str rfl))))
local macro_rules | `(tactic| walk_at "compareOp NotEq str str") => `(tactic| (k_here; (with_reducible refine' ne_same ?e ?_); (case e => exact told_eq (by assumption) (by assumption) (by assumption) (by assumption) (by assumption) (by assumption) (by assumption) (by assumption) (by first | exact .inl ⟨by assumption, rfl⟩ | exact .inr ⟨by assumption, rfl⟩)); (try dsimp only)))
local macro_rules | `(tactic| walk_at "exec Assign cons ListComp") => `(tactic| (k_here; (with_reducible show wpAny _ _ (exec (Stmt.Assign [Expr.Name (Str.ofString "octets") _] (Expr.ListComp _ [Comprehension.mk (Expr.Name (Str.ofString "sign") _) _ [] _] _ _) _) _) _ _ _); k_dflt (refine CW.Assign_ListComp_W (F₀ := by k_asm) (by rfl) (by with_unfolding_all rfl) (by with_unfolding_all rfl) (by decide) (by rfl) (by decide) (by rfl) (by rfl) (by rfl) ?_)))
set_option maxHeartbeats 8000000 in
set_option pp.maxSteps 8000 in
theorem run_ctr (w : World) (lv oc : Addr) (vs os : List Value) (ls ns : List Int) (hi : IntsAre vs ls) (hoi : IntsAre os ns) (hll : ls.length ≤ 6) (hO : Oct 0 ns) :
    Ctr1 w 105 [.ref lv, .ref oc] [] (fun h => h.IsList lv vs.toArray ∧ h.IsList oc os.toArray) (fun r _ _ => r = .bool true) := by
  unfold Ctr1
  k_fill
  intro p loose mean mg mb e1 A₀ base h₀ L m s Q E B F X T hfr hk hpre hret
  (k_dflt (refine' code_keep (binds := [(Str.ofString "levels", .ref lv), (Str.ofString "octets", .ref oc)]) ?k1 ?k2 ?k3 ?k5 ?kA ?kF ?kK ?k6 ?k7 ?k8 ?k9 ?kB ?_ ?c2 ?c3 ?c4 ?c5; (case kA => exact rfl); (case kF => assumption); (case kK => assumption); (case k1 => k_asm); (case k2 => k_asm); (case k3 => k_asm); (case k5 => k_asm); (case k6 => k_is); (case k7 => k_is); (case k8 => k_room); (case k9 => exact BindsTo.of_eq rfl); (case c5 => decide); (case kB => exact locs rfl); (case c2 => exact rfl); (case c3 => exact rfl); (case c4 => exact rfl); k_whole))
  intro g' L' h' hg' F' N' B' X' T'
  rw [← hg'] at hpre
  replace hpre := Hid.mk hpre
  replace hi := Hid.mk hi
  replace hoi := Hid.mk hoi
  (try dsimp only)
  (try k_fold)
  k_steps
  (k_dflt (refine' For_invV g' ?f1 ?f2 ?_ ?f3 ?f4; (case f1 => with_unfolding_all rfl); (case f2 => with_unfolding_all rfl); (case f3 => intro _; with_unfolding_all rfl); (case f4 => passes_own)))
  k_steps
  (rename Fr _ _ _ _ => F9)
  refine run_loop (hh := rfl) hpre.un.1 hi.un F9 hpre.un.2 hoi.un hO (by with_unfolding_all rfl) ?_ ?_
  · clear F9 hret hpre hi hoi
    (try clear N')
    intro i n t m₁ h tk own o os' ns' hil hH hI' hO' F9 N9
    have hlb := bnd_le i (by omega)
    have hln := hO'.len
    have hoct := hO'.oct
    have hkin : KBa.In ns' := hO'.oct
    clear hO'
    dsimp only
    (try k_fold)
    k_steps
    all_goals (
      (rename Fr _ _ _ _ => F8)
      (rename News _ _ _ _ => N8)
      exact run_end F8 N8 (by (intro p9 hp9; repeat (first | exact hp9 | apply List.Mem.tail))) (by with_unfolding_all rfl) (by assumption) (told_oct (by assumption) (by assumption) (by assumption) (by assumption) (by assumption) (by assumption) (by assumption) (by assumption) (by assumption)))
  · clear F9
    intro m₁ h tk F9
    have N9 : News g' L' h [] := News.nil
    dsimp only
    (try k_fold)
    k_steps
    (rename Fr _ _ _ _ => F8)
    exact hret _ _ _ (fun b o e => F8.keep b o (by rw [hg']; exact e)) rfl
end
end
section
theorem ints3 {a b c : Int} {t u v : Tok} : IntsAre [.int a t, .int b u, .int c v] [a, b, c] := .cons _ _ (.cons _ _ (.cons _ _ .nil))
theorem lev_len (ws : List Int) (a b c : Int) : (List.take 3 ws ++ [a, b, c]).length ≤ 6 := by
  rw [List.length_append, List.length_take]
  simp only [List.length_cons, List.length_nil]
  omega
theorem oct_lit : Oct 0 [23, 239, 232] := ⟨by decide, by decide⟩
theorem oct_cut (ws : List Int) (n : Nat) : Oct 0 (List.map (fun k' : Int => k'.fmod 256) (List.take (min 8 n - 4) (List.drop 4 ws))) := by
  refine ⟨?_, ?_⟩
  · rw [List.length_map, List.length_take]
    show _ ≤ 4
    omega
  · intro x hx
    obtain ⟨k, _, rfl⟩ := List.mem_map.mp hx
    have e : k.fmod 256 = k % 256 := Int.fmod_eq_emod_of_nonneg _ (by decide)
    simp only [e]
    omega
theorem run_use {w : World} {lv oc : Addr} {vs : List Value} {ls : List Int} {ob : Obj} {ep : Nat} {p : Program} {loose : List Str} {mean : ExcName → Option Value} {mg mb : Str → Option Value} {ea : Env} {A₀ : Around} {base h₀ : Heap} {L : Addr} {m : Str → Option Value} {s : Shared} {Q E : Value → Shared → Prop} {news : List (Addr × Obj)}
    (B : Below A₀ base [] h₀) (F : Fr h₀ L s.heap m) (X : (Mine.hd.heap_39 w.params).In h₀) (N : News h₀ L s.heap news) (T : Top p loose mean mg mb h₀) (hf : ea.frame = some L) (hk : ea.scope.kind = .function)
    (h1 : (lv, W.listOf vs.toArray ep) ∈ news) (hi : IntsAre vs ls) (hll : ls.length ≤ 6) (h2 : (oc, ob) ∈ news) (hob : ∃ os ns ep, ob = W.listOf (os : List Value).toArray ep ∧ IntsAre os ns ∧ Oct 0 ns)
    (ret : ∀ h' tk', Fr h₀ L h' m → News h₀ L h' news → Q (.bool true) { s with heap := h', toks := tk' }) :
    wpAny (model PySem.Challenge.rw_nb0020_01.row.prog w) (callerA.deeper ea) (call (.ref 105) [.ref lv, .ref oc] []) Q E s := by
  obtain ⟨os, ns, ep2, rfl, ho, hO⟩ := hob
  refine (run_ctr w lv oc vs os ls ns hi ho hll hO).use B F X N T hf hk ⟨⟨_, (N _ h1).1, rfl, ep, rfl⟩, ⟨_, (N _ h2).1, rfl, ep2, rfl⟩⟩ ?_
  rintro r h' tk' st rfl F' N'
  exact ret h' tk' F' N'
section
local macro_rules | `(tactic| walk_at "call ref") => `(tactic| (k_here; (with_reducible show wpAny _ _ (call (Value.ref 105) _ _) _ _ _); k_dflt (refine' run_use ?k1 ?k2 ?k3 ?k4 ?k5 ?k6 ?k7 ?q1 ?q2 ?q3 ?q4 ?q5 ?_; (case k1 => k_asm); (case k2 => k_asm); (case k3 => k_asm); (case k4 => k_asm); (case k5 => k_asm); (case k6 => exact rfl); (case k7 => exact rfl); (case q1 => exact List.Mem.head _); (case q2 => assumption); (case q3 => exact lev_len _ _ _ _); (case q4 => k_mem); (case q5 => first | exact ⟨_, _, _, rfl, ints3, oct_lit⟩ | exact ⟨_, _, _, rfl, by assumption, oct_cut _ _⟩); k_whole); intro h9 tk9 F' N'; (try k_sweep); (try dsimp only)))
set_option maxHeartbeats 8000000 in
theorem top : PySem.Challenge.rw_nb0020_01.Holds := Mine.hd (by
  w_strict (
    k_go0
    (all_goals try k_fold)
    k_steps))
end
end
end
end
end Mine
theorem PySem.Challenge.cw_nb0020_01_holds : PySem.Challenge.rw_nb0020_01.Holds :=
  Mine.top
