import PyProof.Rows.All
import Wide.All
import OpenK.AllK
import Wide.FinOn
import Lean
import PySem.Challenge.RW_sc0001_01
set_option Elab.async false
set_option linter.all false
section
open PySem PySem.W PyProof.Rows PySem.Calls
namespace Mine

-- part Hd
set_option maxRecDepth 100000 in
set_option maxHeartbeats 8000000 in
set_option synthInstance.maxSize 1 in
open_top hd for PySem.Challenge.rw_sc0001_01

-- part M0
theorem offM0 : True := by w_top off; trivial
abbrev Ext (h h' : Heap) : Prop := ∀ b o, h.get? b = some o → h'.get? b = some o

/-- what stands in every heap -/
structure Gd (w : World) (mean : ExcName → Option Value) (mg mb : Str → Option Value) (h : Heap) : Prop where
  k : (Mine.hd.heap_39 w.params).In h
  t : Top Mine.hd.view_39 (looseW Mine.hd.view_39 [Str.ofString "insort_right", Str.ofString "bisect_right", Str.ofString "insort_left", Str.ofString "bisect_left"]) mean mg mb h
theorem Gd.keeps {w mean mg mb h h'} (G : Gd w mean mg mb h) (k : Ext h h') : Gd w mean mg mb h' := ⟨G.k.keeps k, G.t.keeps k⟩

theorem call_ro {prog : Program} {w : World} {A : Around} {s : Shared} {E Q : Value → Shared → Prop} {K : Frag} {p : Program} {loose : List Str} {mean : ExcName → Option Value} {mg mb : Str → Option Value}
    {name qual : Str} {params : Arguments} {body : List Stmt} {scope : Scope} {dV kV doc pm cdv ct oc : Value} {an od : Option Addr} {osl : Array (Option Value)} {f : Addr} {pos : List Value} {kw : List (Str × Value)} {binds : List (Str × Value)}
    (X : K.In s.heap) (T : Top p loose mean mg mb s.heap)
    (ho : K.lookup f = some ⟨oc, od, .func (fnOf name qual params body scope dV kV doc pm an cdv ct), osl⟩) (hcd : codeIn K cdv qual = true) (hroom : A.depth < recursionLimit)
    (hbind : BindsTo s (fnOf name qual params body scope dV kV doc pm an cdv ct) ⟨pos, kw⟩ binds) (hloc : ∀ y ∈ binds, scope.names.lookup y.1 = some .local)
    (h : ∀ L h₁, Fr s.heap L h₁ (fun y => binds.reverse.lookup y) → News s.heap L h₁ [] →
      wpAny (model prog w) (A.deeper (envOf qual scope L f cdv)) (execs body (envOf qual scope L f cdv))
        (fun fl s' => Q (match fl with | .ret v => v | _ => .none) s') (fun _ _ => False)
        { s with heap := h₁, toks := s.toks + binds.length })
    (hco : scope.isCoroutine = false) (hgen : scope.isGenerator = false) (hk : scope.kind = .function)
    (hcell : ∀ x ∈ scope.names, x.2 ≠ .cell) : wpAny (model prog w) A (call (.ref f) pos kw) Q E s := by
  refine wpAny_call ?_
  refine codeAny_call_def (fd := fnOf name qual params body scope dV kV doc pm an cdv ct) (body := body) (binds := binds) hroom (X _ _ ho) rfl T.nolimit (codeRec_of X hcd) rfl hbind hcell hloc (fun h₁ hns hk₁ => ?_) hco hgen hk
  refine wpAny_mono (h s.heap.objs.size h₁ ⟨hns, hk₁, Nat.le_refl _⟩ News.nil) (fun fl s' q => ?_) fun _ _ x => x.elim
  exact q

-- part B1
theorem offB1 : True := by w_top off; trivial
theorem st1 {M A Q E s x1 x2 x3 x4 x5} (h : wpAny M A (exec (Stmt.While x1 x2 x3 x4) x5) Q E s) : wpAny M A (exec (Stmt.While x1 x2 x3 x4) x5) Q E s := h
theorem st2 {M A Q E s x1 x2 x3 x4 x5 x6} (h : wpAny M A (exec (Stmt.For x1 x2 x3 x4 x5) x6) Q E s) : wpAny M A (exec (Stmt.For x1 x2 x3 x4 x5) x6) Q E s := h
theorem st3 {M A Q E s x1 x2 x3} (h : wpAny M A (call (Value.ref x1) x2 x3) Q E s) : wpAny M A (call (Value.ref x1) x2 x3) Q E s := h
local macro_rules | `(tactic| walk_at "G") => `(tactic| fail_if_success (with_reducible first | refine' st1 ?_ | refine' st2 ?_ | refine' st3 ?_))
local macro_rules | `(tactic| walk_at "M") => `(tactic| first | with_reducible assumption | exact rfl | exact if_pos rfl | (refine (if_neg (by decide)).trans ?_; walk_at "M"))
local macro_rules | `(tactic| walk_at "eval Name") => `(tactic| (k_here; k_dflt (refine' ld ?k1 ?k2 ?_; (case k1 => k_asm); (case k2 => walk_at "M"); k_whole)))
section
local macro_rules | `(tactic| walk_at "SI") => `(tactic| repeat' ((fail_if_success (with_reducible show wpAny _ _ (exec (Stmt.If _ _ _ _) _) _ _ _)); walk_at "G"; first | (k_unfold; (try dsimp only)) | walk1 | (dsimp only; walk1)))
local macro_rules | `(tactic| walk_at "S") => `(tactic| repeat' (walk_at "G"; first | (k_unfold; (try dsimp only)) | walk1 | (dsimp only; walk1)))
/-- a join behind a statement that branches -/
theorem cutk {M : Model} {A : Around} {α : Type} {t : Sem α} {E : Value → Shared → Prop} {s : Shared} {Q : α → Shared → Prop} (J : (α → Shared → Prop) → Prop) (h1 : ∀ Q', J Q' → wpAny M A t Q' E s) (h2 : J Q) : wpAny M A t Q E s := h1 Q h2
/-- a cut in continuation form -/
theorem cutp {G : Prop} (P : Prop → Prop) (h1 : ∀ G, P G → G) (h2 : P G) : G := h1 G h2
/-- the goal aside -/
theorem hold {G : Prop} (k : ¬ G → False) : G := Classical.byContradiction k
structure Room (A : Around) (d u : Nat) : Prop where
  h : A.handled = none
  d : A.depth + d < recursionLimit
  u : A.units + u < cLine
theorem Room.deeper {A : Around} {d u : Nat} (R : Room A (d + 1) (u + 3)) (env : Env) : Room (A.deeper env) d u := ⟨R.h, by have := R.d; show A.depth + 1 + d < _; omega, by have := R.u; show A.units + 3 + u < _; omega⟩
theorem Room.le {A : Around} {d u d' u' : Nat} (R : Room A d u) (h : d' ≤ d := by omega) (h' : u' ≤ u := by omega) : Room A d' u' := ⟨R.h, by have := R.d; omega, by have := R.u; omega⟩

/-- a pair in the heap -/
def PairAt (h : Heap) (v : Value) (p : Int × Int) : Prop := ∃ a t t', v = .ref a ∧ IsTup h a #[.int p.1 t, .int p.2 t']
theorem PairAt.keeps {h h' : Heap} {v p} (P : PairAt h v p) (k : Ext h h') : PairAt h' v p := by
  obtain ⟨a, t, t', e, x⟩ := P
  exact ⟨a, t, t', e, x.keeps k⟩

/-- an item of a row: an int alone (b = false), or a pair -/
def IV (b : Bool) (h : Heap) (v : Value) (p : Int × Int) : Prop := match b with
  | false => p.1 = 0 ∧ ∃ t, v = .int p.2 t
  | true => PairAt h v p
theorem IV.keeps {b : Bool} {h h' : Heap} {v p} (P : IV b h v p) (k : Ext h h') : IV b h' v p := by
  cases b
  · exact P
  · exact PairAt.keeps P k
noncomputable def byV (b : Bool) : Value := match b with
  | false => .none
  | true => .ref 57

def ItemsAt (b : Bool) (h : Heap) (vs : List Value) (ps : List (Int × Int)) : Prop := vs.length = ps.length ∧ ∀ (i : Nat) (v : Value) (p : Int × Int), vs[i]? = some v → ps[i]? = some p → IV b h v p
theorem ItemsAt.keeps {b : Bool} {h h' : Heap} {vs ps} (P : ItemsAt b h vs ps) (k : Ext h h') : ItemsAt b h' vs ps := ⟨P.1, fun i v p h1 h2 => (P.2 i v p h1 h2).keeps k⟩
theorem intsAre_get : ∀ {vs : List Value} {xs : List Int}, vs.length = xs.length → (∀ (i : Nat) (v : Value) (x : Int), vs[i]? = some v → xs[i]? = some x → ∃ t, v = .int x t) → IntsAre vs xs
  | [], [], _, _ => .nil
  | [], _ :: _, h, _ => by cases h
  | _ :: _, [], h, _ => by cases h
  | v :: vs, x :: xs, h, g => by
    obtain ⟨t, rfl⟩ := g 0 v x rfl rfl
    exact .cons x t (intsAre_get (by simpa using h) fun i v x h1 h2 => g (i + 1) v x (by simpa using h1) (by simpa using h2))
theorem ItemsAt.ints {h : Heap} {vs ps} (P : ItemsAt false h vs ps) : IntsAre vs (ps.map (·.2)) := by
  refine intsAre_get (by simpa using P.1) fun i v x h1 h2 => ?_
  rw [List.getElem?_map] at h2
  cases hp : ps[i]? with
  | none => rw [hp] at h2; cases h2
  | some p =>
    rw [hp] at h2
    obtain ⟨_, t, e⟩ := P.2 i v p h1 hp
    exact ⟨t, by rw [e]; cases h2; rfl⟩

set_option maxRecDepth 100000 in
set_option maxHeartbeats 4000000 in
theorem second_spec {w : World} {mean mg mb} {A : Around} {E : Value → Shared → Prop} {Q : Value → Shared → Prop} {s : Shared} {v : Value} {p : Int × Int}
    (G : Gd w mean mg mb s.heap) (R : Room A 1 8) (P : PairAt s.heap v p)
    (ret : ∀ h' tk t, Ext s.heap h' → Q (.int p.2 t) { s with heap := h', toks := tk }) :
    wpAny (model Challenge.rw_sc0001_01.row.prog w) A (call (.ref 57) [v]) Q E s := by
  obtain ⟨KX, T⟩ := G
  obtain ⟨hA, hd, hu⟩ := R
  obtain ⟨a, t, t', rfl, hp⟩ := P
  revert KX; k_fill; intro KX
  refine' call_ro (binds := [("pair", .ref a)]) KX T ?h1 ?h2 ?h3 ?h4 ?h5 ?h6 ?c1 ?c2 ?c3 ?c4
  case h1 => k_is
  case h2 => k_is
  case h3 => omega
  case h4 => exact kp_binds KX (fun _ => rfl)
  case h5 => exact locs rfl
  case c1 => rfl
  case c2 => rfl
  case c3 => rfl
  case c4 => decide
  case h6 =>
   intro L h₁ F N
   walk_at "S"
   exact ret _ _ _ F.keep

noncomputable def bR (xs : List Int) (x : Int) : Nat → Nat → Nat → Nat
  | 0, lo, _ => lo
  | n + 1, lo, hi => if lo < hi then (if x < xs.getD ((lo + hi) / 2) 0 then bR xs x n lo ((lo + hi) / 2) else bR xs x n ((lo + hi) / 2 + 1) hi) else lo
theorem bR_stop {xs x} {lo hi : Nat} (h : ¬ lo < hi) : ∀ n, bR xs x n lo hi = lo
  | 0 => rfl
  | n + 1 => by rw [bR, if_neg h]
theorem bR_go {xs : List Int} {x : Int} {n lo hi : Nat} (h : lo < hi) : bR xs x (n + 1) lo hi = if x < xs.getD ((lo + hi) / 2) 0 then bR xs x n lo ((lo + hi) / 2) else bR xs x n ((lo + hi) / 2 + 1) hi := by
  rw [bR, if_pos h]
noncomputable def bL (xs : List Int) (x : Int) : Nat → Nat → Nat → Nat
  | 0, lo, _ => lo
  | n + 1, lo, hi => if lo < hi then (if xs.getD ((lo + hi) / 2) 0 < x then bL xs x n ((lo + hi) / 2 + 1) hi else bL xs x n lo ((lo + hi) / 2)) else lo
theorem bL_stop {xs x} {lo hi : Nat} (h : ¬ lo < hi) : ∀ n, bL xs x n lo hi = lo
  | 0 => rfl
  | n + 1 => by rw [bL, if_neg h]
theorem bL_go {xs : List Int} {x : Int} {n lo hi : Nat} (h : lo < hi) : bL xs x (n + 1) lo hi = if xs.getD ((lo + hi) / 2) 0 < x then bL xs x n ((lo + hi) / 2 + 1) hi else bL xs x n lo ((lo + hi) / 2) := by
  rw [bL, if_pos h]
theorem half_nat {a b : Int} (ha : 0 ≤ a) (hb : 0 ≤ b) : ((a + b).fdiv 2).toNat = (a.toNat + b.toNat) / 2 := by
  obtain ⟨m, rfl⟩ := Int.eq_ofNat_of_zero_le ha
  obtain ⟨n, rfl⟩ := Int.eq_ofNat_of_zero_le hb
  rw [Int.fdiv_eq_ediv_of_nonneg _ (by decide)]
  rfl
theorem half_le {a b : Int} (ha : 0 ≤ a) (hb : a < b) : a ≤ (a + b).fdiv 2 ∧ (a + b).fdiv 2 < b := by
  rw [Int.fdiv_eq_ediv_of_nonneg _ (by omega)]
  omega

/-- the bound said: None (the length), or an int -/
def HiAt (v : Value) (n : Nat) (hi : Int) : Prop := (v = .none ∧ hi = n) ∨ ∃ t, v = .int hi t

theorem item_any {prog w A E s} {value slice : PySem.Expr} {l : Addr} {vs : List Value} {k : Int} {u : Tok} {Q : Value → Shared → Prop}
    (hl : s.heap.IsList l vs.toArray) (h0 : 0 ≤ k) (hlt : k < vs.length) (hhi : k < 2 ^ 63) (h : ∀ v, vs[k.toNat]? = some v → Q v s)
    (hs : subscripted slice false (.ref l) (.int k u) = operate [.ref l, .int k u] (getItem (.ref l) (.int k u)) := by with_unfolding_all rfl) :
    wpAny (model prog w) A (subscriptTail value slice (.ref l) (.int k u)) Q E s := by
  have hx : vs[k.toNat]? = some (vs[k.toNat]'(by (clear hhi; omega))) := List.getElem?_eq_getElem (by (clear hhi; omega))
  exact tail_any hl.typeIs slot_list_getitem.lookup (wpAny_getItem_list hl h0 hhi (by simpa using hx) (h _ hx)) hs
theorem len_any {prog w A E s} {l : Addr} {vs : List Value} {n : Nat} {Q : Value → Shared → Prop} (hl : s.heap.IsList l vs.toArray) (hn : vs.length = n) (hf : n < 2 ^ 62)
    (h : ∀ t tk, Q (.int n t) { s with toks := tk }) : wpAny (model prog w) A (call (.builtin "len") [.ref l]) Q E s := by
  subst hn
  refine len_list hl (by simp; omega) ?_
  have e : vs.toArray.size = vs.length := by simp
  rw [e]
  exact h _ _

/-- between the turns of a search -/
inductive BisJ (l : Addr) (x : Int) (t1 : Tok) (kv : Value) (len : Nat) (go : Nat → Nat → Nat → Nat) (res : Nat) (n : Nat) (m : Str → Option Value) (news : List (Addr × Obj)) : Prop
  | mk (a b : Int) (t t' : Tok) (f : Nat) (ml : m (Str.ofString "lo") = some (.int a t)) (mh : m (Str.ofString "hi") = some (.int b t')) (ma : m (Str.ofString "a") = some (.ref l)) (mx : m (Str.ofString "x") = some (.int x t1))
    (mk : m (Str.ofString "key") = some kv) (e : news = []) (ha : 0 ≤ a) (hb : 0 ≤ b) (hbl : b ≤ len) (hn : n = (b - a).toNat) (hf : n ≤ f) (he : go f a.toNat b.toNat = res) : BisJ l x t1 kv len go res n m news

set_option maxRecDepth 100000 in
set_option maxHeartbeats 4000000 in
theorem bisR_none {w : World} {mean mg mb} {A : Around} {E : Value → Shared → Prop} {Q : Value → Shared → Prop} {s : Shared} {l : Addr} {vs : List Value} {xs : List Int} {x : Int} {lo hi : Int} {t1 t2 : Tok} {hv : Value} {pos : List Value} {kw : List (Str × Value)}
    (G : Gd w mean mg mb s.heap) (R : Room A 2 16)
    (hl : s.heap.IsList l vs.toArray) (hI : IntsAre vs xs) (h0 : 0 ≤ lo) (hH : HiAt hv xs.length hi) (h1 : 0 ≤ hi) (hh : hi ≤ xs.length) (hsz : xs.length < 1000)
    (hp : (pos = [.ref l, .int x t1, .int lo t2, hv] ∧ kw = []) ∨ (pos = [.ref l, .int x t1, .int lo t2, hv] ∧ kw = [(Str.ofString "key", .none)]) ∨ (pos = [.ref l, .int x t1, .int lo t2] ∧ kw = [(Str.ofString "key", .none)] ∧ hv = .none))
    (ret : ∀ h' tk t, Ext s.heap h' → Q (.int (bR xs x xs.length lo.toNat hi.toNat) t) { s with heap := h', toks := tk }) :
    wpAny (model Challenge.rw_sc0001_01.row.prog w) A (call (.ref 32) pos kw) Q E s := by
  have G0 := G
  obtain ⟨KX, T⟩ := G
  have R0 := R
  obtain ⟨hA, hd, hu⟩ := R
  revert KX; k_fill; intro KX
  refine' call_ro (binds := [("a", .ref l), ("x", .int x t1), ("lo", .int lo t2), ("hi", hv), ("key", .none)]) KX T ?h1 ?h2 ?h3 ?h4 ?h5 ?h6 ?c1 ?c2 ?c3 ?c4
  case h1 => k_is
  case h2 => k_is
  case h3 => (clear h0 h1 hh hsz hu; omega)
  case h4 => rcases hp with ⟨rfl, rfl⟩ | ⟨rfl, rfl⟩ | ⟨rfl, rfl, rfl⟩ <;> exact kp_binds KX (fun _ => rfl)
  case h5 => exact locs rfl
  case c1 => rfl
  case c2 => rfl
  case c3 => rfl
  case c4 => decide
  case h6 =>
   clear hp
   skip
   intro L h₁ F N
   walk_at "SI"
   walk1
   walk_at "SI"
   refine cutk (J := fun Q' => ∀ h' tk m', Fr s.heap L h' m' → News s.heap L h' [] → m' (Str.ofString "lo") = some (.int lo t2) → (∃ t, m' (Str.ofString "hi") = some (.int hi t)) → m' (Str.ofString "a") = some (.ref l) → m' (Str.ofString "x") = some (.int x t1) → m' (Str.ofString "key") = some .none → Q' .next { s with heap := h', toks := tk }) (fun Q' k => ?_) ?_
   · rcases hH with ⟨rfl, eH⟩ | ⟨t3, rfl⟩
     · walk1
       walk_at "S"
       (rename Fr _ _ _ _ => F9; rename News _ _ _ _ => N9)
       exact k _ _ _ F9 N9 rfl ⟨_, by rw [eH]; rfl⟩ rfl rfl rfl
     · walk1
       walk_at "S"
       (rename Fr _ _ _ _ => F9; rename News _ _ _ _ => N9)
       exact k _ _ _ F9 N9 rfl ⟨_, rfl⟩ rfl rfl rfl
   clear F N hH
   intro h' tk m' F N mlo h9 ma mx mk
   obtain ⟨t3, mhi⟩ := h9
   (try dsimp only)
   walk_at "S"
   (rename Fr _ _ _ _ => F9; rename News _ _ _ _ => N9)
   refine' While_inv (BisJ l x t1 .none xs.length (bR xs x) (bR xs x xs.length lo.toNat hi.toNat)) (n₀ := (hi - lo).toNat) F9 N9 ⟨lo, hi, _, _, xs.length, mlo, mhi, ma, mx, mk, rfl, h0, h1, hh, rfl, by (clear h1 hsz hd hu; omega), rfl⟩ ?_
   clear F9 N9 mlo mhi ma mx mk
   rintro n m₁ news₁ h₁' tk₁ F₁ N₁ ⟨a, b, t, t', f, ml, mh, ma, mx, mk, rfl, ha, hb, hbl, hn, hf, he⟩
   have hhf : a < b → a ≤ (a + b).fdiv 2 ∧ (a + b).fdiv 2 < b := half_le ha
   walk_at "S"
   · (rename Fr _ _ _ _ => F8; rename News _ _ _ _ => N8; rename a < b => hab)
     have hhf := half_le ha hab
     have hc : x < xs.getD ((a + b).fdiv 2).toNat 0 := by assumption
     refine WhileStep.intro (n' := ((a + b).fdiv 2 - a).toNat) F8 N8 (by (clear h0 h1 hh hsz hd hu ha hb hbl hf he hhf hc; omega)) ⟨a, (a + b).fdiv 2, _, _, f - 1, by walk_at "M", by walk_at "M", by walk_at "M", by walk_at "M", by walk_at "M", rfl, ha, by (clear h0 h1 hh hsz hd hu hb hbl hn hf he hab hc; omega), by (clear h0 h1 hh hsz hd hu ha hb hn hf he hab hc; omega), rfl, by (clear h0 h1 hh hsz hd hu ha hb hbl he hhf hc; omega), ?_⟩
     obtain ⟨f, rfl⟩ : ∃ k, f = k + 1 := ⟨f - 1, by (clear h0 h1 hh hsz hd hu ha hb hbl he hhf hc; omega)⟩
     rw [bR_go (by (clear h0 h1 hh hsz hd hu hb hbl hn hhf hc hf he; omega)), ← half_nat ha hb, if_pos hc] at he
     skip
     exact he
   · (rename Fr _ _ _ _ => F8; rename News _ _ _ _ => N8; rename a < b => hab)
     have hhf := half_le ha hab
     have hc : ¬ x < xs.getD ((a + b).fdiv 2).toNat 0 := by assumption
     refine WhileStep.intro (n' := (b - ((a + b).fdiv 2 + 1)).toNat) F8 N8 (by (clear h0 h1 hh hsz hd hu ha hb hbl hf he hhf hc; omega)) ⟨(a + b).fdiv 2 + 1, b, _, _, f - 1, by walk_at "M", by walk_at "M", by walk_at "M", by walk_at "M", by walk_at "M", rfl, by (clear h0 h1 hh hsz hd hu hb hbl hn hf he hab hc; omega), hb, hbl, rfl, by (clear h0 h1 hh hsz hd hu ha hb hbl he hhf hc; omega), ?_⟩
     obtain ⟨f, rfl⟩ : ∃ k, f = k + 1 := ⟨f - 1, by (clear h0 h1 hh hsz hd hu ha hb hbl he hhf hc; omega)⟩
     rw [bR_go (by (clear h0 h1 hh hsz hd hu hb hbl hn hhf hc hf he; omega)), ← half_nat ha hb, if_neg hc] at he
     have e8 : ((a + b).fdiv 2 + 1).toNat = ((a + b).fdiv 2).toNat + 1 := by (clear h0 h1 hh hsz hd hu hb hbl hn hab hc hf he; omega)
     show bR xs x f ((a + b).fdiv 2 + 1).toNat b.toNat = _
     rw [e8]
     exact he
   · (rename ¬ a < b => hab)
     rw [bR_stop (by (clear h0 h1 hh hsz hd hu ha hb hbl hn hf he hhf; omega))] at he
     have hr := ret
     rw [← he] at hr
     have e9 : ((a.toNat : Nat) : Int) = a := by (clear h0 h1 hh hsz hd hu hb hbl hn hf he hhf hab; omega)
     rw [e9] at hr
     (rename Fr _ _ _ _ => F8)
     exact hr _ _ _ F8.keep

set_option maxRecDepth 100000 in
set_option maxHeartbeats 4000000 in
theorem bisL_none {w : World} {mean mg mb} {A : Around} {E : Value → Shared → Prop} {Q : Value → Shared → Prop} {s : Shared} {l : Addr} {vs : List Value} {xs : List Int} {x : Int} {lo hi : Int} {t1 t2 : Tok} {hv : Value} {pos : List Value} {kw : List (Str × Value)}
    (G : Gd w mean mg mb s.heap) (R : Room A 2 16)
    (hl : s.heap.IsList l vs.toArray) (hI : IntsAre vs xs) (h0 : 0 ≤ lo) (hH : HiAt hv xs.length hi) (h1 : 0 ≤ hi) (hh : hi ≤ xs.length) (hsz : xs.length < 1000)
    (hp : (pos = [.ref l, .int x t1, .int lo t2, hv] ∧ kw = []) ∨ (pos = [.ref l, .int x t1, .int lo t2, hv] ∧ kw = [(Str.ofString "key", .none)]) ∨ (pos = [.ref l, .int x t1, .int lo t2] ∧ kw = [(Str.ofString "key", .none)] ∧ hv = .none))
    (ret : ∀ h' tk t, Ext s.heap h' → Q (.int (bL xs x xs.length lo.toNat hi.toNat) t) { s with heap := h', toks := tk }) :
    wpAny (model Challenge.rw_sc0001_01.row.prog w) A (call (.ref 50) pos kw) Q E s := by
  have G0 := G
  obtain ⟨KX, T⟩ := G
  have R0 := R
  obtain ⟨hA, hd, hu⟩ := R
  revert KX; k_fill; intro KX
  refine' call_ro (binds := [("a", .ref l), ("x", .int x t1), ("lo", .int lo t2), ("hi", hv), ("key", .none)]) KX T ?h1 ?h2 ?h3 ?h4 ?h5 ?h6 ?c1 ?c2 ?c3 ?c4
  case h1 => k_is
  case h2 => k_is
  case h3 => (clear h0 h1 hh hsz hu; omega)
  case h4 => rcases hp with ⟨rfl, rfl⟩ | ⟨rfl, rfl⟩ | ⟨rfl, rfl, rfl⟩ <;> exact kp_binds KX (fun _ => rfl)
  case h5 => exact locs rfl
  case c1 => rfl
  case c2 => rfl
  case c3 => rfl
  case c4 => decide
  case h6 =>
   clear hp
   skip
   intro L h₁ F N
   walk_at "SI"
   walk1
   walk_at "SI"
   refine cutk (J := fun Q' => ∀ h' tk m', Fr s.heap L h' m' → News s.heap L h' [] → m' (Str.ofString "lo") = some (.int lo t2) → (∃ t, m' (Str.ofString "hi") = some (.int hi t)) → m' (Str.ofString "a") = some (.ref l) → m' (Str.ofString "x") = some (.int x t1) → m' (Str.ofString "key") = some .none → Q' .next { s with heap := h', toks := tk }) (fun Q' k => ?_) ?_
   · rcases hH with ⟨rfl, eH⟩ | ⟨t3, rfl⟩
     · walk1
       walk_at "S"
       (rename Fr _ _ _ _ => F9; rename News _ _ _ _ => N9)
       exact k _ _ _ F9 N9 rfl ⟨_, by rw [eH]; rfl⟩ rfl rfl rfl
     · walk1
       walk_at "S"
       (rename Fr _ _ _ _ => F9; rename News _ _ _ _ => N9)
       exact k _ _ _ F9 N9 rfl ⟨_, rfl⟩ rfl rfl rfl
   clear F N hH
   intro h' tk m' F N mlo h9 ma mx mk
   obtain ⟨t3, mhi⟩ := h9
   (try dsimp only)
   walk_at "S"
   (rename Fr _ _ _ _ => F9; rename News _ _ _ _ => N9)
   refine' While_inv (BisJ l x t1 .none xs.length (bL xs x) (bL xs x xs.length lo.toNat hi.toNat)) (n₀ := (hi - lo).toNat) F9 N9 ⟨lo, hi, _, _, xs.length, mlo, mhi, ma, mx, mk, rfl, h0, h1, hh, rfl, by (clear h1 hsz hd hu; omega), rfl⟩ ?_
   clear F9 N9 mlo mhi ma mx mk
   rintro n m₁ news₁ h₁' tk₁ F₁ N₁ ⟨a, b, t, t', f, ml, mh, ma, mx, mk, rfl, ha, hb, hbl, hn, hf, he⟩
   have hhf : a < b → a ≤ (a + b).fdiv 2 ∧ (a + b).fdiv 2 < b := half_le ha
   walk_at "S"
   · (rename Fr _ _ _ _ => F8; rename News _ _ _ _ => N8; rename a < b => hab)
     have hhf := half_le ha hab
     have hc : xs.getD ((a + b).fdiv 2).toNat 0 < x := by assumption
     refine WhileStep.intro (n' := (b - ((a + b).fdiv 2 + 1)).toNat) F8 N8 (by (clear h0 h1 hh hsz hd hu ha hb hbl hf he hhf hc; omega)) ⟨(a + b).fdiv 2 + 1, b, _, _, f - 1, by walk_at "M", by walk_at "M", by walk_at "M", by walk_at "M", by walk_at "M", rfl, by (clear h0 h1 hh hsz hd hu hb hbl hn hf he hab hc; omega), hb, hbl, rfl, by (clear h0 h1 hh hsz hd hu ha hb hbl he hhf hc; omega), ?_⟩
     obtain ⟨f, rfl⟩ : ∃ k, f = k + 1 := ⟨f - 1, by (clear h0 h1 hh hsz hd hu ha hb hbl he hhf hc; omega)⟩
     rw [bL_go (by (clear h0 h1 hh hsz hd hu hb hbl hn hhf hc hf he; omega)), ← half_nat ha hb, if_pos hc] at he
     have e8 : ((a + b).fdiv 2 + 1).toNat = ((a + b).fdiv 2).toNat + 1 := by (clear h0 h1 hh hsz hd hu hb hbl hn hab hc hf he; omega)
     show bL xs x f ((a + b).fdiv 2 + 1).toNat b.toNat = _
     rw [e8]
     exact he
   · (rename Fr _ _ _ _ => F8; rename News _ _ _ _ => N8; rename a < b => hab)
     have hhf := half_le ha hab
     have hc : ¬ xs.getD ((a + b).fdiv 2).toNat 0 < x := by assumption
     refine WhileStep.intro (n' := ((a + b).fdiv 2 - a).toNat) F8 N8 (by (clear h0 h1 hh hsz hd hu ha hb hbl hf he hhf hc; omega)) ⟨a, (a + b).fdiv 2, _, _, f - 1, by walk_at "M", by walk_at "M", by walk_at "M", by walk_at "M", by walk_at "M", rfl, ha, by (clear h0 h1 hh hsz hd hu hb hbl hn hf he hab hc; omega), by (clear h0 h1 hh hsz hd hu ha hb hn hf he hab hc; omega), rfl, by (clear h0 h1 hh hsz hd hu ha hb hbl he hhf hc; omega), ?_⟩
     obtain ⟨f, rfl⟩ : ∃ k, f = k + 1 := ⟨f - 1, by (clear h0 h1 hh hsz hd hu ha hb hbl he hhf hc; omega)⟩
     rw [bL_go (by (clear h0 h1 hh hsz hd hu hb hbl hn hhf hc hf he; omega)), ← half_nat ha hb, if_neg hc] at he
     skip
     exact he
   · (rename ¬ a < b => hab)
     rw [bL_stop (by (clear h0 h1 hh hsz hd hu ha hb hbl hn hf he hhf; omega))] at he
     have hr := ret
     rw [← he] at hr
     have e9 : ((a.toNat : Nat) : Int) = a := by (clear h0 h1 hh hsz hd hu hb hbl hn hf he hhf hab; omega)
     rw [e9] at hr
     (rename Fr _ _ _ _ => F8)
     exact hr _ _ _ F8.keep

section
local macro_rules | `(tactic| walk_at "call builtin:len") => `(tactic| (k_here; (with_reducible show wpAny _ _ (call (Value.builtin "len") [Value.ref _]) _ _ _); (with_unfolding_all refine' len_any ?k1 ?k2 ?k3 ?_; (case k1 => is_list); (case k2 => assumption); (case k3 => omega); k_whole); intro t9 tk9))
local macro_rules | `(tactic| walk_at "subscriptTail Name Name ref int") => `(tactic| (k_here; (with_unfolding_all refine' item_any ?k1 ?k2 ?k3 ?k4 ?_ ?k6; (case k1 => is_list); (case k2 => omega); (case k3 => omega); (case k4 => omega); (case k6 => with_unfolding_all rfl); k_whole); intro v9 hv9))

set_option maxRecDepth 100000 in
set_option maxHeartbeats 4000000 in
theorem bisR_key {w : World} {mean mg mb} {A : Around} {E : Value → Shared → Prop} {Q : Value → Shared → Prop} {s : Shared} {l : Addr} {vs : List Value} {ps : List (Int × Int)} {x : Int} {lo hi : Int} {t1 t2 : Tok} {hv : Value} {pos : List Value} {kw : List (Str × Value)}
    (G : Gd w mean mg mb s.heap) (R : Room A 2 16)
    (hl : s.heap.IsList l vs.toArray) (hI : ItemsAt true s.heap vs ps) (h0 : 0 ≤ lo) (hH : HiAt hv ps.length hi) (h1 : 0 ≤ hi) (hh : hi ≤ ps.length) (hsz : ps.length < 1000)
    (hp : (pos = [.ref l, .int x t1, .int lo t2, hv] ∧ kw = [(Str.ofString "key", .ref 57)]) ∨ (pos = [.ref l, .int x t1, .int lo t2] ∧ kw = [(Str.ofString "key", .ref 57)] ∧ hv = .none))
    (ret : ∀ h' tk t, Ext s.heap h' → Q (.int (bR (ps.map (·.2)) x ps.length lo.toNat hi.toNat) t) { s with heap := h', toks := tk }) :
    wpAny (model Challenge.rw_sc0001_01.row.prog w) A (call (.ref 32) pos kw) Q E s := by
  have G0 := G
  obtain ⟨KX, T⟩ := G
  have R0 := R
  obtain ⟨hA, hd, hu⟩ := R
  revert KX; k_fill; intro KX
  refine' call_ro (binds := [("a", .ref l), ("x", .int x t1), ("lo", .int lo t2), ("hi", hv), ("key", .ref 57)]) KX T ?h1 ?h2 ?h3 ?h4 ?h5 ?h6 ?c1 ?c2 ?c3 ?c4
  case h1 => k_is
  case h2 => k_is
  case h3 => (clear h0 h1 hh hsz hu; omega)
  case h4 => rcases hp with ⟨rfl, rfl⟩ | ⟨rfl, rfl, rfl⟩ <;> exact kp_binds KX (fun _ => rfl)
  case h5 => exact locs rfl
  case c1 => rfl
  case c2 => rfl
  case c3 => rfl
  case c4 => decide
  case h6 =>
   clear hp
   have hvl : vs.length = ps.length := hI.1
   intro L h₁ F N
   walk_at "SI"
   walk1
   walk_at "SI"
   refine cutk (J := fun Q' => ∀ h' tk m', Fr s.heap L h' m' → News s.heap L h' [] → m' (Str.ofString "lo") = some (.int lo t2) → (∃ t, m' (Str.ofString "hi") = some (.int hi t)) → m' (Str.ofString "a") = some (.ref l) → m' (Str.ofString "x") = some (.int x t1) → m' (Str.ofString "key") = some (.ref 57) → Q' .next { s with heap := h', toks := tk }) (fun Q' k => ?_) ?_
   · rcases hH with ⟨rfl, eH⟩ | ⟨t3, rfl⟩
     · walk1
       walk_at "S"
       (rename Fr _ _ _ _ => F9; rename News _ _ _ _ => N9)
       exact k _ _ _ F9 N9 rfl ⟨_, by rw [eH]; rfl⟩ rfl rfl rfl
     · walk1
       walk_at "S"
       (rename Fr _ _ _ _ => F9; rename News _ _ _ _ => N9)
       exact k _ _ _ F9 N9 rfl ⟨_, rfl⟩ rfl rfl rfl
   clear F N hH
   intro h' tk m' F N mlo h9 ma mx mk
   obtain ⟨t3, mhi⟩ := h9
   (try dsimp only)
   walk_at "S"
   (rename Fr _ _ _ _ => F9; rename News _ _ _ _ => N9)
   refine' While_inv (BisJ l x t1 (.ref 57) ps.length (bR (ps.map (·.2)) x) (bR (ps.map (·.2)) x ps.length lo.toNat hi.toNat)) (n₀ := (hi - lo).toNat) F9 N9 ⟨lo, hi, _, _, ps.length, mlo, mhi, ma, mx, mk, rfl, h0, h1, hh, rfl, by (clear h1 hsz hd hu hvl; omega), rfl⟩ ?_
   clear F9 N9 mlo mhi ma mx mk
   rintro n m₁ news₁ h₁' tk₁ F₁ N₁ ⟨a, b, t, t', f, ml, mh, ma, mx, mk, rfl, ha, hb, hbl, hn, hf, he⟩
   have hhf : a < b → a ≤ (a + b).fdiv 2 ∧ (a + b).fdiv 2 < b := half_le ha
   walk_at "S"
   · (rename Fr _ _ _ _ => F8; rename a < b => hab; rename vs[_]? = some _ => hv8)
     have hhf := half_le ha hab
     have hip : ps[((a + b).fdiv 2).toNat]? = some (ps[((a + b).fdiv 2).toNat]'(by (clear h0 h1 hh hsz hd hu hvl hb hn hf he hab; omega))) := List.getElem?_eq_getElem (by (clear h0 h1 hh hsz hd hu hvl hb hn hf he hab; omega))
     have P9 : PairAt s.heap _ _ := hI.2 _ _ _ hv8 hip
     have ex : (ps.map (·.2)).getD ((a + b).fdiv 2).toNat 0 = (ps[((a + b).fdiv 2).toNat]'(by (clear h0 h1 hh hsz hd hu hb hn hf he hab; omega))).2 := by simp [hip]
     refine second_spec (G0.keeps F8.keep) ((R0.le (d' := 1 + 1) (u' := 8 + 3)).deeper _) (P9.keeps F8.keep) ?_
     intro h' tk' t8 ext
     rw [← ex]
     have F7 := F8.kept ext
     clear F8
     have N7 : News s.heap L h' [] := News.nil
     walk_at "S" 
     · (rename Fr _ _ _ _ => F8; rename News _ _ _ _ => N8)
       have hc : x < (ps.map (·.2)).getD ((a + b).fdiv 2).toNat 0 := by assumption
       refine WhileStep.intro (n' := ((a + b).fdiv 2 - a).toNat) F8 N8 (by (clear h0 h1 hh hsz hd hu hb hf he ex hc; omega)) ⟨a, (a + b).fdiv 2, _, _, f - 1, by walk_at "M", by walk_at "M", by walk_at "M", by walk_at "M", by walk_at "M", rfl, ha, by (clear h0 h1 hh hsz hd hu hb hn hf he hab ex hc; omega), by (clear h0 h1 hh hsz hd hu hb hn hf he hab ex hc; omega), rfl, by (clear h0 h1 hh hsz hd hu hb he ex hc; omega), ?_⟩
       obtain ⟨f, rfl⟩ : ∃ k, f = k + 1 := ⟨f - 1, by (clear h0 h1 hh hsz hd hu hb he ex hc; omega)⟩
       rw [bR_go (by (clear h0 h1 hh hsz hd hu hb hn hc hf he ex; omega)), ← half_nat ha hb, if_pos hc] at he
       skip
       exact he
     · (rename Fr _ _ _ _ => F8; rename News _ _ _ _ => N8)
       have hc : ¬ x < (ps.map (·.2)).getD ((a + b).fdiv 2).toNat 0 := by assumption
       refine WhileStep.intro (n' := (b - ((a + b).fdiv 2 + 1)).toNat) F8 N8 (by (clear h0 h1 hh hsz hd hu hb hf he ex hc; omega)) ⟨(a + b).fdiv 2 + 1, b, _, _, f - 1, by walk_at "M", by walk_at "M", by walk_at "M", by walk_at "M", by walk_at "M", rfl, by (clear h0 h1 hh hsz hd hu hb hn hf he hab ex hc; omega), hb, hbl, rfl, by (clear h0 h1 hh hsz hd hu hb he ex hc; omega), ?_⟩
       obtain ⟨f, rfl⟩ : ∃ k, f = k + 1 := ⟨f - 1, by (clear h0 h1 hh hsz hd hu hb he ex hc; omega)⟩
       rw [bR_go (by (clear h0 h1 hh hsz hd hu hb hn hc hf he ex; omega)), ← half_nat ha hb, if_neg hc] at he
       have e8 : ((a + b).fdiv 2 + 1).toNat = ((a + b).fdiv 2).toNat + 1 := by (clear h0 h1 hh hsz hd hu hb hn hab hc he ex; omega)
       show bR (ps.map (·.2)) x f ((a + b).fdiv 2 + 1).toNat b.toNat = _
       rw [e8]
       exact he
   · (rename ¬ a < b => hab)
     rw [bR_stop (by (clear h0 h1 hh hsz hd hu hvl ha hb hbl hn hf he hhf; omega))] at he
     have hr := ret
     rw [← he] at hr
     have e9 : ((a.toNat : Nat) : Int) = a := by (clear h0 h1 hh hsz hd hu hvl hb hbl hn hf he hhf hab; omega)
     rw [e9] at hr
     (rename Fr _ _ _ _ => F8)
     exact hr _ _ _ F8.keep

set_option maxRecDepth 100000 in
set_option maxHeartbeats 4000000 in
theorem bisL_key {w : World} {mean mg mb} {A : Around} {E : Value → Shared → Prop} {Q : Value → Shared → Prop} {s : Shared} {l : Addr} {vs : List Value} {ps : List (Int × Int)} {x : Int} {lo hi : Int} {t1 t2 : Tok} {hv : Value} {pos : List Value} {kw : List (Str × Value)}
    (G : Gd w mean mg mb s.heap) (R : Room A 2 16)
    (hl : s.heap.IsList l vs.toArray) (hI : ItemsAt true s.heap vs ps) (h0 : 0 ≤ lo) (hH : HiAt hv ps.length hi) (h1 : 0 ≤ hi) (hh : hi ≤ ps.length) (hsz : ps.length < 1000)
    (hp : (pos = [.ref l, .int x t1, .int lo t2, hv] ∧ kw = [(Str.ofString "key", .ref 57)]) ∨ (pos = [.ref l, .int x t1, .int lo t2] ∧ kw = [(Str.ofString "key", .ref 57)] ∧ hv = .none))
    (ret : ∀ h' tk t, Ext s.heap h' → Q (.int (bL (ps.map (·.2)) x ps.length lo.toNat hi.toNat) t) { s with heap := h', toks := tk }) :
    wpAny (model Challenge.rw_sc0001_01.row.prog w) A (call (.ref 50) pos kw) Q E s := by
  have G0 := G
  obtain ⟨KX, T⟩ := G
  have R0 := R
  obtain ⟨hA, hd, hu⟩ := R
  revert KX; k_fill; intro KX
  refine' call_ro (binds := [("a", .ref l), ("x", .int x t1), ("lo", .int lo t2), ("hi", hv), ("key", .ref 57)]) KX T ?h1 ?h2 ?h3 ?h4 ?h5 ?h6 ?c1 ?c2 ?c3 ?c4
  case h1 => k_is
  case h2 => k_is
  case h3 => (clear h0 h1 hh hsz hu; omega)
  case h4 => rcases hp with ⟨rfl, rfl⟩ | ⟨rfl, rfl, rfl⟩ <;> exact kp_binds KX (fun _ => rfl)
  case h5 => exact locs rfl
  case c1 => rfl
  case c2 => rfl
  case c3 => rfl
  case c4 => decide
  case h6 =>
   clear hp
   have hvl : vs.length = ps.length := hI.1
   intro L h₁ F N
   walk_at "SI"
   walk1
   walk_at "SI"
   refine cutk (J := fun Q' => ∀ h' tk m', Fr s.heap L h' m' → News s.heap L h' [] → m' (Str.ofString "lo") = some (.int lo t2) → (∃ t, m' (Str.ofString "hi") = some (.int hi t)) → m' (Str.ofString "a") = some (.ref l) → m' (Str.ofString "x") = some (.int x t1) → m' (Str.ofString "key") = some (.ref 57) → Q' .next { s with heap := h', toks := tk }) (fun Q' k => ?_) ?_
   · rcases hH with ⟨rfl, eH⟩ | ⟨t3, rfl⟩
     · walk1
       walk_at "S"
       (rename Fr _ _ _ _ => F9; rename News _ _ _ _ => N9)
       exact k _ _ _ F9 N9 rfl ⟨_, by rw [eH]; rfl⟩ rfl rfl rfl
     · walk1
       walk_at "S"
       (rename Fr _ _ _ _ => F9; rename News _ _ _ _ => N9)
       exact k _ _ _ F9 N9 rfl ⟨_, rfl⟩ rfl rfl rfl
   clear F N hH
   intro h' tk m' F N mlo h9 ma mx mk
   obtain ⟨t3, mhi⟩ := h9
   (try dsimp only)
   walk_at "S"
   (rename Fr _ _ _ _ => F9; rename News _ _ _ _ => N9)
   refine' While_inv (BisJ l x t1 (.ref 57) ps.length (bL (ps.map (·.2)) x) (bL (ps.map (·.2)) x ps.length lo.toNat hi.toNat)) (n₀ := (hi - lo).toNat) F9 N9 ⟨lo, hi, _, _, ps.length, mlo, mhi, ma, mx, mk, rfl, h0, h1, hh, rfl, by (clear h1 hsz hd hu hvl; omega), rfl⟩ ?_
   clear F9 N9 mlo mhi ma mx mk
   rintro n m₁ news₁ h₁' tk₁ F₁ N₁ ⟨a, b, t, t', f, ml, mh, ma, mx, mk, rfl, ha, hb, hbl, hn, hf, he⟩
   have hhf : a < b → a ≤ (a + b).fdiv 2 ∧ (a + b).fdiv 2 < b := half_le ha
   walk_at "S"
   · (rename Fr _ _ _ _ => F8; rename a < b => hab; rename vs[_]? = some _ => hv8)
     have hhf := half_le ha hab
     have hip : ps[((a + b).fdiv 2).toNat]? = some (ps[((a + b).fdiv 2).toNat]'(by (clear h0 h1 hh hsz hd hu hvl hb hn hf he hab; omega))) := List.getElem?_eq_getElem (by (clear h0 h1 hh hsz hd hu hvl hb hn hf he hab; omega))
     have P9 : PairAt s.heap _ _ := hI.2 _ _ _ hv8 hip
     have ex : (ps.map (·.2)).getD ((a + b).fdiv 2).toNat 0 = (ps[((a + b).fdiv 2).toNat]'(by (clear h0 h1 hh hsz hd hu hb hn hf he hab; omega))).2 := by simp [hip]
     refine second_spec (G0.keeps F8.keep) ((R0.le (d' := 1 + 1) (u' := 8 + 3)).deeper _) (P9.keeps F8.keep) ?_
     intro h' tk' t8 ext
     rw [← ex]
     have F7 := F8.kept ext
     clear F8
     have N7 : News s.heap L h' [] := News.nil
     walk_at "S" 
     · (rename Fr _ _ _ _ => F8; rename News _ _ _ _ => N8)
       have hc : (ps.map (·.2)).getD ((a + b).fdiv 2).toNat 0 < x := by assumption
       refine WhileStep.intro (n' := (b - ((a + b).fdiv 2 + 1)).toNat) F8 N8 (by (clear h0 h1 hh hsz hd hu hb hf he ex hc; omega)) ⟨(a + b).fdiv 2 + 1, b, _, _, f - 1, by walk_at "M", by walk_at "M", by walk_at "M", by walk_at "M", by walk_at "M", rfl, by (clear h0 h1 hh hsz hd hu hb hn hf he hab ex hc; omega), hb, hbl, rfl, by (clear h0 h1 hh hsz hd hu hb he ex hc; omega), ?_⟩
       obtain ⟨f, rfl⟩ : ∃ k, f = k + 1 := ⟨f - 1, by (clear h0 h1 hh hsz hd hu hb he ex hc; omega)⟩
       rw [bL_go (by (clear h0 h1 hh hsz hd hu hb hn hc hf he ex; omega)), ← half_nat ha hb, if_pos hc] at he
       have e8 : ((a + b).fdiv 2 + 1).toNat = ((a + b).fdiv 2).toNat + 1 := by (clear h0 h1 hh hsz hd hu hb hn hab hc he ex; omega)
       show bL (ps.map (·.2)) x f ((a + b).fdiv 2 + 1).toNat b.toNat = _
       rw [e8]
       exact he
     · (rename Fr _ _ _ _ => F8; rename News _ _ _ _ => N8)
       have hc : ¬ (ps.map (·.2)).getD ((a + b).fdiv 2).toNat 0 < x := by assumption
       refine WhileStep.intro (n' := ((a + b).fdiv 2 - a).toNat) F8 N8 (by (clear h0 h1 hh hsz hd hu hb hf he ex hc; omega)) ⟨a, (a + b).fdiv 2, _, _, f - 1, by walk_at "M", by walk_at "M", by walk_at "M", by walk_at "M", by walk_at "M", rfl, ha, by (clear h0 h1 hh hsz hd hu hb hn hf he hab ex hc; omega), by (clear h0 h1 hh hsz hd hu hb hn hf he hab ex hc; omega), rfl, by (clear h0 h1 hh hsz hd hu hb he ex hc; omega), ?_⟩
       obtain ⟨f, rfl⟩ : ∃ k, f = k + 1 := ⟨f - 1, by (clear h0 h1 hh hsz hd hu hb he ex hc; omega)⟩
       rw [bL_go (by (clear h0 h1 hh hsz hd hu hb hn hc hf he ex; omega)), ← half_nat ha hb, if_neg hc] at he
       skip
       exact he
   · (rename ¬ a < b => hab)
     rw [bL_stop (by (clear h0 h1 hh hsz hd hu hvl ha hb hbl hn hf he hhf; omega))] at he
     have hr := ret
     rw [← he] at hr
     have e9 : ((a.toNat : Nat) : Int) = a := by (clear h0 h1 hh hsz hd hu hvl hb hbl hn hf he hhf hab; omega)
     rw [e9] at hr
     (rename Fr _ _ _ _ => F8)
     exact hr _ _ _ F8.keep
end

/-- bisect_right, whatever the key -/
theorem bisR {w : World} {mean mg mb} {A : Around} {E : Value → Shared → Prop} {Q : Value → Shared → Prop} {s : Shared} {l : Addr} {vs : List Value} (b : Bool) {ps : List (Int × Int)} {x : Int} {lo hi : Int} {t1 t2 : Tok} {hv : Value} {pos : List Value} {kw : List (Str × Value)}
    (G : Gd w mean mg mb s.heap) (R : Room A 2 16)
    (hl : s.heap.IsList l vs.toArray) (hI : ItemsAt b s.heap vs ps) (h0 : 0 ≤ lo) (hH : HiAt hv ps.length hi) (h1 : 0 ≤ hi) (hh : hi ≤ ps.length) (hsz : ps.length < 1000)
    (hp : (pos = [.ref l, .int x t1, .int lo t2, hv] ∧ kw = [(Str.ofString "key", byV b)]) ∨ (pos = [.ref l, .int x t1, .int lo t2] ∧ kw = [(Str.ofString "key", byV b)] ∧ hv = .none))
    (ret : ∀ h' tk t, Ext s.heap h' → Q (.int (bR (ps.map (·.2)) x ps.length lo.toNat hi.toNat) t) { s with heap := h', toks := tk }) :
    wpAny (model Challenge.rw_sc0001_01.row.prog w) A (call (.ref 32) pos kw) Q E s := by
  cases b with
  | true => exact bisR_key G R hl hI h0 hH h1 hh hsz hp ret
  | false =>
    have e : (ps.map (·.2)).length = ps.length := List.length_map _
    rw [← e] at hH hh hsz ret
    exact bisR_none G R hl hI.ints h0 hH h1 hh hsz (.inr hp) ret
theorem bisL {w : World} {mean mg mb} {A : Around} {E : Value → Shared → Prop} {Q : Value → Shared → Prop} {s : Shared} {l : Addr} {vs : List Value} (b : Bool) {ps : List (Int × Int)} {x : Int} {lo hi : Int} {t1 t2 : Tok} {hv : Value} {pos : List Value} {kw : List (Str × Value)}
    (G : Gd w mean mg mb s.heap) (R : Room A 2 16)
    (hl : s.heap.IsList l vs.toArray) (hI : ItemsAt b s.heap vs ps) (h0 : 0 ≤ lo) (hH : HiAt hv ps.length hi) (h1 : 0 ≤ hi) (hh : hi ≤ ps.length) (hsz : ps.length < 1000)
    (hp : (pos = [.ref l, .int x t1, .int lo t2, hv] ∧ kw = [(Str.ofString "key", byV b)]) ∨ (pos = [.ref l, .int x t1, .int lo t2] ∧ kw = [(Str.ofString "key", byV b)] ∧ hv = .none))
    (ret : ∀ h' tk t, Ext s.heap h' → Q (.int (bL (ps.map (·.2)) x ps.length lo.toNat hi.toNat) t) { s with heap := h', toks := tk }) :
    wpAny (model Challenge.rw_sc0001_01.row.prog w) A (call (.ref 50) pos kw) Q E s := by
  cases b with
  | true => exact bisL_key G R hl hI h0 hH h1 hh hsz hp ret
  | false =>
    have e : (ps.map (·.2)).length = ps.length := List.length_map _
    rw [← e] at hH hh hsz ret
    exact bisL_none G R hl hI.ints h0 hH h1 hh hsz (.inr hp) ret
end

-- part I1
theorem offI1 : True := by w_top off; trivial
local macro_rules | `(tactic| walk_at "S") => `(tactic| repeat' (walk_at "G"; first | ((with_reducible show Frag.In _ _); first | assumption | exact Frag.In.keeps (by assumption) (Fr.keep (by assumption))) | (k_unfold; (try dsimp only)) | walk1 | (dsimp only; walk1)))
theorem call_rw {prog : Program} {w : World} {A : Around} {s : Shared} {E Q : Value → Shared → Prop} {K : Frag} {p : Program} {loose : List Str} {mean : ExcName → Option Value} {mg mb : Str → Option Value}
    {name qual : Str} {params : Arguments} {body : List Stmt} {scope : Scope} {dV kV doc pm cdv ct oc : Value} {an od : Option Addr} {osl : Array (Option Value)} {f : Addr} {pos : List Value} {kw : List (Str × Value)} {binds : List (Str × Value)}
    (news : List (Addr × Obj)) (X : K.In (hideAll s.heap (news.map (·.1)))) (T : Top p loose mean mg mb (hideAll s.heap (news.map (·.1))))
    (hN : ∀ p ∈ news, s.heap.get? p.1 = some p.2)
    (ho : K.lookup f = some ⟨oc, od, .func (fnOf name qual params body scope dV kV doc pm an cdv ct), osl⟩) (hcd : codeIn K cdv qual = true) (hroom : A.depth < recursionLimit)
    (hbind : BindsTo s (fnOf name qual params body scope dV kV doc pm an cdv ct) ⟨pos, kw⟩ binds) (hloc : ∀ y ∈ binds, scope.names.lookup y.1 = some .local)
    (h : ∀ L h₁, Fr (hideAll s.heap (news.map (·.1))) L h₁ (fun y => binds.reverse.lookup y) → News (hideAll s.heap (news.map (·.1))) L h₁ news →
      wpAny (model prog w) (A.deeper (envOf qual scope L f cdv)) (execs body (envOf qual scope L f cdv))
        (fun fl s' => Q (match fl with | .ret v => v | _ => .none) s') (fun _ _ => False)
        { s with heap := h₁, toks := s.toks + binds.length })
    (hco : scope.isCoroutine = false) (hgen : scope.isGenerator = false) (hk : scope.kind = .function)
    (hcell : ∀ x ∈ scope.names, x.2 ≠ .cell) : wpAny (model prog w) A (call (.ref f) pos kw) Q E s := by
  have st : Ext (hideAll s.heap (news.map (·.1))) s.heap := fun b o e => of_hideAll _ e
  refine wpAny_call ?_
  refine codeAny_call_def (fd := fnOf name qual params body scope dV kV doc pm an cdv ct) (body := body) (binds := binds) hroom (X.keeps st _ _ ho) rfl (T.nolimit.keeps st) (codeRec_of (X.keeps st) hcd) rfl hbind hcell hloc (fun h₁ hns hk₁ => ?_) hco hgen hk
  refine wpAny_mono (h s.heap.objs.size h₁ ⟨hns, fun b o e => hk₁ b o (st b o e), Nat.le_of_eq (hideAll_size _ _)⟩ (fun p hp => ⟨hk₁ _ _ (hN p hp), Nat.ne_of_lt (Heap.lt_size (hN p hp)), hideAll_none _ (List.mem_map_of_mem hp)⟩)) (fun fl s' q => ?_) fun _ _ x => x.elim
  exact q

/-- a list of the heap, at its place -/
abbrev LAt (h : Heap) (l : Addr) (vs : List Value) : Prop := ∃ n, h.get? l = some (PySem.W.listOf vs.toArray n)
theorem LAt.isList {h : Heap} {l : Addr} {vs : List Value} (X : LAt h l vs) : h.IsList l vs.toArray := by
  obtain ⟨n, e⟩ := X
  exact ⟨_, e, rfl, n, rfl⟩
theorem ext_hide {gb h : Heap} {as : List Addr} (k : Ext gb h) (f : ∀ a ∈ as, gb.get? a = none) : Ext gb (hideAll h as) := fun b o e =>
  hideAll_get _ (k b o e) fun m => by rw [f b m] at e; cases e
theorem PairAt.hide {h : Heap} {as : List Addr} {v p} (P : PairAt h v p) (hL : ∀ a ∈ as, ∃ vs, LAt h a vs) : PairAt (hideAll h as) v p := by
  refine hold fun hng => ?_
  obtain ⟨a, t, t', e, o, ho, hc, n, hd⟩ := P
  (refine hng ?_; clear hng)
  refine ⟨a, t, t', e, o, hideAll_get _ ho fun m => ?_, hc, n, hd⟩
  refine hold fun hng => ?_
  obtain ⟨vs, k, e2⟩ := hL a m
  (refine hng ?_; clear hng)
  rw [ho] at e2
  cases e2
  exact absurd (show (Value.type "list") = Value.type "tuple" from hc) (by decide)
theorem ItemsAt.hide {b : Bool} {h : Heap} {as : List Addr} {vs ps} (P : ItemsAt b h vs ps) (hL : ∀ a ∈ as, ∃ vs, LAt h a vs) : ItemsAt b (hideAll h as) vs ps := by
  refine ⟨P.1, fun i v p h1 h2 => ?_⟩
  have := P.2 i v p h1 h2
  cases b with
  | false => exact this
  | true => exact PairAt.hide this hL


theorem bR_le (xs : List Int) (x : Int) : ∀ n lo hi, bR xs x n lo hi ≤ max lo hi
  | 0, lo, hi => by rw [bR]; omega
  | n + 1, lo, hi => by
    rw [bR]
    split
    · split
      · have := bR_le xs x n lo ((lo + hi) / 2); omega
      · have := bR_le xs x n ((lo + hi) / 2 + 1) hi; omega
    · omega
theorem bL_le (xs : List Int) (x : Int) : ∀ n lo hi, bL xs x n lo hi ≤ max lo hi
  | 0, lo, hi => by rw [bL]; omega
  | n + 1, lo, hi => by
    rw [bL]
    split
    · split
      · have := bL_le xs x n ((lo + hi) / 2 + 1) hi; omega
      · have := bL_le xs x n lo ((lo + hi) / 2); omega
    · omega
theorem fits_of {k : Nat} (h : k ≤ 2 ^ 20) : Builtin.List.listFitsIndex (k : Int) = true := by
  unfold Builtin.List.listFitsIndex
  simp
  omega
theorem kl_ins_nat (l : List Value) (k : Nat) (y : Value) : kl_ins l (k : Int) y = l.take k ++ y :: l.drop k := by
  unfold kl_ins
  rw [if_neg (by omega)]
  by_cases h : k ≤ l.length
  · rw [show min (k : Int).toNat l.length = k by omega]
  · rw [show min (k : Int).toNat l.length = l.length by omega, List.take_length, List.drop_length, List.take_of_length_le (by omega), List.drop_of_length_le (by omega)]

set_option maxRecDepth 100000 in
set_option maxHeartbeats 4000000 in
theorem insR_none {w : World} {mean mg mb} {gb : Heap} {A : Around} {E : Value → Shared → Prop} {Q : Value → Shared → Prop} {s : Shared} {l : Addr} {vs : List Value} {xs : List Int} {x : Int} {lo hi : Int} {t1 t2 : Tok} {hv : Value} {pos : List Value} {kw : List (Str × Value)}
    (G : Gd w mean mg mb gb) (EX : Ext gb s.heap) (fr : gb.get? l = none) (R : Room A 4 30)
    (hl : LAt s.heap l vs) (hI : IntsAre vs xs) (h0 : 0 ≤ lo) (hlo : lo ≤ 2 ^ 18) (hH : HiAt hv xs.length hi) (h1 : 0 ≤ hi) (hh : hi ≤ xs.length) (hsz : xs.length < 1000)
    (hp : (pos = [.ref l, .int x t1, .int lo t2, hv] ∧ kw = []) ∨ (pos = [.ref l, .int x t1, .int lo t2, hv] ∧ kw = [(Str.ofString "key", .none)]) ∨ (pos = [.ref l, .int x t1, .int lo t2] ∧ kw = [(Str.ofString "key", .none)] ∧ hv = .none))
    (ret : ∀ h' tk, LAt h' l (vs.take (bR xs x xs.length lo.toNat hi.toNat) ++ .int x t1 :: vs.drop (bR xs x xs.length lo.toNat hi.toNat)) → (∀ b o, b ≠ l → s.heap.get? b = some o → h'.get? b = some o) → Q .none { s with heap := h', toks := tk }) :
    wpAny (model Challenge.rw_sc0001_01.row.prog w) A (call (.ref 23) pos kw) Q E s := by
  have hL9 : ∀ a ∈ [l], ∃ vs, LAt s.heap a vs := by simpa using ⟨vs, hl⟩
  have hvl : vs.length = xs.length := hI.length
  obtain ⟨n0, ho⟩ := hl
  have EX' : Ext gb (hideAll s.heap [l]) := ext_hide EX (by simpa using fr)
  have G1 := G.keeps EX'
  have R0 := R
  have G0 := G1
  obtain ⟨KX, T⟩ := G1
  refine hold fun hng => ?_
  obtain ⟨hA, hd, hu⟩ := R
  (refine hng ?_; clear hng)
  revert KX; k_fill; intro KX
  refine' call_rw (binds := [("a", .ref l), ("x", .int x t1), ("lo", .int lo t2), ("hi", hv), ("key", .none)]) [(l, PySem.W.listOf vs.toArray n0)] KX T ?hN ?h1 ?h2 ?h3 ?h4 ?h5 ?h6 ?c1 ?c2 ?c3 ?c4
  case hN => simpa using ho
  case h1 => k_is
  case h2 => k_is
  case h3 => (clear h0 hlo h1 hh hsz hvl hu; omega)
  case h4 =>
    have KX' : (Mine.hd.heap_39 w.params).In s.heap := G.k.keeps EX
    rcases hp with ⟨rfl, rfl⟩ | ⟨rfl, rfl⟩ | ⟨rfl, rfl, rfl⟩ <;> exact kp_binds KX' (fun _ => rfl)
  case h5 => exact locs rfl
  case c1 => rfl
  case c2 => rfl
  case c3 => rfl
  case c4 => decide
  case h6 =>
   clear hp
   have TR := topRead_of T
   intro L h₁ F N
   walk_at "S"
   (rename Fr _ _ _ _ => F9; rename News _ _ _ _ => N9)
   have G2 := Gd.keeps G0 (fun b o e => F9.keep b o e)
   refine' bisR_none (vs := vs) (xs := xs) (x := x) (lo := lo) (hi := hi) (hv := hv) ?a1 ?a2 ?a3 hI h0 hH h1 hh hsz (.inl ⟨rfl, rfl⟩) ?_
   case a1 => exact G2
   case a2 => exact (R0.le (d' := 2 + 1) (u' := 16 + 3)).deeper _
   case a3 => exact N9.isList (.head _)
   intro h' tk' t8 ext
   have F7 := F9.kept ext
   have N7 := N9.grown ext
   clear F9 N9
   walk_at "S"
   (rename Fr _ _ _ _ => F9; rename News _ _ _ _ => N9)
   have hkb : bR xs x xs.length lo.toNat hi.toNat ≤ 2 ^ 20 := by
     have := bR_le xs x xs.length lo.toNat hi.toNat
     have : lo ≤ 2 ^ 18 := hlo
     (clear h0 h1 hvl hd hu this; omega)
   refine' kl_insert (l := vs.take (bR xs x xs.length lo.toNat hi.toNat) ++ .int x t1 :: vs.drop (bR xs x xs.length lo.toNat hi.toNat)) F9 N9 ?i1 ?i2 (Upd.head (fun _ h => nomatch h)) ?i3 ?_
   case i1 => exact fits_of hkb
   case i2 => exact kl_ins_nat _ _ _
   case i3 => show vs.length ≤ sizeLine; rw [sizeLine_eq]; (clear h0 hlo h1 hh hd hu hkb; omega)
   intro h9 F9 N9
   walk_at "S"
   (rename Fr _ _ _ _ => F9; rename News _ _ _ _ => N9)
   refine ret _ _ ⟨_, (N9 _ (.head _)).1⟩ fun b o hb e => F9.keep b o (hideAll_get _ e (by simpa using hb))

set_option maxRecDepth 100000 in
set_option maxHeartbeats 4000000 in
theorem insL_none {w : World} {mean mg mb} {gb : Heap} {A : Around} {E : Value → Shared → Prop} {Q : Value → Shared → Prop} {s : Shared} {l : Addr} {vs : List Value} {xs : List Int} {x : Int} {lo hi : Int} {t1 t2 : Tok} {hv : Value} {pos : List Value} {kw : List (Str × Value)}
    (G : Gd w mean mg mb gb) (EX : Ext gb s.heap) (fr : gb.get? l = none) (R : Room A 4 30)
    (hl : LAt s.heap l vs) (hI : IntsAre vs xs) (h0 : 0 ≤ lo) (hlo : lo ≤ 2 ^ 18) (hH : HiAt hv xs.length hi) (h1 : 0 ≤ hi) (hh : hi ≤ xs.length) (hsz : xs.length < 1000)
    (hp : (pos = [.ref l, .int x t1, .int lo t2, hv] ∧ kw = []) ∨ (pos = [.ref l, .int x t1, .int lo t2, hv] ∧ kw = [(Str.ofString "key", .none)]) ∨ (pos = [.ref l, .int x t1, .int lo t2] ∧ kw = [(Str.ofString "key", .none)] ∧ hv = .none))
    (ret : ∀ h' tk, LAt h' l (vs.take (bL xs x xs.length lo.toNat hi.toNat) ++ .int x t1 :: vs.drop (bL xs x xs.length lo.toNat hi.toNat)) → (∀ b o, b ≠ l → s.heap.get? b = some o → h'.get? b = some o) → Q .none { s with heap := h', toks := tk }) :
    wpAny (model Challenge.rw_sc0001_01.row.prog w) A (call (.ref 41) pos kw) Q E s := by
  have hL9 : ∀ a ∈ [l], ∃ vs, LAt s.heap a vs := by simpa using ⟨vs, hl⟩
  have hvl : vs.length = xs.length := hI.length
  obtain ⟨n0, ho⟩ := hl
  have EX' : Ext gb (hideAll s.heap [l]) := ext_hide EX (by simpa using fr)
  have G1 := G.keeps EX'
  have R0 := R
  have G0 := G1
  obtain ⟨KX, T⟩ := G1
  refine hold fun hng => ?_
  obtain ⟨hA, hd, hu⟩ := R
  (refine hng ?_; clear hng)
  revert KX; k_fill; intro KX
  refine' call_rw (binds := [("a", .ref l), ("x", .int x t1), ("lo", .int lo t2), ("hi", hv), ("key", .none)]) [(l, PySem.W.listOf vs.toArray n0)] KX T ?hN ?h1 ?h2 ?h3 ?h4 ?h5 ?h6 ?c1 ?c2 ?c3 ?c4
  case hN => simpa using ho
  case h1 => k_is
  case h2 => k_is
  case h3 => (clear h0 hlo h1 hh hsz hvl hu; omega)
  case h4 =>
    have KX' : (Mine.hd.heap_39 w.params).In s.heap := G.k.keeps EX
    rcases hp with ⟨rfl, rfl⟩ | ⟨rfl, rfl⟩ | ⟨rfl, rfl, rfl⟩ <;> exact kp_binds KX' (fun _ => rfl)
  case h5 => exact locs rfl
  case c1 => rfl
  case c2 => rfl
  case c3 => rfl
  case c4 => decide
  case h6 =>
   clear hp
   have TR := topRead_of T
   intro L h₁ F N
   walk_at "S"
   (rename Fr _ _ _ _ => F9; rename News _ _ _ _ => N9)
   have G2 := Gd.keeps G0 (fun b o e => F9.keep b o e)
   refine' bisL_none (vs := vs) (xs := xs) (x := x) (lo := lo) (hi := hi) (hv := hv) ?a1 ?a2 ?a3 hI h0 hH h1 hh hsz (.inl ⟨rfl, rfl⟩) ?_
   case a1 => exact G2
   case a2 => exact (R0.le (d' := 2 + 1) (u' := 16 + 3)).deeper _
   case a3 => exact N9.isList (.head _)
   intro h' tk' t8 ext
   have F7 := F9.kept ext
   have N7 := N9.grown ext
   clear F9 N9
   walk_at "S"
   (rename Fr _ _ _ _ => F9; rename News _ _ _ _ => N9)
   have hkb : bL xs x xs.length lo.toNat hi.toNat ≤ 2 ^ 20 := by
     have := bL_le xs x xs.length lo.toNat hi.toNat
     have : lo ≤ 2 ^ 18 := hlo
     (clear h0 h1 hvl hd hu this; omega)
   refine' kl_insert (l := vs.take (bL xs x xs.length lo.toNat hi.toNat) ++ .int x t1 :: vs.drop (bL xs x xs.length lo.toNat hi.toNat)) F9 N9 ?i1 ?i2 (Upd.head (fun _ h => nomatch h)) ?i3 ?_
   case i1 => exact fits_of hkb
   case i2 => exact kl_ins_nat _ _ _
   case i3 => show vs.length ≤ sizeLine; rw [sizeLine_eq]; (clear h0 hlo h1 hh hd hu hkb; omega)
   intro h9 F9 N9
   walk_at "S"
   (rename Fr _ _ _ _ => F9; rename News _ _ _ _ => N9)
   refine ret _ _ ⟨_, (N9 _ (.head _)).1⟩ fun b o hb e => F9.keep b o (hideAll_get _ e (by simpa using hb))

set_option maxRecDepth 100000 in
set_option maxHeartbeats 4000000 in
theorem insR_key {w : World} {mean mg mb} {gb : Heap} {A : Around} {E : Value → Shared → Prop} {Q : Value → Shared → Prop} {s : Shared} {l : Addr} {vs : List Value} {ps : List (Int × Int)} {v : Value} {p : Int × Int} {lo hi : Int} {t2 : Tok} {hv : Value} {pos : List Value} {kw : List (Str × Value)}
    (G : Gd w mean mg mb gb) (EX : Ext gb s.heap) (fr : gb.get? l = none) (R : Room A 4 30)
    (hl : LAt s.heap l vs) (hI : ItemsAt true s.heap vs ps) (hP : PairAt s.heap v p) (h0 : 0 ≤ lo) (hlo : lo ≤ 2 ^ 18) (hH : HiAt hv ps.length hi) (h1 : 0 ≤ hi) (hh : hi ≤ ps.length) (hsz : ps.length < 1000)
    (hp : (pos = [.ref l, v, .int lo t2, hv] ∧ kw = [(Str.ofString "key", .ref 57)]) ∨ (pos = [.ref l, v, .int lo t2] ∧ kw = [(Str.ofString "key", .ref 57)] ∧ hv = .none))
    (ret : ∀ h' tk, LAt h' l (vs.take (bR (ps.map (·.2)) p.2 ps.length lo.toNat hi.toNat) ++ v :: vs.drop (bR (ps.map (·.2)) p.2 ps.length lo.toNat hi.toNat)) → (∀ b o, b ≠ l → s.heap.get? b = some o → h'.get? b = some o) → Q .none { s with heap := h', toks := tk }) :
    wpAny (model Challenge.rw_sc0001_01.row.prog w) A (call (.ref 23) pos kw) Q E s := by
  have hL9 : ∀ a ∈ [l], ∃ vs, LAt s.heap a vs := by simpa using ⟨vs, hl⟩
  have hvl : vs.length = ps.length := hI.1
  obtain ⟨n0, ho⟩ := hl
  have EX' : Ext gb (hideAll s.heap [l]) := ext_hide EX (by simpa using fr)
  have G1 := G.keeps EX'
  have R0 := R
  have G0 := G1
  obtain ⟨KX, T⟩ := G1
  refine hold fun hng => ?_
  obtain ⟨hA, hd, hu⟩ := R
  (refine hng ?_; clear hng)
  revert KX; k_fill; intro KX
  refine' call_rw (binds := [("a", .ref l), ("x", v), ("lo", .int lo t2), ("hi", hv), ("key", .ref 57)]) [(l, PySem.W.listOf vs.toArray n0)] KX T ?hN ?h1 ?h2 ?h3 ?h4 ?h5 ?h6 ?c1 ?c2 ?c3 ?c4
  case hN => simpa using ho
  case h1 => k_is
  case h2 => k_is
  case h3 => (clear h0 hlo h1 hh hsz hvl hu; omega)
  case h4 =>
    have KX' : (Mine.hd.heap_39 w.params).In s.heap := G.k.keeps EX
    rcases hp with ⟨rfl, rfl⟩ | ⟨rfl, rfl, rfl⟩ <;> exact kp_binds KX' (fun _ => rfl)
  case h5 => exact locs rfl
  case c1 => rfl
  case c2 => rfl
  case c3 => rfl
  case c4 => decide
  case h6 =>
   clear hp
   have TR := topRead_of T
   intro L h₁ F N
   walk_at "S"
   (rename Fr _ _ _ _ => F9; rename News _ _ _ _ => N9)
   have G2 := Gd.keeps G0 (fun b o e => F9.keep b o e)
   refine' second_spec (p := p) ?b1 ?b2 ?b3 ?_
   case b1 => exact G2
   case b2 => exact (R0.le (d' := 1 + 1) (u' := 8 + 3)).deeper _
   case b3 => exact (hP.hide hL9).keeps (fun b o e => F9.keep b o e)
   intro h8 tk8 t1 ext8
   have F7 := F9.kept ext8
   have N7 := N9.grown ext8
   clear F9 N9 G2
   walk_at "S"
   (rename Fr _ _ _ _ => F9; rename News _ _ _ _ => N9)
   have G2 := Gd.keeps G0 (fun b o e => F9.keep b o e)
   refine' bisR_key (vs := vs) (ps := ps) (x := p.2) (lo := lo) (hi := hi) (hv := hv) ?a1 ?a2 ?a3 ?a4 h0 hH h1 hh hsz (.inl ⟨rfl, rfl⟩) ?_
   case a1 => exact G2
   case a2 => exact (R0.le (d' := 2 + 1) (u' := 16 + 3)).deeper _
   case a3 => exact N9.isList (.head _)
   case a4 => exact (hI.hide hL9).keeps (fun b o e => F9.keep b o e)
   intro h' tk' t8 ext
   have F7 := F9.kept ext
   have N7 := N9.grown ext
   clear F9 N9
   walk_at "S"
   (rename Fr _ _ _ _ => F9; rename News _ _ _ _ => N9)
   have hkb : bR (ps.map (·.2)) p.2 ps.length lo.toNat hi.toNat ≤ 2 ^ 20 := by
     have := bR_le (ps.map (·.2)) p.2 ps.length lo.toNat hi.toNat
     have : lo ≤ 2 ^ 18 := hlo
     (clear h0 h1 hvl hd hu this; omega)
   refine' kl_insert (l := vs.take (bR (ps.map (·.2)) p.2 ps.length lo.toNat hi.toNat) ++ v :: vs.drop (bR (ps.map (·.2)) p.2 ps.length lo.toNat hi.toNat)) F9 N9 ?i1 ?i2 (Upd.head (fun _ h => nomatch h)) ?i3 ?_
   case i1 => exact fits_of hkb
   case i2 => exact kl_ins_nat _ _ _
   case i3 => show vs.length ≤ sizeLine; rw [sizeLine_eq]; (clear h0 hlo h1 hh hd hu hkb; omega)
   intro h9 F9 N9
   walk_at "S"
   (rename Fr _ _ _ _ => F9; rename News _ _ _ _ => N9)
   refine ret _ _ ⟨_, (N9 _ (.head _)).1⟩ fun b o hb e => F9.keep b o (hideAll_get _ e (by simpa using hb))

set_option maxRecDepth 100000 in
set_option maxHeartbeats 4000000 in
theorem insL_key {w : World} {mean mg mb} {gb : Heap} {A : Around} {E : Value → Shared → Prop} {Q : Value → Shared → Prop} {s : Shared} {l : Addr} {vs : List Value} {ps : List (Int × Int)} {v : Value} {p : Int × Int} {lo hi : Int} {t2 : Tok} {hv : Value} {pos : List Value} {kw : List (Str × Value)}
    (G : Gd w mean mg mb gb) (EX : Ext gb s.heap) (fr : gb.get? l = none) (R : Room A 4 30)
    (hl : LAt s.heap l vs) (hI : ItemsAt true s.heap vs ps) (hP : PairAt s.heap v p) (h0 : 0 ≤ lo) (hlo : lo ≤ 2 ^ 18) (hH : HiAt hv ps.length hi) (h1 : 0 ≤ hi) (hh : hi ≤ ps.length) (hsz : ps.length < 1000)
    (hp : (pos = [.ref l, v, .int lo t2, hv] ∧ kw = [(Str.ofString "key", .ref 57)]) ∨ (pos = [.ref l, v, .int lo t2] ∧ kw = [(Str.ofString "key", .ref 57)] ∧ hv = .none))
    (ret : ∀ h' tk, LAt h' l (vs.take (bL (ps.map (·.2)) p.2 ps.length lo.toNat hi.toNat) ++ v :: vs.drop (bL (ps.map (·.2)) p.2 ps.length lo.toNat hi.toNat)) → (∀ b o, b ≠ l → s.heap.get? b = some o → h'.get? b = some o) → Q .none { s with heap := h', toks := tk }) :
    wpAny (model Challenge.rw_sc0001_01.row.prog w) A (call (.ref 41) pos kw) Q E s := by
  have hL9 : ∀ a ∈ [l], ∃ vs, LAt s.heap a vs := by simpa using ⟨vs, hl⟩
  have hvl : vs.length = ps.length := hI.1
  obtain ⟨n0, ho⟩ := hl
  have EX' : Ext gb (hideAll s.heap [l]) := ext_hide EX (by simpa using fr)
  have G1 := G.keeps EX'
  have R0 := R
  have G0 := G1
  obtain ⟨KX, T⟩ := G1
  refine hold fun hng => ?_
  obtain ⟨hA, hd, hu⟩ := R
  (refine hng ?_; clear hng)
  revert KX; k_fill; intro KX
  refine' call_rw (binds := [("a", .ref l), ("x", v), ("lo", .int lo t2), ("hi", hv), ("key", .ref 57)]) [(l, PySem.W.listOf vs.toArray n0)] KX T ?hN ?h1 ?h2 ?h3 ?h4 ?h5 ?h6 ?c1 ?c2 ?c3 ?c4
  case hN => simpa using ho
  case h1 => k_is
  case h2 => k_is
  case h3 => (clear h0 hlo h1 hh hsz hvl hu; omega)
  case h4 =>
    have KX' : (Mine.hd.heap_39 w.params).In s.heap := G.k.keeps EX
    rcases hp with ⟨rfl, rfl⟩ | ⟨rfl, rfl, rfl⟩ <;> exact kp_binds KX' (fun _ => rfl)
  case h5 => exact locs rfl
  case c1 => rfl
  case c2 => rfl
  case c3 => rfl
  case c4 => decide
  case h6 =>
   clear hp
   have TR := topRead_of T
   intro L h₁ F N
   walk_at "S"
   (rename Fr _ _ _ _ => F9; rename News _ _ _ _ => N9)
   have G2 := Gd.keeps G0 (fun b o e => F9.keep b o e)
   refine' second_spec (p := p) ?b1 ?b2 ?b3 ?_
   case b1 => exact G2
   case b2 => exact (R0.le (d' := 1 + 1) (u' := 8 + 3)).deeper _
   case b3 => exact (hP.hide hL9).keeps (fun b o e => F9.keep b o e)
   intro h8 tk8 t1 ext8
   have F7 := F9.kept ext8
   have N7 := N9.grown ext8
   clear F9 N9 G2
   walk_at "S"
   (rename Fr _ _ _ _ => F9; rename News _ _ _ _ => N9)
   have G2 := Gd.keeps G0 (fun b o e => F9.keep b o e)
   refine' bisL_key (vs := vs) (ps := ps) (x := p.2) (lo := lo) (hi := hi) (hv := hv) ?a1 ?a2 ?a3 ?a4 h0 hH h1 hh hsz (.inl ⟨rfl, rfl⟩) ?_
   case a1 => exact G2
   case a2 => exact (R0.le (d' := 2 + 1) (u' := 16 + 3)).deeper _
   case a3 => exact N9.isList (.head _)
   case a4 => exact (hI.hide hL9).keeps (fun b o e => F9.keep b o e)
   intro h' tk' t8 ext
   have F7 := F9.kept ext
   have N7 := N9.grown ext
   clear F9 N9
   walk_at "S"
   (rename Fr _ _ _ _ => F9; rename News _ _ _ _ => N9)
   have hkb : bL (ps.map (·.2)) p.2 ps.length lo.toNat hi.toNat ≤ 2 ^ 20 := by
     have := bL_le (ps.map (·.2)) p.2 ps.length lo.toNat hi.toNat
     have : lo ≤ 2 ^ 18 := hlo
     (clear h0 h1 hvl hd hu this; omega)
   refine' kl_insert (l := vs.take (bL (ps.map (·.2)) p.2 ps.length lo.toNat hi.toNat) ++ v :: vs.drop (bL (ps.map (·.2)) p.2 ps.length lo.toNat hi.toNat)) F9 N9 ?i1 ?i2 (Upd.head (fun _ h => nomatch h)) ?i3 ?_
   case i1 => exact fits_of hkb
   case i2 => exact kl_ins_nat _ _ _
   case i3 => show vs.length ≤ sizeLine; rw [sizeLine_eq]; (clear h0 hlo h1 hh hd hu hkb; omega)
   intro h9 F9 N9
   walk_at "S"
   (rename Fr _ _ _ _ => F9; rename News _ _ _ _ => N9)
   refine ret _ _ ⟨_, (N9 _ (.head _)).1⟩ fun b o hb e => F9.keep b o (hideAll_get _ e (by simpa using hb))

theorem insR {w : World} {mean mg mb} {gb : Heap} {A : Around} {E : Value → Shared → Prop} {Q : Value → Shared → Prop} {s : Shared} {l : Addr} {vs : List Value} (b : Bool) {ps : List (Int × Int)} {v : Value} {p : Int × Int} {lo hi : Int} {t2 : Tok} {hv : Value} {pos : List Value} {kw : List (Str × Value)}
    (G : Gd w mean mg mb gb) (EX : Ext gb s.heap) (fr : gb.get? l = none) (R : Room A 4 30)
    (hl : LAt s.heap l vs) (hI : ItemsAt b s.heap vs ps) (hP : IV b s.heap v p) (h0 : 0 ≤ lo) (hlo : lo ≤ 2 ^ 18) (hH : HiAt hv ps.length hi) (h1 : 0 ≤ hi) (hh : hi ≤ ps.length) (hsz : ps.length < 1000)
    (hp : (pos = [.ref l, v, .int lo t2, hv] ∧ kw = [(Str.ofString "key", byV b)]) ∨ (pos = [.ref l, v, .int lo t2] ∧ kw = [(Str.ofString "key", byV b)] ∧ hv = .none))
    (ret : ∀ h' tk, LAt h' l (vs.take (bR (ps.map (·.2)) p.2 ps.length lo.toNat hi.toNat) ++ v :: vs.drop (bR (ps.map (·.2)) p.2 ps.length lo.toNat hi.toNat)) → (∀ b o, b ≠ l → s.heap.get? b = some o → h'.get? b = some o) → Q .none { s with heap := h', toks := tk }) :
    wpAny (model Challenge.rw_sc0001_01.row.prog w) A (call (.ref 23) pos kw) Q E s := by
  cases b with
  | true => exact insR_key G EX fr R hl hI hP h0 hlo hH h1 hh hsz hp ret
  | false =>
    have e : (ps.map (·.2)).length = ps.length := List.length_map _
    rw [← e] at hH hh hsz ret
    refine hold fun hng => ?_
    obtain ⟨_, t, rfl⟩ := hP
    (refine hng ?_; clear hng)
    exact insR_none G EX fr R hl hI.ints h0 hlo hH h1 hh hsz (.inr hp) ret
theorem insL {w : World} {mean mg mb} {gb : Heap} {A : Around} {E : Value → Shared → Prop} {Q : Value → Shared → Prop} {s : Shared} {l : Addr} {vs : List Value} (b : Bool) {ps : List (Int × Int)} {v : Value} {p : Int × Int} {lo hi : Int} {t2 : Tok} {hv : Value} {pos : List Value} {kw : List (Str × Value)}
    (G : Gd w mean mg mb gb) (EX : Ext gb s.heap) (fr : gb.get? l = none) (R : Room A 4 30)
    (hl : LAt s.heap l vs) (hI : ItemsAt b s.heap vs ps) (hP : IV b s.heap v p) (h0 : 0 ≤ lo) (hlo : lo ≤ 2 ^ 18) (hH : HiAt hv ps.length hi) (h1 : 0 ≤ hi) (hh : hi ≤ ps.length) (hsz : ps.length < 1000)
    (hp : (pos = [.ref l, v, .int lo t2, hv] ∧ kw = [(Str.ofString "key", byV b)]) ∨ (pos = [.ref l, v, .int lo t2] ∧ kw = [(Str.ofString "key", byV b)] ∧ hv = .none))
    (ret : ∀ h' tk, LAt h' l (vs.take (bL (ps.map (·.2)) p.2 ps.length lo.toNat hi.toNat) ++ v :: vs.drop (bL (ps.map (·.2)) p.2 ps.length lo.toNat hi.toNat)) → (∀ b o, b ≠ l → s.heap.get? b = some o → h'.get? b = some o) → Q .none { s with heap := h', toks := tk }) :
    wpAny (model Challenge.rw_sc0001_01.row.prog w) A (call (.ref 41) pos kw) Q E s := by
  cases b with
  | true => exact insL_key G EX fr R hl hI hP h0 hlo hH h1 hh hsz hp ret
  | false =>
    have e : (ps.map (·.2)).length = ps.length := List.length_map _
    rw [← e] at hH hh hsz ret
    refine hold fun hng => ?_
    obtain ⟨_, t, rfl⟩ := hP
    (refine hng ?_; clear hng)
    exact insL_none G EX fr R hl hI.ints h0 hlo hH h1 hh hsz (.inr hp) ret

-- part L0
theorem offL0 : True := by w_top off; trivial
/-- the ledger with another object at D -/
noncomputable def put (news : List (Addr × Obj)) (D : Addr) (o : Obj) : List (Addr × Obj) := news.map fun p => if p.1 = D then (D, o) else p
theorem put_mem_ne {news : List (Addr × Obj)} {D a : Addr} {o o' : Obj} (h : (a, o') ∈ news) (hne : a ≠ D) : (a, o') ∈ put news D o :=
  List.mem_map.mpr ⟨_, h, if_neg hne⟩
theorem put_mem {news : List (Addr × Obj)} {D : Addr} {o o' : Obj} (h : (D, o') ∈ news) : (D, o) ∈ put news D o :=
  List.mem_map.mpr ⟨_, h, if_pos rfl⟩
theorem put_addr {news : List (Addr × Obj)} {D : Addr} {o : Obj} {p : Addr × Obj} (h : p ∈ put news D o) : ∃ q ∈ news, q.1 = p.1 := by
  obtain ⟨q, hq, e⟩ := List.mem_map.mp h
  refine ⟨q, hq, ?_⟩
  split at e
  · rename_i hD; rw [← e]; exact hD
  · rw [← e]
theorem put_append (l l' : List (Addr × Obj)) (D : Addr) (o : Obj) : put (l ++ l') D o = put l D o ++ put l' D o := List.map_append ..
theorem put_off {l : List (Addr × Obj)} {D : Addr} {o : Obj} (h : ∀ p ∈ l, p.1 ≠ D) : put l D o = l := by
  have e : l.map (fun p => if p.1 = D then (D, o) else p) = l.map id := List.map_congr_left fun p hp => if_neg (h p hp)
  exact e.trans (List.map_id _)
/-- h' is h but for the object at D -/
abbrev But (D : Addr) (h h' : Heap) : Prop := ∀ b o, b ≠ D → h.get? b = some o → h'.get? b = some o
theorem But.of_same {D : Addr} {h h' : Heap} (x : Heap.SameBut D h h') : But D h h' := fun b _ hb e => (x.2 b hb).trans e
theorem News.chg {h₀ h h' : Heap} {L D : Addr} {news : List (Addr × Obj)} {o o' : Obj} (N : News h₀ L h news) (hD : (D, o) ∈ news) (k : But D h h') (e : h'.get? D = some o') : News h₀ L h' (put news D o') := by
  intro p hp
  obtain ⟨q, hq, rfl⟩ := List.mem_map.mp hp
  have z := N q hq
  by_cases c : q.1 = D
  · rw [if_pos c]; exact ⟨e, (N _ hD).2⟩
  · rw [if_neg c]; exact ⟨k _ _ c z.1, z.2⟩
theorem Fr.chg {h₀ h h' : Heap} {L D : Addr} {m : Str → Option Value} {news : List (Addr × Obj)} {o : Obj} (F : Fr h₀ L h m) (N : News h₀ L h news) (hD : (D, o) ∈ news) (k : But D h h') : Fr h₀ L h' m := by
  have z := N _ hD
  obtain ⟨oL, es, ep, hL, r⟩ := F.ns
  refine ⟨⟨oL, es, ep, k _ _ (Ne.symm z.2.1) hL, r⟩, fun b x q => k _ _ (fun c => ?_) (F.keep b x q), F.above⟩
  have := z.2.2
  rw [← c, q] at this; cases this

theorem live_lt {h₀ h : Heap} {L : Addr} {m : Str → Option Value} {fp : List Addr} {own news : List (Addr × Obj)} (hl : ∀ b ∈ fp, (∃ o, h₀.get? b = some o) ∨ ∃ o, (b, o) ∈ own) (hs : ∀ q ∈ own, q ∈ news) (F : Fr h₀ L h m) (N : News h₀ L h news) :
    ∀ b ∈ fp, b < h.objs.size := fun b hb => by
  rcases hl b hb with ⟨o, e⟩ | ⟨o, e⟩
  · exact Heap.lt_size (F.keep b o e)
  · exact Heap.lt_size (N _ (hs _ e)).1
theorem put_mono {l l' : List (Addr × Obj)} {D : Addr} {o : Obj} (h : ∀ p ∈ l, p ∈ l') : ∀ p ∈ put l D o, p ∈ put l' D o := fun p hp => by
  obtain ⟨q, hq, e⟩ := List.mem_map.mp hp
  exact List.mem_map.mpr ⟨q, h q hq, e⟩

/-- the end of a turn that goes on -/
inductive TurnN (h₀ : Heap) (L : Addr) (fp : List Addr) (own : List (Addr × Obj)) (J : (Str → Option Value) → List (Addr × Obj) → Prop) (gn : Array GenState) (dr : Drawn) (os : OsState) (s₂ : Shared) : Prop
  | mk (h' : Heap) (tk : Nat) (m₂ : Str → Option Value) (news₂ : List (Addr × Obj)) (e : s₂ = { heap := h', gens := gn, drawn := dr, toks := tk, os := os }) (F : Fr h₀ L h' m₂) (N : News h₀ L h' (own ++ news₂)) (o : ∀ p ∈ news₂, p.1 ∉ fp) (j : J m₂ news₂) : TurnN h₀ L fp own J gn dr os s₂
/-- the end of a turn -/
def TurnJ (h₀ : Heap) (L : Addr) (fp : List Addr) (own : List (Addr × Obj)) (J : (Str → Option Value) → List (Addr × Obj) → Prop) (s : Shared) (Q : Flow → Shared → Prop) (f : Flow) (s₂ : Shared) : Prop :=
  match f with
  | .ret v => Q (.ret v) s₂
  | .brk => Q .next s₂
  | _ => TurnN h₀ L fp own J s.gens s.drawn s.os s₂

section
variable {prog : Program} {w : World} {A : Around} {s : Shared} {env : Env} {h₀ : Heap} {E : Value → Shared → Prop} {Q : Flow → Shared → Prop} {x : Str} {body : List Stmt}

theorem loop_J {I : Addr} {fp wr : List Addr} {n : Nat} {P : Nat → Value → Prop} {St : Nat → Heap → Prop} {m : Str → Option Value} {news : List (Addr × Obj)} (W : Walks prog w A I fp wr n P St)
    (hLf : env.locals ∉ fp) (hwr : ∀ b ∈ wr, h₀.get? b = none) (hlive : ∀ i h, St i h → ∀ b ∈ fp, ∃ o, h.get? b = some o) (hst : St 0 s.heap) (F : Fr h₀ env.locals s.heap m) (N : News h₀ env.locals s.heap news) (hoff : ∀ p ∈ news, p.1 ∉ fp)
    (J : Nat → (Str → Option Value) → List (Addr × Obj) → Prop) (h0 : J 0 m news)
    (turn : ∀ i v m₁ news₁ h tk own, i < n → P i v → J i m₁ news₁ → (∀ p ∈ news₁, p.1 ∉ fp) → (∀ p ∈ own, p.1 ∈ fp) → (∀ b ∈ fp, (∃ o, h₀.get? b = some o) ∨ ∃ o, (b, o) ∈ own) → St (i + 1) h →
      Fr h₀ env.locals h (fun y => if y = x then some v else m₁ y) → News h₀ env.locals h (own ++ news₁) →
      wpAny (model prog w) A (execs body env) (TurnJ h₀ env.locals fp own (J (i + 1)) { s with heap := h, toks := tk } Q) E { s with heap := h, toks := tk })
    (done : ∀ h' tk m' news', Fr h₀ env.locals h' m' → News h₀ env.locals h' news' → (∀ p ∈ news', p.1 ∉ fp) → J n m' news' → Q .next { s with heap := h', toks := tk }) :
    LoopAtV prog w A h₀ env x body Q E (.ref I) s := by
  refine ⟨I, fp, wr, n, P, St, m, news, fun i m news => J i m news ∧ ∀ p ∈ news, p.1 ∉ fp, rfl, W, hLf, hwr, fun p hp hw => hoff p hp (W.sub _ hw), hst, F, N, ⟨h0, hoff⟩, ?_, ?_⟩
  · rintro i v m₁ news₁ s₁ own ⟨h, tk, rfl⟩ hi hP ⟨hJ, ho⟩ _ hown _ hall hst₁ F₁ N₁
    refine wpAny_mono (turn i v m₁ news₁ h tk own hi hP hJ ho hown (fun b hb => ?_) hst₁ F₁ N₁) (fun f s₂ h₂ => ?_) fun _ _ e => e
    · obtain ⟨o, e⟩ := hlive _ _ hst₁ b hb
      cases hn : h₀.get? b with
      | some o' => exact .inl ⟨_, rfl⟩
      | none => exact .inr ⟨o, hall b hb hn o e⟩
    · have fin : TurnN h₀ env.locals fp own (J (i + 1)) s.gens s.drawn s.os s₂ →
          LoopStepU h₀ env.locals wr own (fun m news => J (i + 1) m news ∧ ∀ p ∈ news, p.1 ∉ fp) { s with heap := h, toks := tk } .next s₂ := by
        rintro ⟨h', tk', m₂, news₂, e, F₂, N₂, ho₂, hJ₂⟩
        exact ⟨rfl, h', tk', m₂, news₂, e, F₂, N₂, fun p hp hw => ho₂ p hp (W.sub _ hw), hJ₂, ho₂⟩
      cases f with
      | ret v => exact .ret h₂
      | brk => exact .brk h₂
      | next => exact .next (fin h₂)
      | cont => exact .cont (fin h₂)
  · rintro h' tk m' news' F' N' _ ⟨hJ, ho⟩
    exact done h' tk m' news' F' N' ho hJ

/-- a range upward or downward -/
theorem iter_range_J {r : Addr} {a₀ b₀ c₀ : Int} {t₀ u₀ v₀ : Tok} {n : Nat} {m₀ : Str → Option Value} {news : List (Addr × Obj)} (J : Nat → (Str → Option Value) → List (Addr × Obj) → Prop)
    (hh : A.handled = none) (hr : IsRange s.heap r a₀ b₀ c₀ t₀ u₀ v₀) (hsmall : Builtin.Range.small a₀ b₀ c₀ = true) (hn : Builtin.Range.rangeSize a₀ b₀ c₀ = (n : Int)) (F : Fr h₀ env.locals s.heap m₀) (N : News h₀ env.locals s.heap news) (h0 : J 0 m₀ news)
    (turn : ∀ (fp : List Addr) (i : Nat) (t : Tok) m₁ news₁ h tk own, i < n → J i m₁ news₁ → (∀ p ∈ news₁, p.1 ∉ fp) → (∀ p ∈ own, p.1 ∈ fp) → (∀ b ∈ fp, (∃ o, h₀.get? b = some o) ∨ ∃ o, (b, o) ∈ own) →
      Fr h₀ env.locals h (fun y => if y = x then some (.int (a₀ + i * c₀) t) else m₁ y) → News h₀ env.locals h (own ++ news₁) →
      wpAny (model prog w) A (execs body env) (TurnJ h₀ env.locals fp own (J (i + 1)) { s with heap := h, toks := tk } Q) E { s with heap := h, toks := tk })
    (done : ∀ h' tk m' news', Fr h₀ env.locals h' m' → News h₀ env.locals h' news' → J n m' news' → Q .next { s with heap := h', toks := tk }) :
    wpAny (model prog w) A (pyIter (.ref r)) (fun it s₂ => LoopAtV prog w A h₀ env x body Q E it s₂) E s := by
  refine wpAny_pyIter_range hr hsmall ?_
  have W : Walks prog w A s.heap.objs.size [s.heap.objs.size] [s.heap.objs.size] n (fun i v => ∃ t, v = .int (a₀ + i * c₀) t)
      (fun i h => IsRangeIter h s.heap.objs.size (a₀ + (i : Nat) * c₀) ((n : Int) - (i : Nat)) c₀) := Walks.range hh _ a₀ c₀ n
  refine loop_J W ?_ ?_ ?_ (by show IsRangeIter _ _ _ _ _; rw [hn]; simpa using Heap.get?_push_size _ rfl) (F.push _) (fun p hp => ⟨Heap.get?_push_of_some _ (N p hp).1, (N p hp).2⟩) ?_ J h0 ?_ ?_
  · intro hm; exact absurd F.ns.lt ((List.mem_singleton.mp hm) ▸ Nat.lt_irrefl _)
  · intro b hb; rw [List.mem_singleton.mp hb]; exact next_is_new F
  · intro i h hs b hb; rw [List.mem_singleton.mp hb]; exact ⟨_, hs⟩
  · intro p hp hI; exact absurd (Heap.lt_size (N p hp).1) ((List.mem_singleton.mp hI) ▸ Nat.lt_irrefl _)
  · rintro i v m₁ news₁ h tk own hi ⟨t, rfl⟩ hJ ho hw hb _ F₁ N₁
    exact turn _ i t m₁ news₁ h tk own hi hJ ho hw hb F₁ N₁
  · exact fun h' tk m' news' F' N' _ hJ => done h' tk m' news' F' N' hJ

/-- a list that stands (in the base, or on the ledger apart) -/
theorem iter_list_J {l : Addr} {vs : List Value} {m₀ : Str → Option Value} {news : List (Addr × Obj)} (J : Nat → (Str → Option Value) → List (Addr × Obj) → Prop)
    (hh : A.handled = none) (hl : s.heap.IsList l vs.toArray) (hlL : l ≠ env.locals) (F : Fr h₀ env.locals s.heap m₀) (N : News h₀ env.locals s.heap news) (hnl : ∀ p ∈ news, p.1 ≠ l) (h0 : J 0 m₀ news)
    (turn : ∀ (fp : List Addr) (i : Nat) (v : Value) m₁ news₁ h tk own, l ∈ fp → h.IsList l vs.toArray → vs[i]? = some v → J i m₁ news₁ → (∀ p ∈ news₁, p.1 ∉ fp) → (∀ p ∈ own, p.1 ∈ fp) → (∀ b ∈ fp, (∃ o, h₀.get? b = some o) ∨ ∃ o, (b, o) ∈ own) →
      Fr h₀ env.locals h (fun y => if y = x then some v else m₁ y) → News h₀ env.locals h (own ++ news₁) →
      wpAny (model prog w) A (execs body env) (TurnJ h₀ env.locals fp own (J (i + 1)) { s with heap := h, toks := tk } Q) E { s with heap := h, toks := tk })
    (done : ∀ h' tk m' news', Fr h₀ env.locals h' m' → News h₀ env.locals h' news' → J vs.length m' news' → Q .next { s with heap := h', toks := tk }) :
    wpAny (model prog w) A (pyIter (.ref l)) (fun it s₂ => LoopAtV prog w A h₀ env x body Q E it s₂) E s := by
  obtain ⟨ol, hol, _⟩ := id hl
  have hlt : l < s.heap.objs.size := Heap.lt_size hol
  refine wpAny_pyIter_list hl ?_
  have W := Walks.list (prog := prog) (w := w) hh s.heap.objs.size l (Nat.ne_of_lt hlt) vs.toArray
  have hlen : vs.toArray.size = vs.length := by simp
  rw [hlen] at W
  refine loop_J W ?_ ?_ ?_ ⟨⟨_, Heap.get?_push_size _ rfl, rfl, rfl⟩, hl.at fun o e => Heap.get?_push_of_some _ e⟩ (F.push _) (fun p hp => ⟨Heap.get?_push_of_some _ (N p hp).1, (N p hp).2⟩) ?_ J h0 ?_ ?_
  · intro hm
    rcases List.mem_cons.mp hm with e | hm
    · exact absurd F.ns.lt (e ▸ Nat.lt_irrefl _)
    · exact hlL (List.mem_singleton.mp hm).symm
  · intro b hb; rw [List.mem_singleton.mp hb]; exact next_is_new F
  · rintro i h ⟨⟨o, h1, _⟩, o', h2, _⟩ b hb
    rcases List.mem_cons.mp hb with rfl | hb
    · exact ⟨_, h1⟩
    · rw [List.mem_singleton.mp hb]; exact ⟨_, h2⟩
  · intro p hp hI
    rcases List.mem_cons.mp hI with e | hI
    · exact absurd (Heap.lt_size (N p hp).1) (e ▸ Nat.lt_irrefl _)
    · exact hnl p hp (List.mem_singleton.mp hI)
  · rintro i v m₁ news₁ h tk own hi hP hJ ho hw hb hst F₁ N₁
    have hlk := hst.2
    exact turn _ i v m₁ news₁ h tk own (by simp) hlk (by simpa using hP) hJ ho hw hb F₁ N₁
  · exact fun h' tk m' news' F' N' _ hJ => done h' tk m' news' F' N' hJ
end

section
variable {prog : Program} {w : World} {A : Around} {s : Shared} {h₀ : Heap} {L D : Addr} {m : Str → Option Value} {news : List (Addr × Obj)} {E Q : Value → Shared → Prop} {its : List Value} {n : Nat}

theorem append_put {x : Value} (F : Fr h₀ L s.heap m) (N : News h₀ L s.heap news) (hm : (D, PySem.W.listOf its.toArray n) ∈ news) (hz : its.length ≤ 2 ^ 20)
    (h : ∀ h', But D s.heap h' → Fr h₀ L h' m → News h₀ L h' (put news D (PySem.W.listOf (its ++ [x]).toArray (n + 1))) → Q .none { s with heap := h' }) : wpAny (model prog w) A (call (.builtin "list.append") [.ref D, x]) Q E s := by
  refine append_at (N _ hm).1 (fun h' hs e => ?_) (by rw [List.size_toArray, sizeLine_eq]; omega)
  have k := But.of_same hs
  refine h h' k (Fr.chg F N hm k) (News.chg N hm k ?_)
  rw [e]
  simp

theorem pop_put {i : Int} {u : Tok} {k : Nat} {y : Value} (F : Fr h₀ L s.heap m) (N : News h₀ L s.heap news) (hm : (D, PySem.W.listOf its.toArray n) ∈ news) (hz : its.length ≤ 2 ^ 20)
    (hf : Builtin.List.listFitsIndex i = true) (hk : seqIndex? i its.length = some k) (hy : its[k]? = some y)
    (h : ∀ h', But D s.heap h' → Fr h₀ L h' m → News h₀ L h' (put news D (PySem.W.listOf (its.eraseIdx k).toArray (n + 1))) → Q y { s with heap := h' }) : wpAny (model prog w) A (call (.builtin "list.pop") [.ref D, .int i u]) Q E s := by
  have z := (N _ hm).1
  refine call_meets PySem.F.slot_list_pop ⟨_, z, rfl⟩ PySem.F.entry_list_pop (PySem.F.args_list_pop_2 _ _) (PySem.MeetsSeq.list_pop_at D _ n i u k y hf (by simpa using hk) (by simpa using hy) (by rw [List.size_toArray, sizeLine_eq]; omega)) ⟨z, ?_⟩
  have kb := But.of_same (Heap.SameBut.update s.heap D (Obj.mapSeq fun xs => xs.eraseIdxIfInBounds k))
  have hlt := (List.getElem?_eq_some_iff.mp hy).1
  have e : (its.toArray).eraseIdxIfInBounds k = (its.eraseIdx k).toArray := by
    apply Array.toList_inj.mp
    unfold Array.eraseIdxIfInBounds
    rw [dif_pos (by simpa using hlt)]
    simp
  refine h _ kb (Fr.chg F N hm kb) (News.chg N hm kb ?_)
  have q := PySem.IsL.update z (fun xs => xs.eraseIdxIfInBounds k)
  rw [e] at q
  rw [q]
  have hne : (List.toArray (its.eraseIdx k)).size ≠ its.toArray.size := by
    rw [List.size_toArray, List.size_toArray, List.length_eraseIdx_of_lt hlt]; (clear hz; omega)
  rw [if_neg (by simpa using hne)]

theorem erase_last : ∀ l : List Value, l.eraseIdx (l.length - 1) = l.dropLast
  | [] => rfl
  | [_] => rfl
  | a :: b :: l => by
    have := erase_last (b :: l)
    simp only [List.length_cons, Nat.add_sub_cancel, List.eraseIdx_cons_succ, List.dropLast_cons₂] at this ⊢
    rw [this]

theorem pop_last_put {y : Value} (F : Fr h₀ L s.heap m) (N : News h₀ L s.heap news) (hm : (D, PySem.W.listOf its.toArray n) ∈ news) (hz : its.length ≤ 2 ^ 20)
    (hy : its[its.length - 1]? = some y)
    (h : ∀ h', But D s.heap h' → Fr h₀ L h' m → News h₀ L h' (put news D (PySem.W.listOf (its.dropLast).toArray (n + 1))) → Q y { s with heap := h' }) : wpAny (model prog w) A (call (.builtin "list.pop") [.ref D]) Q E s := by
  have z := (N _ hm).1
  refine call_meets PySem.F.slot_list_pop ⟨_, z, rfl⟩ PySem.F.entry_list_pop (PySem.F.args_list_pop_1 _) (PySem.MeetsSeq.list_pop_last D _ n y (by simpa using hy) (by rw [List.size_toArray, sizeLine_eq]; omega)) ⟨z, ?_⟩
  have kb := But.of_same (Heap.SameBut.update s.heap D (Obj.mapSeq fun xs => xs.eraseIdxIfInBounds (its.toArray.size - 1)))
  have hlt := (List.getElem?_eq_some_iff.mp hy).1
  have e : (its.toArray).eraseIdxIfInBounds (its.toArray.size - 1) = (its.dropLast).toArray := by
    apply Array.toList_inj.mp
    unfold Array.eraseIdxIfInBounds
    rw [dif_pos (by simpa using hlt)]
    simp only [Array.toList_eraseIdx, List.size_toArray]
    exact erase_last its
  refine h _ kb (Fr.chg F N hm kb) (News.chg N hm kb ?_)
  have q := PySem.IsL.update z (fun xs => xs.eraseIdxIfInBounds (its.toArray.size - 1))
  rw [e] at q
  rw [q]
  have hne : (List.toArray its.dropLast).size ≠ its.toArray.size := by
    rw [List.size_toArray, List.size_toArray, List.length_dropLast]; omega
  rw [if_neg (by simpa using hne)]
end

-- part C0
theorem offC0 : True := by w_top off; trivial
/-- the end of an element's reckoning -/
inductive EltN (g : Heap) (C : Addr) (fp : List Addr) (own : List (Addr × Obj)) (J : List (Addr × Obj) → Prop) (gn : Array GenState) (dr : Drawn) (os : OsState) (s₂ : Shared) : Prop
  | mk (h' : Heap) (tk : Nat) (m₂ : Str → Option Value) (news₂ : List (Addr × Obj)) (e : s₂ = { heap := h', gens := gn, drawn := dr, toks := tk, os := os }) (F : Fr g C h' m₂) (N : News g C h' (own ++ news₂)) (o : ∀ p ∈ news₂, p.1 ∉ fp) (j : J news₂) : EltN g C fp own J gn dr os s₂
def EltJ (g : Heap) (C : Addr) (fp : List Addr) (own : List (Addr × Obj)) (J : List (Addr × Obj) → Prop) (s s₂ : Shared) : Prop := EltN g C fp own J s.gens s.drawn s.os s₂

theorem fresh_off {g H : Heap} {C D : Addr} {o : Obj} {fp : List Addr} {own news : List (Addr × Obj)} (hl : ∀ b ∈ fp, (∃ o, g.get? b = some o) ∨ ∃ o, (b, o) ∈ own) (N : News g C H ((D, o) :: (own ++ news))) (hD : ∀ p ∈ own ++ news, p.1 < D) : D ∉ fp := fun h => by
  rcases hl D h with ⟨o', e⟩ | ⟨o', e⟩
  · have := (N _ (.head _)).2.2
    rw [e] at this; cases this
  · exact absurd (hD _ (List.mem_append_left _ e)) (Nat.lt_irrefl _)

/-- the tests of a comprehension -/
abbrev testsOf (ifs : List Expr) (cenv : Env) : Sem Bool := forIn ifs true fun c r => if r = true then do let ok ← isTrue c cenv (eval c cenv); pure (ForInStep.yield ok) else pure (ForInStep.yield r)

theorem tests_nil {M : Model} {A : Around} {cenv : Env} {Q : Bool → Shared → Prop} {E : Value → Shared → Prop} {s : Shared} (h : Q true s) : wpAny M A (testsOf [] cenv) Q E s := by
  unfold testsOf
  rw [List.forIn_nil]; exact wpAny_pure h
theorem tests_one {M : Model} {A : Around} {cenv : Env} {c : Expr} {Q : Bool → Shared → Prop} {E : Value → Shared → Prop} {s : Shared} (h : wpAny M A (isTrue c cenv (eval c cenv)) Q E s) : wpAny M A (testsOf [c] cenv) Q E s := by
  unfold testsOf
  rw [List.forIn_cons]
  refine wpAny_bind ?_
  rw [if_pos rfl]
  refine wpAny_bind (wpAny_mono h (fun b s' hb => wpAny_pure ?_) fun _ _ e => e)
  show wpAny M A (forIn [] b _) Q E s'
  rw [List.forIn_nil]
  exact wpAny_pure hb

section
variable {prog : Program} {w : World} {A : Around} {E : Value → Shared → Prop} {env : Env}

/-- the block of a comprehension, over an iterator that stands -/
theorem comp_core {elt target iter : Expr} {ifs : List Expr} {scope : Scope} {cl : List (Str × Addr)} {pos : Pos} {s₂ : Shared} {I : Addr} {fp wr : List Addr} {n : Nat} {P : Nat → Value → Prop} {St : Nat → Heap → Prop}
    (W : Walks prog w A I fp wr n P St) (hsz : n ≤ 2 ^ 20) (J : Nat → List Value → List (Addr × Obj) → Prop) {RR : Value → Addr → Result → Shared → Prop}
    (hcell : ∀ y ∈ scope.names, y.2 ≠ .cell) (hkind : scope.kind = .function) (hst : St 0 s₂.heap) (hfp : ∀ b ∈ fp, b < s₂.heap.objs.size) (hlive : ∀ i h, St i h → ∀ b ∈ fp, ∃ o, h.get? b = some o)
    (hJl : ∀ i ys news, J i ys news → ys.length ≤ i) (h0 : J 0 [] [])
    (ht : ∀ v, letOwnedTupleGo target (.ref I) v = pure ())
    (turn : ∀ (C : Addr) (fpD : List Addr) (i : Nat) (v : Value) m₁ ys news₁ H tk own, i < n → P i v → J i ys news₁ → (∀ p ∈ news₁, p.1 ∉ fpD) → (∀ p ∈ own, p.1 ∈ fpD) → (∀ b ∈ fpD, (∃ o, (hideAll s₂.heap wr).get? b = some o) ∨ ∃ o, (b, o) ∈ own) →
      Fr (hideAll s₂.heap wr) C H m₁ → News (hideAll s₂.heap wr) C H (own ++ news₁) →
      wpAny (model prog w) A (assign target (compEnvC scope cl C env) v) (fun _ s' => wpAny (model prog w) A (testsOf ifs (compEnvC scope cl C env)) (fun ok s'' =>
        if ok = true then wpAny (model prog w) A (eval elt (compEnvC scope cl C env)) (fun y s₄ => EltJ (hideAll s₂.heap wr) C fpD own (J (i + 1) (ys ++ [y])) s₂ s₄) (fun _ _ => False) s''
        else EltJ (hideAll s₂.heap wr) C fpD own (J (i + 1) ys) s₂ s'') (fun _ _ => False) s') (fun _ _ => False) { s₂ with heap := H, toks := tk })
    (hRR : ∀ D C H tk m' ys k news, H.Ns C m' → s₂.heap.get? C = none → D ≠ C → News (hideAll s₂.heap wr) C H ((D, PySem.W.listOf ys.toArray k) :: news) → Ext (hideAll s₂.heap wr) H → (∀ p ∈ news, p.1 ≠ D) → J n ys news → RR (.ref D) C (.ok .next) { s₂ with heap := H, toks := tk }) :
    wpAny (model prog w) A (newList []) (fun acc s₃ => wpAny (model prog w) A (newFunctionEnv scope env.globals cl [] env.qual none .none (some env)) (fun cenv s₄ =>
      codeAny (model prog w) A (.compStart (.ListComp elt [⟨target, iter, ifs, 0⟩] scope pos) 0 (.ref I) acc { cenv with scope := relabel scope env }) (RR acc cenv.locals) s₄) E s₃) E s₂ := by
  refine wpAny_newObj_type (wpAny_newFunctionEnv hcell (by intro y hy; simp at hy) (fun h₁ hns₁ hsb₁ => ?_) hkind)
  dsimp only at hns₁ hsb₁ ⊢
  generalize hH2 : s₂.heap.push { cls := .type "list", dict := none, data := .seq ([] : List Value).toArray } = H2 at hns₁ hsb₁ ⊢
  have hC : H2.objs.size = s₂.heap.objs.size + 1 := by rw [← hH2, Heap.size_push]
  generalize hCe : H2.objs.size = C at *
  generalize hDe : s₂.heap.objs.size = D at *
  have hDC : D ≠ C := by rw [hC]; exact Nat.ne_of_lt (Nat.lt_succ_self _)
  have below : ∀ b, b < D → b ≠ C ∧ b ≠ D := fun b hb => ⟨by rw [hC]; exact Nat.ne_of_lt (Nat.lt_succ_of_lt hb), Nat.ne_of_lt hb⟩
  have hDf : D ∉ fp := fun hm => Nat.lt_irrefl _ (hfp _ hm)
  have hCf : C ∉ fp := fun hm => by have := hfp _ hm; rw [hC] at this; exact Nat.lt_irrefl _ (Nat.lt_of_succ_lt this)
  have fresh : ∀ a, D ≤ a → s₂.heap.get? a = none := fun a ha => by
    cases e : s₂.heap.get? a with
    | none => rfl
    | some o' => exact absurd (Heap.lt_size e) (Nat.not_lt.mpr (hDe ▸ ha))
  have gfresh : ∀ a, D ≤ a → (hideAll s₂.heap wr).get? a = none := fun a ha => by
    cases e : (hideAll s₂.heap wr).get? a with
    | none => rfl
    | some o' => have := of_hideAll _ e; rw [fresh a ha] at this; cases this
  have old : Ext s₂.heap h₁ := fun b o e => hsb₁.extBut b o (below b (hDe ▸ Heap.lt_size e)).1 (Heap.get?_push_of_some _ (hH2 ▸ Heap.get?_push_of_some _ e))
  have hacc : h₁.get? D = some (PySem.W.listOf #[] 0) := hsb₁.extBut _ _ hDC (Heap.get?_push_of_some _ (hH2 ▸ (hDe ▸ Heap.get?_push_size _ rfl)))
  have hst₁ : St 0 h₁ := W.frame _ _ _ hst fun b _ o e => old b o e
  have hg : (hideAll s₂.heap wr).objs.size ≤ C := by rw [hideAll_size, hDe, hC]; exact Nat.le_succ _
  have loop : ∀ s₃ : Shared, s₃ = { s₂ with heap := h₁, toks := s₂.toks + ([] : List (Str × Value)).length } →
      codeAny (model prog w) A (.compLoop (.ListComp elt [⟨target, iter, ifs, 0⟩] scope pos) 0 (.ref I) (.ref D) (compEnvC scope cl C env)) (RR (.ref D) C) s₃ := by
    rintro s₃ rfl
    refine codeAny_compLoop_tests
      (fun k s' => ∃ H tk m' ys kD news i, s' = { s₂ with heap := H, toks := tk } ∧ St i H ∧ H.get? D = some (PySem.W.listOf ys.toArray kD) ∧ H.Ns C m' ∧ Ext (hideAll s₂.heap wr) H ∧
        (∀ p ∈ news, H.get? p.1 = some p.2 ∧ p.1 ≠ C ∧ (hideAll s₂.heap wr).get? p.1 = none) ∧ (∀ p ∈ news, p.1 ∉ D :: fp) ∧ J i ys news ∧ i ≤ n ∧ k = n + 1 - i) ?_ (n + 1)
      ⟨h₁, _, _, [], 0, [], 0, rfl, hst₁, hacc, hns₁, fun b o e => old b o (of_hideAll _ e), by simp, by simp, h0, Nat.zero_le _, rfl⟩ ht
    rintro k s' hz1
    refine hold fun hng => ?_
    obtain ⟨H, tk, m', ys, kD, news, i, rfl, hst', hD', hn', hk, hN, hoff, hJ, hi, rfl⟩ := hz1
    (refine hng ?_; clear hng)
    have hCw : C ∉ wr := fun h => hCf (W.sub _ h)
    have hDw : D ∉ wr := fun h => hDf (W.sub _ h)
    have hCl : C < H.objs.size := hn'.lt
    by_cases hlt : i < n
    · refine W.item i _ _ _ hlt hst' fun v h₁' tk₁ hPv hst₁' hk₁ => ?_
      have gw : ∀ b ∈ wr, (hideAll s₂.heap wr).get? b = none := fun b hb => hideAll_none _ hb
      have hk' : Ext (hideAll s₂.heap wr) h₁' := fun b o e => hk₁ b o (fun hb => by rw [gw b hb] at e; cases e) (hk b o e)
      have hD1 : h₁'.get? D = some (PySem.W.listOf ys.toArray kD) := hk₁ _ _ hDw hD'
      have F₁ : Fr (hideAll s₂.heap wr) C h₁' m' := ⟨hn'.at' fun o e => hk₁ _ o hCw e, hk', hg⟩
      have N₁ : News (hideAll s₂.heap wr) C h₁' (((D, PySem.W.listOf ys.toArray kD) :: ownOf (hideAll s₂.heap wr) fp h₁') ++ news) := fun p hp => by
        rcases List.mem_append.mp hp with hp | hp
        · rcases List.mem_cons.mp hp with rfl | hp
          · exact ⟨hD1, hDC, gfresh _ (Nat.le_refl _)⟩
          · exact news_ownOf hCf p hp
        · have z := hN p hp
          exact ⟨hk₁ _ _ (fun hb => hoff p hp (.tail _ (W.sub _ hb))) z.1, z.2⟩
      have fin : ∀ {J'} {s₄ : Shared}, EltJ (hideAll s₂.heap wr) C (D :: fp) ((D, PySem.W.listOf ys.toArray kD) :: ownOf (hideAll s₂.heap wr) fp h₁') J' s₂ s₄ →
          ∃ H' tk' m₂ news₂, s₄ = { s₂ with heap := H', toks := tk' } ∧ St (i + 1) H' ∧ H'.get? D = some (PySem.W.listOf ys.toArray kD) ∧ H'.Ns C m₂ ∧ Ext (hideAll s₂.heap wr) H' ∧
            (∀ p ∈ news₂, H'.get? p.1 = some p.2 ∧ p.1 ≠ C ∧ (hideAll s₂.heap wr).get? p.1 = none) ∧ (∀ p ∈ news₂, p.1 ∉ D :: fp) ∧ J' news₂ := by
        rintro J' s₄ hz1
        refine hold fun hng => ?_
        obtain ⟨H', tk', m₂, news₂, rfl, F₂, N₂, o₂, j₂⟩ := hz1
        (refine hng ?_; clear hng)
        refine ⟨H', tk', m₂, news₂, rfl, W.frame _ _ _ hst₁' fun b hb o e => ?_, (N₂ _ (.head _)).1, F₂.ns, F₂.keep, fun p hp => N₂ p (List.mem_append_right _ hp), o₂, j₂⟩
        cases hgn : (hideAll s₂.heap wr).get? b with
        | some o₀ =>
          have e1 := hk' b o₀ hgn
          rw [e] at e1
          cases e1
          exact F₂.keep b o hgn
        | none => exact (N₂ _ (List.mem_append_left _ (.tail _ (mem_ownOf hb hgn e)))).1
      have T := turn C (D :: fp) i v m' ys news h₁' tk₁ ((D, PySem.W.listOf ys.toArray kD) :: ownOf (hideAll s₂.heap wr) fp h₁') hlt hPv hJ hoff
        (fun p hp => by
          rcases List.mem_cons.mp hp with rfl | hp
          · exact .head _
          · exact .tail _ (ownOf_sub p hp))
        (fun b hb => by
          rcases List.mem_cons.mp hb with rfl | hb
          · exact .inr ⟨_, .head _⟩
          · obtain ⟨o, e⟩ := hlive _ _ hst₁' b hb
            cases hgn : (hideAll s₂.heap wr).get? b with
            | some o₀ => exact .inl ⟨_, rfl⟩
            | none => exact .inr ⟨_, .tail _ (mem_ownOf hb hgn e)⟩)
        F₁ N₁
      refine wpAny_mono T (fun _ s₃ h₃ => ?_) fun _ _ f => f.elim
      refine wpAny_mono h₃ (fun ok s₄ h₄ => ?_) fun _ _ f => f.elim
      cases ok with
      | false =>
        simp only [Bool.false_eq_true, if_false] at h₄ ⊢
        refine hold fun hng => ?_
        obtain ⟨H', tk', m₂, news₂, rfl, st', d', ns', ex', n', o', j'⟩ := fin h₄
        (refine hng ?_; clear hng)
        exact ⟨n + 1 - (i + 1), by (clear hsz hCe hDe hC hDC hg hi hCl; omega), H', tk', m₂, ys, kD, news₂, i + 1, rfl, st', d', ns', ex', n', o', j', hlt, rfl⟩
      | true =>
        simp only [if_true] at h₄ ⊢
        refine wpAny_mono h₄ (fun y s₅ h₅ => ?_) fun _ _ f => f.elim
        refine hold fun hng => ?_
        obtain ⟨H', tk', m₂, news₂, rfl, st', d', ns', ex', n', o', j'⟩ := fin h₅
        (refine hng ?_; clear hng)
        have hyl : ys.length ≤ 2 ^ 20 := by have := hJl _ _ _ hJ; (clear hCe hDe hC hDC hg hi hCl; omega)
        refine append_at d' (fun h₆ hs₆ e₆ => ?_) (by rw [List.size_toArray, sizeLine_eq]; (clear hsz hCe hDe hC hDC hg hi hCl hlt; omega))
        have kb := But.of_same hs₆
        refine ⟨n + 1 - (i + 1), by (clear hsz hCe hDe hC hDC hg hi hCl hyl; omega), h₆, tk', m₂, ys ++ [y], kD + 1, news₂, i + 1, rfl, W.frame _ _ _ st' fun b hb o e => kb b o (fun c => hDf (c ▸ hb)) e, by rw [e₆]; simp, ns'.sameBut hs₆ (Ne.symm hDC), fun b o e => kb b o (fun c => ?_) (ex' b o e), fun p hp => ⟨kb _ _ (fun c => o' p hp (c ▸ .head _)) (n' p hp).1, (n' p hp).2⟩, o', j', hlt, rfl⟩
        rw [c, gfresh D (Nat.le_refl _)] at e; cases e
    · have hin : i = n := by (clear hsz hCe hDe hC hDC hg hCl; omega)
      subst hin
      refine W.done _ _ _ hst' fun h₁' tk₁ hk₁ => ?_
      have gw : ∀ b ∈ wr, (hideAll s₂.heap wr).get? b = none := fun b hb => hideAll_none _ hb
      refine hRR D C h₁' tk₁ m' ys kD news (hn'.at' fun o e => hk₁ _ o hCw e) (fresh C (by rw [hC]; exact Nat.le_succ _)) hDC (fun p hp => ?_) (fun b o e => hk₁ b o (fun hb => by rw [gw b hb] at e; cases e) (hk b o e)) (fun p hp c => hoff p hp (c ▸ .head _)) hJ
      rcases List.mem_cons.mp hp with rfl | hp
      · exact ⟨hk₁ _ _ hDw hD', hDC, gfresh _ (Nat.le_refl _)⟩
      · have z := hN p hp
        exact ⟨hk₁ _ _ (fun hb => hoff p hp (.tail _ (W.sub _ hb))) z.1, z.2⟩
  have L := loop _ rfl
  exact codeAny_compStart_list L (W.self 0 _ _ _ hst₁ L)

/-- the turns of a comprehension over an iterator -/
structure CompTurns (prog : Program) (w : World) (A : Around) (env : Env) (elt target : Expr) (ifs : List Expr) (scope : Scope) (cl : List (Str × Addr)) (s₂ : Shared) (I : Addr) (fp wr : List Addr) (n : Nat) (P : Nat → Value → Prop) (St : Nat → Heap → Prop) (J : Nat → List Value → List (Addr × Obj) → Prop) : Prop where
  W : Walks prog w A I fp wr n P St
  sz : n ≤ 2 ^ 20
  st : St 0 s₂.heap
  fpl : ∀ b ∈ fp, b < s₂.heap.objs.size
  live : ∀ i h, St i h → ∀ b ∈ fp, ∃ o, h.get? b = some o
  len : ∀ i ys news, J i ys news → ys.length ≤ i
  zero : J 0 [] []
  turn : ∀ (C : Addr) (fpD : List Addr) (i : Nat) (v : Value) m₁ ys news₁ H tk own, i < n → P i v → J i ys news₁ → (∀ p ∈ news₁, p.1 ∉ fpD) → (∀ p ∈ own, p.1 ∈ fpD) → (∀ b ∈ fpD, (∃ o, (hideAll s₂.heap wr).get? b = some o) ∨ ∃ o, (b, o) ∈ own) →
      Fr (hideAll s₂.heap wr) C H m₁ → News (hideAll s₂.heap wr) C H (own ++ news₁) →
      wpAny (model prog w) A (assign target (compEnvC scope cl C env) v) (fun _ s' => wpAny (model prog w) A (testsOf ifs (compEnvC scope cl C env)) (fun ok s'' =>
        if ok = true then wpAny (model prog w) A (eval elt (compEnvC scope cl C env)) (fun y s₄ => EltJ (hideAll s₂.heap wr) C fpD own (J (i + 1) (ys ++ [y])) s₂ s₄) (fun _ _ => False) s''
        else EltJ (hideAll s₂.heap wr) C fpD own (J (i + 1) ys) s₂ s'') (fun _ _ => False) s') (fun _ _ => False) { s₂ with heap := H, toks := tk }

/-- new objects -/
def Newer (g H : Heap) (news : List (Addr × Obj)) : Prop := ∀ p ∈ news, H.get? p.1 = some p.2 ∧ g.get? p.1 = none

/-- what an iterator at hand gives a comprehension -/
inductive CompAt (prog : Program) (w : World) (A : Around) (env : Env) (elt target : Expr) (ifs : List Expr) (scope : Scope) (cl : List (Str × Addr)) (Q : Value → Shared → Prop) (it : Value) (s₂ : Shared) : Prop
  | mk (I : Addr) (fp : List Addr) (wr : List Addr) (n : Nat) (P : Nat → Value → Prop) (St : Nat → Heap → Prop) (J : Nat → List Value → List (Addr × Obj) → Prop) (q1 : it = .ref I) (q2 : CompTurns prog w A env elt target ifs scope cl s₂ I fp wr n P St J) (q3 : ∀ D H tk ys k news, Ext (hideAll s₂.heap wr) H → Newer (hideAll s₂.heap wr) H ((D, PySem.W.listOf ys.toArray k) :: news) → (∀ p ∈ news, p.1 ≠ D) → J n ys news → Q (.ref D) { s₂ with heap := H, toks := tk }) : CompAt prog w A env elt target ifs scope cl Q it s₂
/-- the same, where the list is stored at once -/
inductive CompAtA (prog : Program) (w : World) (A : Around) (env : Env) (elt target : Expr) (ifs : List Expr) (scope : Scope) (cl : List (Str × Addr)) (y : Str) (Q : Flow → Shared → Prop) (it : Value) (s₂ : Shared) : Prop
  | mk (I : Addr) (fp : List Addr) (wr : List Addr) (n : Nat) (P : Nat → Value → Prop) (St : Nat → Heap → Prop) (J : Nat → List Value → List (Addr × Obj) → Prop) (m : Str → Option Value) (q1 : it = .ref I) (q2 : CompTurns prog w A env elt target ifs scope cl s₂ I fp wr n P St J) (q3 : env.locals ∉ wr) (q4 : s₂.heap.Ns env.locals m) (q5 : ∀ D H tk ys k news, (∀ b o, b ≠ env.locals → (hideAll s₂.heap wr).get? b = some o → H.get? b = some o) → H.Ns env.locals (fun z => if z = y then some (.ref D) else m z) → Newer (hideAll s₂.heap wr) H ((D, PySem.W.listOf ys.toArray k) :: news) → (∀ p ∈ news, p.1 ≠ D) → J n ys news → Q .next { s₂ with heap := H, toks := tk }) : CompAtA prog w A env elt target ifs scope cl y Q it s₂

theorem comp_eval {elt target iter : Expr} {ifs : List Expr} {scope : Scope} {cl : List (Str × Addr)} {pos : Pos} {s : Shared} {Q : Value → Shared → Prop}
    (hclos : closureFor scope env = pure cl) (hcell : ∀ y ∈ scope.names, y.2 ≠ .cell) (hkind : scope.kind = .function)
    (hnames : ∀ y ∈ scope.names, y.2 = .local → scope.names.lookup y.1 = some .local) (ht : ∀ I v, letOwnedTupleGo target (.ref I) v = pure ())
    (h : wpAny (model prog w) A (eval iter env) (fun xv s₁ => wpAny (model prog w) A (pyIter xv) (fun it s₂ => CompAt prog w A env elt target ifs scope cl Q it s₂) E s₁) E s)
    (hs : ∀ x, foldedSetIterable iter env x = pure x := by intro _; rfl) :
    wpAny (model prog w) A (eval (.ListComp elt [⟨target, iter, ifs, 0⟩] scope pos) env) Q E s := by
  rw [eval_ListComp]
  refine wpAny_comprehension_free (use := none) rfl hs hclos hkind hnames (wpAny_mono h (fun xv s₁ h₁ => wpAny_mono h₁ (fun it s₂ h₂ => ?_) fun _ _ e => e) fun _ _ e => e)
  refine hold fun hng => ?_
  obtain ⟨I, fp, wr, n, P, St, J, rfl, T, hQ⟩ := h₂
  (refine hng ?_; clear hng)
  refine comp_core (RR := fun acc C => compPost (model prog w) A E none Q acc C) T.W T.sz J hcell hkind T.st T.fpl T.live T.len T.zero (ht I) T.turn ?_
  intro D C H tk m' ys k news hn hC hDC N ex hnD hJ
  refine ⟨m', hn, fun h'' hs'' => ?_⟩
  have kb := But.of_same hs''
  refine hQ D h'' tk ys k news (fun b o e => kb b o (fun c => ?_) (ex b o e)) (fun p hp => ⟨kb _ _ (N p hp).2.1 (N p hp).1, (N p hp).2.2⟩) hnD hJ
  have := of_hideAll _ e
  rw [c, hC] at this; cases this

theorem comp_assign {elt target iter : Expr} {ifs : List Expr} {scope : Scope} {cl : List (Str × Addr)} {y : Str} {py pos spos : Pos} {s : Shared} {Q : Flow → Shared → Prop}
    (hsw : swapsWith (.ListComp elt [⟨target, iter, ifs, 0⟩] scope pos) (some (.Name y py)) spos.line env = pure true)
    (hclos : closureFor scope env = pure cl) (hcell : ∀ y ∈ scope.names, y.2 ≠ .cell) (hkind : scope.kind = .function)
    (hnames : ∀ y ∈ scope.names, y.2 = .local → scope.names.lookup y.1 = some .local) (ht : ∀ I v, letOwnedTupleGo target (.ref I) v = pure ())
    (hy : env.kindOf y = some .local) (hp : (env.scope.kind == .class || (env.scope.kind == .module && env.locals != env.globals)) = false)
    (h : wpAny (model prog w) A (eval iter env) (fun xv s₁ => wpAny (model prog w) A (pyIter xv) (fun it s₂ => CompAtA prog w A env elt target ifs scope cl y Q it s₂) E s₁) E s)
    (hs : ∀ x, foldedSetIterable iter env x = pure x := by intro _; rfl) :
    wpAny (model prog w) A (exec (.Assign [.Name y py] (.ListComp elt [⟨target, iter, ifs, 0⟩] scope pos) spos) env) Q E s := by
  rw [exec_Assign_Name_used _ _ _ _ hsw]
  refine wpAny_bind (wpAny_standAt (wpAny_bind ?_))
  show wpAny _ A (do let _ ← comprehension (.ListComp elt [⟨target, iter, ifs, 0⟩] scope pos) scope env _ (newList []) false (eval iter env) (some (assign (.Name y py) env))) _ _ s
  refine wpAny_bind (wpAny_mono (wpAny_comprehension_free (use := some (assign (.Name y py) env)) (Q := fun _ s' => Q .next s') rfl hs hclos hkind hnames
    (wpAny_mono h (fun xv s₁ h₁ => wpAny_mono h₁ (fun it s₂ h₂ => ?_) fun _ _ e => e) fun _ _ e => e)) (fun _ s' hq => wpAny_pure (wpAny_pure hq)) fun _ _ e => e)
  refine hold fun hng => ?_
  obtain ⟨I, fp, wr, n, P, St, J, m, rfl, T, hLw, hL, hQ⟩ := h₂
  (refine hng ?_; clear hng)
  refine comp_core (RR := fun acc C => compPost (model prog w) A E (some (assign (.Name y py) env)) (fun _ s' => Q .next s') acc C) T.W T.sz J hcell hkind T.st T.fpl T.live T.len T.zero (ht I) T.turn ?_
  intro D C H tk m' ys k news hn hC hDC N ex hnD hJ
  refine hold fun hng => ?_
  obtain ⟨oL, esL, epL, hoL, rL⟩ := hL
  (refine hng ?_; clear hng)
  have hLC : env.locals ≠ C := by rintro rfl; rw [hC] at hoL; cases hoL
  have hLg : (hideAll s₂.heap wr).get? env.locals = some oL := hideAll_get _ hoL hLw
  have hLp : ∀ p ∈ (D, PySem.W.listOf ys.toArray k) :: news, p.1 ≠ env.locals := fun p hp c => by
    have := (N p hp).2.2
    rw [c, hLg] at this; cases this
  show wpAny _ A (assign (.Name y py) env (.ref D)) _ _ _
  refine wpAny_assign_Name (wpAny_storeName_local hy ⟨oL, esL, epL, ex _ _ hLg, rL⟩ (fun h₂ hn₂ hs₂ => ?_) hp)
  have kb₂ := But.of_same hs₂
  refine ⟨m', hn.sameBut hs₂ (Ne.symm hLC), fun h₃ hs₃ => ?_⟩
  have kb₃ := But.of_same hs₃
  refine hQ D h₃ _ ys k news (fun b o hb e => kb₃ b o (fun c => ?_) (kb₂ b o hb (ex b o e))) (hn₂.sameBut hs₃ hLC) (fun p hp => ⟨kb₃ _ _ (N p hp).2.1 (kb₂ _ _ (hLp p hp) (N p hp).1), (N p hp).2.2⟩) hnD hJ
  have := of_hideAll _ e
  rw [c, hC] at this; cases this
end

theorem Newer.news {h₀ h H : Heap} {L : Addr} {m : Str → Option Value} {news : List (Addr × Obj)} (X : Newer h H news) (F : Fr h₀ L h m) : News h₀ L H news := fun p hp => by
  have z := X p hp
  refine ⟨z.1, fun c => ?_, ?_⟩
  · refine hold fun hng => ?_
    obtain ⟨o, _, _, ho, _⟩ := F.ns
    (refine hng ?_; clear hng)
    have := z.2
    rw [c, ho] at this; cases this
  · cases e : h₀.get? p.1 with
    | none => rfl
    | some o => have := F.keep _ _ e; rw [z.2] at this; cases this

section
variable {prog : Program} {w : World} {A : Around} {E : Value → Shared → Prop} {env : Env}

/-- a comprehension over a list -/
theorem comp_list {elt target : Expr} {ifs : List Expr} {scope : Scope} {cl : List (Str × Addr)} {s : Shared} {Q : Value → Shared → Prop} {l : Addr} {vs : List Value} (J : Nat → List Value → List (Addr × Obj) → Prop)
    (hh : A.handled = none) (hl : s.heap.IsList l vs.toArray) (hn : vs.length ≤ 2 ^ 20) (hJl : ∀ i ys news, J i ys news → ys.length ≤ i) (h0 : J 0 [] [])
    (turn : ∀ (g : Heap) (C : Addr) (fpD : List Addr) (i : Nat) (v : Value) m₁ ys news₁ H tk own, Ext s.heap g → vs[i]? = some v → J i ys news₁ → (∀ p ∈ news₁, p.1 ∉ fpD) → (∀ p ∈ own, p.1 ∈ fpD) → (∀ b ∈ fpD, (∃ o, g.get? b = some o) ∨ ∃ o, (b, o) ∈ own) →
      Fr g C H m₁ → News g C H (own ++ news₁) →
      wpAny (model prog w) A (assign target (compEnvC scope cl C env) v) (fun _ s' => wpAny (model prog w) A (testsOf ifs (compEnvC scope cl C env)) (fun ok s'' =>
        if ok = true then wpAny (model prog w) A (eval elt (compEnvC scope cl C env)) (fun y s₄ => EltJ g C fpD own (J (i + 1) (ys ++ [y])) s s₄) (fun _ _ => False) s''
        else EltJ g C fpD own (J (i + 1) ys) s s'') (fun _ _ => False) s') (fun _ _ => False) { s with heap := H, toks := tk })
    (done : ∀ D H tk ys k news, Ext s.heap H → Newer s.heap H ((D, PySem.W.listOf ys.toArray k) :: news) → (∀ p ∈ news, p.1 ≠ D) → J vs.length ys news → Q (.ref D) { s with heap := H, toks := tk }) :
    wpAny (model prog w) A (pyIter (.ref l)) (fun it s₂ => CompAt prog w A env elt target ifs scope cl Q it s₂) E s := by
  refine hold fun hng => ?_
  obtain ⟨ol, hol, _⟩ := id hl
  (refine hng ?_; clear hng)
  have hlt : l < s.heap.objs.size := Heap.lt_size hol
  refine wpAny_pyIter_list hl ?_
  have W := Walks.list (prog := prog) (w := w) hh s.heap.objs.size l (Nat.ne_of_lt hlt) vs.toArray
  have hlen : vs.toArray.size = vs.length := by simp
  rw [hlen] at W
  have eg : ∀ o : Obj, Ext s.heap (hideAll (s.heap.push o) [s.heap.objs.size]) := fun o b x e => hideAll_get _ (Heap.get?_push_of_some _ e) (by simpa using Nat.ne_of_lt (Heap.lt_size e))
  refine ⟨_, _, _, _, _, _, J, rfl, ⟨W, hn, ⟨⟨_, Heap.get?_push_size _ rfl, rfl, rfl⟩, hl.at fun o e => Heap.get?_push_of_some _ e⟩, ?_, ?_, hJl, h0, ?_⟩, ?_⟩
  · intro b hb
    show b < (s.heap.push _).objs.size
    rw [Heap.size_push]
    rcases List.mem_cons.mp hb with rfl | hb
    · exact Nat.lt_succ_self _
    · rw [List.mem_singleton.mp hb]; exact Nat.lt_succ_of_lt hlt
  · rintro i h hz1
    refine hold fun hng => ?_
    obtain ⟨⟨o, h1, _⟩, o', h2, _⟩ := hz1
    (refine hng ?_; clear hng)
    rintro b hb
    rcases List.mem_cons.mp hb with rfl | hb
    · exact ⟨_, h1⟩
    · rw [List.mem_singleton.mp hb]; exact ⟨_, h2⟩
  · intro C fpD i v m₁ ys news₁ H tk own hi hP hJ ho hw hb F N
    exact turn _ C fpD i v m₁ ys news₁ H tk own (eg _) (by simpa using hP) hJ ho hw hb F N
  · intro D H tk ys k news ex nw hnD hJ
    refine done D H tk ys k news (fun b o e => ex b o (eg _ b o e)) (fun p hp => ⟨(nw p hp).1, ?_⟩) hnD hJ
    cases e : s.heap.get? p.1 with
    | none => rfl
    | some o => exact absurd ((nw p hp).2.symm.trans (eg _ _ _ e)) (by simp)
theorem comp_listA {elt target : Expr} {ifs : List Expr} {scope : Scope} {cl : List (Str × Addr)} {s : Shared} {y : Str} {Q : Flow → Shared → Prop} {l : Addr} {vs : List Value} {h₀ : Heap} {m : Str → Option Value} {newsL : List (Addr × Obj)} (J : Nat → List Value → List (Addr × Obj) → Prop)
    (hh : A.handled = none) (hl : s.heap.IsList l vs.toArray) (hn : vs.length ≤ 2 ^ 20) (F0 : Fr h₀ env.locals s.heap m) (N0 : News h₀ env.locals s.heap newsL) (hJl : ∀ i ys news, J i ys news → ys.length ≤ i) (h0 : J 0 [] [])
    (turn : ∀ (g : Heap) (C : Addr) (fpD : List Addr) (i : Nat) (v : Value) m₁ ys news₁ H tk own, Ext s.heap g → vs[i]? = some v → J i ys news₁ → (∀ p ∈ news₁, p.1 ∉ fpD) → (∀ p ∈ own, p.1 ∈ fpD) → (∀ b ∈ fpD, (∃ o, g.get? b = some o) ∨ ∃ o, (b, o) ∈ own) →
      Fr g C H m₁ → News g C H (own ++ news₁) →
      wpAny (model prog w) A (assign target (compEnvC scope cl C env) v) (fun _ s' => wpAny (model prog w) A (testsOf ifs (compEnvC scope cl C env)) (fun ok s'' =>
        if ok = true then wpAny (model prog w) A (eval elt (compEnvC scope cl C env)) (fun y s₄ => EltJ g C fpD own (J (i + 1) (ys ++ [y])) s s₄) (fun _ _ => False) s''
        else EltJ g C fpD own (J (i + 1) ys) s s'') (fun _ _ => False) s') (fun _ _ => False) { s with heap := H, toks := tk })
    (done : ∀ D H tk ys k news, Fr h₀ env.locals H (fun z => if z = y then some (.ref D) else m z) → News h₀ env.locals H ((D, PySem.W.listOf ys.toArray k) :: (news ++ newsL)) → (∀ p ∈ (D, PySem.W.listOf ys.toArray k) :: news, s.heap.get? p.1 = none) → (∀ p ∈ news, p.1 ≠ D) → J vs.length ys news → Q .next { s with heap := H, toks := tk }) :
    wpAny (model prog w) A (pyIter (.ref l)) (fun it s₂ => CompAtA prog w A env elt target ifs scope cl y Q it s₂) E s := by
  refine hold fun hng => ?_
  obtain ⟨ol, hol, _⟩ := id hl
  (refine hng ?_; clear hng)
  have hlt : l < s.heap.objs.size := Heap.lt_size hol
  refine wpAny_pyIter_list hl ?_
  have W := Walks.list (prog := prog) (w := w) hh s.heap.objs.size l (Nat.ne_of_lt hlt) vs.toArray
  have hlen : vs.toArray.size = vs.length := by simp
  rw [hlen] at W
  have eg : ∀ o : Obj, Ext s.heap (hideAll (s.heap.push o) [s.heap.objs.size]) := fun o b x e => hideAll_get _ (Heap.get?_push_of_some _ e) (by simpa using Nat.ne_of_lt (Heap.lt_size e))
  refine ⟨_, _, _, _, _, _, J, m, rfl, ⟨W, hn, ⟨⟨_, Heap.get?_push_size _ rfl, rfl, rfl⟩, hl.at fun o e => Heap.get?_push_of_some _ e⟩, ?_, ?_, hJl, h0, ?_⟩, ?_, (F0.push _).ns, ?_⟩
  · intro b hb
    show b < (s.heap.push _).objs.size
    rw [Heap.size_push]
    rcases List.mem_cons.mp hb with rfl | hb
    · exact Nat.lt_succ_self _
    · rw [List.mem_singleton.mp hb]; exact Nat.lt_succ_of_lt hlt
  · rintro i h hz1
    refine hold fun hng => ?_
    obtain ⟨⟨o, h1, _⟩, o', h2, _⟩ := hz1
    (refine hng ?_; clear hng)
    rintro b hb
    rcases List.mem_cons.mp hb with rfl | hb
    · exact ⟨_, h1⟩
    · rw [List.mem_singleton.mp hb]; exact ⟨_, h2⟩
  · intro C fpD i v m₁ ys news₁ H tk own hi hP hJ ho hw hb F N
    exact turn _ C fpD i v m₁ ys news₁ H tk own (eg _) (by simpa using hP) hJ ho hw hb F N
  · intro hm
    exact absurd F0.ns.lt ((List.mem_singleton.mp hm) ▸ Nat.lt_irrefl _)
  · intro D H tk ys k news ex hns nw hnD hJ
    have nw' : ∀ p ∈ (D, PySem.W.listOf ys.toArray k) :: news, s.heap.get? p.1 = none := fun p hp => by
      cases e : s.heap.get? p.1 with
      | none => rfl
      | some o => exact absurd ((nw p hp).2.symm.trans (eg _ _ _ e)) (by simp)
    have hL0 : ∀ b o, h₀.get? b = some o → b ≠ env.locals := fun b o e c => absurd (Nat.lt_of_lt_of_le (Heap.lt_size e) F0.above) (c ▸ Nat.lt_irrefl _)
    refine done D H tk ys k news ⟨hns, fun b o e => ex b o (hL0 b o e) (eg _ b o (F0.keep b o e)), F0.above⟩ (fun p hp => ?_) nw' hnD hJ
    have new : ∀ p ∈ (D, PySem.W.listOf ys.toArray k) :: news, H.get? p.1 = some p.2 ∧ p.1 ≠ env.locals ∧ h₀.get? p.1 = none := fun p hp => by
      refine ⟨(nw p hp).1, fun c => ?_, ?_⟩
      · refine hold fun hng => ?_
        obtain ⟨o, _, _, ho, _⟩ := F0.ns
        (refine hng ?_; clear hng)
        have := nw' p hp
        rw [c, ho] at this; cases this
      · cases e : h₀.get? p.1 with
        | none => rfl
        | some o => have := F0.keep _ _ e; rw [nw' p hp] at this; cases this
    rcases List.mem_cons.mp hp with rfl | hp
    · exact new _ (.head _)
    · rcases List.mem_append.mp hp with hp | hp
      · exact new _ (.tail _ hp)
      · have z := N0 p hp
        exact ⟨ex _ _ z.2.1 (eg _ _ _ z.1), z.2⟩
end

-- part R1
theorem offR1 : True := by w_top off; trivial
local macro_rules | `(tactic| walk_at "call builtin:len") => `(tactic| (k_here; (with_reducible show wpAny _ _ (call (Value.builtin "len") [Value.ref _]) _ _ _); (with_unfolding_all refine' len_any ?k1 ?k2 ?k3 ?_; (case k1 => first | is_list | exact News.isList (by assumption) (by assumption)); (case k2 => assumption); (case k3 => omega); k_whole); intro t9 tk9))
theorem st4 {M A Q E s x1 x2 x3 x4 x5} (h : wpAny M A (exec (Stmt.If x1 x2 x3 x4) x5) Q E s) : wpAny M A (exec (Stmt.If x1 x2 x3 x4) x5) Q E s := h
theorem st5 {M A Q E s x1 x2 x3 x4 x5 x6 x7} (h : wpAny M A (exec (Stmt.Assign x1 (Expr.IfExp x2 x3 x4 x5) x6) x7) Q E s) : wpAny M A (exec (Stmt.Assign x1 (Expr.IfExp x2 x3 x4 x5) x6) x7) Q E s := h
theorem st6 {M A Q E s x1} (h : wpAny M A (pyIter (Value.ref x1)) Q E s) : wpAny M A (pyIter (Value.ref x1)) Q E s := h
theorem st7 {M A Q E s x1 x2 x3 x4} (h : wpAny M A (subscriptTail x1 x2 (Value.ref x3) x4) Q E s) : wpAny M A (subscriptTail x1 x2 (Value.ref x3) x4) Q E s := h
theorem st8 {M A Q E s x1} (h : wpAny M A (newList x1) Q E s) : wpAny M A (newList x1) Q E s := h
theorem st9 {M A Q E s x1 x2 x3} (h : wpAny M A (getMethod (Value.ref x1) x2 x3) Q E s) : wpAny M A (getMethod (Value.ref x1) x2 x3) Q E s := h
theorem st10 {M A Q E s x1 x2} (h : wpAny M A (call (Value.builtin "list.append") x1 x2) Q E s) : wpAny M A (call (Value.builtin "list.append") x1 x2) Q E s := h
theorem st11 {M A Q E s x1 x2} (h : wpAny M A (call (Value.builtin "list.pop") x1 x2) Q E s) : wpAny M A (call (Value.builtin "list.pop") x1 x2) Q E s := h
theorem st12 {M A Q E s x1 x2} (h : wpAny M A (call (Value.builtin "min") x1 x2) Q E s) : wpAny M A (call (Value.builtin "min") x1 x2) Q E s := h
theorem st13 {M A Q E s x1 x2} (h : wpAny M A (call (Value.builtin "max") x1 x2) Q E s) : wpAny M A (call (Value.builtin "max") x1 x2) Q E s := h
local macro_rules | `(tactic| walk_at "GR") => `(tactic| fail_if_success (with_reducible first | refine' st1 ?_ | refine' st2 ?_ | refine' st4 ?_ | refine' st5 ?_ | refine' st6 ?_ | refine' st7 ?_ | refine' st8 ?_ | refine' st9 ?_ | refine' st10 ?_ | refine' st11 ?_ | refine' st12 ?_ | refine' st13 ?_ | refine' st3 ?_))
local macro_rules | `(tactic| walk_at "S3") => `(tactic| repeat' (walk_at "G3"; first | ((with_reducible show Frag.In _ _); first | assumption | exact Frag.In.keeps (by assumption) (Fr.keep (by assumption))) | (k_unfold; (try dsimp only)) | walk1 | (dsimp only; walk1)))
section
local macro_rules | `(tactic| walk_at "G3") => `(tactic| walk_at "GR")

/-- a cut: what holds behind a statement -/
def Ends (p : Prop) : Prop := p
theorem Ends.mk {p : Prop} (h : p) : Ends p := h

abbrev Itm := Int × Int
abbrev Tbl := List (List Itm)

/-- the bound of a search: none, or the column left -/
noncomputable def hiOf (edge : Option Nat) (row : List Itm) : Nat := match edge with
  | none => row.length
  | some e => min e row.length
noncomputable def spotR (row : List Itm) (item : Itm) (edge : Option Nat) : Nat := bR (row.map (·.2)) item.2 row.length 0 (hiOf edge row)
noncomputable def insAt (row : List Itm) (k : Nat) (item : Itm) : List Itm := row.take k ++ item :: row.drop k
noncomputable def growT (level : Nat) (rows : Tbl) : Tbl := if level = rows.length then rows ++ [[]] else rows

/-- one pair goes through the rows -/
noncomputable def insGo (mark : Int) : Nat → Nat → Tbl → Tbl → Itm → Option Nat → Tbl × Tbl
  | 0, _, rows, marks, _, _ => (rows, marks)
  | f + 1, level, rows, marks, item, edge =>
    let rows1 := growT level rows
    let marks1 := growT level marks
    let row := rows1.getD level []
    let spot := spotR row item edge
    let row1 := insAt row spot item
    if spot + 1 = row1.length then (rows1.set level row1, marks1.set level (marks1.getD level [] ++ [(0, mark)]))
    else insGo mark f (level + 1) (rows1.set level (row1.eraseIdx (spot + 1))) marks1 (row1.getD (spot + 1) (0, 0)) (some spot)
noncomputable def itemOf' (b : Bool) (p : Itm) : Itm := if b then p else (0, p.2)
noncomputable def rowsM (b : Bool) (pairs : List Itm) : Tbl × Tbl := pairs.foldl (fun st p => insGo p.1 pairs.length 0 st.1 st.2 (itemOf' b p) none) ([], [])

/-- a row on the ledger -/
def RowN (b : Bool) (g : Heap) (news : List (Addr × Obj)) (a : Addr) (row : List Itm) : Prop := ∃ vs n, (a, PySem.W.listOf vs.toArray n) ∈ news ∧ ItemsAt b g vs row
/-- a table on the ledger: the list T of the rows as -/
structure TabN (b : Bool) (g : Heap) (news : List (Addr × Obj)) (T : Addr) (as : List Addr) (rows : Tbl) : Prop where
  top : ∃ n, (T, PySem.W.listOf (as.map Value.ref).toArray n) ∈ news
  len : as.length = rows.length
  row : ∀ (i : Nat) (a : Addr) (row : List Itm), as[i]? = some a → rows[i]? = some row → RowN b g news a row
theorem TabN.mono {b g news news' T as rows} (X : TabN b g news T as rows) (h : ∀ p ∈ news, p.1 = T ∨ p.1 ∈ as → p ∈ news') : TabN b g news' T as rows := by
  refine hold fun hng => ?_
  obtain ⟨⟨n, h1⟩, h2, h3⟩ := X
  (refine hng ?_; clear hng)
  refine ⟨⟨n, h _ h1 (.inl rfl)⟩, h2, fun i a row h4 h5 => ?_⟩
  refine hold fun hng => ?_
  obtain ⟨vs, k, h6, h7⟩ := h3 i a row h4 h5
  (refine hng ?_; clear hng)
  exact ⟨vs, k, h _ h6 (.inr (List.mem_of_getElem? h4)), h7⟩
/-- a store elsewhere -/
theorem TabN.put {b g news T as rows D o} (X : TabN b g news T as rows) (h1 : D ≠ T) (h2 : D ∉ as) : TabN b g (Mine.put news D o) T as rows :=
  X.mono fun p hp hq => put_mem_ne hp (by rcases hq with e | hq; · rw [e]; exact Ne.symm h1
                                          · intro c; exact h2 (c ▸ hq))
/-- a new row behind -/
theorem TabN.grow {b g news T as rows a n} (X : TabN b g news T as rows) (hT : T ∉ as) (ha : a ≠ T) (hm : (a, PySem.W.listOf #[] 0) ∈ news) :
    TabN b g (Mine.put news T (PySem.W.listOf ((as ++ [a]).map Value.ref).toArray n)) T (as ++ [a]) (rows ++ [[]]) := by
  refine ⟨⟨n, put_mem X.top.choose_spec⟩, by simp [X.len], fun i a' row h4 h5 => ?_⟩
  have hl := X.len
  rcases Nat.lt_trichotomy i as.length with h | h | h
  · rw [List.getElem?_append_left h] at h4
    rw [List.getElem?_append_left (by omega)] at h5
    refine hold fun hng => ?_
    obtain ⟨vs, k, h6, h7⟩ := X.row i a' row h4 h5
    (refine hng ?_; clear hng)
    exact ⟨vs, k, put_mem_ne h6 fun c => hT (c ▸ List.mem_of_getElem? h4), h7⟩
  · subst h
    rw [List.getElem?_append_right (Nat.le_refl _)] at h4
    rw [hl, List.getElem?_append_right (Nat.le_refl _)] at h5
    simp at h4 h5
    subst h4 h5
    exact ⟨[], 0, put_mem_ne hm ha, rfl, fun _ _ _ h => by simp at h⟩
  · rw [List.getElem?_eq_none (by simp; (clear ha hl; omega))] at h4; cases h4
/-- another row at a place -/
theorem TabN.set {b g news T as rows i a row' vs' n} (X : TabN b g news T as rows) (hT : T ∉ as) (hnd : as.Nodup) (ha : as[i]? = some a) (hv : ItemsAt b g vs' row') :
    TabN b g (Mine.put news a (PySem.W.listOf vs'.toArray n)) T as (rows.set i row') := by
  have hi : i < as.length := (List.getElem?_eq_some_iff.mp ha).1
  have haT : a ≠ T := fun c => hT (c ▸ List.mem_of_getElem? ha)
  refine ⟨⟨_, put_mem_ne X.top.choose_spec (Ne.symm haT)⟩, by simp [X.len], fun j a' row h4 h5 => ?_⟩
  by_cases hj : j = i
  · subst hj
    rw [ha] at h4
    cases h4
    rw [List.getElem?_set_self (by rw [← X.len]; exact hi)] at h5
    cases h5
    have hlt : j < rows.length := X.len ▸ hi
    refine hold fun hng => ?_
    obtain ⟨vs, k, h6, h7⟩ := X.row j a (rows[j]) ha (List.getElem?_eq_getElem hlt)
    (refine hng ?_; clear hng)
    exact ⟨vs', n, put_mem h6, hv⟩
  · rw [List.getElem?_set_ne (Ne.symm hj)] at h5
    refine hold fun hng => ?_
    obtain ⟨vs, k, h6, h7⟩ := X.row j a' row h4 h5
    (refine hng ?_; clear hng)
    refine ⟨vs, k, put_mem_ne h6 fun c => hj ?_, h7⟩
    subst c
    exact (List.getElem?_inj (List.getElem?_eq_some_iff.mp h4).1 hnd).mp (h4.trans ha.symm)

/-- a table in the heap -/
def TabH (b : Bool) (h : Heap) (T : Addr) (rows : Tbl) : Prop := ∃ as : List Addr, LAt h T (as.map Value.ref) ∧ as.length = rows.length ∧
  ∀ (i : Nat) (a : Addr) (row : List Itm), as[i]? = some a → rows[i]? = some row → ∃ vs, LAt h a vs ∧ ItemsAt b h vs row
theorem TabN.heap {b g news T as rows h₀ L h} (X : TabN b g news T as rows) (N : News h₀ L h news) (k : Ext g h) : TabH b h T rows := by
  refine hold fun hng => ?_
  obtain ⟨⟨n, h1⟩, h2, h3⟩ := X
  (refine hng ?_; clear hng)
  refine ⟨as, ⟨n, (N _ h1).1⟩, h2, fun i a row h4 h5 => ?_⟩
  refine hold fun hng => ?_
  obtain ⟨vs, n, h6, h7⟩ := h3 i a row h4 h5
  (refine hng ?_; clear hng)
  exact ⟨vs, ⟨n, (N _ h6).1⟩, h7.keeps k⟩

theorem TabN.live {b g news T as rows x} (X : TabN b g news T as rows) (h : x ∈ as) : ∃ o, (x, o) ∈ news := by
  refine hold fun hng => ?_
  obtain ⟨i, hi, e⟩ := List.mem_iff_getElem.mp h
  (refine hng ?_; clear hng)
  obtain ⟨vs, n, h6, _⟩ := X.row i x (rows[i]'(X.len ▸ hi)) (by rw [← e]; exact List.getElem?_eq_getElem hi) (List.getElem?_eq_getElem _)
  exact ⟨_, h6⟩

/-- the two tables lie apart -/
structure Sep (T M : Addr) (as bs : List Addr) : Prop where
  tm : T ≠ M
  ta : T ∉ as
  tb : T ∉ bs
  ma : M ∉ as
  mb : M ∉ bs
  na : as.Nodup
  nb : bs.Nodup
  ab : ∀ x ∈ as, x ∉ bs
theorem Sep.grow {T M as bs a c} (S : Sep T M as bs) (h1 : a ≠ T) (h2 : a ≠ M) (h3 : a ∉ as) (h4 : a ∉ bs) (h5 : c ≠ T) (h6 : c ≠ M) (h7 : c ∉ as) (h8 : c ∉ bs) (h9 : a ≠ c) : Sep T M (as ++ [a]) (bs ++ [c]) where
  tm := S.tm
  ta := by simpa using ⟨S.ta, Ne.symm h1⟩
  tb := by simpa using ⟨S.tb, Ne.symm h5⟩
  ma := by simpa using ⟨S.ma, Ne.symm h2⟩
  mb := by simpa using ⟨S.mb, Ne.symm h6⟩
  na := List.nodup_append.mpr ⟨S.na, by simp, fun x hx y hy => by simp at hy; subst hy; exact fun e => h3 (e ▸ hx)⟩
  nb := List.nodup_append.mpr ⟨S.nb, by simp, fun x hx y hy => by simp at hy; subst hy; exact fun e => h8 (e ▸ hx)⟩
  ab := fun x hx => by
    rcases List.mem_append.mp hx with hx | hx
    · simpa using ⟨S.ab x hx, fun e => h7 (e ▸ hx)⟩
    · simp at hx; subst hx; simpa using ⟨h4, h9⟩
def OffA (fp : List Addr) (T M : Addr) (as bs : List Addr) : Prop := T ∉ fp ∧ M ∉ fp ∧ (∀ x ∈ as, x ∉ fp) ∧ ∀ x ∈ bs, x ∉ fp
def EdgeAt (ev : Value) (edge : Option Nat) : Prop := (ev = .none ∧ edge = none) ∨ ∃ (k : Nat) (t : Tok), ev = .int k t ∧ edge = some k
noncomputable def stepP (b : Bool) (n : Nat) (st : Tbl × Tbl) (p : Itm) : Tbl × Tbl := insGo p.1 n 0 st.1 st.2 (itemOf' b p) none
theorem rowsM_eq (b : Bool) (pairs : List Itm) : rowsM b pairs = pairs.foldl (stepP b pairs.length) ([], []) := rfl

/-- between the pairs -/
inductive RowsJ1 (b : Bool) (g : Heap) (Tb M P : Addr) (i : Nat) (st : Tbl × Tbl) (m : Str → Option Value) (nx : List (Addr × Obj)) : Prop
  | mk (as : List Addr) (bs : List Addr) (q1 : TabN b g nx Tb as st.1) (q2 : TabN false g nx M bs st.2) (q3 : Sep Tb M as bs) (q4 : m (Str.ofString "table") = some (.ref Tb)) (q5 : m (Str.ofString "marks") = some (.ref M)) (q6 : m (Str.ofString "pairs") = some (.ref P)) (q7 : m (Str.ofString "by") = some (byV b)) (q8 : st.2.length = st.1.length) (q9 : (∀ row ∈ st.1, row.length ≤ i)) (q10 : (∀ row ∈ st.2, row.length ≤ i)) (q11 : st.1.length ≤ 64 * i) : RowsJ1 b g Tb M P i st m nx
theorem RowsJ1.re {b : Bool} {g : Heap} {Tb M P : Addr} {i : Nat} {st : Tbl × Tbl} {m m' : Str → Option Value} {nx : List (Addr × Obj)} (X : RowsJ1 b g Tb M P i st m nx) (h1 : m' (Str.ofString "table") = m (Str.ofString "table")) (h2 : m' (Str.ofString "marks") = m (Str.ofString "marks"))
    (h3 : m' (Str.ofString "pairs") = m (Str.ofString "pairs")) (h4 : m' (Str.ofString "by") = m (Str.ofString "by")) : RowsJ1 b g Tb M P i st m' nx := by
  obtain ⟨as, bs, q1, q2, q3, q4, q5, q6, q7, q8, q9, q10, q11⟩ := X
  exact ⟨as, bs, q1, q2, q3, h1.trans q4, h2.trans q5, h3.trans q6, h4.trans q7, q8, q9, q10, q11⟩
/-- between the levels -/
inductive RowsJ2 (b : Bool) (g : Heap) (Tb M P : Addr) (fpO : List Addr) (own : List (Addr × Obj)) (v : Value) (mark : Int) (n i : Nat) (res : Tbl × Tbl) (i2 : Nat) (m : Str → Option Value) (nx2 : List (Addr × Obj)) : Prop
  | mk (as : List Addr) (bs : List Addr) (rows : Tbl) (marks : Tbl) (item : Itm) (v2 : Value) (ev : Value) (edge : Option Nat) (q1 : TabN b g nx2 Tb as rows) (q2 : TabN false g nx2 M bs marks) (q3 : Sep Tb M as bs) (q4 : OffA fpO Tb M as bs) (q5 : (∀ q ∈ own, q ∈ nx2)) (q6 : m (Str.ofString "table") = some (.ref Tb)) (q7 : m (Str.ofString "marks") = some (.ref M)) (q8 : m (Str.ofString "pairs") = some (.ref P)) (q9 : m (Str.ofString "by") = some (byV b)) (q10 : m (Str.ofString "pair") = some v) (q11 : m (Str.ofString "item") = some v2) (q12 : m (Str.ofString "edge") = some ev) (q13 : IV b g v2 item) (q14 : EdgeAt ev edge) (q15 : insGo mark (n - i2) i2 rows marks item edge = res) (q16 : i2 ≤ rows.length) (q17 : marks.length = rows.length) (q18 : (∀ row ∈ rows, row.length ≤ i)) (q19 : (∀ row ∈ marks, row.length ≤ i)) (q20 : rows.length ≤ 64 * i + i2) : RowsJ2 b g Tb M P fpO own v mark n i res i2 m nx2
theorem rows_fin {b : Bool} {g gb : Heap} {Tb M P L : Addr} {fpO : List Addr} {own nx3 : List (Addr × Obj)} {i : Nat} {res : Tbl × Tbl} {as bs : List Addr} {m : Str → Option Value} {h : Heap} {rows marks : Tbl} (N : News gb L h nx3) (hq : ∀ q ∈ own, q ∈ nx3)
    (X1 : TabN b g nx3 Tb as rows) (X2 : TabN false g nx3 M bs marks) (S : Sep Tb M as bs) (O : OffA fpO Tb M as bs)
    (m1 : m (Str.ofString "table") = some (.ref Tb)) (m2 : m (Str.ofString "marks") = some (.ref M)) (m3 : m (Str.ofString "pairs") = some (.ref P)) (m4 : m (Str.ofString "by") = some (byV b))
    (hr : (rows, marks) = res) (hlm : marks.length = rows.length) (hb1 : ∀ row ∈ rows, row.length ≤ i + 1) (hb2 : ∀ row ∈ marks, row.length ≤ i + 1) (hb3 : rows.length ≤ 64 * (i + 1)) :
    ∃ news₂, News gb L h (own ++ news₂) ∧ (∀ p ∈ news₂, p.1 ∉ fpO) ∧ RowsJ1 b g Tb M P (i + 1) res m news₂ := by
  subst hr
  refine hold fun hng => ?_
  obtain ⟨O1, O2, O3, O4⟩ := O
  (refine hng ?_; clear hng)
  refine ⟨nx3.filter fun p => decide (p.1 ∉ fpO), fun p hp => ?_, fun p hp => by simpa using (List.mem_filter.mp hp).2, as, bs, X1.mono fun p hp hc => List.mem_filter.mpr ⟨hp, ?_⟩, X2.mono fun p hp hc => List.mem_filter.mpr ⟨hp, ?_⟩, S, m1, m2, m3, m4, hlm, hb1, hb2, hb3⟩
  · rcases List.mem_append.mp hp with hp | hp
    · exact N p (hq p hp)
    · exact N p (List.mem_filter.mp hp).1
  · rcases hc with e | hc
    · simpa [e] using O1
    · simpa using O3 _ hc
  · rcases hc with e | hc
    · simpa [e] using O2
    · simpa using O4 _ hc

theorem rows_grow {b : Bool} {g : Heap} {Tb M l1 l2 : Addr} {fpO fp2 : List Addr} {own nx2 : List (Addr × Obj)} {as bs : List Addr} {rows marks : Tbl} {n1 n2 : Nat}
    (X1 : TabN b g nx2 Tb as rows) (X2 : TabN false g nx2 M bs marks) (S : Sep Tb M as bs) (O : OffA fpO Tb M as bs) (O2 : OffA fp2 Tb M as bs) (hq : ∀ q ∈ own, q ∈ nx2) (ho : ∀ q ∈ own, q.1 ∈ fpO) (hoff : ∀ p ∈ nx2, p.1 ∉ fp2)
    (f1 : ∀ p ∈ nx2, p.1 < l1) (f2 : l1 < l2) (f3 : ∀ x ∈ fpO, x < l1) (f4 : ∀ x ∈ fp2, x < l1) :
    let nx3 := put ((l2, PySem.W.listOf #[] 0) :: put ((l1, PySem.W.listOf #[] 0) :: nx2) Tb (PySem.W.listOf ((as ++ [l1]).map Value.ref).toArray n1)) M (PySem.W.listOf ((bs ++ [l2]).map Value.ref).toArray n2)
    TabN b g nx3 Tb (as ++ [l1]) (rows ++ [[]]) ∧ TabN false g nx3 M (bs ++ [l2]) (marks ++ [[]]) ∧ Sep Tb M (as ++ [l1]) (bs ++ [l2]) ∧ OffA fpO Tb M (as ++ [l1]) (bs ++ [l2]) ∧ OffA fp2 Tb M (as ++ [l1]) (bs ++ [l2]) ∧ (∀ q ∈ own, q ∈ nx3) ∧ ∀ p ∈ nx3, p.1 ∉ fp2 := by
  have hT : Tb < l1 := f1 _ X1.top.choose_spec
  have hM : M < l1 := f1 _ X2.top.choose_spec
  have ha : ∀ x ∈ as, x < l1 := fun x hx => let ⟨_, h⟩ := X1.live hx; f1 _ h
  have hb : ∀ x ∈ bs, x < l1 := fun x hx => let ⟨_, h⟩ := X2.live hx; f1 _ h
  have n1' : l1 ∉ as := fun h => Nat.lt_irrefl _ (ha _ h)
  have n2' : l1 ∉ bs := fun h => Nat.lt_irrefl _ (hb _ h)
  have n3' : l2 ∉ as := fun h => Nat.lt_irrefl _ (Nat.lt_trans f2 (ha _ h))
  have n4' : l2 ∉ bs := fun h => Nat.lt_irrefl _ (Nat.lt_trans f2 (hb _ h))
  have hT1 : l1 ≠ Tb := Nat.ne_of_gt hT
  have hM1 : l1 ≠ M := Nat.ne_of_gt hM
  have hT2 : l2 ≠ Tb := Nat.ne_of_gt (Nat.lt_trans hT f2)
  have hM2 : l2 ≠ M := Nat.ne_of_gt (Nat.lt_trans hM f2)
  have S' := S.grow hT1 hM1 n1' n2' hT2 hM2 n3' n4' (Nat.ne_of_lt f2)
  have Y1 : TabN b g ((l1, PySem.W.listOf #[] 0) :: nx2) Tb as rows := X1.mono fun p hp _ => .tail _ hp
  have Y1 := Y1.grow (n := n1) S.ta hT1 (.head _)
  have Y1 : TabN b g ((l2, PySem.W.listOf #[] 0) :: put ((l1, PySem.W.listOf #[] 0) :: nx2) Tb (PySem.W.listOf ((as ++ [l1]).map Value.ref).toArray n1)) Tb (as ++ [l1]) (rows ++ [[]]) := Y1.mono fun p hp _ => .tail _ hp
  have Y2 : TabN false g ((l1, PySem.W.listOf #[] 0) :: nx2) M bs marks := X2.mono fun p hp _ => .tail _ hp
  have Y2 := Y2.put (o := PySem.W.listOf ((as ++ [l1]).map Value.ref).toArray n1) S.tm S.tb
  have Y2 : TabN false g ((l2, PySem.W.listOf #[] 0) :: put ((l1, PySem.W.listOf #[] 0) :: nx2) Tb (PySem.W.listOf ((as ++ [l1]).map Value.ref).toArray n1)) M bs marks := Y2.mono fun p hp _ => .tail _ hp
  refine ⟨Y1.put (Ne.symm S.tm) S'.ma, Y2.grow S.mb hM2 (.head _), S', ⟨O.1, O.2.1, fun x hx => ?_, fun x hx => ?_⟩, ⟨O2.1, O2.2.1, fun x hx => ?_, fun x hx => ?_⟩, fun q h => ?_, fun p hp hf => ?_⟩
  · rcases List.mem_append.mp hx with hx | hx
    · exact O.2.2.1 x hx
    · simp at hx; subst hx; exact fun h => Nat.lt_irrefl _ (f3 _ h)
  · rcases List.mem_append.mp hx with hx | hx
    · exact O.2.2.2 x hx
    · simp at hx; subst hx; exact fun h => Nat.lt_irrefl _ (Nat.lt_trans f2 (f3 _ h))
  · rcases List.mem_append.mp hx with hx | hx
    · exact O2.2.2.1 x hx
    · simp at hx; subst hx; exact fun h => Nat.lt_irrefl _ (f4 _ h)
  · rcases List.mem_append.mp hx with hx | hx
    · exact O2.2.2.2 x hx
    · simp at hx; subst hx; exact fun h => Nat.lt_irrefl _ (Nat.lt_trans f2 (f4 _ h))
  · exact put_mem_ne (.tail _ (put_mem_ne (.tail _ (hq q h)) fun e => O.1 (e ▸ ho q h))) fun e => O.2.1 (e ▸ ho q h)
  · refine hold fun hng => ?_
    obtain ⟨q, h1, e⟩ := put_addr hp
    (refine hng ?_; clear hng)
    rw [← e] at hf
    rcases List.mem_cons.mp h1 with rfl | h1
    · exact Nat.lt_irrefl _ (Nat.lt_trans f2 (f4 _ hf))
    · refine hold fun hng => ?_
      obtain ⟨r, h2, e2⟩ := put_addr h1
      (refine hng ?_; clear hng)
      rw [← e2] at hf
      rcases List.mem_cons.mp h2 with rfl | h2
      · exact Nat.lt_irrefl _ (f4 _ hf)
      · exact hoff r h2 hf

theorem Fr.re {h₀ h : Heap} {L : Addr} {m : Str → Option Value} {x : Str} {v : Value} (F : Fr h₀ L h m) (e : m x = some v) : Fr h₀ L h (fun y => if y = x then some v else m y) := by
  have : (fun y => if y = x then some v else m y) = m := by
    funext y
    by_cases h : y = x
    · rw [if_pos h, h, e]
    · rw [if_neg h]
  rw [this]; exact F
theorem ItemsAt.ins {b : Bool} {g : Heap} {vs ps v p} (X : ItemsAt b g vs ps) (Y : IV b g v p) (k : Nat) : ItemsAt b g (vs.take k ++ v :: vs.drop k) (insAt ps k p) := by
  have hl := X.1
  refine ⟨by simp [insAt, hl], fun i u q h1 h2 => ?_⟩
  unfold insAt at h2
  have e1 : (vs.take k).length = min k vs.length := List.length_take
  have e2 : (ps.take k).length = min k vs.length := by rw [List.length_take, hl]
  rcases Nat.lt_trichotomy i (min k vs.length) with h | h | h
  · rw [List.getElem?_append_left (by (clear hl e2; omega))] at h1
    rw [List.getElem?_append_left (by (clear hl e1; omega))] at h2
    rw [List.getElem?_take_of_lt (by (clear hl e1 e2; omega))] at h1 h2
    exact X.2 i u q h1 h2
  · rw [List.getElem?_append_right (by (clear hl e2; omega)), e1, h, Nat.sub_self] at h1
    rw [List.getElem?_append_right (by (clear hl e1; omega)), e2, h, Nat.sub_self] at h2
    simp at h1 h2
    subst h1 h2
    exact Y
  · rw [List.getElem?_append_right (by (clear hl e2; omega)), e1] at h1
    rw [List.getElem?_append_right (by omega), e2] at h2
    obtain ⟨j, hj⟩ : ∃ j, i - min k vs.length = j + 1 := ⟨i - min k vs.length - 1, by (clear hl e1 e2; omega)⟩
    rw [hj, List.getElem?_cons_succ, List.getElem?_drop] at h1 h2
    exact X.2 _ u q h1 h2
theorem ItemsAt.erase {b : Bool} {g : Heap} {vs ps} (X : ItemsAt b g vs ps) (k : Nat) : ItemsAt b g (vs.eraseIdx k) (ps.eraseIdx k) := by
  refine ⟨by rw [List.length_eraseIdx, List.length_eraseIdx, X.1], fun i u q h1 h2 => ?_⟩
  rw [List.getElem?_eraseIdx] at h1 h2
  split at h1
  · rename_i c; rw [if_pos c] at h2; exact X.2 _ u q h1 h2
  · rename_i c; rw [if_neg c] at h2; exact X.2 _ u q h1 h2
theorem ItemsAt.snoc {b : Bool} {g : Heap} {vs ps v p} (X : ItemsAt b g vs ps) (Y : IV b g v p) : ItemsAt b g (vs ++ [v]) (ps ++ [p]) := by
  have := X.ins Y vs.length
  rw [List.take_length, List.drop_length] at this
  unfold insAt at this
  rw [X.1, List.take_length, List.drop_length] at this
  exact this
theorem ItemsAt.get {b : Bool} {g : Heap} {vs ps} (X : ItemsAt b g vs ps) {k : Nat} (h : k < ps.length) : ∃ v, vs[k]? = some v ∧ IV b g v (ps.getD k (0, 0)) := by
  have hk : k < vs.length := by rw [X.1]; exact h
  refine ⟨vs[k], List.getElem?_eq_getElem hk, X.2 k _ _ (List.getElem?_eq_getElem hk) ?_⟩
  simp [h]
theorem growT_lt {i : Nat} {rows : Tbl} (h : i ≤ rows.length) : i < (growT i rows).length := by
  unfold growT
  split
  · simp; omega
  · omega
theorem growT_row {i n : Nat} {rows : Tbl} (h : ∀ row ∈ rows, row.length ≤ n) : ∀ row ∈ growT i rows, row.length ≤ n := by
  unfold growT
  split
  · intro row hr
    rcases List.mem_append.mp hr with hr | hr
    · exact h row hr
    · simp at hr; subst hr; simp
  · exact h
theorem growT_len {i : Nat} {rows : Tbl} : (growT i rows).length ≤ rows.length + 1 := by
  unfold growT
  split
  · simp
  · omega
theorem spotR_le (row : List Itm) (item : Itm) (edge : Option Nat) : spotR row item edge ≤ row.length := by
  have h := bR_le (row.map (·.2)) item.2 row.length 0 (hiOf edge row)
  have : hiOf edge row ≤ row.length := by unfold hiOf; split <;> (clear h; omega)
  unfold spotR
  omega
theorem insAt_len {row : List Itm} {k : Nat} {item : Itm} : (insAt row k item).length = row.length + 1 := by
  unfold insAt; simp; omega

theorem seqIndex_nat {k n : Nat} (h : k < n) : seqIndex? (k : Int) n = some k := by
  unfold seqIndex?
  simp
  omega

set_option pp.deepTerms false in
set_option pp.maxSteps 3000 in
set_option maxRecDepth 100000 in
set_option maxHeartbeats 4000000 in
theorem rows_spec {w : World} {g0 : Heap} {mean mg mb} {A : Around} {E : Value → Shared → Prop} {Q : Value → Shared → Prop} {s : Shared} {P : Addr} {vps : List Value} (b : Bool) {pairs : List Itm}
    (G : Gd w mean mg mb s.heap) (R : Room A 10 60) (hP : s.heap.IsList P vps.toArray) (e0 : Ext g0 s.heap) (hI : ItemsAt true g0 vps pairs) (hn : pairs.length < 64)
    (ret : ∀ r T M h' tk nx as bs, Ext s.heap h' → (∀ p ∈ nx, h'.get? p.1 = some p.2 ∧ s.heap.get? p.1 = none) → (r, ({ cls := .type "tuple", data := .seq #[.ref T, .ref M] } : Obj)) ∈ nx → TabN b g0 nx T as (rowsM b pairs).1 → TabN false g0 nx M bs (rowsM b pairs).2 → Q (.ref r) { s with heap := h', toks := tk }) :
    wpAny (model Challenge.rw_sc0001_01.row.prog w) A (call (.ref 64) [.ref P, byV b] []) Q E s := by
  have G0 := G
  have e1 : ∀ {h : Heap}, Ext s.heap h → Ext g0 h := fun k b o e => k b o (e0 b o e)
  have R0 := R
  obtain ⟨KX, T⟩ := G
  refine hold fun hng => ?_
  obtain ⟨hA, hd, hu⟩ := R
  (refine hng ?_; clear hng)
  have hvl : vps.length = pairs.length := hI.1
  revert KX; k_fill; intro KX
  refine' call_ro (binds := [("pairs", .ref P), ("by", byV b)]) KX T ?h1 ?h2 ?h3 ?h4 ?h5 ?h6 ?c1 ?c2 ?c3 ?c4
  case h1 => k_is
  case h2 => k_is
  case h3 => omega
  case h4 => exact kp_binds KX (fun _ => rfl)
  case h5 => exact locs rfl
  case c1 => rfl
  case c2 => rfl
  case c3 => rfl
  case c4 => decide
  case h6 =>
   have TR := topRead_of T
   intro L h₁ F N
   walk_at "S"
   (rename Fr _ _ _ _ => F9; rename News _ _ _ [_, _] => N9; rename _ < _ => hTM)
   rename_i Tb _ _ _ M _ hp9
   refine For_invVF F9 rfl rfl ?_
   walk_at "S3"
   have hPL : P ≠ L := fun e => by
     refine hold fun hng => ?_
     obtain ⟨o, ho, _⟩ := hP
     (refine hng ?_; clear hng)
     exact absurd (Nat.lt_of_lt_of_le (Heap.lt_size ho) F9.above) (e ▸ Nat.lt_irrefl _)
   have hP9 := hP.at fun o e => F9.keep P o e
   have hPf : ∀ p : Addr × Obj, s.heap.get? p.1 = none → p.1 ≠ P := fun p h e => by
     refine hold fun hng => ?_
     obtain ⟨o, ho, _⟩ := hP
     (refine hng ?_; clear hng)
     rw [e, ho] at h; cases h
   refine' iter_list_J (vs := vps) (m₀ := _) (news := _) (fun i m nx => RowsJ1 b g0 Tb M P i ((pairs.take i).foldl (stepP b pairs.length) ([], [])) m nx) ?hh ?hl ?hlL F9 N9 ?hnl ?h0 ?turn ?done
   case hh => exact hA
   case hl => exact hP9
   case hlL => exact hPL
   case hnl => exact fun p hp => hPf p (N9 p hp).2.2
   case h0 =>
     refine ⟨[], [], ⟨⟨0, .tail _ (.head _)⟩, rfl, fun _ _ _ h => by simp at h⟩, ⟨⟨0, .head _⟩, rfl, fun _ _ _ h => by simp at h⟩, ⟨fun e => absurd hTM (e ▸ Nat.lt_irrefl _), by simp, by simp, by simp, by simp, by simp, by simp, by simp⟩, rfl, rfl, rfl, rfl, rfl, by simp, by simp, Nat.zero_le _⟩
   case done =>
     rintro h' tk' m' nx F' N' hz1
     refine hold fun hng => ?_
     obtain ⟨as, bs, X1, X2, S, m1, m2, m3, m4, -⟩ := hz1
     (refine hng ?_; clear hng)
     clear F9 N9
     walk_at "S"
     (rename Fr _ _ _ _ => F8; rename News _ _ _ (_ :: nx) => N8)
     have e : pairs.take vps.length = pairs := by rw [hvl]; exact List.take_length
     rw [e] at X1 X2
     have N7 : News s.heap L _ nx := fun p hp => N8 p (.tail _ hp)
     exact ret _ _ _ _ _ _ as bs F8.keep (fun p hp => ⟨(N8 p hp).1, (N8 p hp).2.2⟩) (.head _) (X1.mono fun p hp _ => .tail _ hp) (X2.mono fun p hp _ => .tail _ hp)
   case turn =>
     rintro fpO i v m₁ nx h tk' own hPfp hPk hv hz1
     refine hold fun hng => ?_
     obtain ⟨as, bs, X1, X2, S, m1, m2, m3, m4, hlm, hb1, hb2, hb3⟩ := hz1
     (refine hng ?_; clear hng)
     rintro hoff hown hlive F' N'
     clear F9 N9
     have F' : Fr s.heap L h _ := F'
     have N' : News s.heap L h (own ++ nx) := N'
     have hi : i < pairs.length := hvl ▸ (List.getElem?_eq_some_iff.mp hv).1
     have hp : pairs[i]? = some pairs[i] := List.getElem?_eq_getElem hi
     have P0 : PairAt g0 v pairs[i] := hI.2 i v _ hv hp
     generalize hst : (pairs.take i).foldl (stepP b pairs.length) ([], []) = st at X1 X2 hlm hb1 hb2 hb3
     have hst' : (pairs.take (i + 1)).foldl (stepP b pairs.length) ([], []) = stepP b pairs.length st pairs[i] := by
       rw [List.take_add_one, hp, List.foldl_append, hst]; rfl
     rw [hst']
     clear hst hst'
     generalize pairs[i] = p at *
     walk_at "S3"
     -- item
     refine cutk (J := fun Q' => ∀ h' tk v', Fr s.heap L h' (fun y => if y = Str.ofString "item" then some v' else if y = Str.ofString "pair" then some v else m₁ y) → News s.heap L h' (own ++ nx) → IV b g0 v' (itemOf' b p) → Q' .next { s with heap := h', toks := tk }) (fun Q' kk0 => ?_) ?_
     · cases b with
       | true =>
         have m4 : m₁ (Str.ofString "by") = some (.ref 57) := m4
         walk1
         walk_at "S"
         (rename Fr _ _ _ _ => F8; rename News _ _ _ _ => N8)
         exact kk0 _ _ _ F8 N8 P0
       | false =>
         refine hold fun hng => ?_
         obtain ⟨a0, t0, t0', rfl, P1⟩ := P0
         (refine hng ?_; clear hng)
         have P2 := P1.keeps (e1 F'.keep)
         have m4 : m₁ (Str.ofString "by") = some .none := m4
         walk1
         walk_at "S"
         (rename Fr _ _ _ _ => F8; rename News _ _ _ _ => N8)
         exact kk0 _ _ _ F8 N8 (⟨rfl, _, rfl⟩)
     rintro h2 tk2 v2 F2 N2 I2
     clear F' N'
     try dsimp only
     walk_at "S3"
     (rename Fr _ _ _ _ => F3; rename News _ _ _ (own ++ nx) => N3)
     refine For_invVF F3 rfl rfl ?_
     walk_at "S3"
     (try clear F2); (try clear N2)
     (rename Fr _ _ _ _ => F3; rename News _ _ _ (own ++ nx) => N3; rename IsRange _ _ _ _ _ _ _ _ => R3)
     have hofr : OffA fpO Tb M as bs := ⟨hoff _ X1.top.choose_spec, hoff _ X2.top.choose_spec, fun x hx => let ⟨o, ho⟩ := X1.live hx; hoff _ ho, fun x hx => let ⟨o, ho⟩ := X2.live hx; hoff _ ho⟩
     refine' iter_range_J (RowsJ2 b g0 Tb M P fpO own v p.1 pairs.length i (stepP b pairs.length st p)) ?hh R3 ?hs (rangeSize_nat _ _) F3 N3 ?h0 ?turn ?done
     case hh => exact hA
     case hs => exact small_one (by (clear hn hd hu hvl hTM hPL hi hlm hb3; omega)) (by (clear hn hd hu hvl hTM hPL hi hlm hb3; omega)) (by (clear hn hd hu hvl hTM hPL hi hlm hb3; omega)) (by (clear hd hu hvl hTM hPL hi hlm hb3; omega))
     case h0 =>
       refine ⟨as, bs, st.1, st.2, itemOf' b p, v2, .none, none, X1.mono fun q hq _ => List.mem_append_right _ hq, X2.mono fun q hq _ => List.mem_append_right _ hq, S, hofr, fun q hq => List.mem_append_left _ hq, ?_, ?_, ?_, ?_, rfl, rfl, rfl, I2, .inl ⟨rfl, rfl⟩, rfl, Nat.zero_le _, hlm, hb1, hb2, by omega⟩
       all_goals walk_at "M"
     case done =>
       rintro h' tk' m' nx2 F' N' hz1
       refine hold fun hng => ?_
       obtain ⟨as, bs, rows, marks, item, v2, ev, edge, X1, X2, S, O, hq, m1, m2, m3, m4, m5, m6, m7, I2, hE, hst, hlv, hlm, hb1, hb2, hb3⟩ := hz1
       (refine hng ?_; clear hng)
       clear F3 N3
       have e0 : pairs.length - ((pairs.length : Int) - 0).toNat = 0 := by (clear hn hd hu hvl hTM hPL hi hlv hlm hb3; omega)
       rw [e0] at hst
       walk_at "S3"
       refine hold fun hng => ?_
       obtain ⟨nx5, N5, o5, J5⟩ := rows_fin (i := i) N' hq X1 X2 S O m1 m2 m3 m4 hst hlm (fun r hr => Nat.le_succ_of_le (hb1 r hr)) (fun r hr => Nat.le_succ_of_le (hb2 r hr)) (by (clear hd hu hvl hTM hPL hi hlv hlm e0; omega))
       (refine hng ?_; clear hng)
       exact ⟨_, _, _, _, rfl, F', N5, o5, J5⟩
     case turn =>
       rintro fp2 i2 t2 m₁ nx2 h tk' own2 hi2 hz1
       refine hold fun hng => ?_
       obtain ⟨as, bs, rows, marks, item, v2, ev, edge, X1, X2, S, O, hq, m1, m2, m3, m4, m5, m6, m7, I2, hE, hst, hlv, hlm, hb1, hb2, hb3⟩ := hz1
       (refine hng ?_; clear hng)
       rintro hoff2 hown2 hlive2 F' N'
       clear F3 N3
       replace F' : Fr s.heap L h (fun y => if y = Str.ofString "level" then some (Value.int (0 + ↑i2 * 1) t2) else m₁ y) := F'
       replace N' : News s.heap L h (own2 ++ nx2) := N'
       rw [show (0 + (i2 : Int) * 1) = i2 by (clear hn hd hu hvl hTM hPL hi hi2 hlv hlm hb3; omega)] at F'
       clear hofr
       have O2 : OffA fp2 Tb M as bs := ⟨hoff2 _ X1.top.choose_spec, hoff2 _ X2.top.choose_spec, fun x hx => let ⟨o, ho⟩ := X1.live hx; hoff2 _ ho, fun x hx => let ⟨o, ho⟩ := X2.live hx; hoff2 _ ho⟩
       walk_at "S3"
       -- the level is new, or not
       refine cutk (J := fun Q' => ∀ h' tk as' bs' nx3, Fr s.heap L h' (fun y => if y = Str.ofString "level" then some (Value.int i2 t2) else m₁ y) → News s.heap L h' (own2 ++ nx3) → (∀ p ∈ nx3, p.1 ∉ fp2) → TabN b g0 nx3 Tb as' (growT i2 rows) → TabN false g0 nx3 M bs' (growT i2 marks) → Sep Tb M as' bs' → OffA fpO Tb M as' bs' → OffA fp2 Tb M as' bs' → (∀ q ∈ own, q ∈ nx3) → Q' .next { s with heap := h', toks := tk }) (fun Q' kk1 => ?_) ?_
       · have hT := List.mem_append_right own2 X1.top.choose_spec
         have hM := List.mem_append_right own2 X2.top.choose_spec
         have hTl : (as.map Value.ref).length = rows.length := by rw [List.length_map, X1.len]
         have hMl : (bs.map Value.ref).length = rows.length := by rw [List.length_map, X2.len, hlm]
         have f3 := live_lt hlive (fun q h => List.mem_append_right own2 (hq q h)) F' N'
         have f4 := live_lt hlive2 (fun q h => List.mem_append_left nx2 h) F' N'
         walk1
         walk_at "S3"
         · (rename (_ : Int) = _ => hc)
           refine kl_method N' hT PySem.F.slot_list_append PySem.F.type_list_append ?_
           walk_at "S3"
           refine newList_N F' N' (fun h4 F4 N4 => ?_)
           walk_at "S3"
           refine append_put F4 N4 (.tail _ hT) (by (clear hd hu hvl hTM hPL hi hlv hlm hb3 hMl; omega)) (fun h5 k5 F5 N5 => ?_)
           rw [show as.map Value.ref ++ [Value.ref h.objs.size] = (as ++ [h.objs.size]).map Value.ref by simp] at N5
           walk_at "S3"
           have hM5 := put_mem_ne (o := PySem.W.listOf ((as ++ [h.objs.size]).map Value.ref).toArray (X1.top.choose + 1)) (List.Mem.tail (h.objs.size, PySem.W.listOf #[] 0) hM) (Ne.symm S.tm)
           refine kl_method N5 hM5 PySem.F.slot_list_append PySem.F.type_list_append ?_
           walk_at "S3"
           refine newList_N F5 N5 (fun h6 F6 N6 => ?_)
           walk_at "S3"
           refine append_put F6 N6 (.tail _ hM5) (by (clear hd hu hvl hTM hPL hi hlv hlm hb3 hTl; omega)) (fun h7 k7 F7 N7 => ?_)
           rw [show bs.map Value.ref ++ [Value.ref h5.objs.size] = (bs ++ [h5.objs.size]).map Value.ref by simp] at N7
           walk_at "S3"
           have hlt := F'.ns.lt
           have f1 : ∀ p ∈ nx2, p.1 < h.objs.size := fun p hp => Heap.lt_size (N' p (List.mem_append_right _ hp)).1
           have f2 : h.objs.size < h5.objs.size := Heap.lt_size (N5 _ (put_mem_ne (.head _) (Nat.ne_of_gt (f1 _ X1.top.choose_spec)))).1
           have Z := rows_grow (n1 := X1.top.choose + 1) (n2 := X2.top.choose + 1) X1 X2 S O O2 hq hown hoff2 f1 f2 f3 f4
           refine hold fun hng => ?_
           obtain ⟨Z1, Z2, Z3, Z4, Z5, Z6, Z7⟩ := Z
           (refine hng ?_; clear hng)
           have hc' : i2 = rows.length := by (clear hn hd hu hvl hTM hPL hi hi2 hlv hlm hb3 hTl hMl hlt f2; omega)
           refine kk1 _ _ _ _ _ F7 ?_ Z7 ?_ ?_ Z3 Z4 Z5 Z6
           · intro p hp
             refine N7 p ?_
             rcases List.mem_append.mp hp with hp | hp
             · have e := hown2 _ hp
               exact put_mem_ne (.tail _ (put_mem_ne (.tail _ (List.mem_append_left _ hp)) fun c => O2.1 (c ▸ e))) fun c => O2.2.1 (c ▸ e)
             · refine put_mono ?_ p hp
               intro q hq
               rcases List.mem_cons.mp hq with rfl | hq
               · exact .head _
               · refine .tail _ (put_mono ?_ q hq)
                 intro r hr
                 rcases List.mem_cons.mp hr with rfl | hr
                 · exact .head _
                 · exact .tail _ (List.mem_append_right _ hr)
           · rw [growT, if_pos hc']; exact Z1
           · rw [growT, if_pos (by rw [hlm]; exact hc')]; exact Z2
         · (rename (_ : Int) ≠ _ => hc)
           have hc' : ¬ i2 = rows.length := by (clear hn hd hu hvl hTM hPL hi hi2 hlv hlm hb3 hTl hMl; omega)
           refine kk1 _ _ as bs nx2 F' N' hoff2 ?_ ?_ S O O2 hq
           · rw [growT, if_neg hc']; exact X1
           · rw [growT, if_neg (by rw [hlm]; exact hc')]; exact X2
       rintro h3 tk3 as' bs' nx3 F3 N3 o3 X1' X2' S' O' O2' hq'
       have hi' := growT_lt hlv
       have hr1 := growT_row (i := i2) hb1
       have hr2 := growT_row (i := i2) hb2
       have hln := growT_len (i := i2) (rows := rows)
       have hlm' : (growT i2 marks).length = (growT i2 rows).length := by unfold growT; rw [hlm]; split <;> simp [hlm]
       have hgo : insGo p.1 (pairs.length - i2) i2 rows marks item edge = _ := hst
       obtain ⟨f9, hf9⟩ : ∃ f, pairs.length - i2 = f + 1 := ⟨pairs.length - i2 - 1, by (clear hn hd hu hvl hTM hPL hi hlv hlm hb3 hi' hln hlm'; omega)⟩
       rw [hf9, insGo] at hgo
       generalize hR : growT i2 rows = rows' at *
       generalize hMk : growT i2 marks = marks' at *
       clear F' N' hoff2 X1 X2 S O O2 hq
       try dsimp only
       walk_at "S3"
       -- row = table[level]
       have hTm := List.mem_append_right own2 X1'.top.choose_spec
       have hTl : (as'.map Value.ref).length = rows'.length := by rw [List.length_map, X1'.len]
       refine' item_any (vs := as'.map Value.ref) ?k1 ?k2 ?k3 ?k4 ?_ ?k6
       case k1 => exact N3.isList hTm
       case k2 => (clear hn hd hu hvl hTM hPL hi hi2 hlv hlm hb3 hf9 hi' hln hlm' hTl; omega)
       case k3 => rw [hTl]; (clear hn hd hu hvl hTM hPL hi hi2 hlv hlm hb3 hf9 hln hlm' hTl; omega)
       case k4 => (clear hd hu hvl hTM hPL hi hi2 hlv hlm hb3 hi' hln hlm' hTl; omega)
       case k6 => with_unfolding_all rfl
       intro v9 hv9
       refine hold fun hng => ?_
       obtain ⟨a, ha, rfl⟩ : ∃ a, as'[i2]? = some a ∧ v9 = .ref a := by
         rw [List.getElem?_map] at hv9
         cases e : as'[((i2 : Int)).toNat]? with
         | none => rw [e] at hv9; cases hv9
         | some a => rw [e] at hv9; exact ⟨a, by simpa using e, by cases hv9; rfl⟩
       (refine hng ?_; clear hng)
       have hrow : rows'[i2]? = some (rows'.getD i2 []) := by simp [hi']
       refine hold fun hng => ?_
       obtain ⟨vsr, nr, hmr, hIr⟩ := X1'.row i2 a _ ha hrow
       (refine hng ?_; clear hng)
       have hrl : (rows'.getD i2 []).length ≤ i := hr1 _ (List.mem_of_getElem? hrow)
       generalize hrw : rows'.getD i2 [] = row at *
       have hvr := hIr.1
       walk_at "S3"
       -- the bound of the search
       refine cutk (J := fun Q' => ∀ h' tk ev', Fr s.heap L h' (fun y => if y = Str.ofString "edge" then some ev' else if y = Str.ofString "row" then some (.ref a) else if y = Str.ofString "level" then some (Value.int i2 t2) else m₁ y) → News s.heap L h' (own2 ++ nx3) → HiAt ev' row.length (hiOf edge row) → Q' .next { s with heap := h', toks := tk }) (fun Q' kk2 => ?_) ?_
       · (rename Fr _ _ _ _ => F4; rename News _ _ _ (own2 ++ nx3) => N4)
         have hrm := List.mem_append_right own2 hmr
         rcases hE with ⟨rfl, rfl⟩ | ⟨k, t, rfl, rfl⟩
         · walk1
           walk_at "S3"
           (rename Fr _ _ _ _ => F5; rename News _ _ _ (own2 ++ nx3) => N5)
           exact kk2 _ _ _ (Fr.re F5 (by walk_at "M")) N5 (.inl ⟨rfl, rfl⟩)
         · walk1
           walk_at "S3"
           (rename Fr _ _ _ _ => F5; rename News _ _ _ (own2 ++ nx3) => N5)
           refine min_two_N hA F5 N5 (fun h6 tk6 F6 N6 => ?_)
           walk_at "S3"
           (rename Fr _ _ _ _ => F7; rename News _ _ _ (own2 ++ nx3) => N7)
           refine kk2 _ _ _ F7 N7 (.inr ⟨_, congrArg (fun z => Value.int z _) ?_⟩)
           show (if (row.length : Int) < (k : Int) then (row.length : Int) else (k : Int)) = ((min k row.length : Nat) : Int)
           split <;> (clear hn hd hu hvl hTM hPL hi hi2 hlv hlm hb3 hf9 hi' hln hlm' hTl hrl hvr; omega)
       rintro h4 tk4 ev4 F4 N4 hH
       have hhi : hiOf edge row ≤ row.length := by unfold hiOf; split <;> (clear hn hd hu hvl hTM hPL hi hi2 hlv hlm hb3 hf9 hi' hln hlm' hTl hrl hvr; omega)
       try dsimp only
       walk_at "S3"
       -- the value sought
       refine cutk (J := fun Q' => ∀ h' tk t, Fr s.heap L h' (fun y => if y = Str.ofString "value" then some (.int item.2 t) else if y = Str.ofString "edge" then some ev4 else if y = Str.ofString "row" then some (.ref a) else if y = Str.ofString "level" then some (Value.int i2 t2) else m₁ y) → News s.heap L h' (own2 ++ nx3) → Q' .next { s with heap := h', toks := tk }) (fun Q' kk3 => ?_) ?_
       · cases b with
         | true =>
           have m4 : m₁ (Str.ofString "by") = some (.ref 57) := m4
           walk1
           walk_at "S3"
           (rename Fr _ _ _ _ => F8; rename News _ _ _ (own2 ++ nx3) => N8)
           refine' second_spec (p := item) ?b1 ?b2 ?b3 ?_
           case b1 => exact G0.keeps F8.keep
           case b2 => exact (R0.le (d' := 1 + 1) (u' := 8 + 3)).deeper _
           case b3 => exact PairAt.keeps I2 (e1 F8.keep)
           intro h8 tk8 t8 ext8
           have F7 := F8.kept ext8
           have N7 := N8.grown ext8
           clear F8 N8
           walk_at "S3"
           (rename Fr _ _ _ _ => F8; rename News _ _ _ (own2 ++ nx3) => N8)
           exact kk3 _ _ _ F8 N8
         | false =>
           refine hold fun hng => ?_
           obtain ⟨I0, t0, rfl⟩ := I2
           (refine hng ?_; clear hng)
           have m4 : m₁ (Str.ofString "by") = some .none := m4
           walk1
           walk_at "S3"
           (rename Fr _ _ _ _ => F8; rename News _ _ _ (own2 ++ nx3) => N8)
           exact kk3 _ _ _ F8 N8
       rintro h5 tk5 t5 F5 N5
       clear F4 N4
       try dsimp only
       walk_at "S3"
       -- the place sought
       (rename Fr _ _ _ _ => F6; rename News _ _ _ (own2 ++ nx3) => N6)
       have hrm := List.mem_append_right own2 hmr
       refine' bisR b (vs := vsr) (ps := row) (x := item.2) (lo := 0) (hi := hiOf edge row) (hv := ev4) ?d1 ?d2 ?d3 ?d4 (Int.le_refl 0) hH (by (clear hn hd hu hvl hTM hPL hi hi2 hlv hlm hb3 hf9 hi' hln hlm' hTl hrl hvr hhi; omega)) (by (clear hn hd hu hvl hTM hPL hi hi2 hlv hlm hb3 hf9 hi' hln hlm' hTl hrl hvr; omega)) (by (clear hd hu hvl hTM hPL hi2 hlv hlm hb3 hf9 hi' hln hlm' hTl hvr hhi; omega)) (.inl ⟨rfl, rfl⟩) ?_
       case d1 => exact G0.keeps F6.keep
       case d2 => exact (R0.le (d' := 2 + 1) (u' := 16 + 3)).deeper _
       case d3 => exact N6.isList hrm
       case d4 => exact hIr.keeps (e1 F6.keep)
       intro h7 tk7 t7 ext7
       have F7 := F6.kept ext7
       have N7 := N6.grown ext7
       clear F6 N6
       have hsp : bR (row.map (·.2)) item.2 row.length (0 : Int).toNat ((hiOf edge row : Nat) : Int).toNat = spotR row item edge := rfl
       rw [hsp]
       walk_at "S3"
       -- the item goes in
       (rename Fr _ _ _ _ => F6; rename News _ _ _ (own2 ++ nx3) => N6)
       have hfa := (N6 _ hrm).2.2
       refine' insR b (gb := s.heap) (vs := vsr) (ps := row) (v := v2) (p := item) (lo := 0) (hi := hiOf edge row) (hv := ev4) G0 ?e1 hfa ?e2 ?e3 ?e4 ?e5 (Int.le_refl 0) (by (clear hn hd hu hvl hTM hPL hi hi2 hlv hlm hb3 hf9 hi' hln hlm' hTl hrl hvr hhi hsp; omega)) hH (by (clear hn hd hu hvl hTM hPL hi hi2 hlv hlm hb3 hf9 hi' hln hlm' hTl hrl hvr hhi hsp; omega)) (by (clear hn hd hu hvl hTM hPL hi hi2 hlv hlm hb3 hf9 hi' hln hlm' hTl hrl hvr hsp; omega)) (by (clear hd hu hvl hTM hPL hi2 hlv hlm hb3 hf9 hi' hln hlm' hTl hvr hhi hsp; omega)) (.inl ⟨rfl, rfl⟩) ?_
       case e1 => exact F6.keep
       case e2 => exact (R0.le (d' := 4 + 1) (u' := 30 + 3)).deeper _
       case e3 => exact ⟨_, (N6 _ hrm).1⟩
       case e4 => exact hIr.keeps (e1 F6.keep)
       case e5 => exact I2.keeps (e1 F6.keep)
       intro h8 tk8 hL8 kb8
       rw [hsp] at hL8
       obtain ⟨n8, hL8⟩ := hL8
       have F8 := Fr.chg F6 N6 hrm kb8
       have N8 := News.chg N6 hrm kb8 hL8
       have ha2 : a ∉ fp2 := O2'.2.2.1 a (List.mem_of_getElem? ha)
       have haM : a ≠ M := fun c => S'.ma (c ▸ List.mem_of_getElem? ha)
       have haB : a ∉ bs' := S'.ab a (List.mem_of_getElem? ha)
       rw [put_append, put_off (l := own2) (D := a) (fun p hp c => ha2 (c ▸ hown2 p hp))] at N8
       have hI8 := hIr.ins I2 (spotR row item edge)
       have hsl := spotR_le row item edge
       generalize hk : spotR row item edge = k at *
       have X18 := X1'.set (n := n8) S'.ta S'.na ha hI8
       have X28 := X2'.put (o := PySem.W.listOf (vsr.take k ++ v2 :: vsr.drop k).toArray n8) haM haB
       have o8 : ∀ p ∈ put nx3 a (PySem.W.listOf (vsr.take k ++ v2 :: vsr.drop k).toArray n8), p.1 ∉ fp2 := fun p hp => by
         refine hold fun hng => ?_
         obtain ⟨q, h1, e⟩ := put_addr hp
         (refine hng ?_; clear hng)
         rw [← e]; exact o3 q h1
       have hq8 : ∀ q ∈ own, q ∈ put nx3 a (PySem.W.listOf (vsr.take k ++ v2 :: vsr.drop k).toArray n8) := fun q hq =>
         put_mem_ne (hq' q hq) fun c => O'.2.2.1 a (List.mem_of_getElem? ha) (c ▸ hown q hq)
       have hm8 := List.mem_append_right own2 (put_mem (o := PySem.W.listOf (vsr.take k ++ v2 :: vsr.drop k).toArray n8) hmr)
       have hl8 : (vsr.take k ++ v2 :: vsr.drop k).length = (insAt row k item).length := hI8.1
       have hil : (insAt row k item).length = row.length + 1 := insAt_len
       generalize hvs : vsr.take k ++ v2 :: vsr.drop k = vs8 at *
       generalize hnx : put nx3 a (PySem.W.listOf vs8.toArray n8) = nx8 at *
       clear F6 N6 o3 hq'
       walk_at "S3"
       walk1
       walk_at "S3"
       · -- it stands last
         (rename (_ : Int) = _ => hc)
         have hc' : k + 1 = (insAt row k item).length := by (clear hn hd hu hvl hTM hPL hi hi2 hlv hlm hb3 hf9 hi' hln hlm' hTl hrl hvr hhi haM hk hsp hsl hil hl8; omega)
         rw [if_pos hc'] at hgo
         have hMm := List.mem_append_right own2 X28.top.choose_spec
         have hMl : (bs'.map Value.ref).length = rows'.length := by rw [List.length_map, X28.len, hlm']
         refine' item_any (vs := bs'.map Value.ref) ?j1 ?j2 ?j3 ?j4 ?_ ?j6
         case j1 => exact N8.isList hMm
         case j2 => (clear hn hd hu hvl hTM hPL hi hi2 hlv hlm hb3 hf9 hi' hln hlm' hTl hrl hvr hhi haM hk hsp hsl hil hl8 hc hc' hMl; omega)
         case j3 => rw [hMl]; (clear hn hd hu hvl hTM hPL hi hi2 hlv hlm hb3 hf9 hln hlm' hTl hrl hvr hhi haM hk hsp hsl hil hl8 hc hc' hMl; omega)
         case j4 => (clear hd hu hvl hTM hPL hi hi2 hlv hlm hb3 hi' hln hlm' hTl hrl hvr hhi haM hk hsp hsl hil hl8 hc hc' hMl; omega)
         case j6 => with_unfolding_all rfl
         intro v9 hv9
         refine hold fun hng => ?_
         obtain ⟨c, hcb, rfl⟩ : ∃ c, bs'[i2]? = some c ∧ v9 = .ref c := by
           rw [List.getElem?_map] at hv9
           cases e : bs'[((i2 : Int)).toNat]? with
           | none => rw [e] at hv9; cases hv9
           | some a => rw [e] at hv9; exact ⟨a, by simpa using e, by cases hv9; rfl⟩
         (refine hng ?_; clear hng)
         have hmrow : marks'[i2]? = some (marks'.getD i2 []) := by
           have : i2 < marks'.length := by (clear hn hd hu hvl hTM hPL hi hi2 hlv hlm hb3 hf9 hln hTl hrl hvr hhi haM hk hsp hsl hil hl8 hc hc' hMl; omega)
           simp [this]
         refine hold fun hng => ?_
         obtain ⟨vsm, nm, hmm, hIm⟩ := X28.row i2 c _ hcb hmrow
         (refine hng ?_; clear hng)
         have hml : (marks'.getD i2 []).length ≤ i := hr2 _ (List.mem_of_getElem? hmrow)
         have hvm := hIm.1
         have hmm' := List.mem_append_right own2 hmm
         walk_at "S3"
         refine kl_method N8 hmm' PySem.F.slot_list_append PySem.F.type_list_append ?_
         walk_at "S3"
         refine hold fun hng => ?_
         obtain ⟨a0, ta, tb, rfl, hT0⟩ := P0
         (refine hng ?_; clear hng)
         have hT1 := hT0.keeps (e1 F8.keep)
         walk1
         walk_at "S3"
         refine append_put F8 N8 hmm' (by (clear hd hu hvl hTM hPL hi2 hlv hlm hb3 hf9 hi' hln hlm' hTl hrl hvr hhi haM hk hsp hsl hil hl8 hc hc' hMl; omega)) (fun h9 k9 F9 N9 => ?_)
         have hcp : c ∉ fp2 := O2'.2.2.2 c (List.mem_of_getElem? hcb)
         have hcT : c ≠ Tb := fun e => S'.tb (e ▸ List.mem_of_getElem? hcb)
         have hcA : c ∉ as' := fun e => S'.ab c e (List.mem_of_getElem? hcb)
         rw [put_append, put_off (l := own2) (D := c) (fun p hp e => hcp (e ▸ hown2 p hp))] at N9
         have hI9 : ItemsAt false g0 (vsm ++ [Value.int p.1 ta]) (marks'.getD i2 [] ++ [(0, p.1)]) := hIm.snoc ⟨rfl, _, rfl⟩
         have X29 := X28.set (n := nm + 1) S'.mb S'.nb hcb hI9
         have X19 := X18.put (o := PySem.W.listOf (vsm ++ [Value.int p.1 ta]).toArray (nm + 1)) hcT hcA
         walk_at "S3"
         have N9' : News s.heap L h9 (put nx8 c (PySem.W.listOf (vsm ++ [Value.int p.1 ta]).toArray (nm + 1))) := fun q hq => N9 q (List.mem_append_right _ hq)
         refine hold fun hng => ?_
         obtain ⟨nx5, N5, o5, J5⟩ := rows_fin (i := i) (own := own) N9' (fun q hq => put_mem_ne (hq8 q hq) fun e => O'.2.2.2 c (List.mem_of_getElem? hcb) (e ▸ hown q hq)) X19 X29 S' O'
           (m := _) (by walk_at "M") (by walk_at "M") (by walk_at "M") (by walk_at "M") hgo (by simp [hlm'])
           (fun r hr => by
             rcases List.mem_or_eq_of_mem_set hr with hr | rfl
             · exact Nat.le_succ_of_le (hr1 r hr)
             · (clear hn hd hu hvl hTM hPL hi hi2 hlv hlm hb3 hf9 hi' hln hlm' hTl hvr hhi haM hk hsp hsl hl8 hc hc' hMl hml hvm hcT; omega))
           (fun r hr => by
             rcases List.mem_or_eq_of_mem_set hr with hr | rfl
             · exact Nat.le_succ_of_le (hr2 r hr)
             · simp only [List.length_append, List.length_cons, List.length_nil]; (clear hn hd hu hvl hTM hPL hi hi2 hlv hlm hb3 hf9 hi' hln hlm' hTl hrl hvr hhi haM hk hsp hsl hil hl8 hc hc' hMl hvm hcT; omega))
           (by simp only [List.length_set]; (clear hd hu hvl hTM hPL hi hi2 hlv hlm hi' hlm' hTl hrl hvr hhi haM hk hsp hsl hil hl8 hc hc' hMl hml hvm hcT; omega))
         (refine hng ?_; clear hng)
         refine wpAny_execs_nil ?_
         exact ⟨_, _, _, _, rfl, F9, N5, o5, J5.re rfl rfl rfl rfl⟩
       · (rename (_ : Int) ≠ _ => hc)
         have hc' : ¬ k + 1 = (insAt row k item).length := by (clear hn hd hu hvl hTM hPL hi hi2 hlv hlm hb3 hf9 hi' hln hlm' hTl hrl hvr hhi haM hk hsp hsl hil hl8; omega)
         rw [if_neg hc'] at hgo
         have hk1 : k + 1 < (insAt row k item).length := by (clear hn hd hu hvl hTM hPL hi hi2 hlv hlm hb3 hf9 hi' hln hlm' hTl hrl hvr hhi haM hk hsp hl8 hc; omega)
         refine hold fun hng => ?_
         obtain ⟨vn, hvn, hIn⟩ := hI8.get hk1
         (refine hng ?_; clear hng)
         refine kl_method N8 hm8 PySem.F.slot_list_pop PySem.F.type_list_pop ?_
         walk_at "S3"
         refine pop_put (k := k + 1) (y := vn) F8 N8 hm8 (by (clear hd hu hvl hTM hPL hi2 hlv hlm hb3 hf9 hi' hln hlm' hTl hvr hhi haM hk hsp hsl hc hc' hk1; omega)) (by have := fits_of (k := k + 1) (by (clear hd hu hvl hTM hPL hi2 hlv hlm hb3 hf9 hi' hln hlm' hTl hvr hhi haM hk hsp hsl hl8 hc hc'; omega)); simpa using this) (by have := seqIndex_nat (k := k + 1) (n := vs8.length) (by (clear hn hd hu hvl hTM hPL hi hi2 hlv hlm hb3 hf9 hi' hln hlm' hTl hrl hvr hhi haM hk hsp hsl hil hc hc'; omega)); simpa using this) hvn (fun h9 k9 F9 N9 => ?_)
         rw [put_append, put_off (l := own2) (D := a) (fun p hp c => ha2 (c ▸ hown2 p hp))] at N9
         have X19 := X18.set (n := n8 + 1) S'.ta S'.na ha (hI8.erase (k + 1))
         rw [List.set_set] at X19
         have X29 := X28.put (o := PySem.W.listOf (vs8.eraseIdx (k + 1)).toArray (n8 + 1)) haM haB
         walk_at "S3"
         (rename Fr _ _ _ _ => F10; rename News _ _ _ (own2 ++ put nx8 _ _) => N10)
         have er : row.length = ((insAt row k item).eraseIdx (k + 1)).length := by rw [List.length_eraseIdx_of_lt hk1]; (clear hn hd hu hvl hTM hPL hi hi2 hlv hlm hb3 hf9 hi' hln hlm' hTl hrl hvr hhi haM hk hsp hsl hl8 hc hc' hk1; omega)
         refine ⟨_, _, _, _, rfl, F10, N10, fun q hq => ?_, as', bs', _, marks', _, vn, .int k t7, some k, X19, X29, S', O', fun q hq => ?_, ?_, ?_, ?_, ?_, ?_, ?_, ?_, hIn, .inr ⟨k, t7, rfl, rfl⟩, ?_, ?_, ?_, fun r hr => ?_, hr2, ?_⟩
         · refine hold fun hng => ?_
           obtain ⟨q', h1, e⟩ := put_addr hq
           (refine hng ?_; clear hng)
           rw [← e]; exact o8 q' h1
         · exact put_mem_ne (hq8 q hq) fun c => O'.2.2.1 a (List.mem_of_getElem? ha) (c ▸ hown q hq)
         · walk_at "M"
         · walk_at "M"
         · walk_at "M"
         · walk_at "M"
         · walk_at "M"
         · walk_at "M"
         · walk_at "M"
         · rw [show pairs.length - (i2 + 1) = f9 by (clear hn hd hu hvl hTM hPL hi hi2 hlv hlm hb3 hi' hln hlm' hTl hrl hvr hhi haM hk hsp hsl hil hl8 hc hc' hk1 er; omega)]; exact hgo
         · simp only [List.length_set]; (clear hn hd hu hvl hTM hPL hi hi2 hlv hlm hb3 hf9 hln hlm' hTl hrl hvr hhi haM hk hsp hsl hil hl8 hc hc' hk1 er; omega)
         · simp only [List.length_set]; exact hlm'
         · rcases List.mem_or_eq_of_mem_set hr with hr | rfl
           · exact hr1 r hr
           · (clear hn hd hu hvl hTM hPL hi hi2 hlv hlm hb3 hf9 hi' hln hlm' hTl hvr hhi haM hk hsp hsl hil hl8 hc hc' hk1; omega)
         · simp only [List.length_set]; (clear hn hd hu hvl hTM hPL hi hi2 hlv hlm hf9 hi' hlm' hTl hrl hvr hhi haM hk hsp hsl hil hl8 hc hc' hk1 er; omega)
end

-- part K0
theorem offK0 : True := by w_top off; trivial
section
variable {M : Model} {A : Around} {E : Value → Shared → Prop} {s : Shared} {scope : Scope} {cl : List (Str × Addr)} {C : Addr} {env : Env} {g : Heap} {m : Str → Option Value} {news : List (Addr × Obj)}
theorem storeC {x : Str} {v : Value} {Q : Unit → Shared → Prop} (F : Fr g C s.heap m) (N : News g C s.heap news)
    (h : ∀ h' tk, Fr g C h' (fun y => if y = x then some v else m y) → News g C h' news → Q () { s with heap := h', toks := tk })
    (hk : (compEnvC scope cl C env).scope.kind = .function := by rfl) (hl : (compEnvC scope cl C env).kindOf x = some .local := by rfl) :
    wpAny M A (storeName (compEnvC scope cl C env) x v) Q E s :=
  wpAny_storeName_local hl F.ns (fun h' hn hs => h h' _ (F.set hn hs) (N.set hs))
    (by rw [hk]; rfl)
theorem ldC {x : Str} {pos : Pos} {v : Value} {Q : Value → Shared → Prop} (F : Fr g C s.heap m) (hv : m x = some v) (h : Q v s)
    (hk : (compEnvC scope cl C env).scope.kind = .function := by rfl) (hl : (compEnvC scope cl C env).kindOf x = some .local := by rfl) (hd : (x == ("__debug__" : Str)) = false := by decide) :
    wpAny M A (eval (.Name x pos) (compEnvC scope cl C env)) Q E s := wpAny_Name (wpAny_loadName_local hk hl F.ns hv h) hd
theorem assignC {x : Str} {px : Pos} {v : Value} {Q : Unit → Shared → Prop} (F : Fr g C s.heap m) (N : News g C s.heap news)
    (h : ∀ h' tk, Fr g C h' (fun y => if y = x then some v else m y) → News g C h' news → Q () { s with heap := h', toks := tk })
    (hk : (compEnvC scope cl C env).scope.kind = .function := by rfl) (hl : (compEnvC scope cl C env).kindOf x = some .local := by rfl) :
    wpAny M A (assign (.Name x px) (compEnvC scope cl C env) v) Q E s := wpAny_assign_Name (storeC F N h hk hl)
end
theorem pick_all (vs : List Value) : slicePick vs.toArray none none none = vs.toArray := by
  have e : sliceBounds none none none vs.toArray.size = (((0 : Nat) : Int), ((vs.length : Nat) : Int), 1) := by
    simp [sliceBounds]
  rw [kmk_pick_nat _ e]
  simp
theorem st14 {M A Q E s x1 x2 x3 x4 x5 x6 x7} (h : wpAny M A (exec (Stmt.Assign x1 (Expr.ListComp x2 x3 x4 x5) x6) x7) Q E s) : wpAny M A (exec (Stmt.Assign x1 (Expr.ListComp x2 x3 x4 x5) x6) x7) Q E s := h
theorem st15 {M A Q E s x1 x2 x3 x4 x5} (h : wpAny M A (eval (Expr.ListComp x1 x2 x3 x4) x5) Q E s) : wpAny M A (eval (Expr.ListComp x1 x2 x3 x4) x5) Q E s := h
local macro_rules | `(tactic| walk_at "GK") => `(tactic| (walk_at "GR"; fail_if_success (with_reducible first | refine' st14 ?_ | refine' st15 ?_)))
local macro_rules | `(tactic| walk_at "eval Name") => `(tactic| (k_here; (with_reducible show wpAny _ _ (eval (Expr.Name _ _) (compEnvC _ _ _ _)) _ _ _); k_dflt (refine' ldC ?k1 ?k2 ?_; (case k1 => k_asm); (case k2 => walk_at "M"); k_whole)))
local macro_rules | `(tactic| walk_at "loadName") => `(tactic| (k_here; k_dflt (refine' ldn ?k1 ?k2 ?_; (case k1 => k_asm); (case k2 => walk_at "M"); k_whole)))
section
local macro_rules | `(tactic| walk_at "G3") => `(tactic| walk_at "GK")



/-- up through the rows -/
noncomputable def upGo : Nat → Tbl → Itm → Nat → Option (Tbl × Itm)
  | 0, rows, item, _ => some (rows, item)
  | u + 1, rows, item, lo =>
    let row := rows.getD u []
    let there := bL (row.map (·.2)) item.2 row.length lo row.length
    let row1 := insAt row there item
    if 1 ≤ lo ∧ lo ≤ row.length then upGo u (rows.set u (row1.eraseIdx (there - 1))) (row1.getD (there - 1) (0, 0)) there else none
noncomputable def lastOf (row : List Itm) : Option Int := row.getLast?.map (·.2)
noncomputable def topOf : List Int → Option Int
  | [] => none
  | a :: l => some (l.foldl max a)
theorem foldl_max : ∀ (l : List Int) (a M : Int), M ∈ a :: l → (∀ x ∈ a :: l, x ≤ M) → l.foldl max a = M
  | [], a, M, h, _ => (List.mem_singleton.mp h).symm
  | b :: l, a, M, h, g => by
    rw [List.foldl_cons]
    have ha := g a (.head _)
    have hb := g b (.tail _ (.head _))
    refine foldl_max l (max a b) M ?_ fun x hx => ?_
    · rcases List.mem_cons.mp h with e | h
      · subst e
        rw [show max M b = M by omega]; exact .head _
      · rcases List.mem_cons.mp h with e | h
        · subst e
          rw [show max a M = M by omega]; exact .head _
        · exact .tail _ h
    · rcases List.mem_cons.mp hx with rfl | hx
      · omega
      · exact g x (.tail _ (.tail _ hx))
theorem topOf_max {l : List Int} {M : Int} (h1 : M ∈ l) (h2 : ∀ a ∈ l, a ≤ M) : topOf l = some M := by
  cases l with
  | nil => cases h1
  | cons a l => exact congrArg some (foldl_max l a M h1 h2)
theorem topOf_some {l : List Int} {M : Int} (h : topOf l = some M) : 0 < l.length := by
  cases l with
  | nil => cases h
  | cons a l => simp
noncomputable def backStep (rows marks : Tbl) : Option (Int × Itm × Tbl × Tbl) :=
  match topOf (marks.filterMap lastOf) with
  | none => none
  | some top =>
    let level := marks.findIdx fun row => lastOf row == some top
    let row := rows.getD level []
    if level < rows.length ∧ row ≠ [] then
      match upGo level (rows.set level row.dropLast) (row.getD (row.length - 1) (0, 0)) row.length with
      | none => none
      | some up => some (top, up.2, up.1, marks.set level (marks.getD level []).dropLast)
    else none
noncomputable def backLoop : Nat → Tbl → Tbl → List (Int × Itm) → Option (List (Int × Itm))
  | 0, _, _, acc => some acc
  | k + 1, rows, marks, acc => match backStep rows marks with
    | none => none
    | some (top, item, rows', marks') => backLoop k rows' marks' (acc ++ [(top, item)])

theorem lastOf_get {row : List Itm} (h : 0 < row.length) : lastOf row = some ((row.map (·.2)).getD (row.length - 1) 0) := by
  unfold lastOf
  rw [List.getLast?_eq_getElem?]
  have : row.length - 1 < row.length := by omega
  simp [this]
theorem lastOf_nil {row : List Itm} (h : ¬ 0 < row.length) : lastOf row = none := by
  have : row = [] := List.length_eq_zero_iff.mp (by omega)
  subst this; rfl
theorem backLoop_some {rows marks : Tbl} {M : Int} {f : Nat} {acc res : List (Int × Itm)} (hM : topOf (marks.filterMap lastOf) = some M) (hgo : backLoop (f + 1) rows marks acc = some res) :
    ∃ lv up, lv = marks.findIdx (fun row => lastOf row == some M) ∧ lv < rows.length ∧ rows.getD lv [] ≠ [] ∧ upGo lv (rows.set lv (rows.getD lv []).dropLast) ((rows.getD lv []).getD ((rows.getD lv []).length - 1) (0, 0)) (rows.getD lv []).length = some up ∧
      backLoop f up.1 (marks.set lv (marks.getD lv []).dropLast) (acc ++ [(M, up.2)]) = some res := by
  rw [backLoop, backStep, hM] at hgo
  dsimp only at hgo
  split at hgo
  · cases hgo
  · rename_i heq
    split at heq
    · rename_i hc
      split at heq
      · cases heq
      · rename_i up hup
        cases heq
        exact ⟨_, up, rfl, hc.1, hc.2, hup, hgo⟩
    · cases heq
theorem findIdx_top {marks : Tbl} {M : Int} (h : M ∈ marks.filterMap lastOf) : marks.findIdx (fun row => lastOf row == some M) < marks.length ∧ lastOf (marks.getD (marks.findIdx (fun row => lastOf row == some M)) []) = some M ∧
    ∀ k, k < marks.findIdx (fun row => lastOf row == some M) → lastOf (marks.getD k []) ≠ some M := by
  refine hold fun hng => ?_
  obtain ⟨row, hr, e⟩ := List.mem_filterMap.mp h
  (refine hng ?_; clear hng)
  have hlt : marks.findIdx (fun row => lastOf row == some M) < marks.length := List.findIdx_lt_length_of_exists ⟨row, hr, by simp [e]⟩
  refine ⟨hlt, ?_, fun k hk => ?_⟩
  · have := List.findIdx_getElem (w := hlt)
    simpa [hlt] using this
  · have := List.not_of_lt_findIdx hk
    have hk' : k < marks.length := Nat.lt_trans hk hlt
    simpa [hk'] using this

theorem refs_at {as : List Addr} {k : Nat} {a : Addr} {v : Value} (ha : as[k]? = some a) (hv : (as.map Value.ref)[((k : Int)).toNat]? = some v) : v = .ref a := by
  rw [Int.toNat_natCast, List.getElem?_map, ha] at hv
  exact (Option.some.inj hv).symm

theorem item_neg_any {prog w A E s} {value slice : PySem.Expr} {l : Addr} {vs : List Value} {k : Int} {u : Tok} {Q : Value → Shared → Prop}
    (hl : s.heap.IsList l vs.toArray) (h0 : k < 0) (hlt : -(vs.length : Int) ≤ k) (hhi : -(2 ^ 63) ≤ k) (h : ∀ v, vs[(k + vs.length).toNat]? = some v → Q v s)
    (hs : subscripted slice false (.ref l) (.int k u) = operate [.ref l, .int k u] (getItem (.ref l) (.int k u)) := by with_unfolding_all rfl) :
    wpAny (model prog w) A (subscriptTail value slice (.ref l) (.int k u)) Q E s := by
  have hx : vs[(k + vs.length).toNat]? = some (vs[(k + vs.length).toNat]'(by (clear hhi; omega))) := List.getElem?_eq_getElem (by (clear hhi; omega))
  exact tail_any hl.typeIs slot_list_getitem.lookup (wpAny_getItem_list_neg hl h0 (by simpa using hlt) hhi (by simpa using hx) (h _ hx)) hs
theorem item_neg_ints {prog w A E s} {value slice : PySem.Expr} {l : Addr} {vs : List Value} {row : List Itm} {u : Tok} {Q : Value → Shared → Prop}
    (hl : s.heap.IsList l vs.toArray) (hi : IntsAre vs (row.map (·.2))) (h0 : 0 < row.length) (h : ∀ t, Q (.int ((row.map (·.2)).getD (row.length - 1) 0) t) s)
    (hs : subscripted slice false (.ref l) (.int (-1) u) = operate [.ref l, .int (-1) u] (getItem (.ref l) (.int (-1) u)) := by with_unfolding_all rfl) :
    wpAny (model prog w) A (subscriptTail value slice (.ref l) (.int (-1) u)) Q E s := by
  have hvl : vs.length = row.length := by rw [hi.length, List.length_map]
  refine item_neg_any hl (by omega) (by omega) (by omega) (fun v hv => ?_) hs
  refine hold fun hng => ?_
  obtain ⟨n, t, rfl, hn⟩ := hi.at _ v hv
  (refine hng ?_; clear hng)
  rw [show ((-1 : Int) + vs.length).toNat = row.length - 1 by (clear h0; omega)] at hn
  have := h t
  rw [List.getD_eq_getElem?_getD, hn] at this
  exact this

theorem ItemsAt.dropLast {b : Bool} {g : Heap} {vs ps} (X : ItemsAt b g vs ps) : ItemsAt b g vs.dropLast ps.dropLast := by
  refine ⟨by simp [X.1], fun i u q h1 h2 => ?_⟩
  rw [List.getElem?_dropLast] at h1 h2
  split at h1
  · split at h2
    · exact X.2 _ _ _ h1 h2
    · cases h2
  · cases h1
theorem bL_ge (xs : List Int) (x : Int) : ∀ n lo hi, lo ≤ bL xs x n lo hi
  | 0, lo, hi => by rw [bL]; omega
  | n + 1, lo, hi => by
    rw [bL]
    split
    · split
      · have := bL_ge xs x n ((lo + hi) / 2 + 1) hi; omega
      · exact bL_ge xs x n lo ((lo + hi) / 2)
    · omega
/-- a store in the part that is not own -/
theorem News.sub {g h : Heap} {L : Addr} {l l' : List (Addr × Obj)} (N : News g L h l) (k : ∀ p ∈ l', p ∈ l) : News g L h l' := fun p hp => N p (k p hp)

theorem rangeSize_down (k : Nat) : Builtin.Range.rangeSize ((k : Int) - 1) (-1) (-1) = (k : Int) := by
  unfold Builtin.Range.rangeSize
  rw [if_neg (by decide)]
  split
  · rw [show (-(-1) : Int) = 1 by decide, Int.ediv_one]; omega
  · omega
theorem small_down {k : Nat} (h : k ≤ 2 ^ 20) : Builtin.Range.small ((k : Int) - 1) (-1) (-1) = true := by
  unfold Builtin.Range.small
  rw [rangeSize_down]
  simp only [Builtin.Range.rangeFitsLong, Bool.and_eq_true, Bool.or_eq_true, decide_eq_true_eq, beq_iff_eq, show ¬ ((-1 : Int) > 0) by decide, if_false]
  omega
theorem set_len_le {rows : Tbl} {i : Nat} {row' : List Itm} {B : Nat} (h : ∀ r ∈ rows, r.length ≤ B) (h' : row'.length ≤ B) : ∀ r ∈ rows.set i row', r.length ≤ B := fun r hr => by
  rcases List.mem_or_eq_of_mem_set hr with hr | rfl
  · exact h r hr
  · exact h'
theorem put_offs {nx : List (Addr × Obj)} {D : Addr} {o : Obj} {fp : List Addr} (h : ∀ p ∈ nx, p.1 ∉ fp) : ∀ p ∈ put nx D o, p.1 ∉ fp := fun p hp => by
  refine hold fun hng => ?_
  obtain ⟨q, h1, e⟩ := put_addr hp
  (refine hng ?_; clear hng)
  rw [← e]; exact h q h1

/-- pairs of a mark and an item, in the heap -/
def FoundH (b : Bool) (h : Heap) (D : Addr) (res : List (Int × Itm)) : Prop := ∃ vs : List Value, LAt h D vs ∧ vs.length = res.length ∧
  ∀ (i : Nat) (v : Value) (r : Int × Itm), vs[i]? = some v → res[i]? = some r → ∃ a t u, v = .ref a ∧ IsTup h a #[.int r.1 t, u] ∧ IV b h u r.2

/-- the same on the ledger; the places that may turn are apart -/
def FoundN (b : Bool) (g : Heap) (Mu : List Addr) (news : List (Addr × Obj)) (D : Addr) (res : List (Int × Itm)) : Prop := ∃ (vs : List Value) (n : Nat), (D, PySem.W.listOf vs.toArray n) ∈ news ∧ vs.length = res.length ∧
  ∀ (i : Nat) (v : Value) (r : Int × Itm), vs[i]? = some v → res[i]? = some r → ∃ a t u, v = .ref a ∧ a ∉ Mu ∧ (a, ({ cls := .type "tuple", data := .seq #[.int r.1 t, u] } : Obj)) ∈ news ∧ IV b g u r.2
theorem FoundN.put {b g Mu news D res D' o} (X : FoundN b g Mu news D res) (h1 : D' ∈ Mu) (h2 : D' ≠ D) : FoundN b g Mu (Mine.put news D' o) D res := by
  refine hold fun hng => ?_
  obtain ⟨vs, n, h3, h4, h5⟩ := X
  (refine hng ?_; clear hng)
  refine ⟨vs, n, put_mem_ne h3 (Ne.symm h2), h4, fun i v r h6 h7 => ?_⟩
  refine hold fun hng => ?_
  obtain ⟨a, t, u, e, h8, h9, h10⟩ := h5 i v r h6 h7
  (refine hng ?_; clear hng)
  exact ⟨a, t, u, e, h8, put_mem_ne h9 fun c => h8 (c ▸ h1), h10⟩
theorem FoundN.mono {b g Mu news news' D res} (X : FoundN b g Mu news D res) (h : ∀ p ∈ news, p ∈ news') : FoundN b g Mu news' D res := by
  refine hold fun hng => ?_
  obtain ⟨vs, n, h3, h4, h5⟩ := X
  (refine hng ?_; clear hng)
  refine ⟨vs, n, h _ h3, h4, fun i v r h6 h7 => ?_⟩
  refine hold fun hng => ?_
  obtain ⟨a, t, u, e, h8, h9, h10⟩ := h5 i v r h6 h7
  (refine hng ?_; clear hng)
  exact ⟨a, t, u, e, h8, h _ h9, h10⟩

theorem FoundN.snoc {b : Bool} {g : Heap} {Mu : List Addr} {nx : List (Addr × Obj)} {D : Addr} {acc : List (Int × Itm)} {vs : List Value} {n : Nat} {a : Addr} {M : Int} {t : Tok} {u : Value} {item : Itm} (hD : (D, PySem.W.listOf vs.toArray n) ∈ nx) (hl : vs.length = acc.length)
    (hv : ∀ (i : Nat) (v : Value) (r : Int × Itm), vs[i]? = some v → acc[i]? = some r → ∃ a t u, v = .ref a ∧ a ∉ Mu ∧ (a, ({ cls := .type "tuple", data := .seq #[.int r.1 t, u] } : Obj)) ∈ nx ∧ IV b g u r.2) (hM : D ∈ Mu) (ha : a ∉ Mu) (hI : IV b g u item) :
    FoundN b g Mu ((a, ({ cls := .type "tuple", data := .seq #[.int M t, u] } : Obj)) :: Mine.put nx D (PySem.W.listOf (vs ++ [Value.ref a]).toArray (n + 1))) D (acc ++ [(M, item)]) := by
  refine ⟨vs ++ [.ref a], n + 1, .tail _ (put_mem hD), by simp [hl], fun i v r h1 h2 => ?_⟩
  rcases Nat.lt_trichotomy i vs.length with h | h | h
  · rw [List.getElem?_append_left h] at h1
    rw [List.getElem?_append_left (by omega)] at h2
    refine hold fun hng => ?_
    obtain ⟨a', t', u', e, h8, h9, h10⟩ := hv i v r h1 h2
    (refine hng ?_; clear hng)
    exact ⟨a', t', u', e, h8, .tail _ (put_mem_ne h9 fun c => h8 (c ▸ hM)), h10⟩
  · subst h
    rw [List.getElem?_append_right (Nat.le_refl _)] at h1
    rw [hl, List.getElem?_append_right (Nat.le_refl _)] at h2
    simp at h1 h2
    subst h1 h2
    exact ⟨a, t, u, rfl, ha, .head _, hI⟩
  · rw [List.getElem?_eq_none (by simp; (clear hl; omega))] at h1; cases h1

/-- between the turns -/
structure BackJ (b : Bool) (g : Heap) (Tr Ts Df : Addr) (as bs : List Addr) (res : List (Int × Itm)) (k : Nat) (rows marks : Tbl) (acc : List (Int × Itm)) (nx : List (Addr × Obj)) : Prop where
  x1 : TabN b g nx Tr as rows
  x2 : TabN false g nx Ts bs marks
  x3 : FoundN b g (Tr :: Ts :: Df :: (as ++ bs)) nx Df acc
  go : backLoop k rows marks acc = some res
  ln : rows.length ≤ 1000
  lm : marks.length = rows.length
  b1 : ∀ row ∈ rows, row.length ≤ 100
  b2 : ∀ row ∈ marks, row.length ≤ 100

set_option maxRecDepth 100000 in
set_option maxHeartbeats 4000000 in
/-- rows copied one by one -/
theorem copy_comp {w : World} {A : Around} {E : Value → Shared → Prop} {env : Env} {p1 p2 p3 p4 : Pos} {y : Str} {s : Shared} {Q : Flow → Shared → Prop} {T : Addr} {g0 h₀ : Heap} {m : Str → Option Value} {newsL : List (Addr × Obj)} (b : Bool) {table : Tbl}
    (KX : (Mine.hd.heap_39 w.params).In g0) (hA : A.handled = none) (hT : TabH b g0 T table) (eg0 : Ext g0 s.heap) (F : Fr h₀ env.locals s.heap m) (N : News h₀ env.locals s.heap newsL) (hln : table.length ≤ 1000) (hb1 : ∀ row ∈ table, row.length ≤ 100)
    (done : ∀ Tr H tk k (as : List Addr) news, Fr h₀ env.locals H (fun z => if z = y then some (.ref Tr) else m z) → News h₀ env.locals H ((Tr, PySem.W.listOf (as.map Value.ref).toArray k) :: (news ++ newsL)) → (∀ p ∈ (Tr, PySem.W.listOf (as.map Value.ref).toArray k) :: news, s.heap.get? p.1 = none) →
      as.length = table.length → as.Nodup → Tr ∉ as → (∀ (j : Nat) (a : Addr) (row : List Itm), as[j]? = some a → table[j]? = some row → RowN b g0 news a row) → Q .next { s with heap := H, toks := tk }) :
    wpAny (model Challenge.rw_sc0001_01.row.prog w) A (pyIter (.ref T)) (fun it s₂ => CompAtA Challenge.rw_sc0001_01.row.prog w A env (.Subscript (.Name (Str.ofString "row") p1) (.Slice none none none p2) p3) (.Name (Str.ofString "row") p4) []
      { kind := .function, names := [(Str.ofString ".0", .local), (Str.ofString "row", .local)], isGenerator := false, isCoroutine := false, more := [] } [] y Q it s₂) E s := by
  revert KX; k_fill; intro KX
  refine hold fun hng => ?_
  obtain ⟨as0, ⟨nT, hT1⟩, hT2, hT3⟩ := id hT
  (refine hng ?_; clear hng)
  have F0 := F
  refine' comp_listA (l := T) (vs := as0.map Value.ref) (m := m) (newsL := newsL) (fun i ys news => ∃ as : List Addr, ys = as.map Value.ref ∧ as.length = i ∧ as.Nodup ∧ ∀ (j : Nat) (a : Addr) (row : List Itm), as[j]? = some a → table[j]? = some row → RowN b g0 news a row) ?d1 ?d2 ?d3 F0 N ?d4 ?d5 ?d6 ?d7
  case d1 => exact hA
  case d2 => exact ⟨_, eg0 _ _ hT1, rfl, nT, rfl⟩
  case d3 => rw [List.length_map, hT2]; (clear hT2; omega)
  case d4 => rintro i ys news ⟨as, rfl, e, _⟩; rw [List.length_map, e]; exact Nat.le_refl _
  case d5 => exact ⟨[], rfl, rfl, by simp, fun _ _ _ h => by simp at h⟩
  case d6 =>
    rintro g C fpD i v m₁ ys news₁ H tk own eg hv hz1
    refine hold fun hng => ?_
    obtain ⟨as, rfl, hil, hnd, hrow⟩ := hz1
    (refine hng ?_; clear hng)
    rintro hoff hown hlive F1 N1
    refine hold fun hng => ?_
    obtain ⟨a, ha, rfl⟩ : ∃ a, as0[i]? = some a ∧ v = .ref a := by
      rw [List.getElem?_map] at hv
      cases e : as0[i]? with
      | none => rw [e] at hv; cases hv
      | some a => rw [e] at hv; exact ⟨a, rfl, by cases hv; rfl⟩
    (refine hng ?_; clear hng)
    refine assignC F1 N1 (fun H2 tk2 F2 N2 => tests_nil ?_)
    rw [if_pos rfl]
    have hi : i < table.length := hT2 ▸ (List.getElem?_eq_some_iff.mp ha).1
    have hr : table[i]? = some table[i] := List.getElem?_eq_getElem hi
    refine hold fun hng => ?_
    obtain ⟨vs, ⟨na, hva⟩, hIv⟩ := hT3 i a _ ha hr
    (refine hng ?_; clear hng)
    have hva2 := F2.keep _ _ (eg _ _ (eg0 _ _ hva))
    walk_at "S3"
    refine kmk_slice F2 N2 ⟨_, hva2, rfl, na, rfl⟩ .none .none (fun D H3 F3 N3 hD3 => ?_) rfl (fun _ => rfl) (by have := hb1 _ (List.mem_of_getElem? hr); rw [List.size_toArray, hIv.1, sizeLine_eq]; omega)
    rw [pick_all] at N3
    refine ⟨_, _, _, (D, PySem.W.listOf vs.toArray 0) :: news₁, rfl, F3, fun p hp => N3 p ?_, ?_, as ++ [D], by simp, by simp [hil], ?_, ?_⟩
    · rcases List.mem_append.mp hp with hp | hp
      · exact .tail _ (List.mem_append_left _ hp)
      · rcases List.mem_cons.mp hp with rfl | hp
        · exact .head _
        · exact .tail _ (List.mem_append_right _ hp)
    · intro p hp hf
      rcases List.mem_cons.mp hp with rfl | hp
      · exact fresh_off hlive N3 hD3 hf
      · exact hoff p hp hf
    · refine List.nodup_append.mpr ⟨hnd, by simp, fun x hx y hy e => ?_⟩
      simp at hy
      refine hold fun hng => ?_
      obtain ⟨j, hj, ej⟩ := List.mem_iff_getElem.mp hx
      (refine hng ?_; clear hng)
      obtain ⟨vs', n', h', _⟩ := hrow j x (table[j]'(by (clear hln hT2 e hy ej; omega))) (by rw [← ej]; exact List.getElem?_eq_getElem hj) (List.getElem?_eq_getElem _)
      exact absurd (hD3 _ (List.mem_append_right _ h')) (by rw [e, hy]; exact Nat.lt_irrefl _)
    · intro j a' row h1 h2
      rcases Nat.lt_trichotomy j i with h | h | h
      · rw [List.getElem?_append_left (by omega)] at h1
        refine hold fun hng => ?_
        obtain ⟨vs', n', h', h''⟩ := hrow j a' row h1 h2
        (refine hng ?_; clear hng)
        exact ⟨vs', n', .tail _ h', h''⟩
      · subst h
        rw [List.getElem?_append_right (by omega), hil, Nat.sub_self] at h1
        simp at h1
        subst h1
        rw [hr] at h2
        cases h2
        exact ⟨vs, 0, .head _, hIv⟩
      · rw [List.getElem?_eq_none (by simp; omega)] at h1; cases h1
  case d7 =>
    rintro Tr H tk ys kr news F1 N1 new1 hnD hz1
    refine hold fun hng => ?_
    obtain ⟨as, rfl, hal, hand, harow⟩ := hz1
    (refine hng ?_; clear hng)
    rw [List.length_map, hT2] at hal
    refine done Tr H tk kr as news F1 N1 new1 hal hand (fun hm => ?_) harow
    refine hold fun hng => ?_
    obtain ⟨j, hj, ej⟩ := List.mem_iff_getElem.mp hm
    (refine hng ?_; clear hng)
    obtain ⟨vs', n', h', _⟩ := harow j Tr (table[j]'(by (clear hln hT2 ej; omega))) (by rw [← ej]; exact List.getElem?_eq_getElem hj) (List.getElem?_eq_getElem _)
    exact hnD _ h' rfl
end

-- part K1
theorem offK1 : True := by w_top off; trivial
section
local macro_rules | `(tactic| walk_at "G3") => `(tactic| walk_at "GK")



/-- between the turns of the way back -/
inductive BackO (b : Bool) (g : Heap) (Tr Ts Df : Addr) (as bs : List Addr) (res : List (Int × Itm)) (size i : Nat) (m : Str → Option Value) (nx : List (Addr × Obj)) : Prop
  | mk (rows marks : Tbl) (acc : List (Int × Itm)) (J : BackJ b g Tr Ts Df as bs res (size - i) rows marks acc nx) (q1 : m (Str.ofString "rows") = some (.ref Tr)) (q2 : m (Str.ofString "signs") = some (.ref Ts)) (q3 : m (Str.ofString "found") = some (.ref Df)) (q4 : m (Str.ofString "by") = some (byV b)) (l : acc.length = i) : BackO b g Tr Ts Df as bs res size i m nx
/-- between the turns of the search for the level -/
inductive BackW (own nx : List (Addr × Obj)) (Tr Ts Df : Addr) (b : Bool) (M : Int) (tM : Tok) (lv n : Nat) (m : Str → Option Value) (nx' : List (Addr × Obj)) : Prop
  | mk (e : nx' = own ++ nx) (q1 : m (Str.ofString "rows") = some (.ref Tr)) (q2 : m (Str.ofString "signs") = some (.ref Ts)) (q3 : m (Str.ofString "found") = some (.ref Df)) (q4 : m (Str.ofString "by") = some (byV b)) (q5 : m (Str.ofString "top") = some (.int M tM))
    (k : Nat) (t : Tok) (q6 : m (Str.ofString "level") = some (.int k t)) (hk : k ≤ lv) (hn : n = lv - k) : BackW own nx Tr Ts Df b M tM lv n m nx'
/-- between the rows on the way up -/
inductive BackI (b : Bool) (g : Heap) (Tr Ts Df : Addr) (as bs : List Addr) (mk5 : Tbl) (acc : List (Int × Itm)) (own : List (Addr × Obj)) (fp : List Addr) (M : Int) (tM : Tok) (k5 : Nat) (up : Tbl × Itm) (lr i2 : Nat) (m : Str → Option Value) (nx2 : List (Addr × Obj)) : Prop
  | mk (nx3 : List (Addr × Obj)) (rows2 : Tbl) (item2 : Itm) (v2 : Value) (lo : Nat) (tS : Tok) (e : nx2 = own ++ nx3) (o : ∀ p ∈ nx3, p.1 ∉ fp) (Y1 : TabN b g nx3 Tr as rows2) (Y2 : TabN false g nx3 Ts bs mk5) (Y3 : FoundN b g (Tr :: Ts :: Df :: (as ++ bs)) nx3 Df acc)
    (q1 : m (Str.ofString "rows") = some (.ref Tr)) (q2 : m (Str.ofString "signs") = some (.ref Ts)) (q3 : m (Str.ofString "found") = some (.ref Df)) (q4 : m (Str.ofString "by") = some (byV b)) (q5 : m (Str.ofString "top") = some (.int M tM)) (q6 : m (Str.ofString "item") = some v2)
    (I2 : IV b g v2 item2) (q7 : m (Str.ofString "spot") = some (.int ((lo : Nat) - 1) tS)) (hup : upGo (k5 - i2) rows2 item2 lo = some up) (hl : rows2.length = lr) (hb : ∀ r ∈ rows2, r.length ≤ 100) : BackI b g Tr Ts Df as bs mk5 acc own fp M tM k5 up lr i2 m nx2

set_option pp.deepTerms false in
set_option pp.maxSteps 3000 in
set_option maxRecDepth 100000 in
set_option maxHeartbeats 4000000 in
theorem back_spec {w : World} {mean mg mb} {A : Around} {E : Value → Shared → Prop} {Q : Value → Shared → Prop} {s : Shared} {T M : Addr} (b : Bool) {table marks : Tbl} {size : Nat} {t0 : Tok} {res : List (Int × Itm)}
    (G : Gd w mean mg mb s.heap) (R : Room A 10 60) (hT : TabH b s.heap T table) (hM : TabH false s.heap M marks) (hn : size < 64) (hlm : marks.length = table.length) (hln : table.length ≤ 1000)
    (hb1 : ∀ row ∈ table, row.length ≤ 100) (hb2 : ∀ row ∈ marks, row.length ≤ 100) (hres : backLoop size table marks [] = some res)
    (ret : ∀ D h' tk, Ext s.heap h' → FoundH b h' D res.reverse → Q (.ref D) { s with heap := h', toks := tk }) :
    wpAny (model Challenge.rw_sc0001_01.row.prog w) A (call (.ref 69) [.ref T, .ref M, .int size t0, byV b] []) Q E s := by
  have G0 := G
  have R0 := R
  obtain ⟨KX, Tp⟩ := G
  refine hold fun hng => ?_
  obtain ⟨hA, hd, hu⟩ := R
  (refine hng ?_; clear hng)
  revert KX; k_fill; intro KX
  refine' call_ro (binds := [("table", .ref T), ("marks", .ref M), ("size", .int size t0), ("by", byV b)]) KX Tp ?h1 ?h2 ?h3 ?h4 ?h5 ?h6 ?c1 ?c2 ?c3 ?c4
  case h1 => k_is
  case h2 => k_is
  case h3 => (clear hn hlm hln hu; omega)
  case h4 => exact kp_binds KX (fun _ => rfl)
  case h5 => exact locs rfl
  case c1 => rfl
  case c2 => rfl
  case c3 => rfl
  case c4 => decide
  case h6 =>
   have TR := topRead_of Tp
   intro L h₁ F N
   walk_at "S3"
   (refine' comp_assign (cl := []) ?ca1 ?ca2 ?ca3 ?ca4 ?ca5 ?ca6 ?ca7 ?ca8 ?_ ?ca9; (case ca1 => rfl); (case ca2 => rfl); (case ca3 => decide); (case ca4 => rfl); (case ca5 => decide); (case ca6 => exact fun _ _ => rfl); (case ca7 => rfl); (case ca8 => rfl); (case ca9 => exact fun _ => rfl))
   walk_at "S3"
   refine copy_comp b G0.k hA hT F.keep F N hln hb1 ?_
   intro Tr H1 tk1 k1 as news1 F1 N1 new1 hal hand hTra harow
   clear F
   replace F1 : Fr s.heap L H1 _ := F1
   replace N1 : News s.heap L H1 _ := N1
   try dsimp only
   walk_at "S3"
   (refine' comp_assign (cl := []) ?ca1 ?ca2 ?ca3 ?ca4 ?ca5 ?ca6 ?ca7 ?ca8 ?_ ?ca9; (case ca1 => rfl); (case ca2 => rfl); (case ca3 => decide); (case ca4 => rfl); (case ca5 => decide); (case ca6 => exact fun _ _ => rfl); (case ca7 => rfl); (case ca8 => rfl); (case ca9 => exact fun _ => rfl))
   walk_at "S3"
   refine copy_comp false G0.k hA hM F1.keep F1 N1 (by (clear hn hd hu hal; omega)) hb2 ?_
   intro Ts H2 tk2 k2 bs news2 F2 N2 new2 hbl hbnd hTsb hbrow
   replace F2 : Fr s.heap L H2 _ := F2
   replace N2 : News s.heap L H2 _ := N2
   have old1 : ∀ p ∈ (Tr, PySem.W.listOf (as.map Value.ref).toArray k1) :: news1, ∃ o, H1.get? p.1 = some o := fun p hp => ⟨p.2, (N1 p (by
     rcases List.mem_cons.mp hp with rfl | hp
     · exact .head _
     · exact .tail _ (List.mem_append_left _ hp))).1⟩
   have apart : ∀ p ∈ (Tr, PySem.W.listOf (as.map Value.ref).toArray k1) :: news1, ∀ q ∈ (Ts, PySem.W.listOf (bs.map Value.ref).toArray k2) :: news2, p.1 ≠ q.1 := fun p hp q hq c => by
     obtain ⟨o, ho⟩ := old1 p hp
     have := new2 q hq
     dsimp only at this
     rw [← c, ho] at this; cases this
   have hax : ∀ x ∈ as, ∃ o, (x, o) ∈ news1 := fun x hx => by
     refine hold fun hng => ?_
     obtain ⟨j, hj, ej⟩ := List.mem_iff_getElem.mp hx
     (refine hng ?_; clear hng)
     obtain ⟨vs', n', h', _⟩ := harow j x (table[j]'(by (clear hn hlm hln hd hu hbl ej; omega))) (by rw [← ej]; exact List.getElem?_eq_getElem hj) (List.getElem?_eq_getElem _)
     exact ⟨_, h'⟩
   have hbx : ∀ x ∈ bs, ∃ o, (x, o) ∈ news2 := fun x hx => by
     refine hold fun hng => ?_
     obtain ⟨j, hj, ej⟩ := List.mem_iff_getElem.mp hx
     (refine hng ?_; clear hng)
     obtain ⟨vs', n', h', _⟩ := hbrow j x (marks[j]'(by (clear hn hlm hln hd hu hal ej; omega))) (by rw [← ej]; exact List.getElem?_eq_getElem hj) (List.getElem?_eq_getElem _)
     exact ⟨_, h'⟩
   have S : Sep Tr Ts as bs := ⟨apart _ (.head _) _ (.head _), hTra, fun h => let ⟨o, h'⟩ := hbx _ h; apart _ (.head _) _ (.tail _ h') rfl, fun h => let ⟨o, h'⟩ := hax _ h; apart _ (.tail _ h') _ (.head _) rfl, hTsb, hand, hbnd,
     fun x hx hy => let ⟨o, h'⟩ := hax _ hx; let ⟨o', h''⟩ := hbx _ hy; apart _ (.tail _ h') _ (.tail _ h'') rfl⟩
   obtain ⟨Df, hDf⟩ : ∃ d, d = H2.objs.size := ⟨_, rfl⟩
   have hfr : ∀ p ∈ (Ts, PySem.W.listOf (bs.map Value.ref).toArray k2) :: (news2 ++ (Tr, PySem.W.listOf (as.map Value.ref).toArray k1) :: (news1 ++ [])), p.1 < Df := fun p hp => hDf ▸ Heap.lt_size (N2 p hp).1
   have hDr : Df ≠ Tr := Nat.ne_of_gt (hfr (Tr, _) (.tail _ (List.mem_append_right _ (.head _))))
   have hDs : Df ≠ Ts := Nat.ne_of_gt (hfr (Ts, _) (.head _))
   have hDa : Df ∉ as := fun h => let ⟨o, h'⟩ := hax _ h; Nat.lt_irrefl _ (hfr (Df, o) (.tail _ (List.mem_append_right _ (.tail _ (List.mem_append_left _ h')))))
   have hDb : Df ∉ bs := fun h => let ⟨o, h'⟩ := hbx _ h; Nat.lt_irrefl _ (hfr (Df, o) (.tail _ (List.mem_append_left _ h')))
   try dsimp only
   walk_at "S3"
   refine newList_N F2 N2 (fun H3 F3 N3 => ?_)
   dsimp only at N3 ⊢
   rw [← hDf] at N3 ⊢
   walk_at "S3"
   (rename Fr _ _ _ _ => F4; rename News _ _ _ _ => N4)
   refine For_invVF F4 rfl rfl ?_
   walk_at "S3"
   (rename Fr _ _ _ _ => F5; rename News _ _ _ _ => N5; rename IsRange _ _ _ _ _ _ _ _ => R5)
   refine' iter_range_J (BackO b s.heap Tr Ts Df as bs res size) ?hh R5 ?hs (rangeSize_nat _ _) F5 N5 ?h0 ?turn ?done
   case hh => exact hA
   case hs => exact small_one (by (clear hn hlm hln hd hu hal hbl hDf hDr hDs; omega)) (by (clear hn hlm hln hd hu hal hbl hDf hDr hDs; omega)) (by (clear hn hlm hln hd hu hal hbl hDf hDr hDs; omega)) (by (clear hlm hln hd hu hal hbl hDf hDr hDs; omega))
   case h0 =>
     refine ⟨table, marks, [], ⟨⟨⟨_, .tail _ (.tail _ (List.mem_append_right _ (.head _)))⟩, hal, fun j a row h1 h2 => ?_⟩, ⟨⟨_, .tail _ (.head _)⟩, hbl, fun j a row h1 h2 => ?_⟩, ⟨[], 0, .head _, rfl, fun i v r h => by simp at h⟩, hres, hln, hlm, hb1, hb2⟩, ?_, ?_, ?_, ?_, rfl⟩
     · refine hold fun hng => ?_
       obtain ⟨vs', n', h', h''⟩ := harow j a row h1 h2
       (refine hng ?_; clear hng)
       exact ⟨vs', n', .tail _ (.tail _ (List.mem_append_right _ (.tail _ (List.mem_append_left _ h')))), h''⟩
     · refine hold fun hng => ?_
       obtain ⟨vs', n', h', h''⟩ := hbrow j a row h1 h2
       (refine hng ?_; clear hng)
       exact ⟨vs', n', .tail _ (.tail _ (List.mem_append_left _ h')), h''⟩
     all_goals walk_at "M"
   case done =>
     rintro h' tk' m' nx F' N' hz1
     refine hold fun hng => ?_
     obtain ⟨rows, marks, acc, J, m1, m2, m3, m4, hlen⟩ := hz1
     (refine hng ?_; clear hng)
     clear F5 N5
     walk_at "S3"
     refine hold fun hng => ?_
     obtain ⟨vs, nD, hD1, hD2, hD3⟩ := J.x3
     (refine hng ?_; clear hng)
     have hgo := J.go
     rw [show size - ((size : Int) - 0).toNat = 0 by (clear hn hlm hln hd hu hal hbl hDf hDr hDs hlen hD2; omega)] at hgo
     have hacc : acc = res := Option.some.inj hgo
     subst hacc
     refine krv_lit (its := vs.toArray) (zs := vs.reverse) F' N' (N'.isList hD1) (.int _ _) rfl (fun D H F9 N9 _ => ?_) (by with_unfolding_all rfl) (fun _ => by with_unfolding_all rfl) (by rw [List.size_toArray, sizeLine_eq]; (clear hlm hln hd hu hal hbl hDf hDr hDs; omega))
     walk_at "S3"
     refine ret D _ _ F9.keep ⟨vs.reverse, ⟨0, (N9 _ (.head _)).1⟩, by simp [hD2], fun i v r h1 h2 => ?_⟩
     have hi : i < vs.length := by simpa using (List.getElem?_eq_some_iff.mp h1).1
     rw [List.getElem?_reverse hi] at h1
     rw [List.getElem?_reverse (by (clear hn hlm hln hd hu hal hbl hDf hDr hDs hlen; omega)), ← hD2] at h2
     refine hold fun hng => ?_
     obtain ⟨a, t, u, e, _, hm, hI⟩ := hD3 _ _ _ h1 h2
     (refine hng ?_; clear hng)
     exact ⟨a, t, u, e, ⟨_, (N9 _ (.tail _ hm)).1, rfl, _, rfl⟩, hI.keeps F9.keep⟩
   case turn =>
     rintro fp i t1 m₁ nx h tk' own hi hz1
     refine hold fun hng => ?_
     obtain ⟨rows, marks', acc, J, m1, m2, m3, m4, hlen⟩ := hz1
     (refine hng ?_; clear hng)
     rintro hoff hown hlive F' N'
     clear F5 N5
     replace F' : Fr s.heap L h _ := F'
     replace N' : News s.heap L h (own ++ nx) := N'
     have hi' : i < size := by (clear hn hlm hln hd hu hal hbl hDf hDr hDs hlen; omega)
     have hgo := J.go
     obtain ⟨f9, hf9⟩ : ∃ f, size - i = f + 1 := ⟨size - i - 1, by (clear hn hlm hln hd hu hal hbl hDf hDr hDs hi hlen; omega)⟩
     rw [hf9] at hgo
     walk_at "S3"
     (refine' comp_eval (cl := []) ?ca2 ?ca3 ?ca4 ?ca5 ?ca6 ?_ ?ca9; (case ca2 => rfl); (case ca3 => decide); (case ca4 => rfl); (case ca5 => decide); (case ca6 => exact fun _ _ => rfl); (case ca9 => exact fun _ => rfl))
     walk_at "S3"
     refine hold fun hng => ?_
     obtain ⟨⟨nTs, hTs⟩, hTl, hTrow⟩ := J.x2
     (refine hng ?_; clear hng)
     refine comp_list (l := Ts) (vs := bs.map Value.ref) (fun i ys _ => IntsAre ys ((marks'.take i).filterMap lastOf)) hA (N'.isList (List.mem_append_right _ hTs)) ?_ ?_ (by simpa using IntsAre.nil) ?_ ?_
     · have := J.lm; have := J.ln; rw [List.length_map]; (clear hn hd hu hal hDf hDr hDs hi hlen hi' hf9 hTl this; omega)
     · intro i ys _ hy
       rw [hy.length]
       exact Nat.le_trans (List.length_filterMap_le _ _) (by simp; (clear hn hlm hln hd hu hal hbl hDf hDr hDs hi hlen hi' hf9 hTl; omega))
     · intro g C fpD j v m₃ ys news₃ H tk3 own3 eg hv hy hoff3 hown3 hlive3 F3 N3
       refine assignC F3 N3 (fun H4 tk4 F4 N4 => tests_one ?_)
       refine hold fun hng => ?_
       obtain ⟨a, ha, rfl⟩ : ∃ a, bs[j]? = some a ∧ v = .ref a := by
         rw [List.getElem?_map] at hv
         cases e : bs[j]? with
         | none => rw [e] at hv; cases hv
         | some a => rw [e] at hv; exact ⟨a, rfl, by cases hv; rfl⟩
       (refine hng ?_; clear hng)
       have hj : j < marks'.length := hTl ▸ (List.getElem?_eq_some_iff.mp ha).1
       have hr : marks'[j]? = some marks'[j] := List.getElem?_eq_getElem hj
       refine hold fun hng => ?_
       obtain ⟨vs, na, hva, hIv⟩ := hTrow j a _ ha hr
       (refine hng ?_; clear hng)
       have hva1 := eg _ _ (N' _ (List.mem_append_right _ hva)).1
       have hva2 := F4.keep _ _ hva1
       have hvl : H4.IsList a vs.toArray := ⟨_, hva2, rfl, na, rfl⟩
       have hints := hIv.ints
       have hrl : (marks'[j]).length ≤ 100 := J.b2 _ (List.getElem_mem hj)
       have hvsl := hIv.1
       have etk : marks'.take (j + 1) = marks'.take j ++ [marks'[j]] := by rw [List.take_add_one, hr]; rfl
       walk_at "S3"
       · (rename (0 : Nat) < _ => hpos)
         rw [List.length_map] at hpos
         refine item_neg_ints hvl hints hpos (fun t => ?_)
         refine ⟨_, _, _, news₃, rfl, F4, N4, hoff3, ?_⟩
         rw [etk, List.filterMap_append, List.filterMap_cons, lastOf_get hpos]
         exact hy.append (.cons _ _ .nil)
       · (rename ¬ (0 : Nat) < _ => hpos)
         rw [List.length_map] at hpos
         refine ⟨_, _, _, news₃, rfl, F4, N4, hoff3, ?_⟩
         rw [etk, List.filterMap_append, List.filterMap_cons, lastOf_nil hpos]
         simpa using hy
     · intro D H tk ys k news ex nw hnD hy
       walk_at "S3"
       obtain ⟨hDg, hDn⟩ := nw _ (.head _)
       have FH : Fr s.heap L H _ := F'.kept ex
       have NH : News s.heap L H _ := N'.grown ex
       rw [List.length_map, hTl, List.take_length] at hy
       have hne : 0 < (marks'.filterMap lastOf).length := by
         cases hh : topOf (marks'.filterMap lastOf) with
         | none => rw [backLoop, backStep, hh] at hgo; cases hgo
         | some M => exact topOf_some hh
       refine max_list_N hA FH NH ⟨_, hDg, rfl, k, rfl⟩ hy hne (fun H2 M tM tk2 F2 N2 hM1 hM2 => ?_)
       have hM := topOf_max hM1 hM2
       refine hold fun hng => ?_
       obtain ⟨lv, up, hlve, hlv, hrne, hup, hgo⟩ := backLoop_some hM hgo
       (refine hng ?_; clear hng)
       refine hold fun hng => ?_
       obtain ⟨hf1, hf2, hf3⟩ := findIdx_top hM1
       (refine hng ?_; clear hng)
       rw [← hlve] at hf1 hf2 hf3
       clear FH NH hlve
       walk_at "S3"
       (rename Fr _ _ _ _ => F5; rename News _ _ _ _ => N5)
       refine While_inv (n₀ := lv) (BackW own nx Tr Ts Df b M tM lv) F5 N5 ⟨rfl, by walk_at "M", by walk_at "M", by walk_at "M", by walk_at "M", by walk_at "M", 0, _, if_pos rfl, by (clear hn hlm hln hd hu hal hbl hDf hDr hDs hi hlen hi' hf9 hTl hne hlv hf1; omega), by (clear hn hlm hln hd hu hal hbl hDf hDr hDs hi hlen hi' hf9 hTl hne hlv hf1; omega)⟩ ?_
       rintro n m₅ nx₅ h₅ tk₅ F₅ N₅ hz1
       refine hold fun hng => ?_
       obtain ⟨rfl, w1, w2, w3, w4, w5, k5, t5, w6, hk5, hn5⟩ := hz1
       (refine hng ?_; clear hng)
       have hk5' : k5 < marks'.length := by (clear hn hlm hln hd hu hal hbl hDf hDr hDs hi hlen hi' hf9 hTl hne hlv hn5; omega)
       have hTm := N₅.isList (List.mem_append_right _ hTs)
       have hbl5 : (bs.map Value.ref).length = marks'.length := by rw [List.length_map, hTl]
       have hmr : marks'[k5]? = some (marks'.getD k5 []) := by simp [hk5']
       have hlm5 := J.lm
       have hln5 := J.ln
       obtain ⟨a, ha⟩ : ∃ a, bs[k5]? = some a := ⟨_, List.getElem?_eq_getElem (by (clear hn hlm hln hd hu hal hbl hDf hDr hDs hi hlen hi' hf9 hne hlv hf1 hk5 hn5 hbl5 hlm5 hln5; omega))⟩
       refine hold fun hng => ?_
       obtain ⟨vs5, na5, hva5, hIv5⟩ := hTrow k5 a _ ha hmr
       (refine hng ?_; clear hng)
       have hvl5 := N₅.isList (List.mem_append_right own hva5)
       have hints5 := hIv5.ints
       have hrl5 : (marks'.getD k5 []).length ≤ 100 := J.b2 _ (List.mem_of_getElem? hmr)
       have hvsl5 := hIv5.1
       clear F5 N5
       walk_at "S3"
       refine item_any (vs := bs.map Value.ref) hTm (by (clear hn hlm hln hd hu hal hbl hDf hDr hDs hi hlen hi' hf9 hTl hne hlv hf1 hk5 hn5 hk5' hbl5 hlm5 hln5 hrl5 hvsl5; omega)) (by (clear hn hlm hln hd hu hal hbl hDf hDr hDs hi hlen hi' hf9 hTl hne hlv hf1 hk5 hn5 hlm5 hln5 hrl5 hvsl5; omega)) (by (clear hn hd hu hal hDf hDr hDs hi hlen hi' hf9 hne hlv hf1 hk5 hn5 hbl5 hlm5 hln5 hrl5 hvsl5; omega)) (fun v9 hv9 => ?_) (by with_unfolding_all rfl)
       cases refs_at ha hv9
       walk_at "S3"
       · (rename (0 : Nat) < _ => hpos)
         rw [List.length_map] at hpos
         refine item_any (vs := bs.map Value.ref) hTm (by (clear hn hlm hln hd hu hal hbl hDf hDr hDs hi hlen hi' hf9 hTl hne hlv hf1 hk5 hn5 hk5' hbl5 hlm5 hln5 hrl5 hvsl5 hpos; omega)) (by (clear hn hlm hln hd hu hal hbl hDf hDr hDs hi hlen hi' hf9 hTl hne hlv hf1 hk5 hn5 hlm5 hln5 hrl5 hvsl5 hpos; omega)) (by (clear hn hd hu hal hDf hDr hDs hi hlen hi' hf9 hne hlv hf1 hk5 hn5 hbl5 hlm5 hln5 hrl5 hvsl5 hpos; omega)) (fun v9 hv9 => ?_) (by with_unfolding_all rfl)
         cases refs_at ha hv9
         walk_at "S3"
         refine item_neg_ints hvl5 hints5 hpos (fun t => ?_) (by with_unfolding_all rfl)
         have hlast := lastOf_get hpos
         walk_at "S3"
         · (rename (_ : Int) ≠ M => hne5)
           have hlt : k5 < lv := Nat.lt_of_le_of_ne hk5 fun c => by
             rw [← c, hlast] at hf2
             exact hne5 (Option.some.inj hf2)
           (rename Fr _ _ _ _ => F6; rename News _ _ _ _ => N6)
           exact ⟨by trivial, _, _, _, _, lv - (k5 + 1), rfl, F6, N6, by (clear hn hlm hln hd hu hal hbl hDf hDr hDs hi hlen hi' hf9 hTl hne hlv hf1 hk5 hk5' hbl5 hlm5 hln5 hrl5 hvsl5 hpos hne5; omega), rfl, by walk_at "M", by walk_at "M", by walk_at "M", by walk_at "M", by walk_at "M", k5 + 1, _, if_pos rfl, by (clear hn hlm hln hd hu hal hbl hDf hDr hDs hi hlen hi' hf9 hTl hne hlv hf1 hk5 hn5 hk5' hbl5 hlm5 hln5 hrl5 hvsl5 hpos hne5; omega), rfl⟩
         · (rename (_ : Int) = M => he5)
           have hlv5 : k5 = lv := by
             rcases Nat.lt_or_ge k5 lv with h | h
             · exact absurd (hlast.trans (congrArg some he5)) (hf3 k5 h)
             · (clear hn hlm hln hd hu hal hbl hDf hDr hDs hi hlen hi' hf9 hTl hne hlv hf1 hn5 hk5' hbl5 hlm5 hln5 hrl5 hvsl5 hpos he5; omega)
           obtain rfl := hlv5
           refine item_any (vs := bs.map Value.ref) hTm (by (clear hn hlm hln hd hu hal hbl hDf hDr hDs hi hlen hi' hf9 hTl hne hk5' hbl5 hlm5 hln5 hrl5 hvsl5 hpos he5 hlv hf1 hk5 hn5; omega)) (by (clear hn hlm hln hd hu hal hbl hDf hDr hDs hi hlen hi' hf9 hTl hne hlm5 hln5 hrl5 hvsl5 hpos he5 hlv hf1 hk5 hn5; omega)) (by (clear hn hd hu hal hDf hDr hDs hi hlen hi' hf9 hne hbl5 hlm5 hln5 hrl5 hvsl5 hpos he5 hlv hf1 hk5 hn5; omega)) (fun v9 hv9 => ?_) (by with_unfolding_all rfl)
           cases refs_at ha hv9
           have hva5' := List.mem_append_right own hva5
           walk_at "S3"
           refine kl_method N₅ hva5' PySem.F.slot_list_pop PySem.F.type_list_pop ?_
           walk_at "S3"
           obtain ⟨y, hy5⟩ : ∃ y, vs5[vs5.length - 1]? = some y := ⟨_, List.getElem?_eq_getElem (by (clear hn hlm hln hd hu hal hbl hDf hDr hDs hi hlen hi' hf9 hTl hne hk5' hbl5 hlm5 hln5 hrl5 he5 hlv hf1 hk5 hn5; omega))⟩
           refine pop_last_put F₅ N₅ hva5' (by (clear hn hlm hln hd hu hal hbl hDf hDr hDs hi hlen hi' hf9 hTl hne hk5' hbl5 hlm5 hln5 hpos he5 hlv hf1 hk5 hn5; omega)) hy5 (fun h7 k7 F7 N7 => ?_)
           have afp : a ∉ fp := hoff _ hva5
           have abs : a ∈ bs := List.mem_of_getElem? ha
           rw [put_append, put_off (l := own) (D := a) (fun p hp c => afp (c ▸ hown p hp))] at N7
           have X1 := J.x1.put (D := a) (o := PySem.W.listOf (vs5.dropLast).toArray (na5 + 1)) (fun c => S.tb (c ▸ abs)) (fun c => S.ab _ c abs)
           have X2 := J.x2.set (n := na5 + 1) S.mb S.nb ha hIv5.dropLast
           have X3 := J.x3.put (D' := a) (o := PySem.W.listOf (vs5.dropLast).toArray (na5 + 1)) (.tail _ (.tail _ (.tail _ (List.mem_append_right _ abs)))) (fun c => hDb (c ▸ abs))
           have off7 : ∀ p ∈ put nx a (PySem.W.listOf (vs5.dropLast).toArray (na5 + 1)), p.1 ∉ fp := fun p hp => by
             refine hold fun hng => ?_
             obtain ⟨q, h1, e⟩ := put_addr hp
             (refine hng ?_; clear hng)
             rw [← e]; exact hoff q h1
           generalize hnx : put nx a (PySem.W.listOf (vs5.dropLast).toArray (na5 + 1)) = nx7 at *
           have hAl := J.x1.len
           obtain ⟨c, hc⟩ : ∃ c, as[k5]? = some c := ⟨_, List.getElem?_eq_getElem (by (clear hn hln hd hu hDf hDr hDs hi hlen hi' hf9 hne hbl5 hlm5 hln5 hrl5 hvsl5 hpos he5 hlv hf1 hk5 hn5 hAl; omega))⟩
           have hrr : rows[k5]? = some (rows.getD k5 []) := by simp [hlv]
           refine hold fun hng => ?_
           obtain ⟨vsr, nr, hmr', hIr⟩ := X1.row k5 c _ hc hrr
           (refine hng ?_; clear hng)
           have hrl : (rows.getD k5 []).length ≤ 100 := J.b1 _ (List.mem_of_getElem? hrr)
           have hvr := hIr.1
           have hmr7 := List.mem_append_right own hmr'
           have hTr7 := N7.isList (List.mem_append_right own X1.top.choose_spec)
           have hasl : (as.map Value.ref).length = rows.length := by rw [List.length_map, hAl]
           have hrpos : 0 < (rows.getD k5 []).length := List.length_pos_iff.mpr hrne
           generalize hrw : rows.getD k5 [] = row at *
           clear N₅ F₅ hvl5 hTm hva5'
           walk_at "S3"
           refine item_any (vs := as.map Value.ref) hTr7 (by (clear hn hlm hln hd hu hal hbl hDf hDr hDs hi hlen hi' hf9 hTl hne hk5' hbl5 hlm5 hln5 hrl5 hvsl5 hpos he5 hlv hf1 hk5 hn5 hAl hasl hrl hvr hrpos; omega)) (by (clear hn hlm hln hd hu hal hbl hDf hDr hDs hi hlen hi' hf9 hTl hne hbl5 hln5 hrl5 hvsl5 hpos he5 hlv hf1 hk5 hn5 hAl hrl hvr hrpos; omega)) (by (clear hn hd hu hal hDf hDr hDs hi hlen hi' hf9 hne hbl5 hlm5 hln5 hrl5 hvsl5 hpos he5 hlv hf1 hk5 hn5 hAl hasl hrl hvr hrpos; omega)) (fun v9 hv9 => ?_) (by with_unfolding_all rfl)
           cases refs_at hc hv9
           walk_at "S3"
           (rename Fr _ _ _ _ => F8; rename News _ _ _ _ => N8)
           refine item_any (vs := as.map Value.ref) (N8.isList (List.mem_append_right own X1.top.choose_spec)) (by (clear hn hlm hln hd hu hal hbl hDf hDr hDs hi hlen hi' hf9 hTl hne hk5' hbl5 hlm5 hln5 hrl5 hvsl5 hpos he5 hlv hf1 hk5 hn5 hAl hasl hrl hvr hrpos; omega)) (by (clear hn hlm hln hd hu hal hbl hDf hDr hDs hi hlen hi' hf9 hTl hne hbl5 hln5 hrl5 hvsl5 hpos he5 hlv hf1 hk5 hn5 hAl hrl hvr hrpos; omega)) (by (clear hn hd hu hal hDf hDr hDs hi hlen hi' hf9 hne hbl5 hlm5 hln5 hrl5 hvsl5 hpos he5 hlv hf1 hk5 hn5 hAl hasl hrl hvr hrpos; omega)) (fun v9 hv9 => ?_) (by with_unfolding_all rfl)
           cases refs_at hc hv9
           walk_at "S3"
           refine kl_method N8 hmr7 PySem.F.slot_list_pop PySem.F.type_list_pop ?_
           walk_at "S3"
           refine hold fun hng => ?_
           obtain ⟨vi, hvi, hIi⟩ := hIr.get (k := row.length - 1) (by (clear hn hlm hln hd hu hal hbl hDf hDr hDs hi hlen hi' hf9 hTl hne hk5' hbl5 hlm5 hln5 hrl5 hvsl5 hpos he5 hlv hf1 hk5 hn5 hAl hasl hrl hvr; omega))
           (refine hng ?_; clear hng)
           refine pop_last_put F8 N8 hmr7 (by (clear hn hlm hln hd hu hal hbl hDf hDr hDs hi hlen hi' hf9 hTl hne hk5' hbl5 hlm5 hln5 hrl5 hvsl5 hpos he5 hlv hf1 hk5 hn5 hAl hasl hrpos; omega)) (by rw [hvr]; exact hvi) (fun h9 k9 F9 N9 => ?_)
           have cfp : c ∉ fp := off7 _ hmr'
           have cas : c ∈ as := List.mem_of_getElem? hc
           rw [put_append, put_off (l := own) (D := c) (fun p hp e => cfp (e ▸ hown p hp))] at N9
           have X19 := X1.set (n := nr + 1) S.ta S.na hc hIr.dropLast
           have X29 := X2.put (D := c) (o := PySem.W.listOf (vsr.dropLast).toArray (nr + 1)) (fun e => S.ma (e ▸ cas)) (S.ab _ cas)
           have X39 := X3.put (D' := c) (o := PySem.W.listOf (vsr.dropLast).toArray (nr + 1)) (.tail _ (.tail _ (.tail _ (List.mem_append_left _ cas)))) (fun e => hDa (e ▸ cas))
           have off9 : ∀ p ∈ put nx7 c (PySem.W.listOf (vsr.dropLast).toArray (nr + 1)), p.1 ∉ fp := fun p hp => by
             refine hold fun hng => ?_
             obtain ⟨q, h1, e⟩ := put_addr hp
             (refine hng ?_; clear hng)
             rw [← e]; exact off7 q h1
           generalize hnx9 : put nx7 c (PySem.W.listOf (vsr.dropLast).toArray (nr + 1)) = nx9 at *
           clear F8 N8
           walk_at "S3"
           (rename Fr _ _ _ _ => F10; rename News _ _ _ _ => N10)
           refine For_invVF F10 rfl rfl ?_
           walk_at "S3"
           (rename Fr _ _ _ _ => F11; rename News _ _ _ _ => N11; rename IsRange _ _ _ _ _ _ _ _ => R11)
           refine' iter_range_J (n := k5) (BackI b s.heap Tr Ts Df as bs (marks'.set k5 (marks'.getD k5 []).dropLast) acc own fp M tM k5 up rows.length) ?hh2 R11 ?hs2 ?hn2 F11 N11 ?h02 ?turn2 ?done2
           case hh2 => exact hA
           case hs2 => exact small_down (by (clear hn hd hu hal hDf hDr hDs hi hlen hi' hf9 hne hbl5 hlm5 hln5 hrl5 hvsl5 hpos he5 hlv hf1 hk5 hn5 hAl hasl hrl hvr hrpos; omega))
           case hn2 => exact rangeSize_down _
           case h02 =>
             exact ⟨nx9, _, _, vi, row.length, _, rfl, off9, X19, X29, X39, by walk_at "M", by walk_at "M", by walk_at "M", by walk_at "M", by walk_at "M", by walk_at "M", hIi, by walk_at "M", hup, List.length_set .., set_len_le J.b1 (by rw [List.length_dropLast]; (clear hn hlm hln hd hu hal hbl hDf hDr hDs hi hlen hi' hf9 hTl hne hk5' hbl5 hlm5 hln5 hrl5 hvsl5 hpos he5 hlv hf1 hk5 hn5 hAl hasl hvr hrpos; omega))⟩
           case done2 =>
             rintro h12 tk12 m12 _ F12 N12 hz1
             refine hold fun hng => ?_
             obtain ⟨nx3, rows2, item2, v2, lo, tS, rfl, off3, Y1, Y2, Y3, q1, q2, q3, q4, q5, q6, I2, q7, hup2, hl2, hb2'⟩ := hz1
             (refine hng ?_; clear hng)
             rw [Nat.sub_self, upGo] at hup2
             cases Option.some.inj hup2
             clear F11 N11 R11
             have F12' : Fr s.heap L h12 m12 := F12
             have N12' : News s.heap L h12 (own ++ nx3) := N12
             clear F12 N12
             try dsimp only
             walk_at "S3"
             refine hold fun hng => ?_
             obtain ⟨vsD, nD, hD1, hD2, hD3⟩ := id Y3
             (refine hng ?_; clear hng)
             have hD1' := List.mem_append_right own hD1
             refine kl_method N12' hD1' PySem.F.slot_list_append PySem.F.type_list_append ?_
             walk_at "S3"
             (rename Addr => Dt)
             (rename Fr _ _ _ _ => F13; rename News _ _ _ _ => N13; rename ∀ (p : Addr × Obj), p ∈ own ++ nx3 → p.1 < Dt => lt13)
             refine append_put F13 N13 (.tail _ hD1') (by (clear hlm hln hd hu hal hbl hDf hDr hDs hi hf9 hTl hne hk5' hbl5 hlm5 hln5 hrl5 hvsl5 hpos he5 hlv hf1 hk5 hn5 hAl hasl hrl hvr hrpos hl2; omega)) (fun h14 k14 F14 N14 => ?_)
             have hDt : ∀ x, (∃ o, (x, o) ∈ nx3) → Dt ≠ x := fun x ⟨o, h⟩ e => Nat.lt_irrefl _ (e ▸ lt13 _ (List.mem_append_right _ h))
             have hDtM : Dt ∉ Tr :: Ts :: Df :: (as ++ bs) := fun h => by
               rcases List.mem_cons.mp h with e | h
               · exact hDt _ ⟨_, Y1.top.choose_spec⟩ e
               rcases List.mem_cons.mp h with e | h
               · exact hDt _ ⟨_, Y2.top.choose_spec⟩ e
               rcases List.mem_cons.mp h with e | h
               · exact hDt _ ⟨_, hD1⟩ e
               rcases List.mem_append.mp h with h | h
               · exact hDt _ (Y1.live h) rfl
               · exact hDt _ (Y2.live h) rfl
             have hDtf : Dt ∉ fp := fun h => by
               rcases hlive _ h with ⟨o, e⟩ | ⟨o, e⟩
               · have := (N13 _ (.head _)).2.2
                 rw [e] at this; cases this
               · exact Nat.lt_irrefl _ (lt13 _ (List.mem_append_left _ e))
             have hDff : Df ∉ fp := off3 _ hD1
             have Z3 := FoundN.snoc (M := M) (t := tM) hD1 hD2 hD3 (.tail _ (.tail _ (.head _))) hDtM I2
             have Z1 := (Y1.put (o := PySem.W.listOf (vsD ++ [Value.ref Dt]).toArray (nD + 1)) hDr hDa).mono (news' := (Dt, ({ cls := .type "tuple", data := .seq #[.int M tM, v2] } : Obj)) :: put nx3 Df (PySem.W.listOf (vsD ++ [Value.ref Dt]).toArray (nD + 1))) (fun p hp _ => .tail _ hp)
             have Z2 := (Y2.put (o := PySem.W.listOf (vsD ++ [Value.ref Dt]).toArray (nD + 1)) hDs hDb).mono (news' := (Dt, ({ cls := .type "tuple", data := .seq #[.int M tM, v2] } : Obj)) :: put nx3 Df (PySem.W.listOf (vsD ++ [Value.ref Dt]).toArray (nD + 1))) (fun p hp _ => .tail _ hp)
             have N14' : News s.heap L h14 (own ++ ((Dt, ({ cls := .type "tuple", data := .seq #[.int M tM, v2] } : Obj)) :: put nx3 Df (PySem.W.listOf (vsD ++ [Value.ref Dt]).toArray (nD + 1)))) := fun p hp0 => N14 p (by
               revert hp0; intro hp
               rcases List.mem_append.mp hp with hp | hp
               · exact put_mem_ne (.tail _ (List.mem_append_left _ hp)) fun c => hDff (c ▸ hown p hp)
               rcases List.mem_cons.mp hp with rfl | hp
               · exact put_mem_ne (.head _) fun c => hDt _ ⟨_, hD1⟩ c
               · exact put_mono (fun q hq => .tail _ (List.mem_append_right _ hq)) p hp)
             have hlm9 := J.lm
             walk_at "S3"
             refine ⟨_, _, _, _, rfl, F14, N14', fun p hp => ?_, rows2, _, acc ++ [(M, item2)], ⟨Z1, Z2, Z3, ?_, ?_, ?_, hb2', ?_⟩, q1, q2, q3, q4, ?_⟩
             · rcases List.mem_cons.mp hp with rfl | hp
               · exact hDtf
               · exact put_offs off3 p hp
             · rw [show size - (i + 1) = f9 by (clear hn hlm hln hd hu hal hbl hDf hDr hDs hi hlen hi' hTl hne hk5' hbl5 hlm5 hln5 hrl5 hvsl5 hpos he5 hlv hf1 hk5 hn5 hAl hasl hrl hvr hrpos hl2 hD2 hlm9; omega)]; exact hgo
             · rw [hl2]; exact J.ln
             · rw [List.length_set, hl2]; exact J.lm
             · exact set_len_le J.b2 (by rw [List.length_dropLast]; (clear hn hlm hln hd hu hal hbl hDf hDr hDs hi hlen hi' hf9 hTl hne hk5' hbl5 hlm5 hln5 hvsl5 hpos he5 hlv hf1 hk5 hn5 hAl hasl hrl hvr hrpos hl2 hD2 hlm9; omega))
             · simp [hlen]
           case turn2 =>
             rintro fp2 i2 t2 m₂ nx2 h2 tk2' own2 hi2 hz1
             refine hold fun hng => ?_
             obtain ⟨nx3, rows2, item2, v2, lo, tS, rfl, off3, Y1, Y2, Y3, q1, q2, q3, q4, q5, q6, I2, q7, hup2, hl2, hb2'⟩ := hz1
             (refine hng ?_; clear hng)
             rintro hoff2 hown2 hlive2 F12 N12
             obtain ⟨u2, hu2⟩ : ∃ u, k5 - i2 = u + 1 := ⟨k5 - i2 - 1, by (clear hn hlm hln hd hu hal hbl hDf hDr hDs hi hlen hi' hf9 hTl hne hk5' hbl5 hlm5 hln5 hrl5 hvsl5 hpos he5 hlv hf1 hk5 hn5 hAl hasl hrl hvr hrpos hl2; omega)⟩
             rw [hu2, upGo] at hup2
             have eu : ((k5 : Int) - 1 + (i2 : Int) * -1) = (u2 : Int) := by (clear hn hlm hln hd hu hal hbl hDf hDr hDs hi hlen hi' hf9 hTl hne hk5' hbl5 hlm5 hln5 hrl5 hvsl5 hpos he5 hlv hf1 hk5 hn5 hAl hasl hrl hvr hrpos hi2 hl2; omega)
             rw [eu] at F12
             clear F11 N11 R11
             have hu3 : u2 < rows2.length := by (clear hn hlm hln hd hu hal hbl hDf hDr hDs hi hlen hi' hf9 hTl hne hbl5 hln5 hrl5 hvsl5 hpos he5 hlv hf1 hk5 hn5 hAl hasl hrl hvr hrpos hi2 hu2; omega)
             have hr2 : rows2[u2]? = some (rows2.getD u2 []) := by simp [hu3]
             generalize hrw2 : rows2.getD u2 [] = row2 at hup2 hr2
             by_cases hg : 1 ≤ lo ∧ lo ≤ row2.length
             case neg => rw [if_neg hg] at hup2; cases hup2
             rw [if_pos hg] at hup2
             have hal2 := Y1.len
             obtain ⟨c2, hc2⟩ : ∃ c, as[u2]? = some c := ⟨_, List.getElem?_eq_getElem (by (clear hn hln hd hu hDf hDr hDs hi hlen hi' hf9 hne hk5' hbl5 hln5 hrl5 hvsl5 hpos he5 hlv hf1 hk5 hn5 hAl hasl hrl hvr hrpos hi2 hu2 eu hg hal2; omega))⟩
             refine hold fun hng => ?_
             obtain ⟨vs2, nr2, hm2', hI2⟩ := Y1.row u2 c2 _ hc2 hr2
             (refine hng ?_; clear hng)
             have hm2 : (c2, PySem.W.listOf vs2.toArray nr2) ∈ own2 ++ (own ++ nx3) := List.mem_append_right _ (List.mem_append_right _ hm2')
             have hrl2 : row2.length ≤ 100 := hb2' _ (List.mem_of_getElem? hr2)
             have hvr2 := hI2.1
             have hasl2 : (as.map Value.ref).length = rows2.length := by rw [List.length_map, hal2]
             walk_at "S3"
             (rename Fr _ _ _ _ => F13; rename News _ _ _ _ => N13)
             refine item_any (vs := as.map Value.ref) (N13.isList (List.mem_append_right _ (List.mem_append_right _ Y1.top.choose_spec))) (by (clear hn hlm hln hd hu hal hbl hDf hDr hDs hi hlen hi' hf9 hTl hne hk5' hbl5 hlm5 hln5 hrl5 hvsl5 hpos he5 hlv hf1 hk5 hn5 hAl hasl hrl hvr hrpos hi2 hl2 hu2 eu hu3 hg hal2 hrl2 hvr2 hasl2; omega)) (by (clear hn hlm hln hd hu hal hbl hDf hDr hDs hi hlen hi' hf9 hTl hne hk5' hbl5 hlm5 hln5 hrl5 hvsl5 hpos he5 hlv hf1 hk5 hn5 hAl hrl hvr hrpos hi2 hu2 eu hg hal2 hrl2 hvr2 hasl2; omega)) (by (clear hn hd hu hal hDf hDr hDs hi hlen hi' hf9 hne hbl5 hlm5 hln5 hrl5 hvsl5 hpos he5 hlv hf1 hk5 hn5 hAl hasl hrl hvr hrpos hi2 hl2 hu2 hu3 hg hal2 hrl2 hvr2 hasl2; omega)) (fun v9 hv9 => ?_) (by with_unfolding_all rfl)
             cases refs_at hc2 hv9
             walk_at "S3"
             (rename Fr _ _ _ _ => F14; rename News _ _ _ _ => N14)
             have F14' : Fr s.heap L _ (fun y => if y = Str.ofString "row" then some (.ref c2) else if y = Str.ofString "upper" then some (Value.int u2 t2) else m₂ y) := F14
             clear F14
             refine cutk (J := fun Q' => ∀ h' tk t, Fr s.heap L h' (fun y => if y = Str.ofString "value" then some (.int item2.2 t) else if y = Str.ofString "row" then some (.ref c2) else if y = Str.ofString "upper" then some (Value.int u2 t2) else m₂ y) → News s.heap L h' (own2 ++ (own ++ nx3)) → Q' .next { s with heap := h', toks := tk }) (fun Q' kk0 => ?_) ?_
             · cases b with
               | true =>
                 have q4 : m₂ (Str.ofString "by") = some (.ref 57) := q4
                 walk1
                 walk_at "S3"
                 (rename Fr _ _ _ _ => F8; rename News _ _ _ _ => N8)
                 refine' second_spec (p := item2) ?b1 ?b2 ?b3 ?_
                 case b1 => exact G0.keeps F8.keep
                 case b2 => exact (R0.le (d' := 1 + 1) (u' := 8 + 3)).deeper _
                 case b3 => exact PairAt.keeps I2 F8.keep
                 intro h8 tk8 t8 ext8
                 have F7 := F8.kept ext8
                 have N7 := N8.grown ext8
                 clear F8 N8
                 walk_at "S3"
                 (rename Fr _ _ _ _ => F8; rename News _ _ _ _ => N8)
                 exact kk0 _ _ _ F8 N8
               | false =>
                 refine hold fun hng => ?_
                 obtain ⟨I0, t0, rfl⟩ := I2
                 (refine hng ?_; clear hng)
                 have q4 : m₂ (Str.ofString "by") = some .none := q4
                 walk1
                 walk_at "S3"
                 (rename Fr _ _ _ _ => F8; rename News _ _ _ _ => N8)
                 exact kk0 _ _ _ F8 N8
             rintro h15 tk15 t15 F15 N15
             clear N14 F14'
             try dsimp only
             walk_at "S3"
             (rename Fr _ _ _ _ => F16; rename News _ _ _ _ => N16)
             have elo : ((lo : Int) - 1 + 1) = (lo : Int) := by (clear hn hlm hln hd hu hal hbl hDf hDr hDs hi hlen hi' hf9 hTl hne hk5' hbl5 hlm5 hln5 hrl5 hvsl5 hpos he5 hlv hf1 hk5 hn5 hAl hasl hrl hvr hrpos hi2 hl2 hu2 eu hu3 hg hal2 hrl2 hvr2 hasl2; omega)
             rw [elo]
             refine' bisL b (vs := vs2) (ps := row2) (x := item2.2) (lo := lo) (hi := row2.length) (hv := .none) ?d1 ?d2 ?d3 ?d4 (by (clear hn hlm hln hd hu hal hbl hDf hDr hDs hi hlen hi' hf9 hTl hne hk5' hbl5 hlm5 hln5 hrl5 hvsl5 hpos he5 hlv hf1 hk5 hn5 hAl hasl hrl hvr hrpos hi2 hl2 hu2 eu hu3 hg hal2 hrl2 hvr2 hasl2 elo; omega)) (.inl ⟨rfl, rfl⟩) (by (clear hn hlm hln hd hu hal hbl hDf hDr hDs hi hlen hi' hf9 hTl hne hk5' hbl5 hlm5 hln5 hrl5 hvsl5 hpos he5 hlv hf1 hk5 hn5 hAl hasl hrl hvr hrpos hi2 hl2 hu2 eu hu3 hg hal2 hrl2 hvr2 hasl2 elo; omega)) (by (clear hn hlm hln hd hu hal hbl hDf hDr hDs hi hlen hi' hf9 hTl hne hk5' hbl5 hlm5 hln5 hrl5 hvsl5 hpos he5 hlv hf1 hk5 hn5 hAl hasl hrl hvr hrpos hi2 hl2 hu2 eu hu3 hg hal2 hrl2 hvr2 hasl2 elo; omega)) (by (clear hn hlm hln hd hu hal hbl hDf hDr hDs hi hlen hi' hf9 hTl hne hk5' hbl5 hlm5 hln5 hrl5 hvsl5 hpos he5 hlv hf1 hk5 hn5 hAl hasl hrl hvr hrpos hi2 hl2 hu2 eu hu3 hg hal2 hvr2 hasl2 elo; omega)) (.inr ⟨rfl, rfl, rfl⟩) ?_
             case d1 => exact G0.keeps F16.keep
             case d2 => exact (R0.le (d' := 2 + 1) (u' := 16 + 3)).deeper _
             case d3 => exact N16.isList hm2
             case d4 => exact hI2.keeps F16.keep
             intro h17 tk17 t17 ext17
             have F17 := F16.kept ext17
             have N17 := N16.grown ext17
             clear F16 N16
             have hge := bL_ge (row2.map (·.2)) item2.2 row2.length lo row2.length
             have hle := bL_le (row2.map (·.2)) item2.2 row2.length lo row2.length
             rw [Int.toNat_natCast, Int.toNat_natCast]
             generalize hth : bL (row2.map (·.2)) item2.2 row2.length lo row2.length = there at *
             walk_at "S3"
             rw [elo]
             (rename Fr _ _ _ _ => F18; rename News _ _ _ _ => N18)
             have hfa := (N18 _ hm2).2.2
             refine' insL b (gb := s.heap) (vs := vs2) (ps := row2) (v := v2) (p := item2) (lo := lo) (hi := row2.length) (hv := .none) G0 ?e1 hfa ?e2 ?e3 ?e4 ?e5 (by (clear hn hlm hln hd hu hal hbl hDf hDr hDs hi hlen hi' hf9 hTl hne hk5' hbl5 hlm5 hln5 hrl5 hvsl5 hpos he5 hlv hf1 hk5 hn5 hAl hasl hrl hvr hrpos hi2 hl2 hu2 eu hu3 hg hal2 hrl2 hvr2 hasl2 elo hth hge hle; omega)) (by (clear hn hlm hln hd hu hal hbl hDf hDr hDs hi hlen hi' hf9 hTl hne hk5' hbl5 hlm5 hln5 hrl5 hvsl5 hpos he5 hlv hf1 hk5 hn5 hAl hasl hrl hvr hrpos hi2 hl2 hu2 eu hu3 hal2 hvr2 hasl2 elo hth hge hle; omega)) (.inl ⟨rfl, rfl⟩) (by (clear hn hlm hln hd hu hal hbl hDf hDr hDs hi hlen hi' hf9 hTl hne hk5' hbl5 hlm5 hln5 hrl5 hvsl5 hpos he5 hlv hf1 hk5 hn5 hAl hasl hrl hvr hrpos hi2 hl2 hu2 eu hu3 hg hal2 hrl2 hvr2 hasl2 elo hth hge hle; omega)) (by (clear hn hlm hln hd hu hal hbl hDf hDr hDs hi hlen hi' hf9 hTl hne hk5' hbl5 hlm5 hln5 hrl5 hvsl5 hpos he5 hlv hf1 hk5 hn5 hAl hasl hrl hvr hrpos hi2 hl2 hu2 eu hu3 hg hal2 hrl2 hvr2 hasl2 elo hth hge hle; omega)) (by (clear hn hlm hln hd hu hal hbl hDf hDr hDs hi hlen hi' hf9 hTl hne hk5' hbl5 hlm5 hln5 hrl5 hvsl5 hpos he5 hlv hf1 hk5 hn5 hAl hasl hrl hvr hrpos hi2 hl2 hu2 eu hu3 hg hal2 hvr2 hasl2 elo hth hge hle; omega)) (.inr ⟨rfl, rfl, rfl⟩) ?_
             case e1 => exact F18.keep
             case e2 => exact (R0.le (d' := 4 + 1) (u' := 30 + 3)).deeper _
             case e3 => exact ⟨_, (N18 _ hm2).1⟩
             case e4 => exact hI2.keeps F18.keep
             case e5 => exact I2.keeps F18.keep
             intro h19 tk19 hL19 kb19
             rw [Int.toNat_natCast, Int.toNat_natCast, hth] at hL19
             obtain ⟨n19, hL19⟩ := hL19
             have F19 := Fr.chg F18 N18 hm2 kb19
             have N19 := News.chg N18 hm2 kb19 hL19
             have ca2 : c2 ∈ as := List.mem_of_getElem? hc2
             have cf2 : c2 ∉ fp2 := fun h => hoff2 _ (List.mem_append_right _ hm2') h
             have cf : c2 ∉ fp := off3 _ hm2'
             have cT : c2 ≠ Ts := fun e => S.ma (e ▸ ca2)
             have cB : c2 ∉ bs := S.ab _ ca2
             have cD : c2 ≠ Df := fun e => hDa (e ▸ ca2)
             rw [put_append, put_append, put_off (l := own2) (D := c2) (fun p hp e => cf2 (e ▸ hown2 p hp)), put_off (l := own) (D := c2) (fun p hp e => cf (e ▸ hown p hp))] at N19
             have hI9 := hI2.ins I2 there
             have hil : (insAt row2 there item2).length = row2.length + 1 := insAt_len
             have Z1 := Y1.set (n := n19) S.ta S.na hc2 hI9
             have Z2 := Y2.put (o := PySem.W.listOf (vs2.take there ++ v2 :: vs2.drop there).toArray n19) cT cB
             have Z3 := Y3.put (o := PySem.W.listOf (vs2.take there ++ v2 :: vs2.drop there).toArray n19) (.tail _ (.tail _ (.tail _ (List.mem_append_left _ ca2)))) cD
             have o19 := put_offs (D := c2) (o := PySem.W.listOf (vs2.take there ++ v2 :: vs2.drop there).toArray n19) off3
             have hm9' := put_mem (o := PySem.W.listOf (vs2.take there ++ v2 :: vs2.drop there).toArray n19) hm2'
             have hl9 : (vs2.take there ++ v2 :: vs2.drop there).length = (insAt row2 there item2).length := hI9.1
             generalize hvs : vs2.take there ++ v2 :: vs2.drop there = vs9 at *
             generalize hnx3 : put nx3 c2 (PySem.W.listOf vs9.toArray n19) = nx19 at *
             have hm9 : (c2, PySem.W.listOf vs9.toArray n19) ∈ own2 ++ (own ++ nx19) := List.mem_append_right _ (List.mem_append_right _ hm9')
             clear F18 N18
             walk_at "S3"
             (rename Fr _ _ _ _ => F20; rename News _ _ _ _ => N20)
             refine kl_method N20 hm9 PySem.F.slot_list_pop PySem.F.type_list_pop ?_
             walk_at "S3"
             have hk1 : there - 1 < (insAt row2 there item2).length := by (clear hn hlm hln hd hu hal hbl hDf hDr hDs hi hlen hi' hf9 hTl hne hk5' hbl5 hlm5 hln5 hrl5 hvsl5 hpos he5 hlv hf1 hk5 hn5 hAl hasl hrl hvr hrpos hi2 hl2 hu2 eu hu3 hal2 hrl2 hvr2 hasl2 elo hth hge cT cD hl9; omega)
             refine hold fun hng => ?_
             obtain ⟨vn, hvn, hIn⟩ := hI9.get hk1
             (refine hng ?_; clear hng)
             have eth : ((there : Int) - 1) = ((there - 1 : Nat) : Int) := by (clear hn hlm hln hd hu hal hbl hDf hDr hDs hi hlen hi' hf9 hTl hne hk5' hbl5 hlm5 hln5 hrl5 hvsl5 hpos he5 hlv hf1 hk5 hn5 hAl hasl hrl hvr hrpos hi2 hl2 hu2 eu hu3 hal2 hrl2 hvr2 hasl2 elo hth hle cT cD hil hl9 hk1; omega)
             refine pop_put (k := there - 1) (y := vn) F20 N20 hm9 (by (clear hn hlm hln hd hu hal hbl hDf hDr hDs hi hlen hi' hf9 hTl hne hk5' hbl5 hlm5 hln5 hrl5 hvsl5 hpos he5 hlv hf1 hk5 hn5 hAl hasl hrl hvr hrpos hi2 hl2 hu2 eu hu3 hg hal2 hvr2 hasl2 elo hth hge hle cT cD hk1 eth; omega)) (by rw [eth]; exact fits_of (by (clear hn hlm hln hd hu hal hbl hDf hDr hDs hi hlen hi' hf9 hTl hne hk5' hbl5 hlm5 hln5 hrl5 hvsl5 hpos he5 hlv hf1 hk5 hn5 hAl hasl hrl hvr hrpos hi2 hl2 hu2 eu hu3 hg hal2 hvr2 hasl2 elo hth hge hle cT cD hl9 eth; omega))) (by rw [eth]; exact seqIndex_nat (by (clear hn hlm hln hd hu hal hbl hDf hDr hDs hi hlen hi' hf9 hTl hne hk5' hbl5 hlm5 hln5 hrl5 hvsl5 hpos he5 hlv hf1 hk5 hn5 hAl hasl hrl hvr hrpos hi2 hl2 hu2 eu hu3 hg hal2 hrl2 hvr2 hasl2 elo hth hge hle cT cD hil eth; omega))) hvn (fun h21 k21 F21 N21 => ?_)
             rw [put_append, put_append, put_off (l := own2) (D := c2) (fun p hp e => cf2 (e ▸ hown2 p hp)), put_off (l := own) (D := c2) (fun p hp e => cf (e ▸ hown p hp))] at N21
             have Z19 := Z1.set (n := n19 + 1) S.ta S.na hc2 (hI9.erase (there - 1))
             rw [List.set_set] at Z19
             have Z29 := Z2.put (o := PySem.W.listOf (vs9.eraseIdx (there - 1)).toArray (n19 + 1)) cT cB
             have Z39 := Z3.put (o := PySem.W.listOf (vs9.eraseIdx (there - 1)).toArray (n19 + 1)) (.tail _ (.tail _ (.tail _ (List.mem_append_left _ ca2)))) cD
             have o21 := put_offs (D := c2) (o := PySem.W.listOf (vs9.eraseIdx (there - 1)).toArray (n19 + 1)) o19
             have er : ((insAt row2 there item2).eraseIdx (there - 1)).length = row2.length := by rw [List.length_eraseIdx_of_lt hk1]; (clear hn hlm hln hd hu hal hbl hDf hDr hDs hi hlen hi' hf9 hTl hne hk5' hbl5 hlm5 hln5 hrl5 hvsl5 hpos he5 hlv hf1 hk5 hn5 hAl hasl hrl hvr hrpos hi2 hl2 hu2 eu hu3 hg hal2 hrl2 hvr2 hasl2 elo hth hge hle cT cD hl9 hk1 eth; omega)
             clear F20 N20
             walk_at "S3"
             (rename Fr _ _ _ _ => F22; rename News _ _ _ _ => N22)
             refine ⟨_, _, _, _, rfl, F22, N22, fun p hp => ?_, _, _, _, vn, there, _, rfl, o21, Z19, Z29, Z39, by walk_at "M", by walk_at "M", by walk_at "M", by walk_at "M", by walk_at "M", by walk_at "M", hIn, by walk_at "M", ?_, ?_, ?_⟩
             · rcases List.mem_append.mp hp with hp | hp
               · exact hoff2 _ (List.mem_append_left _ hp)
               · rw [← hnx3] at hp
                 exact put_offs (put_offs (fun q hq => hoff2 _ (List.mem_append_right _ hq))) p hp
             · rw [show k5 - (i2 + 1) = u2 by (clear hn hlm hln hd hu hal hbl hDf hDr hDs hi hlen hi' hf9 hTl hne hk5' hbl5 hlm5 hln5 hrl5 hvsl5 hpos he5 hlv hf1 hk5 hn5 hAl hasl hrl hvr hrpos hi2 hl2 hu2 hu3 hg hal2 hrl2 hvr2 hasl2 elo hth hge hle cT cD hil hl9 hk1 eth er; omega)]; exact hup2
             · rw [List.length_set]; exact hl2
             · exact set_len_le hb2' (by (clear hn hlm hln hd hu hal hbl hDf hDr hDs hi hlen hi' hf9 hTl hne hk5' hbl5 hlm5 hln5 hrl5 hvsl5 hpos he5 hlv hf1 hk5 hn5 hAl hasl hrl hvr hrpos hi2 hl2 hu2 eu hu3 hg hal2 hvr2 hasl2 elo hth hge hle cT cD hil hl9 hk1 eth; omega))
       · (rename ¬ (0 : Nat) < _ => hpos)
         rw [List.length_map] at hpos
         have hlt : k5 < lv := Nat.lt_of_le_of_ne hk5 fun c => by rw [← c, lastOf_nil hpos] at hf2; cases hf2
         (rename Fr _ _ _ _ => F6; rename News _ _ _ _ => N6)
         exact ⟨by trivial, _, _, _, _, lv - (k5 + 1), rfl, F6, N6, by (clear hn hlm hln hd hu hal hbl hDf hDr hDs hi hlen hi' hf9 hTl hne hlv hf1 hk5 hk5' hbl5 hlm5 hln5 hrl5 hvsl5 hpos; omega), rfl, by walk_at "M", by walk_at "M", by walk_at "M", by walk_at "M", by walk_at "M", k5 + 1, _, if_pos rfl, by (clear hn hlm hln hd hu hal hbl hDf hDr hDs hi hlen hi' hf9 hTl hne hlv hf1 hk5 hn5 hk5' hbl5 hlm5 hln5 hrl5 hvsl5 hpos; omega), rfl⟩
end

-- part C1
theorem offC1 : True := by w_top off; trivial
/-- what gives the items of a loop, and is its own iterator -/
structure Src (prog : Program) (w : World) (A : Around) (target : PySem.Expr) (I : Addr) (fp wr : List Addr) (n : Nat) (P Md : Nat → Value → Heap → Prop) (St : Nat → Heap → Prop) : Prop where
  W : KTurns prog w A target I fp wr n P Md St
  self : ∀ i (s : Shared) (Q : Value → Shared → Prop) (E : Value → Shared → Prop), St i s.heap → Q (.ref I) s → wpAny (model prog w) A (pyIter (.ref I)) Q E s

theorem Src.ofU {prog : Program} {w : World} {A : Around} {elts : List PySem.Expr} {k : Nat} {pos : Pos} {I : Addr} {fp wr : List Addr} {n : Nat} {Pt : Nat → Array Value → Prop} {St : Nat → Heap → Prop} {Mid : Nat → Addr → Heap → Prop} (W : WalksU prog w A I fp wr n Pt St Mid) :
    Src prog w A (.Tuple elts k pos) I fp wr n (fun i v h => ∃ T vals, v = .ref T ∧ Pt i vals ∧ h.IsTuple T vals) (fun i v h => ∃ T vals, v = .ref T ∧ Pt i vals ∧ h.IsTuple T vals ∧ Mid i T h) St :=
  ⟨KTurns.ofWalksU W, W.self⟩
theorem Src.ofW {prog : Program} {w : World} {A : Around} {target : PySem.Expr} {I : Addr} {fp wr : List Addr} {n : Nat} {P : Nat → Value → Prop} {St : Nat → Heap → Prop} (W : Walks prog w A I fp wr n P St)
    (ht : ∀ v, letOwnedTupleGo target (.ref I) v = pure ()) : Src prog w A target I fp wr n (fun i v _ => P i v) (fun i v h => P i v ∧ St (i + 1) h) St :=
  ⟨KTurns.ofWalks W fun _ v _ _ _ _ hQ => wpAny_of_eq (ht v) hQ, W.self⟩

section
variable {prog : Program} {w : World} {A : Around} {E : Value → Shared → Prop} {env : Env}

theorem compLoop_go {R : Result → Shared → Prop} {s : Shared} {elt target iter : PySem.Expr} {ifs : List PySem.Expr} {scope : Scope} {pos : Pos} {it acc : Value} {env : Env} (I : Nat → Shared → Prop)
    (turn : ∀ n s, I n s → wpAny (model prog w) A (pyNext it) (fun r s₁ => match r with
      | none => R (.ok .next) s₁
      | some v => wpAny (model prog w) A (letOwnedTupleGo target it v) (fun _ s₀ => wpAny (model prog w) A (assign target env v) (fun _ s₂ =>
          wpAny (model prog w) A (testsOf ifs env) (fun ok s₃ =>
            if ok = true then wpAny (model prog w) A (eval elt env) (fun x s₄ =>
              wpAny (model prog w) A (call (.builtin "list.append") [acc, x]) (fun _ s₅ => ∃ m, m < n ∧ I m s₅) (notedBy (model prog w) A env fun e s' => R (.error e) s') s₄) (notedBy (model prog w) A env fun e s' => R (.error e) s') s₃
            else ∃ m, m < n ∧ I m s₃) (notedBy (model prog w) A env fun e s' => R (.error e) s') s₂) (notedBy (model prog w) A env fun e s' => R (.error e) s') s₀) (notedBy (model prog w) A env fun e s' => R (.error e) s') s₁) (notedBy (model prog w) A env fun e s' => R (.error e) s') s)
    (n : Nat) (h : I n s) :
    codeAny (model prog w) A (.compLoop (.ListComp elt [⟨target, iter, ifs, 0⟩] scope pos) 0 it acc env) R s := by
  refine codeAny_loop rfl I (fun n s hI => ?_) n h
  show wpAny _ A ((compTurn (.ListComp elt [⟨target, iter, ifs, 0⟩] scope pos) 0 it acc env).onRaise (fun x => do noteFrame x env; theTreesLotGoes x)) _ _ s
  refine wpAny_noted ?_
  rw [compTurn_list]
  refine wpAny_bind (wpAny_standAt (wpAny_bind (wpAny_mono (turn n s hI) (fun r s₁ h₁ => ?_) fun _ _ h' => h')))
  cases r with
  | none => exact wpAny_pure h₁
  | some v =>
    refine wpAny_bind (wpAny_mono h₁ (fun _ s₀ h₀' => ?_) fun _ _ h' => h')
    refine wpAny_bind (wpAny_mono h₀' (fun _ s₂ h₂ => wpAny_bind (wpAny_mono h₂ (fun ok s₃ h₃ => ?_) fun _ _ h' => h')) fun _ _ h' => h')
    cases ok with
    | false => exact wpAny_pure ⟨rfl, h₃⟩
    | true =>
      exact wpAny_bind (wpAny_bind (wpAny_mono h₃ (fun x s₄ h₄ => wpAny_bind (wpAny_mono h₄ (fun _ s₅ h₅ => wpAny_pure (wpAny_pure ⟨rfl, h₅⟩)) fun _ _ h' => h')) fun _ _ h' => h'))

/-- the block of a comprehension, over a source that stands -/
theorem compG_core {elt target iter : PySem.Expr} {ifs : List PySem.Expr} {scope : Scope} {cl : List (Str × Addr)} {pos : Pos} {s₂ : Shared} {I : Addr} {fp wr : List Addr} {n : Nat} {P Md : Nat → Value → Heap → Prop} {St : Nat → Heap → Prop}
    (S : Src prog w A target I fp wr n P Md St) (hsz : n ≤ 2 ^ 20) (J : Nat → List Value → List (Addr × Obj) → Prop) {RR : Value → Addr → Result → Shared → Prop}
    (hcell : ∀ y ∈ scope.names, y.2 ≠ .cell) (hkind : scope.kind = .function) (hst : St 0 s₂.heap) (hfp : ∀ b ∈ fp, b < s₂.heap.objs.size) (hlive : ∀ i h, St i h → ∀ b ∈ fp, ∃ o, h.get? b = some o)
    (hJl : ∀ i ys news, J i ys news → ys.length ≤ i) (h0 : J 0 [] [])
    (turn : ∀ (C : Addr) (fpD : List Addr) (i : Nat) (v : Value) m₁ ys news₁ H tk own, i < n → P i v H → J i ys news₁ → (∀ p ∈ news₁, p.1 ∉ fpD) → (∀ p ∈ own, p.1 ∈ fpD) → (∀ b ∈ fpD, (∃ o, (hideAll s₂.heap wr).get? b = some o) ∨ ∃ o, (b, o) ∈ own) →
      Fr (hideAll s₂.heap wr) C H m₁ → News (hideAll s₂.heap wr) C H (own ++ news₁) →
      wpAny (model prog w) A (assign target (compEnvC scope cl C env) v) (fun _ s' => wpAny (model prog w) A (testsOf ifs (compEnvC scope cl C env)) (fun ok s'' =>
        if ok = true then wpAny (model prog w) A (eval elt (compEnvC scope cl C env)) (fun y s₄ => EltJ (hideAll s₂.heap wr) C fpD own (J (i + 1) (ys ++ [y])) s₂ s₄) (fun _ _ => False) s''
        else EltJ (hideAll s₂.heap wr) C fpD own (J (i + 1) ys) s₂ s'') (fun _ _ => False) s') (fun _ _ => False) { s₂ with heap := H, toks := tk })
    (hRR : ∀ D C H tk m' ys k news, H.Ns C m' → s₂.heap.get? C = none → D ≠ C → News (hideAll s₂.heap wr) C H ((D, PySem.W.listOf ys.toArray k) :: news) → Ext (hideAll s₂.heap wr) H → (∀ p ∈ news, p.1 ≠ D) → J n ys news → RR (.ref D) C (.ok .next) { s₂ with heap := H, toks := tk }) :
    wpAny (model prog w) A (newList []) (fun acc s₃ => wpAny (model prog w) A (newFunctionEnv scope env.globals cl [] env.qual none .none (some env)) (fun cenv s₄ =>
      codeAny (model prog w) A (.compStart (.ListComp elt [⟨target, iter, ifs, 0⟩] scope pos) 0 (.ref I) acc { cenv with scope := relabel scope env }) (RR acc cenv.locals) s₄) E s₃) E s₂ := by
  obtain ⟨W, self⟩ := S
  refine wpAny_newObj_type (wpAny_newFunctionEnv hcell (by intro y hy; simp at hy) (fun h₁ hns₁ hsb₁ => ?_) hkind)
  dsimp only at hns₁ hsb₁ ⊢
  generalize hH2 : s₂.heap.push { cls := .type "list", dict := none, data := .seq ([] : List Value).toArray } = H2 at hns₁ hsb₁ ⊢
  have hC : H2.objs.size = s₂.heap.objs.size + 1 := by rw [← hH2, Heap.size_push]
  generalize hCe : H2.objs.size = C at *
  generalize hDe : s₂.heap.objs.size = D at *
  have hDC : D ≠ C := by rw [hC]; exact Nat.ne_of_lt (Nat.lt_succ_self _)
  have below : ∀ b, b < D → b ≠ C ∧ b ≠ D := fun b hb => ⟨by rw [hC]; exact Nat.ne_of_lt (Nat.lt_succ_of_lt hb), Nat.ne_of_lt hb⟩
  have hDf : D ∉ fp := fun hm => Nat.lt_irrefl _ (hfp _ hm)
  have hCf : C ∉ fp := fun hm => by have := hfp _ hm; rw [hC] at this; exact Nat.lt_irrefl _ (Nat.lt_of_succ_lt this)
  have fresh : ∀ a, D ≤ a → s₂.heap.get? a = none := fun a ha => by
    cases e : s₂.heap.get? a with
    | none => rfl
    | some o' => exact absurd (Heap.lt_size e) (Nat.not_lt.mpr (hDe ▸ ha))
  have gfresh : ∀ a, D ≤ a → (hideAll s₂.heap wr).get? a = none := fun a ha => by
    cases e : (hideAll s₂.heap wr).get? a with
    | none => rfl
    | some o' => have := of_hideAll _ e; rw [fresh a ha] at this; cases this
  have old : Ext s₂.heap h₁ := fun b o e => hsb₁.extBut b o (below b (hDe ▸ Heap.lt_size e)).1 (Heap.get?_push_of_some _ (hH2 ▸ Heap.get?_push_of_some _ e))
  have hacc : h₁.get? D = some (PySem.W.listOf #[] 0) := hsb₁.extBut _ _ hDC (Heap.get?_push_of_some _ (hH2 ▸ (hDe ▸ Heap.get?_push_size _ rfl)))
  have hst₁ : St 0 h₁ := W.frame _ _ _ hst fun b _ o e => old b o e
  have hg : (hideAll s₂.heap wr).objs.size ≤ C := by rw [hideAll_size, hDe, hC]; exact Nat.le_succ _
  have loop : ∀ s₃ : Shared, s₃ = { s₂ with heap := h₁, toks := s₂.toks + ([] : List (Str × Value)).length } →
      codeAny (model prog w) A (.compLoop (.ListComp elt [⟨target, iter, ifs, 0⟩] scope pos) 0 (.ref I) (.ref D) (compEnvC scope cl C env)) (RR (.ref D) C) s₃ := by
    rintro s₃ rfl
    refine compLoop_go
      (fun k s' => ∃ H tk m' ys kD news i, s' = { s₂ with heap := H, toks := tk } ∧ St i H ∧ H.get? D = some (PySem.W.listOf ys.toArray kD) ∧ H.Ns C m' ∧ Ext (hideAll s₂.heap wr) H ∧
        (∀ p ∈ news, H.get? p.1 = some p.2 ∧ p.1 ≠ C ∧ (hideAll s₂.heap wr).get? p.1 = none) ∧ (∀ p ∈ news, p.1 ∉ D :: fp) ∧ J i ys news ∧ i ≤ n ∧ k = n + 1 - i) ?_ (n + 1)
      ⟨h₁, _, _, [], 0, [], 0, rfl, hst₁, hacc, hns₁, fun b o e => old b o (of_hideAll _ e), by simp, by simp, h0, Nat.zero_le _, rfl⟩
    rintro k s' hz1
    refine hold fun hng => ?_
    obtain ⟨H, tk, m', ys, kD, news, i, rfl, hst', hD', hn', hk, hN, hoff, hJ, hi, rfl⟩ := hz1
    (refine hng ?_; clear hng)
    have hCw : C ∉ wr := fun h => hCf (W.sub _ h)
    have hDw : D ∉ wr := fun h => hDf (W.sub _ h)
    have hCl : C < H.objs.size := hn'.lt
    by_cases hlt : i < n
    · refine W.item i _ _ _ hlt hst' fun v h₀' tk₁ hMd hk₀ => ?_
      refine W.go i v _ _ _ hMd fun h₁' hPv hst₁' hk₀' => ?_
      have hk₁ : ∀ b o, b ∉ wr → H.get? b = some o → h₁'.get? b = some o := fun b o hb e => hk₀' b o hb (hk₀ b o hb e)
      have gw : ∀ b ∈ wr, (hideAll s₂.heap wr).get? b = none := fun b hb => hideAll_none _ hb
      have hk' : Ext (hideAll s₂.heap wr) h₁' := fun b o e => hk₁ b o (fun hb => by rw [gw b hb] at e; cases e) (hk b o e)
      have hD1 : h₁'.get? D = some (PySem.W.listOf ys.toArray kD) := hk₁ _ _ hDw hD'
      have F₁ : Fr (hideAll s₂.heap wr) C h₁' m' := ⟨hn'.at' fun o e => hk₁ _ o hCw e, hk', hg⟩
      have N₁ : News (hideAll s₂.heap wr) C h₁' (((D, PySem.W.listOf ys.toArray kD) :: ownOf (hideAll s₂.heap wr) fp h₁') ++ news) := fun p hp => by
        rcases List.mem_append.mp hp with hp | hp
        · rcases List.mem_cons.mp hp with rfl | hp
          · exact ⟨hD1, hDC, gfresh _ (Nat.le_refl _)⟩
          · exact news_ownOf hCf p hp
        · have z := hN p hp
          exact ⟨hk₁ _ _ (fun hb => hoff p hp (.tail _ (W.sub _ hb))) z.1, z.2⟩
      have fin : ∀ {J'} {s₄ : Shared}, EltJ (hideAll s₂.heap wr) C (D :: fp) ((D, PySem.W.listOf ys.toArray kD) :: ownOf (hideAll s₂.heap wr) fp h₁') J' s₂ s₄ →
          ∃ H' tk' m₂ news₂, s₄ = { s₂ with heap := H', toks := tk' } ∧ St (i + 1) H' ∧ H'.get? D = some (PySem.W.listOf ys.toArray kD) ∧ H'.Ns C m₂ ∧ Ext (hideAll s₂.heap wr) H' ∧
            (∀ p ∈ news₂, H'.get? p.1 = some p.2 ∧ p.1 ≠ C ∧ (hideAll s₂.heap wr).get? p.1 = none) ∧ (∀ p ∈ news₂, p.1 ∉ D :: fp) ∧ J' news₂ := by
        rintro J' s₄ hz1
        refine hold fun hng => ?_
        obtain ⟨H', tk', m₂, news₂, rfl, F₂, N₂, o₂, j₂⟩ := hz1
        (refine hng ?_; clear hng)
        refine ⟨H', tk', m₂, news₂, rfl, W.frame _ _ _ hst₁' fun b hb o e => ?_, (N₂ _ (.head _)).1, F₂.ns, F₂.keep, fun p hp => N₂ p (List.mem_append_right _ hp), o₂, j₂⟩
        cases hgn : (hideAll s₂.heap wr).get? b with
        | some o₀ =>
          have e1 := hk' b o₀ hgn
          rw [e] at e1
          cases e1
          exact F₂.keep b o hgn
        | none => exact (N₂ _ (List.mem_append_left _ (.tail _ (mem_ownOf hb hgn e)))).1
      have T := turn C (D :: fp) i v m' ys news h₁' tk₁ ((D, PySem.W.listOf ys.toArray kD) :: ownOf (hideAll s₂.heap wr) fp h₁') hlt hPv hJ hoff
        (fun p hp => by
          rcases List.mem_cons.mp hp with rfl | hp
          · exact .head _
          · exact .tail _ (ownOf_sub p hp))
        (fun b hb => by
          rcases List.mem_cons.mp hb with rfl | hb
          · exact .inr ⟨_, .head _⟩
          · obtain ⟨o, e⟩ := hlive _ _ hst₁' b hb
            cases hgn : (hideAll s₂.heap wr).get? b with
            | some o₀ => exact .inl ⟨_, rfl⟩
            | none => exact .inr ⟨_, .tail _ (mem_ownOf hb hgn e)⟩)
        F₁ N₁
      refine wpAny_mono T (fun _ s₃ h₃ => ?_) fun _ _ f => f.elim
      refine wpAny_mono h₃ (fun ok s₄ h₄ => ?_) fun _ _ f => f.elim
      cases ok with
      | false =>
        simp only [Bool.false_eq_true, if_false] at h₄ ⊢
        refine hold fun hng => ?_
        obtain ⟨H', tk', m₂, news₂, rfl, st', d', ns', ex', n', o', j'⟩ := fin h₄
        (refine hng ?_; clear hng)
        exact ⟨n + 1 - (i + 1), by (clear hsz hCe hDe hC hDC hg hi hCl; omega), H', tk', m₂, ys, kD, news₂, i + 1, rfl, st', d', ns', ex', n', o', j', hlt, rfl⟩
      | true =>
        simp only [if_true] at h₄ ⊢
        refine wpAny_mono h₄ (fun y s₅ h₅ => ?_) fun _ _ f => f.elim
        refine hold fun hng => ?_
        obtain ⟨H', tk', m₂, news₂, rfl, st', d', ns', ex', n', o', j'⟩ := fin h₅
        (refine hng ?_; clear hng)
        have hyl : ys.length ≤ 2 ^ 20 := by have := hJl _ _ _ hJ; (clear hCe hDe hC hDC hg hi hCl; omega)
        refine append_at d' (fun h₆ hs₆ e₆ => ?_) (by rw [List.size_toArray, sizeLine_eq]; (clear hsz hCe hDe hC hDC hg hi hCl hlt; omega))
        have kb := But.of_same hs₆
        refine ⟨n + 1 - (i + 1), by (clear hsz hCe hDe hC hDC hg hi hCl hyl; omega), h₆, tk', m₂, ys ++ [y], kD + 1, news₂, i + 1, rfl, W.frame _ _ _ st' fun b hb o e => kb b o (fun c => hDf (c ▸ hb)) e, by rw [e₆]; simp, ns'.sameBut hs₆ (Ne.symm hDC), fun b o e => kb b o (fun c => ?_) (ex' b o e), fun p hp => ⟨kb _ _ (fun c => o' p hp (c ▸ .head _)) (n' p hp).1, (n' p hp).2⟩, o', j', hlt, rfl⟩
        rw [c, gfresh D (Nat.le_refl _)] at e; cases e
    · have hin : i = n := by (clear hsz hCe hDe hC hDC hg hCl; omega)
      subst hin
      refine W.done _ _ _ hst' fun h₁' tk₁ hk₁ => ?_
      have gw : ∀ b ∈ wr, (hideAll s₂.heap wr).get? b = none := fun b hb => hideAll_none _ hb
      refine hRR D C h₁' tk₁ m' ys kD news (hn'.at' fun o e => hk₁ _ o hCw e) (fresh C (by rw [hC]; exact Nat.le_succ _)) hDC (fun p hp => ?_) (fun b o e => hk₁ b o (fun hb => by rw [gw b hb] at e; cases e) (hk b o e)) (fun p hp c => hoff p hp (c ▸ .head _)) hJ
      rcases List.mem_cons.mp hp with rfl | hp
      · exact ⟨hk₁ _ _ hDw hD', hDC, gfresh _ (Nat.le_refl _)⟩
      · have z := hN p hp
        exact ⟨hk₁ _ _ (fun hb => hoff p hp (.tail _ (W.sub _ hb))) z.1, z.2⟩
  have L := loop _ rfl
  exact codeAny_compStart_list L (self 0 _ _ _ hst₁ L)

/-- the turns of a comprehension over a source -/
structure CompTurnsG (prog : Program) (w : World) (A : Around) (env : Env) (elt target : PySem.Expr) (ifs : List PySem.Expr) (scope : Scope) (cl : List (Str × Addr)) (s₂ : Shared) (I : Addr) (fp wr : List Addr) (n : Nat) (P Md : Nat → Value → Heap → Prop) (St : Nat → Heap → Prop) (J : Nat → List Value → List (Addr × Obj) → Prop) : Prop where
  S : Src prog w A target I fp wr n P Md St
  sz : n ≤ 2 ^ 20
  st : St 0 s₂.heap
  fpl : ∀ b ∈ fp, b < s₂.heap.objs.size
  live : ∀ i h, St i h → ∀ b ∈ fp, ∃ o, h.get? b = some o
  len : ∀ i ys news, J i ys news → ys.length ≤ i
  zero : J 0 [] []
  turn : ∀ (C : Addr) (fpD : List Addr) (i : Nat) (v : Value) m₁ ys news₁ H tk own, i < n → P i v H → J i ys news₁ → (∀ p ∈ news₁, p.1 ∉ fpD) → (∀ p ∈ own, p.1 ∈ fpD) → (∀ b ∈ fpD, (∃ o, (hideAll s₂.heap wr).get? b = some o) ∨ ∃ o, (b, o) ∈ own) →
      Fr (hideAll s₂.heap wr) C H m₁ → News (hideAll s₂.heap wr) C H (own ++ news₁) →
      wpAny (model prog w) A (assign target (compEnvC scope cl C env) v) (fun _ s' => wpAny (model prog w) A (testsOf ifs (compEnvC scope cl C env)) (fun ok s'' =>
        if ok = true then wpAny (model prog w) A (eval elt (compEnvC scope cl C env)) (fun y s₄ => EltJ (hideAll s₂.heap wr) C fpD own (J (i + 1) (ys ++ [y])) s₂ s₄) (fun _ _ => False) s''
        else EltJ (hideAll s₂.heap wr) C fpD own (J (i + 1) ys) s₂ s'') (fun _ _ => False) s') (fun _ _ => False) { s₂ with heap := H, toks := tk }

/-- what a source at hand gives a comprehension -/
inductive CompAtG (prog : Program) (w : World) (A : Around) (env : Env) (elt target : PySem.Expr) (ifs : List PySem.Expr) (scope : Scope) (cl : List (Str × Addr)) (Q : Value → Shared → Prop) (it : Value) (s₂ : Shared) : Prop
  | mk (I : Addr) (fp : List Addr) (wr : List Addr) (n : Nat) (P : Nat → Value → Heap → Prop) (Md : Nat → Value → Heap → Prop) (St : Nat → Heap → Prop) (J : Nat → List Value → List (Addr × Obj) → Prop) (q1 : it = .ref I) (q2 : CompTurnsG prog w A env elt target ifs scope cl s₂ I fp wr n P Md St J) (q3 : ∀ D H tk ys k news, Ext (hideAll s₂.heap wr) H → Newer (hideAll s₂.heap wr) H ((D, PySem.W.listOf ys.toArray k) :: news) → (∀ p ∈ news, p.1 ≠ D) → J n ys news → Q (.ref D) { s₂ with heap := H, toks := tk }) : CompAtG prog w A env elt target ifs scope cl Q it s₂
/-- the same, where the list is stored at once -/
inductive CompAtGA (prog : Program) (w : World) (A : Around) (env : Env) (elt target : PySem.Expr) (ifs : List PySem.Expr) (scope : Scope) (cl : List (Str × Addr)) (y : Str) (Q : Flow → Shared → Prop) (it : Value) (s₂ : Shared) : Prop
  | mk (I : Addr) (fp : List Addr) (wr : List Addr) (n : Nat) (P : Nat → Value → Heap → Prop) (Md : Nat → Value → Heap → Prop) (St : Nat → Heap → Prop) (J : Nat → List Value → List (Addr × Obj) → Prop) (m : Str → Option Value) (q1 : it = .ref I) (q2 : CompTurnsG prog w A env elt target ifs scope cl s₂ I fp wr n P Md St J) (q3 : env.locals ∉ wr) (q4 : s₂.heap.Ns env.locals m) (q5 : ∀ D H tk ys k news, (∀ b o, b ≠ env.locals → (hideAll s₂.heap wr).get? b = some o → H.get? b = some o) → H.Ns env.locals (fun z => if z = y then some (.ref D) else m z) → Newer (hideAll s₂.heap wr) H ((D, PySem.W.listOf ys.toArray k) :: news) → (∀ p ∈ news, p.1 ≠ D) → J n ys news → Q .next { s₂ with heap := H, toks := tk }) : CompAtGA prog w A env elt target ifs scope cl y Q it s₂

theorem compG_eval {elt target iter : PySem.Expr} {ifs : List PySem.Expr} {scope : Scope} {cl : List (Str × Addr)} {pos : Pos} {s : Shared} {Q : Value → Shared → Prop}
    (hclos : closureFor scope env = pure cl) (hcell : ∀ y ∈ scope.names, y.2 ≠ .cell) (hkind : scope.kind = .function)
    (hnames : ∀ y ∈ scope.names, y.2 = .local → scope.names.lookup y.1 = some .local)
    (h : wpAny (model prog w) A (eval iter env) (fun xv s₁ => wpAny (model prog w) A (pyIter xv) (fun it s₂ => CompAtG prog w A env elt target ifs scope cl Q it s₂) E s₁) E s)
    (hs : ∀ x, foldedSetIterable iter env x = pure x := by intro _; rfl) :
    wpAny (model prog w) A (eval (.ListComp elt [⟨target, iter, ifs, 0⟩] scope pos) env) Q E s := by
  rw [eval_ListComp]
  refine wpAny_comprehension_free (use := none) rfl hs hclos hkind hnames (wpAny_mono h (fun xv s₁ h₁ => wpAny_mono h₁ (fun it s₂ h₂ => ?_) fun _ _ e => e) fun _ _ e => e)
  refine hold fun hng => ?_
  obtain ⟨I, fp, wr, n, P, Md, St, J, rfl, T, hQ⟩ := h₂
  (refine hng ?_; clear hng)
  refine compG_core (RR := fun acc C => compPost (model prog w) A E none Q acc C) T.S T.sz J hcell hkind T.st T.fpl T.live T.len T.zero T.turn ?_
  intro D C H tk m' ys k news hn hC hDC N ex hnD hJ
  refine ⟨m', hn, fun h'' hs'' => ?_⟩
  have kb := But.of_same hs''
  refine hQ D h'' tk ys k news (fun b o e => kb b o (fun c => ?_) (ex b o e)) (fun p hp => ⟨kb _ _ (N p hp).2.1 (N p hp).1, (N p hp).2.2⟩) hnD hJ
  have := of_hideAll _ e
  rw [c, hC] at this; cases this

theorem compG_assign {elt target iter : PySem.Expr} {ifs : List PySem.Expr} {scope : Scope} {cl : List (Str × Addr)} {y : Str} {py pos spos : Pos} {s : Shared} {Q : Flow → Shared → Prop}
    (hsw : swapsWith (.ListComp elt [⟨target, iter, ifs, 0⟩] scope pos) (some (.Name y py)) spos.line env = pure true)
    (hclos : closureFor scope env = pure cl) (hcell : ∀ y ∈ scope.names, y.2 ≠ .cell) (hkind : scope.kind = .function)
    (hnames : ∀ y ∈ scope.names, y.2 = .local → scope.names.lookup y.1 = some .local)
    (hy : env.kindOf y = some .local) (hp : (env.scope.kind == .class || (env.scope.kind == .module && env.locals != env.globals)) = false)
    (h : wpAny (model prog w) A (eval iter env) (fun xv s₁ => wpAny (model prog w) A (pyIter xv) (fun it s₂ => CompAtGA prog w A env elt target ifs scope cl y Q it s₂) E s₁) E s)
    (hs : ∀ x, foldedSetIterable iter env x = pure x := by intro _; rfl) :
    wpAny (model prog w) A (exec (.Assign [.Name y py] (.ListComp elt [⟨target, iter, ifs, 0⟩] scope pos) spos) env) Q E s := by
  rw [exec_Assign_Name_used _ _ _ _ hsw]
  refine wpAny_bind (wpAny_standAt (wpAny_bind ?_))
  show wpAny _ A (do let _ ← comprehension (.ListComp elt [⟨target, iter, ifs, 0⟩] scope pos) scope env _ (newList []) false (eval iter env) (some (assign (.Name y py) env))) _ _ s
  refine wpAny_bind (wpAny_mono (wpAny_comprehension_free (use := some (assign (.Name y py) env)) (Q := fun _ s' => Q .next s') rfl hs hclos hkind hnames
    (wpAny_mono h (fun xv s₁ h₁ => wpAny_mono h₁ (fun it s₂ h₂ => ?_) fun _ _ e => e) fun _ _ e => e)) (fun _ s' hq => wpAny_pure (wpAny_pure hq)) fun _ _ e => e)
  refine hold fun hng => ?_
  obtain ⟨I, fp, wr, n, P, Md, St, J, m, rfl, T, hLw, hL, hQ⟩ := h₂
  (refine hng ?_; clear hng)
  refine compG_core (RR := fun acc C => compPost (model prog w) A E (some (assign (.Name y py) env)) (fun _ s' => Q .next s') acc C) T.S T.sz J hcell hkind T.st T.fpl T.live T.len T.zero T.turn ?_
  intro D C H tk m' ys k news hn hC hDC N ex hnD hJ
  refine hold fun hng => ?_
  obtain ⟨oL, esL, epL, hoL, rL⟩ := hL
  (refine hng ?_; clear hng)
  have hLC : env.locals ≠ C := by rintro rfl; rw [hC] at hoL; cases hoL
  have hLg : (hideAll s₂.heap wr).get? env.locals = some oL := hideAll_get _ hoL hLw
  have hLp : ∀ p ∈ (D, PySem.W.listOf ys.toArray k) :: news, p.1 ≠ env.locals := fun p hp c => by
    have := (N p hp).2.2
    rw [c, hLg] at this; cases this
  show wpAny _ A (assign (.Name y py) env (.ref D)) _ _ _
  refine wpAny_assign_Name (wpAny_storeName_local hy ⟨oL, esL, epL, ex _ _ hLg, rL⟩ (fun h₂ hn₂ hs₂ => ?_) hp)
  have kb₂ := But.of_same hs₂
  refine ⟨m', hn.sameBut hs₂ (Ne.symm hLC), fun h₃ hs₃ => ?_⟩
  have kb₃ := But.of_same hs₃
  refine hQ D h₃ _ ys k news (fun b o hb e => kb₃ b o (fun c => ?_) (kb₂ b o hb (ex b o e))) (hn₂.sameBut hs₃ hLC) (fun p hp => ⟨kb₃ _ _ (N p hp).2.1 (kb₂ _ _ (hLp p hp) (N p hp).1), (N p hp).2.2⟩) hnD hJ
  have := of_hideAll _ e
  rw [c, hC] at this; cases this
end

section
variable {M : Model} {A : Around} {E : Value → Shared → Prop} {s : Shared} {scope : Scope} {cl : List (Str × Addr)} {C : Addr} {env : Env} {g : Heap} {m : Str → Option Value} {news : List (Addr × Obj)}
theorem assign2C {prog : Program} {w : World} {a b : Str} {pa pb tp : Pos} {kk : Nat} {T : Addr} {x y : Value} {Q : Unit → Shared → Prop} (hh : A.handled = none) (F : Fr g C s.heap m) (N : News g C s.heap news) (ht : s.heap.IsTuple T #[x, y])
    (h : ∀ h' tk, Fr g C h' (fun z => if z = b then some y else if z = a then some x else m z) → News g C h' news → Q () { s with heap := h', toks := tk })
    (hk : (compEnvC scope cl C env).scope.kind = .function := by rfl) (ha : (compEnvC scope cl C env).kindOf a = some .local := by rfl) (hb : (compEnvC scope cl C env).kindOf b = some .local := by rfl) :
    wpAny (model prog w) A (assign (.Tuple [.Name a pa, .Name b pb] kk tp) (compEnvC scope cl C env) (.ref T)) Q E s := by
  refine kcp_assign hh ht ha hb (by rw [hk]; rfl) F.ns (fun h' tk hn k => h h' tk ⟨hn, fun c o e => k c o (fun e' => ?_) (F.keep c o e), F.above⟩ fun p hp => ⟨k _ _ (N p hp).2.1 (N p hp).1, (N p hp).2⟩)
  exact absurd (Nat.lt_of_lt_of_le (Heap.lt_size e) F.above) (e' ▸ Nat.lt_irrefl _)
end

-- part L1
theorem offL1 : True := by w_top off; trivial
/-- a source made on a heap -/
structure Made (prog : Program) (w : World) (A : Around) (target : PySem.Expr) (g h' : Heap) (I : Addr) (fp wr : List Addr) (n : Nat) (P Md : Nat → Value → Heap → Prop) (St : Nat → Heap → Prop) : Prop where
  S : Src prog w A target I fp wr n P Md St
  st : St 0 h'
  fpl : ∀ b ∈ fp, b < h'.objs.size
  live : ∀ i h, St i h → ∀ b ∈ fp, ∃ o, h.get? b = some o
  ext : Ext g h'
  wrn : ∀ b ∈ wr, g.objs.size ≤ b
  sz : g.objs.size ≤ h'.objs.size

theorem Made.fresh {prog w A target g h' I fp wr n P Md St} (X : Made prog w A target g h' I fp wr n P Md St) : ∀ b ∈ wr, g.get? b = none := fun b hb => by
  cases e : g.get? b with
  | none => rfl
  | some o => exact absurd (Heap.lt_size e) (Nat.not_lt.mpr (X.wrn b hb))
theorem Made.hid {prog w A target g h' I fp wr n P Md St} (X : Made prog w A target g h' I fp wr n P Md St) : Ext g (hideAll h' wr) := fun b o e =>
  hideAll_get _ (X.ext b o e) fun hb => by rw [X.fresh b hb] at e; cases e

section
variable {prog : Program} {w : World} {A : Around} {E : Value → Shared → Prop} {env : Env} {s : Shared} {target : PySem.Expr} {h' : Heap} {I : Addr} {fp wr : List Addr} {n : Nat} {P Md : Nat → Value → Heap → Prop} {St : Nat → Heap → Prop}

theorem Made.comp {elt : PySem.Expr} {ifs : List PySem.Expr} {scope : Scope} {cl : List (Str × Addr)} {tk0 : Nat} {Q : Value → Shared → Prop} (X : Made prog w A target s.heap h' I fp wr n P Md St) (J : Nat → List Value → List (Addr × Obj) → Prop)
    (hn : n ≤ 2 ^ 20) (hJl : ∀ i ys news, J i ys news → ys.length ≤ i) (h0 : J 0 [] [])
    (turn : ∀ (g : Heap) (C : Addr) (fpD : List Addr) (i : Nat) (v : Value) m₁ ys news₁ H tk own, Ext s.heap g → i < n → P i v H → J i ys news₁ → (∀ p ∈ news₁, p.1 ∉ fpD) → (∀ p ∈ own, p.1 ∈ fpD) → (∀ b ∈ fpD, (∃ o, g.get? b = some o) ∨ ∃ o, (b, o) ∈ own) →
      Fr g C H m₁ → News g C H (own ++ news₁) →
      wpAny (model prog w) A (assign target (compEnvC scope cl C env) v) (fun _ s' => wpAny (model prog w) A (testsOf ifs (compEnvC scope cl C env)) (fun ok s'' =>
        if ok = true then wpAny (model prog w) A (eval elt (compEnvC scope cl C env)) (fun y s₄ => EltJ g C fpD own (J (i + 1) (ys ++ [y])) s s₄) (fun _ _ => False) s''
        else EltJ g C fpD own (J (i + 1) ys) s s'') (fun _ _ => False) s') (fun _ _ => False) { s with heap := H, toks := tk })
    (done : ∀ D H tk ys k news, Ext s.heap H → Newer s.heap H ((D, PySem.W.listOf ys.toArray k) :: news) → (∀ p ∈ news, p.1 ≠ D) → J n ys news → Q (.ref D) { s with heap := H, toks := tk }) :
    CompAtG prog w A env elt target ifs scope cl Q (.ref I) { s with heap := h', toks := tk0 } := by
  refine ⟨I, fp, wr, n, P, Md, St, J, rfl, ⟨X.S, hn, X.st, X.fpl, X.live, hJl, h0, ?_⟩, ?_⟩
  · intro C fpD i v m₁ ys news₁ H tk own hi hP hJ ho hw hb F N
    exact turn _ C fpD i v m₁ ys news₁ H tk own X.hid hi hP hJ ho hw hb F N
  · intro D H tk ys k news ex nw hnD hJ
    refine done D H tk ys k news (fun b o e => ex b o (X.hid b o e)) (fun p hp => ⟨(nw p hp).1, ?_⟩) hnD hJ
    cases e : s.heap.get? p.1 with
    | none => rfl
    | some o => exact absurd ((nw p hp).2.symm.trans (X.hid _ _ e)) (by simp)

theorem Made.compA {elt : PySem.Expr} {ifs : List PySem.Expr} {scope : Scope} {cl : List (Str × Addr)} {tk0 : Nat} {y : Str} {Q : Flow → Shared → Prop} {h₀ : Heap} {m : Str → Option Value} {newsL : List (Addr × Obj)} (X : Made prog w A target s.heap h' I fp wr n P Md St) (J : Nat → List Value → List (Addr × Obj) → Prop)
    (hn : n ≤ 2 ^ 20) (F0 : Fr h₀ env.locals s.heap m) (N0 : News h₀ env.locals s.heap newsL) (hJl : ∀ i ys news, J i ys news → ys.length ≤ i) (h0 : J 0 [] [])
    (turn : ∀ (g : Heap) (C : Addr) (fpD : List Addr) (i : Nat) (v : Value) m₁ ys news₁ H tk own, Ext s.heap g → i < n → P i v H → J i ys news₁ → (∀ p ∈ news₁, p.1 ∉ fpD) → (∀ p ∈ own, p.1 ∈ fpD) → (∀ b ∈ fpD, (∃ o, g.get? b = some o) ∨ ∃ o, (b, o) ∈ own) →
      Fr g C H m₁ → News g C H (own ++ news₁) →
      wpAny (model prog w) A (assign target (compEnvC scope cl C env) v) (fun _ s' => wpAny (model prog w) A (testsOf ifs (compEnvC scope cl C env)) (fun ok s'' =>
        if ok = true then wpAny (model prog w) A (eval elt (compEnvC scope cl C env)) (fun y s₄ => EltJ g C fpD own (J (i + 1) (ys ++ [y])) s s₄) (fun _ _ => False) s''
        else EltJ g C fpD own (J (i + 1) ys) s s'') (fun _ _ => False) s') (fun _ _ => False) { s with heap := H, toks := tk })
    (done : ∀ D H tk ys k news, Fr h₀ env.locals H (fun z => if z = y then some (.ref D) else m z) → News h₀ env.locals H ((D, PySem.W.listOf ys.toArray k) :: (news ++ newsL)) → (∀ p ∈ (D, PySem.W.listOf ys.toArray k) :: news, s.heap.get? p.1 = none) → (∀ p ∈ news, p.1 ≠ D) → J n ys news → Q .next { s with heap := H, toks := tk }) :
    CompAtGA prog w A env elt target ifs scope cl y Q (.ref I) { s with heap := h', toks := tk0 } := by
  have F1 : Fr h₀ env.locals h' m := F0.keeps X.ext
  refine ⟨I, fp, wr, n, P, Md, St, J, m, rfl, ⟨X.S, hn, X.st, X.fpl, X.live, hJl, h0, ?_⟩, ?_, F1.ns, ?_⟩
  · intro C fpD i v m₁ ys news₁ H tk own hi hP hJ ho hw hb F N
    exact turn _ C fpD i v m₁ ys news₁ H tk own X.hid hi hP hJ ho hw hb F N
  · intro hm
    refine hold fun hng => ?_
    obtain ⟨o, _, _, ho, _⟩ := F0.ns
    (refine hng ?_; clear hng)
    rw [X.fresh _ hm] at ho; cases ho
  · intro D H tk ys k news ex hns nw hnD hJ
    have nw' : ∀ p ∈ (D, PySem.W.listOf ys.toArray k) :: news, s.heap.get? p.1 = none := fun p hp => by
      cases e : s.heap.get? p.1 with
      | none => rfl
      | some o => exact absurd ((nw p hp).2.symm.trans (X.hid _ _ e)) (by simp)
    have hL0 : ∀ b o, h₀.get? b = some o → b ≠ env.locals := fun b o e c => absurd (Nat.lt_of_lt_of_le (Heap.lt_size e) F0.above) (c ▸ Nat.lt_irrefl _)
    refine done D H tk ys k news ⟨hns, fun b o e => ex b o (hL0 b o e) (X.hid b o (F0.keep b o e)), F0.above⟩ (fun p hp => ?_) nw' hnD hJ
    have new : ∀ p ∈ (D, PySem.W.listOf ys.toArray k) :: news, H.get? p.1 = some p.2 ∧ p.1 ≠ env.locals ∧ h₀.get? p.1 = none := fun p hp => by
      refine ⟨(nw p hp).1, fun c => ?_, ?_⟩
      · refine hold fun hng => ?_
        obtain ⟨o, _, _, ho, _⟩ := F0.ns
        (refine hng ?_; clear hng)
        have := nw' p hp
        rw [c, ho] at this; cases this
      · cases e : h₀.get? p.1 with
        | none => rfl
        | some o => have := F0.keep _ _ e; rw [nw' p hp] at this; cases this
    rcases List.mem_cons.mp hp with rfl | hp
    · exact new _ (.head _)
    · rcases List.mem_append.mp hp with hp | hp
      · exact new _ (.tail _ hp)
      · have z := N0 p hp
        exact ⟨ex _ _ z.2.1 (X.hid _ _ z.1), z.2⟩

theorem Made.loop {body : List Stmt} {tk0 : Nat} {Q : Flow → Shared → Prop} {h₀ : Heap} {m : Str → Option Value} {news : List (Addr × Obj)} (X : Made prog w A target s.heap h' I fp wr n P Md St) (J : Nat → (Str → Option Value) → List (Addr × Obj) → Prop)
    (F0 : Fr h₀ env.locals s.heap m) (N0 : News h₀ env.locals s.heap news) (hLf : env.locals ∉ fp) (hoff : ∀ p ∈ news, p.1 ∉ fp) (h0 : J 0 m news)
    (turn : ∀ (fp : List Addr) (i : Nat) (v : Value) m₁ news₁ h tk own, i < n → P i v h → J i m₁ news₁ → (∀ p ∈ news₁, p.1 ∉ fp) → (∀ p ∈ own, p.1 ∈ fp) → (∀ b ∈ fp, (∃ o, h₀.get? b = some o) ∨ ∃ o, (b, o) ∈ own) →
      Fr h₀ env.locals h m₁ → News h₀ env.locals h (own ++ news₁) →
      wpAny (model prog w) A (assign target env v) (fun _ s₃ => wpAny (model prog w) A (execs body env) (TurnJ h₀ env.locals fp own (J (i + 1)) { s with heap := h, toks := tk } Q) E s₃) E { s with heap := h, toks := tk })
    (done : ∀ h' tk m' news', Fr h₀ env.locals h' m' → News h₀ env.locals h' news' → J n m' news' → Q .next { s with heap := h', toks := tk }) :
    TurnsAt prog w A h₀ env target body Q E (.ref I) { s with heap := h', toks := tk0 } := by
  refine ⟨I, fp, wr, n, P, Md, St, m, news, fun i m news => J i m news ∧ ∀ p ∈ news, p.1 ∉ fp, rfl, X.S.W, hLf, fun b hb => ?_, fun p hp hw => hoff p hp (X.S.W.sub _ hw), X.st, F0.keeps X.ext, fun p hp => ⟨X.ext _ _ (N0 p hp).1, (N0 p hp).2⟩, ⟨h0, hoff⟩, ?_, ?_⟩
  · cases e : h₀.get? b with
    | none => rfl
    | some o => have := F0.keep _ _ e; rw [X.fresh b hb] at this; cases this
  · rintro i v m₁ news₁ h₁ tk₁ own hi hP ⟨hJ, ho⟩ _ hown hst hall hSt F₁ N₁
    refine wpAny_mono (turn fp i v m₁ news₁ h₁ tk₁ own hi hP hJ ho hown (fun b hb => ?_) F₁ N₁) (fun _ s₃ h₃ => wpAny_mono h₃ (fun f s₄ h₄ => ?_) fun _ _ e => e) fun _ _ e => e
    · obtain ⟨o, e⟩ := X.live _ _ hSt b hb
      cases hn : h₀.get? b with
      | some o' => exact .inl ⟨_, rfl⟩
      | none => exact .inr ⟨o, hall b hb hn o e⟩
    · have fin : TurnN h₀ env.locals fp own (J (i + 1)) s.gens s.drawn s.os s₄ →
          ∃ h' tk' m₂ news₂, s₄ = { s with heap := h', toks := tk' } ∧ Fr h₀ env.locals h' m₂ ∧ News h₀ env.locals h' (own ++ news₂) ∧ (∀ p ∈ news₂, p.1 ∉ wr) ∧ J (i + 1) m₂ news₂ ∧ ∀ p ∈ news₂, p.1 ∉ fp := by
        rintro hz1
        refine hold fun hng => ?_
        obtain ⟨h', tk', m₂, news₂, e, F₂, N₂, ho₂, hJ₂⟩ := hz1
        (refine hng ?_; clear hng)
        exact ⟨h', tk', m₂, news₂, e, F₂, N₂, fun p hp hw => ho₂ p hp (X.S.W.sub _ hw), hJ₂, ho₂⟩
      cases f with
      | ret v => exact h₄
      | brk => exact h₄
      | next => exact ⟨rfl, fin h₄⟩
      | cont => exact ⟨rfl, fin h₄⟩
  · rintro h'' tk m' news' F' N' _ ⟨hJ, ho⟩
    exact done h'' tk m' news' F' N' hJ
end

section
variable {prog : Program} {w : World} {A : Around} {E : Value → Shared → Prop} {s : Shared} {elts : List PySem.Expr} {k : Nat} {pos : Pos} {R : Value → Shared → Prop}

theorem src_zip {l1 l2 : Addr} {xs ys : List Value} (hh : A.handled = none) (hl1 : s.heap.IsList l1 xs.toArray) (hl2 : s.heap.IsList l2 ys.toArray)
    (h : ∀ h' I fp wr P Md St, Made prog w A (.Tuple elts k pos) s.heap h' I fp wr (min xs.length ys.length) P Md St → (∀ b ∈ fp, b = l1 ∨ b = l2 ∨ s.heap.objs.size ≤ b) → (∀ i v H, P i v H → ∃ T x y, v = .ref T ∧ xs[i]? = some x ∧ ys[i]? = some y ∧ H.IsTuple T #[x, y]) → R (.ref I) { s with heap := h' }) :
    wpAny (model prog w) A (call (.type "zip") [.ref l1, .ref l2]) (fun xv s₁ => wpAny (model prog w) A (pyIter xv) R E s₁) E s := by
  refine hold fun hng => ?_
  obtain ⟨o1, ho1, _⟩ := id hl1
  (refine hng ?_; clear hng)
  refine hold fun hng => ?_
  obtain ⟨o2, ho2, _⟩ := id hl2
  (refine hng ?_; clear hng)
  have hlt1 : l1 < s.heap.objs.size := Heap.lt_size ho1
  have hlt2 : l2 < s.heap.objs.size := Heap.lt_size ho2
  have D : ZipApart (s.heap.objs.size + 4) (s.heap.objs.size + 2) (s.heap.objs.size + 3) s.heap.objs.size (s.heap.objs.size + 1) l1 l2 := ktu_apart _ _ _ hlt1 hlt2
  refine call_zip_2 hl1 hl2 fun h' hz hTI hTO hi1 hi2 hsz hk => ?_
  refine wpAny_pyIter_zip hz ?_
  have W := (WalksT.zip2 (prog := prog) (w := w) hh _ _ _ _ _ _ _ D xs.toArray ys.toArray).toU
  rw [show min xs.toArray.size ys.toArray.size = min xs.length ys.length by simp] at W
  refine h h' _ _ _ _ _ _ ⟨Src.ofU W, ⟨hz, hTI, ⟨_, _, hTO⟩, hi1, hi2, hl1.at fun o e => hk _ o e, hl2.at fun o e => hk _ o e⟩, ?_, ?_, hk, ?_, ?_⟩ ?_ ?_
  · intro b hb
    have hb' : b = s.heap.objs.size + 4 ∨ b = s.heap.objs.size + 2 ∨ b = s.heap.objs.size + 3 ∨ b = s.heap.objs.size ∨ b = s.heap.objs.size + 1 ∨ b = l1 ∨ b = l2 := by simpa using hb
    rw [hsz]
    rcases hb' with rfl | rfl | rfl | rfl | rfl | rfl | rfl
    · exact Nat.lt_succ_self _
    · exact Nat.add_lt_add_left (by decide) _
    · exact Nat.add_lt_add_left (by decide) _
    · exact Nat.lt_add_of_pos_right (by decide)
    · exact Nat.add_lt_add_left (by decide) _
    · exact Nat.lt_of_lt_of_le hlt1 (Nat.le_add_right _ _)
    · exact Nat.lt_of_lt_of_le hlt2 (Nat.le_add_right _ _)
  · rintro i h hz1
    refine hold fun hng => ?_
    obtain ⟨hz, hTI, ⟨a, b, hTO⟩, ⟨o1, ho1, _⟩, ⟨o2, ho2, _⟩, ⟨o3, ho3, _⟩, ⟨o4, ho4, _⟩⟩ := hz1
    (refine hng ?_; clear hng)
    rintro b hb
    have hb' : b = s.heap.objs.size + 4 ∨ b = s.heap.objs.size + 2 ∨ b = s.heap.objs.size + 3 ∨ b = s.heap.objs.size ∨ b = s.heap.objs.size + 1 ∨ b = l1 ∨ b = l2 := by simpa using hb
    rcases hb' with rfl | rfl | rfl | rfl | rfl | rfl | rfl
    · exact ⟨_, hz⟩
    · exact ⟨_, hTI⟩
    · exact ⟨_, hTO⟩
    · exact ⟨_, ho1⟩
    · exact ⟨_, ho2⟩
    · exact ⟨_, ho3⟩
    · exact ⟨_, ho4⟩
  · intro b hb
    have hb' : b = s.heap.objs.size + 4 ∨ b = s.heap.objs.size + 3 ∨ b = s.heap.objs.size ∨ b = s.heap.objs.size + 1 := by simpa using hb
    rcases hb' with rfl | rfl | rfl | rfl
    · exact Nat.le_add_right _ _
    · exact Nat.le_add_right _ _
    · exact Nat.le_refl _
    · exact Nat.le_add_right _ _
  · rw [hsz]; exact Nat.le_add_right _ _
  · intro b hb
    have hb' : b = s.heap.objs.size + 4 ∨ b = s.heap.objs.size + 2 ∨ b = s.heap.objs.size + 3 ∨ b = s.heap.objs.size ∨ b = s.heap.objs.size + 1 ∨ b = l1 ∨ b = l2 := by simpa using hb
    rcases hb' with rfl | rfl | rfl | rfl | rfl | rfl | rfl
    · exact .inr (.inr (Nat.le_add_right _ _))
    · exact .inr (.inr (Nat.le_add_right _ _))
    · exact .inr (.inr (Nat.le_add_right _ _))
    · exact .inr (.inr (Nat.le_refl _))
    · exact .inr (.inr (Nat.le_add_right _ _))
    · exact .inl rfl
    · exact .inr (.inl rfl)
  · rintro i v H hz1
    refine hold fun hng => ?_
    obtain ⟨T, vals, rfl, ⟨x, y, hx, hy, rfl⟩, hT⟩ := hz1
    (refine hng ?_; clear hng)
    exact ⟨T, x, y, rfl, by simpa using hx, by simpa using hy, hT⟩

theorem src_enum {l : Addr} {vs : List Value} (hh : A.handled = none) (hl : s.heap.IsList l vs.toArray)
    (h : ∀ h' I fp wr P Md St, Made prog w A (.Tuple elts k pos) s.heap h' I fp wr vs.length P Md St → (∀ b ∈ fp, b = l ∨ s.heap.objs.size ≤ b) → (∀ i v H, P i v H → ∃ T t x, v = .ref T ∧ vs[i]? = some x ∧ H.IsTuple T #[.int i t, x]) → R (.ref I) { s with heap := h' }) :
    wpAny (model prog w) A (call (.type "enumerate") [.ref l]) (fun xv s₁ => wpAny (model prog w) A (pyIter xv) R E s₁) E s := by
  refine hold fun hng => ?_
  obtain ⟨o1, ho1, _⟩ := id hl
  (refine hng ?_; clear hng)
  have hlt : l < s.heap.objs.size := Heap.lt_size ho1
  refine call_enumerate_list hl fun h' hE hI hsz hk => ?_
  refine wpAny_pyIter_enum hE ?_
  have W := (WalksT.enumerate (prog := prog) (w := w) hh (s.heap.objs.size + 1) s.heap.objs.size l (Nat.succ_ne_self _) (ktu_ne 1 hlt) (Nat.ne_of_lt hlt) vs.toArray).toU
  rw [show vs.toArray.size = vs.length by simp] at W
  refine h h' _ _ _ _ _ _ ⟨Src.ofU W, ⟨⟨_, hE⟩, hI, hl.at fun o e => hk _ o e⟩, ?_, ?_, hk, ?_, ?_⟩ ?_ ?_
  · intro b hb
    have hb' : b = s.heap.objs.size + 1 ∨ b = s.heap.objs.size ∨ b = l := by simpa using hb
    rw [hsz]
    rcases hb' with rfl | rfl | rfl
    · exact Nat.lt_succ_self _
    · exact Nat.lt_add_of_pos_right (by decide)
    · exact Nat.lt_of_lt_of_le hlt (Nat.le_add_right _ _)
  · rintro i h hz1
    refine hold fun hng => ?_
    obtain ⟨⟨old, he⟩, ⟨oi, hoi, _⟩, ⟨o3, ho3, _⟩⟩ := hz1
    (refine hng ?_; clear hng)
    rintro b hb
    have hb' : b = s.heap.objs.size + 1 ∨ b = s.heap.objs.size ∨ b = l := by simpa using hb
    rcases hb' with rfl | rfl | rfl
    · exact ⟨_, he⟩
    · exact ⟨_, hoi⟩
    · exact ⟨_, ho3⟩
  · intro b hb
    have hb' : b = s.heap.objs.size + 1 ∨ b = s.heap.objs.size := by simpa using hb
    rcases hb' with rfl | rfl
    · exact Nat.le_add_right _ _
    · exact Nat.le_refl _
  · rw [hsz]; exact Nat.le_add_right _ _
  · intro b hb
    have hb' : b = s.heap.objs.size + 1 ∨ b = s.heap.objs.size ∨ b = l := by simpa using hb
    rcases hb' with rfl | rfl | rfl
    · exact .inr (Nat.le_add_right _ _)
    · exact .inr (Nat.le_refl _)
    · exact .inl rfl
  · rintro i v H hz1
    refine hold fun hng => ?_
    obtain ⟨T, vals, rfl, ⟨t, x, hx, rfl⟩, hT⟩ := hz1
    (refine hng ?_; clear hng)
    exact ⟨T, t, x, rfl, by simpa using hx, hT⟩

/-- a list of tuples -/
theorem src_tups {l : Addr} {vs : List Value} {Ts : List Addr} {vals : List (Array Value)} (hh : A.handled = none) (hl : s.heap.IsList l vs.toArray) (hv : vs = Ts.map Value.ref) (hlen : Ts.length = vals.length) (hT : ∀ (i : Nat) (T : Addr) (x : Array Value), Ts[i]? = some T → vals[i]? = some x → s.heap.IsTuple T x)
    (h : ∀ h' I fp wr P Md St, Made prog w A (.Tuple elts k pos) s.heap h' I fp wr vs.length P Md St → (∀ b ∈ fp, b = l ∨ b ∈ Ts ∨ s.heap.objs.size ≤ b) → (∀ i v H, P i v H → i < vs.length → ∃ T x, v = .ref T ∧ vals[i]? = some x ∧ H.IsTuple T x) → R (.ref I) { s with heap := h' }) :
    wpAny (model prog w) A (pyIter (.ref l)) R E s := by
  refine hold fun hng => ?_
  obtain ⟨o1, ho1, _⟩ := id hl
  (refine hng ?_; clear hng)
  have hlt : l < s.heap.objs.size := Heap.lt_size ho1
  have hvl : vs.length = Ts.length := by rw [hv, List.length_map]
  have hTn : ∀ j, j < vs.toArray.size → s.heap.IsTuple (Ts.getD j 0) (vals.getD j #[]) := fun j hj => by
    have hj' : j < Ts.length := by simpa [hvl] using hj
    refine hT j _ _ (by simp [hj']) (by have : j < vals.length := by (clear hlt hvl hj; omega)
                                        simp [this])
  have hTlt : ∀ j, j < vs.toArray.size → Ts.getD j 0 < s.heap.objs.size := fun j hj => by
    refine hold fun hng => ?_
    obtain ⟨o, ho, _⟩ := hTn j hj
    (refine hng ?_; clear hng)
    exact Heap.lt_size ho
  refine wpAny_pyIter_list hl ?_
  have W := WalksU.listOfTuples (prog := prog) (w := w) hh s.heap.objs.size l (Nat.ne_of_lt hlt) vs.toArray (fun j => Ts.getD j 0) (fun j => vals.getD j #[])
    (fun j hj => by
      have hj' : j < Ts.length := by simpa [hvl] using hj
      simp [hv, hj']) (fun j hj => Nat.ne_of_lt (hTlt j hj))
  have hsz : vs.toArray.size = vs.length := by simp
  generalize hn : vs.toArray.size = nn at W
  obtain rfl : nn = vs.length := by (clear hlen hlt hvl; omega)
  have up : Ext s.heap (s.heap.push { cls := .type "list_iterator", data := .fields #[.ref l, rawInt 0] }) := fun b o e => Heap.get?_push_of_some _ e
  refine h _ _ _ _ _ _ _ ⟨Src.ofU W, ⟨⟨_, Heap.get?_push_size _ rfl, rfl, rfl⟩, hl.at fun o e => up _ o e, fun j hj => (hTn j (by omega)).at fun o e => up _ o e⟩, ?_, ?_, up, ?_, ?_⟩ ?_ ?_
  · intro b hb
    rw [Heap.size_push]
    rcases List.mem_cons.mp hb with rfl | hb
    · exact Nat.lt_succ_self _
    rcases List.mem_cons.mp hb with rfl | hb
    · exact Nat.lt_succ_of_lt hlt
    refine hold fun hng => ?_
    obtain ⟨j, hj, rfl⟩ := List.mem_map.mp hb
    (refine hng ?_; clear hng)
    exact Nat.lt_succ_of_lt (hTlt j (by have := List.mem_range.mp hj; omega))
  · rintro i h hz1
    refine hold fun hng => ?_
    obtain ⟨⟨o1, h1, _⟩, ⟨o2, h2, _⟩, h3⟩ := hz1
    (refine hng ?_; clear hng)
    rintro b hb
    rcases List.mem_cons.mp hb with rfl | hb
    · exact ⟨_, h1⟩
    rcases List.mem_cons.mp hb with rfl | hb
    · exact ⟨_, h2⟩
    refine hold fun hng => ?_
    obtain ⟨j, hj, rfl⟩ := List.mem_map.mp hb
    (refine hng ?_; clear hng)
    refine hold fun hng => ?_
    obtain ⟨o, ho, _⟩ := h3 j (List.mem_range.mp hj)
    (refine hng ?_; clear hng)
    exact ⟨_, ho⟩
  · intro b hb
    rw [List.mem_singleton.mp hb]
    exact Nat.le_refl _
  · rw [Heap.size_push]; exact Nat.le_succ _
  · intro b hb
    rcases List.mem_cons.mp hb with rfl | hb
    · exact .inr (.inr (Nat.le_refl _))
    rcases List.mem_cons.mp hb with rfl | hb
    · exact .inl rfl
    refine hold fun hng => ?_
    obtain ⟨j, hj, rfl⟩ := List.mem_map.mp hb
    (refine hng ?_; clear hng)
    have hj' : j < Ts.length := by have := List.mem_range.mp hj; (clear hlen hlt hsz hn; omega)
    refine .inr (.inl ?_)
    simp [hj']
  · rintro i v H hz1
    refine hold fun hng => ?_
    obtain ⟨T, vals', rfl, hP, hT⟩ := hz1
    (refine hng ?_; clear hng)
    rintro hi
    refine ⟨T, _, rfl, ?_, hT⟩
    have hi' : i < vals.length := by (clear hlt hsz hn; omega)
    rw [hP]
    simp [hi']

/-- a range upward -/
theorem src_range {target : PySem.Expr} {r : Addr} {a₀ b₀ c₀ : Int} {t₀ u₀ v₀ : Tok} {n : Nat} (ht : ∀ I v, letOwnedTupleGo target (.ref I) v = pure ())
    (hh : A.handled = none) (hr : IsRange s.heap r a₀ b₀ c₀ t₀ u₀ v₀) (hsmall : Builtin.Range.small a₀ b₀ c₀ = true) (hn : Builtin.Range.rangeSize a₀ b₀ c₀ = (n : Int))
    (h : ∀ h' I fp wr P Md St, Made prog w A target s.heap h' I fp wr n P Md St → (∀ b ∈ fp, s.heap.objs.size ≤ b) → (∀ i v H, P i v H → ∃ t, v = .int (a₀ + i * c₀) t) → R (.ref I) { s with heap := h' }) :
    wpAny (model prog w) A (pyIter (.ref r)) R E s := by
  refine wpAny_pyIter_range hr hsmall ?_
  have W : Walks prog w A s.heap.objs.size [s.heap.objs.size] [s.heap.objs.size] n (fun i v => ∃ t, v = .int (a₀ + i * c₀) t)
      (fun i h => IsRangeIter h s.heap.objs.size (a₀ + (i : Nat) * c₀) ((n : Int) - (i : Nat)) c₀) := Walks.range hh _ a₀ c₀ n
  refine h _ _ _ _ _ _ _ ⟨Src.ofW W (ht _), ?_, ?_, ?_, fun b o e => Heap.get?_push_of_some _ e, ?_, ?_⟩ ?_ ?_
  · show IsRangeIter _ _ _ _ _; rw [hn]; simpa using Heap.get?_push_size _ rfl
  · intro b hb; rw [List.mem_singleton.mp hb, Heap.size_push]; exact Nat.lt_succ_self _
  · intro i h hs b hb; rw [List.mem_singleton.mp hb]; exact ⟨_, hs⟩
  · intro b hb; rw [List.mem_singleton.mp hb]; exact Nat.le_refl _
  · rw [Heap.size_push]; exact Nat.le_succ _
  · intro b hb; rw [List.mem_singleton.mp hb]; exact Nat.le_refl _
  · exact fun i v H hP => hP

/-- a list, each item as it stands -/
theorem src_list {target : PySem.Expr} {l : Addr} {vs : List Value} (ht : ∀ I v, letOwnedTupleGo target (.ref I) v = pure ()) (hh : A.handled = none) (hl : s.heap.IsList l vs.toArray)
    (h : ∀ h' I fp wr P Md St, Made prog w A target s.heap h' I fp wr vs.length P Md St → (∀ b ∈ fp, b = l ∨ s.heap.objs.size ≤ b) → (∀ i v H, P i v H → vs[i]? = some v) → R (.ref I) { s with heap := h' }) :
    wpAny (model prog w) A (pyIter (.ref l)) R E s := by
  refine hold fun hng => ?_
  obtain ⟨ol, hol, _⟩ := id hl
  (refine hng ?_; clear hng)
  have hlt : l < s.heap.objs.size := Heap.lt_size hol
  refine wpAny_pyIter_list hl ?_
  have W := Walks.list (prog := prog) (w := w) hh s.heap.objs.size l (Nat.ne_of_lt hlt) vs.toArray
  have hlen : vs.toArray.size = vs.length := by simp
  rw [hlen] at W
  refine h _ _ _ _ _ _ _ ⟨Src.ofW W (ht _), ⟨⟨_, Heap.get?_push_size _ rfl, rfl, rfl⟩, hl.at fun o e => Heap.get?_push_of_some _ e⟩, ?_, ?_, fun b o e => Heap.get?_push_of_some _ e, ?_, ?_⟩ ?_ ?_
  · intro b hb
    rw [Heap.size_push]
    rcases List.mem_cons.mp hb with rfl | hb
    · exact Nat.lt_succ_self _
    · rw [List.mem_singleton.mp hb]; exact Nat.lt_succ_of_lt hlt
  · rintro i h hz1
    refine hold fun hng => ?_
    obtain ⟨⟨o, h1, _⟩, o', h2, _⟩ := hz1
    (refine hng ?_; clear hng)
    rintro b hb
    rcases List.mem_cons.mp hb with rfl | hb
    · exact ⟨_, h1⟩
    · rw [List.mem_singleton.mp hb]; exact ⟨_, h2⟩
  · intro b hb; rw [List.mem_singleton.mp hb]; exact Nat.le_refl _
  · rw [Heap.size_push]; exact Nat.le_succ _
  · intro b hb
    rcases List.mem_cons.mp hb with rfl | hb
    · exact .inr (Nat.le_refl _)
    · exact .inl (List.mem_singleton.mp hb)
  · exact fun i v H hP => by simpa using hP
end

-- part F1
theorem offF1 : True := by w_top off; trivial
theorem st16 {M A Q E s x1} (h : wpAny M A (call (Value.type "enumerate") x1) Q E s) : wpAny M A (call (Value.type "enumerate") x1) Q E s := h
theorem st17 {M A Q E s x1} (h : wpAny M A (call (Value.type "zip") x1) Q E s) : wpAny M A (call (Value.type "zip") x1) Q E s := h
theorem st18 {M A Q E s x1} (h : wpAny M A (call (Value.builtin "sorted") x1) Q E s) : wpAny M A (call (Value.builtin "sorted") x1) Q E s := h
theorem st19 {M A Q E s x1} (h : wpAny M A (call (Value.builtin "all") x1) Q E s) : wpAny M A (call (Value.builtin "all") x1) Q E s := h
theorem st20 {M A Q E s x1} (h : wpAny M A (call (Value.builtin "sum") x1) Q E s) : wpAny M A (call (Value.builtin "sum") x1) Q E s := h
theorem st21 {M A Q E s x1 x2 x3} (h : wpAny M A (compareOp x1 (Value.ref x2) (Value.ref x3)) Q E s) : wpAny M A (compareOp x1 (Value.ref x2) (Value.ref x3)) Q E s := h
local macro_rules | `(tactic| walk_at "G3") => `(tactic| (walk_at "GK"; fail_if_success (with_reducible first | refine' st16 ?_ | refine' st17 ?_ | refine' st18 ?_ | refine' st19 ?_ | refine' st20 ?_ | refine' st21 ?_)))




theorem assign2E {prog : Program} {w : World} {A : Around} {E : Value → Shared → Prop} {s : Shared} {env : Env} {g : Heap} {m : Str → Option Value} {news : List (Addr × Obj)} {a b : Str} {pa pb tp : Pos} {kk : Nat} {T : Addr} {x y : Value} {Q : Unit → Shared → Prop} (hh : A.handled = none) (F : Fr g env.locals s.heap m) (N : News g env.locals s.heap news) (ht : s.heap.IsTuple T #[x, y])
    (h : ∀ h' tk, Fr g env.locals h' (fun z => if z = b then some y else if z = a then some x else m z) → News g env.locals h' news → Q () { s with heap := h', toks := tk })
    (hk : env.scope.kind = .function := by rfl) (ha : env.kindOf a = some .local := by rfl) (hb : env.kindOf b = some .local := by rfl) :
    wpAny (model prog w) A (assign (.Tuple [.Name a pa, .Name b pb] kk tp) env (.ref T)) Q E s := by
  refine kcp_assign hh ht ha hb (by rw [hk]; rfl) F.ns (fun h' tk hn k => h h' tk ⟨hn, fun c o e => k c o (fun e' => ?_) (F.keep c o e), F.above⟩ fun p hp => ⟨k _ _ (N p hp).2.1 (N p hp).1, (N p hp).2⟩)
  exact absurd (Nat.lt_of_lt_of_le (Heap.lt_size e) F.above) (e' ▸ Nat.lt_irrefl _)

theorem perm_sorted_eq {a b : List Int} (hp : a.Perm b) (ha : a.Pairwise (· ≤ ·)) (hb : b.Pairwise (· ≤ ·)) : a = b :=
  List.Perm.eq_of_pairwise (fun x y _ _ h1 h2 => Int.le_antisymm h1 h2) ha hb hp

theorem bools_snoc : ∀ {vs : List Value} {bs : List Bool} (b : Bool), LSm.BoolsAre vs bs → LSm.BoolsAre (vs ++ [.bool b]) (bs ++ [b])
  | _, _, b, .nil => .cons b .nil
  | _, _, b, .cons c h => .cons c (bools_snoc b h)
theorem all_true : ∀ n : Nat, (List.replicate n true).all id = true
  | 0 => rfl
  | n + 1 => by rw [List.replicate_succ, List.all_cons, all_true n]; rfl

def FairT (rows : Tbl) : Prop := (∀ (i : Nat) (row : List Itm), rows[i]? = some row → (row.map (·.2)).Pairwise (· ≤ ·)) ∧
  ∀ (i : Nat) (over row : List Itm), rows[i]? = some over → rows[i + 1]? = some row → row.length ≤ over.length ∧ ∀ (j : Nat) (x y : Itm), over[j]? = some x → row[j]? = some y → x.2 < y.2

theorem reads_ints {h : Heap} {l : Addr} {vs : List Value} {ns : List Int} (hl : h.IsList l vs.toArray) (hi : IntsAre vs ns) : Reads h (.ref l) (.list (ns.map .int)) [l] := by
  refine hold fun hng => ?_
  obtain ⟨o, ho, hc, n, hd⟩ := hl
  (refine hng ?_; clear hng)
  exact .list (vs := vs.toArray) (n := n) ho hc hd (by simpa using hi.reads h)
theorem depth_ints : ∀ ns : List Int, PyData.depthAll (ns.map .int) = 0
  | [] => rfl
  | n :: ns => by rw [List.map_cons, PyData.depthAll, depth_ints ns]; rfl
theorem lay_ints : ∀ ns : List Int, PyData.canLayAll0 (ns.map .int) = true
  | [] => rfl
  | n :: ns => by rw [List.map_cons, PyData.canLayAll0, lay_ints ns]; rfl
theorem shaped_ints (ns : List Int) : PySem.SeqAt.shaped (.list (ns.map .int)) = true := by
  unfold PySem.SeqAt.shaped
  rw [PyData.canLay0, lay_ints, PyData.depth, depth_ints]; rfl
theorem eqv_ints (ns : List Int) : PyData.eqv (.list (ns.map .int)) (.list (ns.map .int)) = true := PySem.SeqAt.eqv_refl _ (by rw [PyData.canLay0, lay_ints])

set_option pp.deepTerms false in
set_option pp.maxSteps 3000 in
set_option maxRecDepth 100000 in
set_option maxHeartbeats 4000000 in
theorem fair_spec {w : World} {mean mg mb} {A : Around} {E : Value → Shared → Prop} {Q : Value → Shared → Prop} {s : Shared} {T : Addr} {rows : Tbl}
    (G : Gd w mean mg mb s.heap) (R : Room A 10 90) (hT : TabH false s.heap T rows) (hln : rows.length ≤ 1000) (hb : ∀ row ∈ rows, row.length ≤ 60) (hf : FairT rows)
    (ret : ∀ h' tk, Ext s.heap h' → Q (.bool true) { s with heap := h', toks := tk }) :
    wpAny (model Challenge.rw_sc0001_01.row.prog w) A (call (.ref 79) [.ref T] []) Q E s := by
  have G0 := G
  have R0 := R
  obtain ⟨KX, Tp⟩ := G
  refine hold fun hng => ?_
  obtain ⟨hA, hd, hu⟩ := R
  (refine hng ?_; clear hng)
  revert KX; k_fill; intro KX
  refine' call_ro (binds := [("table", .ref T)]) KX Tp ?h1 ?h2 ?h3 ?h4 ?h5 ?h6 ?c1 ?c2 ?c3 ?c4
  case h1 => k_is
  case h2 => k_is
  case h3 => omega
  case h4 => exact kp_binds KX (fun _ => rfl)
  case h5 => exact locs rfl
  case c1 => rfl
  case c2 => rfl
  case c3 => rfl
  case c4 => decide
  case h6 =>
   have TR := topRead_of Tp
   intro L h₁ F N
   refine hold fun hng => ?_
   obtain ⟨as, ⟨nT, hT1⟩, hTl, hTr⟩ := id hT
   (refine hng ?_; clear hng)
   have hTL : h₁.IsList T (as.map Value.ref).toArray := ⟨_, F.keep _ _ hT1, rfl, nT, rfl⟩
   have hal : (as.map Value.ref).length = rows.length := by rw [List.length_map, hTl]
   walk_at "S3"
   refine For_turns F ?_
   walk_at "S3"
   refine' src_enum (vs := as.map Value.ref) hA hTL ?sx
   case sx =>
    intro h2 I fp wr P Md St X hfp hP
    refine X.loop (fun i m nx => nx = [] ∧ m (Str.ofString "table") = some (.ref T)) F N ?_ (fun p hp => by cases hp) ⟨rfl, by walk_at "M"⟩ ?turn ?done
    · intro hL
      rcases hfp _ hL with e | e
      · exact absurd (e ▸ F.above) (Nat.not_le.mpr (Heap.lt_size hT1))
      · exact Nat.not_le.mpr F.ns.lt e
    case done =>
      rintro h' tk' m' nx F' N' ⟨rfl, m1⟩
      walk_at "S3"
      exact ret _ _ F'.keep
    case turn =>
      rintro fp i v m₁ nx h tk' own hi hPi ⟨rfl, m1⟩ hoff hown hlive F' N'
      refine hold fun hng => ?_
      obtain ⟨Tp2, t2, x2, rfl, hx2, hTup⟩ := hP _ _ _ hPi
      (refine hng ?_; clear hng)
      have hi' : i < rows.length := by (clear hln hd hu hTl; omega)
      obtain ⟨a, ha⟩ : ∃ a, as[i]? = some a := ⟨_, List.getElem?_eq_getElem (by (clear hln hd hu hi'; omega))⟩
      obtain rfl : x2 = .ref a := by
        rw [List.getElem?_map, ha] at hx2
        exact (Option.some.inj hx2).symm
      have hr : rows[i]? = some rows[i] := List.getElem?_eq_getElem hi'
      refine hold fun hng => ?_
      obtain ⟨vs, ⟨na, hva⟩, hIv⟩ := hTr i a _ ha hr
      (refine hng ?_; clear hng)
      have hsort := hf.1 i _ hr
      have hover : ∀ j, i = j + 1 → ∀ over, rows[j]? = some over → _ := fun j e over (ho : rows[j]? = some over) => hf.2 j over rows[i] ho (by rw [← e]; exact hr)
      have hrl : (rows[i]).length ≤ 60 := hb _ (List.getElem_mem hi')
      generalize rows[i] = row at *
      have hints := hIv.ints
      have hvl := hIv.1
      refine assign2E hA F' N' hTup (fun h4 tk4 F4 N4 => ?_)
      have F4' : Fr s.heap L h4 (fun z => if z = Str.ofString "row" then some (.ref a) else if z = Str.ofString "level" then some (.int i t2) else m₁ z) := F4
      have N4' : News s.heap L h4 (own ++ []) := N4
      clear F4 N4 F' N' F N
      have hva4 : h4.IsList a vs.toArray := ⟨_, F4'.keep _ _ hva, rfl, na, rfl⟩
      walk_at "S3"
      walk1
      walk_at "S3"
      refine kso_sorted F4' N4' hva4 hints (by rw [List.length_map]; (clear hln hd hu hTl hal hi hi' hvl; omega)) (fun D vs' ns' c h5 F5 N5 hlt hi5 hl5 hp5 hs5 _ => ?_)
      obtain rfl : ns' = row.map (·.2) := perm_sorted_eq hp5 hs5 hsort
      walk_at "S3"
      have hva5 : h5.IsList a vs.toArray := ⟨_, F5.keep _ _ hva, rfl, na, rfl⟩
      have F5' := F5
      refine ne_dataH (reads_ints ⟨_, (N5 _ (.head _)).1, rfl, c, rfl⟩ hi5) (reads_ints hva5 hints) (shaped_ints _) (shaped_ints _) (by show A.units + 3 + 64 < _; (clear hln hd hTl hal hi hi' hrl hvl hl5; omega)) ?_
      rw [eqv_ints]
      walk_at "S3"
      have N5' : News s.heap L h5 (own ++ []) := fun p hp => N5 p (.tail _ hp)
      clear N5
      walk_at "S3"
      walk1
      walk_at "S3"
      · (rename (0 : Int) < (i : Int) => hpos)
        obtain ⟨j, rfl⟩ : ∃ j, i = j + 1 := ⟨i - 1, by (clear hln hd hu hTl hal hi hi' hrl hvl hl5; omega)⟩
        have hj : j < rows.length := by (clear hln hd hu hTl hrl hvl hl5 hi' hpos; omega)
        obtain ⟨b, hbj⟩ : ∃ a, as[j]? = some a := ⟨_, List.getElem?_eq_getElem (by (clear hln hd hu hrl hvl hl5 hi' hpos hj; omega))⟩
        have hro : rows[j]? = some rows[j] := List.getElem?_eq_getElem hj
        obtain ⟨hlen, hcol⟩ := hover j rfl _ hro
        refine hold fun hng => ?_
        obtain ⟨vso, ⟨nb, hvb⟩, hIo⟩ := hTr j b _ hbj hro
        (refine hng ?_; clear hng)
        have hol : (rows[j]).length ≤ 60 := hb _ (List.getElem_mem hj)
        generalize rows[j] = over at *
        have hintso := hIo.ints
        have hvol := hIo.1
        have eji : (((j + 1 : Nat) : Int) - 1) = (j : Int) := by (clear hln hd hu hTl hal hrl hvl hl5 hi hi' hpos hj hlen hol hvol; omega)
        rw [eji]
        refine item_any (vs := as.map Value.ref) ⟨_, F5.keep _ _ hT1, rfl, nT, rfl⟩ (by (clear hln hd hu hTl hal hrl hvl hl5 hi hi' hpos hj hlen hol hvol eji; omega)) (by (clear hln hd hu hTl hal hrl hvl hl5 hi' hpos hj hlen hol hvol eji; omega)) (by (clear hd hu hTl hrl hvl hl5 hi' hpos hj hlen hol hvol eji; omega)) (fun v9 hv9 => ?_) (by with_unfolding_all rfl)
        cases refs_at hbj hv9
        walk_at "S3"
        have hvaB : s.heap.IsList a vs.toArray := ⟨_, hva, rfl, na, rfl⟩
        have hvoB : s.heap.IsList b vso.toArray := ⟨_, hvb, rfl, nb, rfl⟩
        walk1
        walk_at "S3"
        (refine' compG_eval (cl := []) ?ca2 ?ca3 ?ca4 ?ca5 ?_ ?ca9; (case ca2 => rfl); (case ca3 => decide); (case ca4 => rfl); (case ca5 => decide); (case ca9 => exact fun _ => rfl))
        walk_at "S3"
        (rename Fr _ _ _ _ => F6; rename News _ _ _ _ => N6)
        refine' src_zip (xs := vso) (ys := vs) hA ⟨_, F6.keep _ _ hvb, rfl, nb, rfl⟩ ⟨_, F6.keep _ _ hva, rfl, na, rfl⟩ ?sz
        case sz =>
         intro h7 I7 fp7 wr7 P7 Md7 St7 X7 _ hP7
         refine X7.comp (fun i ys _ => LSm.BoolsAre ys (List.replicate i true)) (by (clear hln hd hu hTl hal hl5 hi hi' hpos hj hlen hol hvol eji; omega)) (fun i ys _ h => by rw [h.length, List.length_replicate]; exact Nat.le_refl _) .nil ?_ ?_
         · intro g C fpD i3 v3 m3 ys3 news3 H3 tk3 own3 eg hi3 hPi3 hJ3 hoff3 hown3 hlive3 F8 N8
           refine hold fun hng => ?_
           obtain ⟨T3, x3, y3, rfl, hx3, hy3, hT3⟩ := hP7 _ _ _ hPi3
           (refine hng ?_; clear hng)
           refine hold fun hng => ?_
           obtain ⟨n1, t1, rfl, hn1⟩ := hintso.at _ _ hx3
           (refine hng ?_; clear hng)
           refine hold fun hng => ?_
           obtain ⟨n2, t2, rfl, hn2⟩ := hints.at _ _ hy3
           (refine hng ?_; clear hng)
           have hlt3 : n1 < n2 := by
             rw [List.getElem?_map] at hn1 hn2
             cases e1 : over[i3]? with
             | none => rw [e1] at hn1; cases hn1
             | some p1 =>
               cases e2 : row[i3]? with
               | none => rw [e2] at hn2; cases hn2
               | some p2 =>
                 rw [e1] at hn1; rw [e2] at hn2
                 cases hn1; cases hn2
                 exact hcol _ _ _ e1 e2
           refine assign2C hA F8 N8 hT3 (fun H9 tk9 F9 N9 => tests_nil ?_)
           rw [if_pos rfl]
           walk_at "S3"
           refine ⟨_, _, _, _, rfl, F9, N9, hoff3, ?_⟩
           rw [decide_eq_true hlt3, List.replicate_succ']
           exact bools_snoc true hJ3
         · intro D9 H9 tk9 ys9 k9 news9 ex9 nw9 hnD9 hJ9
           walk_at "S3"
           have F9 := F6.kept ex9
           have N9 := N6.grown ex9
           clear F6 N6
           refine LSm.all_bools F9 N9 hA ⟨_, (nw9 _ (.head _)).1, rfl, k9, rfl⟩ hJ9 (fun h10 tk10 F10 N10 => ?_)
           rw [all_true]
           clear F9 N9
           walk_at "S3"
           refine ⟨_, _, _, [], rfl, F10, N10, fun p hp => (by cases hp), rfl, by walk_at "M"⟩
      · refine ⟨_, _, _, [], rfl, F5, N5', fun p hp => (by cases hp), rfl, by walk_at "M"⟩

-- part M1
theorem offM1 : True := by w_top off; trivial
/-- a call of a function with cells; what lies in news may turn -/
theorem call_rwC {prog : Program} {w : World} {A : Around} {s : Shared} {E Q : Value → Shared → Prop} {K : Frag} {p : Program} {loose : List Str} {mean : ExcName → Option Value} {mg mb : Str → Option Value}
    {name qual : Str} {params : Arguments} {body : List Stmt} {scope : Scope} {dV kV doc pm cdv ct oc : Value} {an od : Option Addr} {osl : Array (Option Value)} {f : Addr} {pos : List Value} {kw : List (Str × Value)} {binds : List (Str × Value)}
    (cl : Addr → List (Str × Addr)) (news : List (Addr × Obj)) (X : K.In (hideAll s.heap (news.map (·.1)))) (T : Top p loose mean mg mb (hideAll s.heap (news.map (·.1))))
    (hN : ∀ p ∈ news, s.heap.get? p.1 = some p.2)
    (ho : K.lookup f = some ⟨oc, od, .func (fnOf name qual params body scope dV kV doc pm an cdv ct), osl⟩) (hcd : codeIn K cdv qual = true) (hroom : A.depth < recursionLimit)
    (hbind : BindsTo s (fnOf name qual params body scope dV kV doc pm an cdv ct) ⟨pos, kw⟩ binds) (hkind : (binds.all fun y => scope.names.lookup y.1 == some .local || scope.names.lookup y.1 == some .cell) = true)
    (hnd : ((cellsFrom 0 scope.names []).map (·.1)).Nodup)
    (h : ∀ L h₁ tk cells, Fr (hideAll s.heap (news.map (·.1))) L h₁ (bindL (envX qual scope L f cdv (cl L)).kindOf binds fun _ => none) → News (hideAll s.heap (news.map (·.1))) L h₁ (cells ++ news) →
      CellsAre (bindC (envX qual scope L f cdv (cl L)).kindOf binds fun _ => none) (cl L) cells → (∀ p ∈ news, p.1 < L) →
      wpAny (model prog w) (A.deeper (envX qual scope L f cdv (cl L))) (execs body (envX qual scope L f cdv (cl L)))
        (fun fl s' => Q (match fl with | .ret v => v | _ => .none) s') (fun _ _ => False)
        { s with heap := h₁, toks := tk })
    (hcl : ∀ L, cellsFrom (L + 1) scope.names [] = cl L) (hco : scope.isCoroutine = false) (hgen : scope.isGenerator = false) (hk : scope.kind = .function) : wpAny (model prog w) A (call (.ref f) pos kw) Q E s := by
  obtain rfl : (fun L => cellsFrom (L + 1) scope.names []) = cl := funext hcl
  have st : Ext (hideAll s.heap (news.map (·.1))) s.heap := fun b o e => of_hideAll _ e
  refine wpAny_call ?_
  refine codeAny_call_function hroom (X.keeps st _ _ ho) rfl hco hgen rfl (codeRec_of (X.keeps st) hcd) (hbind _ _ _ _ ?_)
  refine wpAny_newFunctionEnv_cells hk (kindsX hkind _) fun env' he s' x => ?_
  subst he
  refine ⟨(T.nolimit.keeps st).keeps x.toInCall.keep, codeAny_func ?_⟩
  refine hold fun hng => ?_
  obtain ⟨h₁, tk, rfl, _⟩ := x.done
  (refine hng ?_; clear hng)
  have hk₁ := x.toInCall.keep
  refine hold fun hng => ?_
  obtain ⟨cells, NC, Y⟩ := Cl.news (h₀ := s.heap) (Nat.le_refl _) fun n c hm => ⟨x.cell n c (lookup_of_mem_nodup (cellsFrom_names scope.names 0 (s.heap.objs.size + 1) [] [] rfl ▸ hnd) hm), x.above n c hm⟩
  (refine hng ?_; clear hng)
  refine wpAny_mono (h s.heap.objs.size h₁ tk cells ⟨x.toInCall.ns, fun b o e => hk₁ b o (of_hideAll _ e), Nat.le_of_eq (hideAll_size _ _)⟩ (fun p hp => ?_) Y (fun p hp => Heap.lt_size (hN p hp))) (fun fl s' q => ?_) fun _ _ x => x.elim
  · rcases List.mem_append.mp hp with hp | hp
    · refine ⟨(NC p hp).1, (NC p hp).2.1, ?_⟩
      cases q : (hideAll s.heap (news.map (·.1))).get? p.1 with
      | none => rfl
      | some o => have := of_hideAll _ q; rw [(NC p hp).2.2] at this; cases this
    · exact ⟨hk₁ _ _ (hN p hp), Nat.ne_of_lt (Heap.lt_size (hN p hp)), hideAll_none _ (List.mem_map_of_mem hp)⟩
  · exact q

theorem nameG_B {M : Model} {A : Around} {E : Value → Shared → Prop} {s : Shared} {h₀ : Heap} {L : Addr} {m : Str → Option Value} {env : Env} {K : Frag} {mg mb : Str → Option Value} {p : Program} {loose : List Str} {x : Str} {pos : Pos} {v : Value} {Q : Value → Shared → Prop} (F : Fr h₀ L s.heap m) (X : K.In h₀) (T : TopRead p loose mg mb h₀)
    (e : nsIn K mainGlobals x = some none) (hv : bootBuiltins x = some v) (hn : x ≠ "__name__") (h : Q v s) (hg : env.globals = mainGlobals) (hb : env.builtins = builtinsNs) (hk : env.scope.kind = .function) (hx : env.kindOf x = some .globalImplicit) (hd : (x == ("__debug__" : Str)) = false) :
    wpAny M A (eval (.Name x pos) env) Q E s :=
  Name_function_global hk hx (loadGlobal_builtin (env := env) (by rw [hg]; exact T.g.keeps F.keep) (mg_none_of X T.g e) (by rw [hb]; exact T.b.keeps F.keep) ((T.builtins x hn).trans hv) h) hd

/-- names of cells -/
theorem ldCell {M : Model} {A : Around} {E : Value → Shared → Prop} {s : Shared} {env : Env} {g : Heap} {L : Addr} {news : List (Addr × Obj)} {x : Str} {pos : Pos} {v : Value} {c : Addr} {o : Obj} {Q : Value → Shared → Prop}
    (N : News g L s.heap news) (hm : (c, o) ∈ news) (hd : o.data = .cell (some v)) (hc : env.cells.lookup x = some c) (hx : env.kindOf x = some .cell) (h : Q v s)
    (hk : env.scope.kind = .function := by rfl) (hb : (x == ("__debug__" : Str)) = false := by decide) :
    wpAny M A (eval (.Name x pos) env) Q E s := wpAny_Name (wpAny_loadName_cell hk hx hc ⟨o, (N _ hm).1, hd⟩ h) hb
theorem ldCellB {M : Model} {A : Around} {E : Value → Shared → Prop} {s : Shared} {env : Env} {g : Heap} {L : Addr} {m : Str → Option Value} {x : Str} {pos : Pos} {v : Value} {c : Addr} {o : Obj} {Q : Value → Shared → Prop}
    (F : Fr g L s.heap m) (hm : g.get? c = some o) (hd : o.data = .cell (some v)) (hc : env.cells.lookup x = some c) (hx : env.kindOf x = some .cell) (h : Q v s)
    (hk : env.scope.kind = .function := by rfl) (hb : (x == ("__debug__" : Str)) = false := by decide) :
    wpAny M A (eval (.Name x pos) env) Q E s := wpAny_Name (wpAny_loadName_cell hk hx hc ⟨o, F.keep _ _ hm, hd⟩ h) hb
theorem storeCell {M : Model} {A : Around} {E : Value → Shared → Prop} {s : Shared} {env : Env} {g : Heap} {L : Addr} {m : Str → Option Value} {news : List (Addr × Obj)} {x : Str} {v : Value} {v₀ : Option Value} {c : Addr} {o : Obj} {Q : Unit → Shared → Prop}
    (F : Fr g L s.heap m) (N : News g L s.heap news) (hm : (c, o) ∈ news) (hd : o.data = .cell v₀) (hc : env.cells.lookup x = some c) (hx : env.kindOf x = some .cell)
    (h : ∀ h' o', Fr g L h' m → News g L h' (put news c o') → o'.data = .cell (some v) → But c s.heap h' → Q () { s with heap := h' })
    (hk : env.scope.kind = .function := by rfl) : wpAny M A (storeName env x v) Q E s := by
  refine wpAny_storeName_cell hk hx hc ⟨o, (N _ hm).1, hd⟩ fun h' hv hs => ?_
  refine hold fun hng => ?_
  obtain ⟨o', ho', hd'⟩ := hv
  (refine hng ?_; clear hng)
  have kb := But.of_same hs
  exact h h' o' (Fr.chg F N hm kb) (News.chg N hm kb ho') hd' kb

-- part CH
theorem offCH : True := by w_top off; trivial
local macro_rules | `(tactic| walk_at "MM") => `(tactic| first | with_reducible assumption | (with_reducible exact List.Mem.head _) | (refine List.Mem.tail _ ?_; walk_at "MM") | (refine List.mem_append_left _ ?_; walk_at "MM") | (refine List.mem_append_right _ ?_; walk_at "MM"))
local macro_rules | `(tactic| walk_at "eval Name") => `(tactic| (k_here; (with_reducible show wpAny _ _ (eval (Expr.Name _ _) (compEnvC _ _ _ _)) _ _ _); k_dflt (refine' ldCellB ?k1 ?k2 ?k3 ?k4 ?k5 ?_; (case k1 => with_reducible assumption); (case k4 => exact rfl); (case k5 => exact rfl); (case k2 => with_reducible assumption); (case k3 => with_reducible assumption); k_whole)))
local macro_rules | `(tactic| walk_at "eval Name") => `(tactic| (k_here; (with_reducible show wpAny _ _ (eval (Expr.Name _ _) (envX _ _ _ _ _ _)) _ _ _); k_dflt (refine' ldCell ?k1 ?k2 ?k3 ?k4 ?k5 ?_; (case k1 => with_reducible assumption); (case k4 => exact rfl); (case k5 => exact rfl); (case k2 => walk_at "MM"); (case k3 => with_reducible assumption); k_whole)))
local macro_rules | `(tactic| walk_at "eval Name") => `(tactic| (k_here; (with_reducible show wpAny _ _ (eval (Expr.Name _ _) (envX _ _ _ _ _ _)) _ _ _); k_dflt (refine' nameX_L ?k1 ?k2 ?_ ?a ?b; (case k1 => with_reducible assumption); (case a => rfl); (case b => rfl); (case k2 => walk_at "M"); k_whole)))





theorem set_put {prog : Program} {w : World} {A : Around} {s : Shared} {h₀ : Heap} {L D : Addr} {m : Str → Option Value} {news : List (Addr × Obj)} {E : Value → Shared → Prop} {Q : Unit → Shared → Prop} {its : List Value} {n : Nat} {k : Int} {t : Tok} {x : Value} (F : Fr h₀ L s.heap m) (N : News h₀ L s.heap news) (hm : (D, PySem.W.listOf its.toArray n) ∈ news) (h0 : 0 ≤ k) (hfit : k < 2 ^ 63) (h1 : k < its.length)
    (h : ∀ h', But D s.heap h' → Fr h₀ L h' m → News h₀ L h' (put news D (PySem.W.listOf (its.set k.toNat x).toArray n)) → Q () { s with heap := h' }) : wpAny (model prog w) A (setItem (.ref D) (.int k t) x) Q E s := by
  have z := (N _ hm).1
  refine ki_setAt z h0 hfit (by simpa using h1) ?_
  have kb := But.of_same (Heap.SameBut.update s.heap D (Obj.mapSeq fun xs => xs.setIfInBounds k.toNat x))
  refine h _ kb (Fr.chg F N hm kb) (News.chg N hm kb ?_)
  have q := PySem.IsL.update z (fun xs => xs.setIfInBounds k.toNat x)
  have e : its.toArray.setIfInBounds k.toNat x = (its.set k.toNat x).toArray := by
    apply Array.toList_inj.mp
    simp
  rw [e] at q
  rw [q]
  have hne : (List.toArray (its.set k.toNat x)).size = its.toArray.size := by
    rw [List.size_toArray, List.size_toArray, List.length_set]
  rw [if_pos (by simpa using hne)]

theorem pairs_open {g : Heap} : ∀ {vs : List Value} {ps : List Itm}, ItemsAt true g vs ps → ∃ (Ts : List Addr) (vals : List (Array Value)), vs = Ts.map Value.ref ∧ Ts.length = vals.length ∧ vals.length = ps.length ∧ (∀ (i : Nat) (T : Addr) (x : Array Value), Ts[i]? = some T → vals[i]? = some x → g.IsTuple T x) ∧
    ∀ (i : Nat) (x : Array Value) (p : Itm), vals[i]? = some x → ps[i]? = some p → ∃ t t', x = #[.int p.1 t, .int p.2 t']
  | [], [], _ => ⟨[], [], rfl, rfl, rfl, fun _ _ _ h => by simp at h, fun _ _ _ h => by simp at h⟩
  | [], _ :: _, h => by have := h.1; simp at this
  | _ :: _, [], h => by have := h.1; simp at this
  | v :: vs, p :: ps, h => by
    refine hold fun hng => ?_
    obtain ⟨Ts, vals, e1, e2, e3, e4, e5⟩ := pairs_open (vs := vs) (ps := ps) ⟨by simpa using h.1, fun i v p h1 h2 => h.2 (i + 1) v p (by simpa using h1) (by simpa using h2)⟩
    (refine hng ?_; clear hng)
    refine hold fun hng => ?_
    obtain ⟨a, t, t', rfl, hT⟩ := h.2 0 v p rfl rfl
    (refine hng ?_; clear hng)
    refine ⟨a :: Ts, #[.int p.1 t, .int p.2 t'] :: vals, by rw [e1]; rfl, by simp [e2], by simp [e3], fun i T x h1 h2 => ?_, fun i x q h1 h2 => ?_⟩
    · cases i with
      | zero => simp at h1 h2; subst h1 h2; exact hT
      | succ i => exact e4 i T x (by simpa using h1) (by simpa using h2)
    · cases i with
      | zero => simp at h1 h2; subst h1 h2; exact ⟨t, t', rfl⟩
      | succ i => exact e5 i x q (by simpa using h1) (by simpa using h2)
theorem max0 {l : List Int} {M : Int} (h1 : M ∈ 0 :: l) (h2 : ∀ a ∈ 0 :: l, a ≤ M) : l.foldl max 0 = M := foldl_max l 0 M h1 h2
theorem pairs_take {vals : List (Array Value)} {ps : List Itm} {i : Nat} {x : Array Value} (h : vals[i]? = some x) (hl : vals.length = ps.length) : ∃ p, ps[i]? = some p ∧ ps.take (i + 1) = ps.take i ++ [p] := by
  have hi : i < ps.length := hl ▸ (List.getElem?_eq_some_iff.mp h).1
  exact ⟨ps[i], List.getElem?_eq_getElem hi, by rw [List.take_add_one, List.getElem?_eq_getElem hi]; rfl⟩

noncomputable def deepOf (ch : List Itm) : Int := (ch.map (·.2)).foldl max 0
noncomputable def fallOf (ch : List Itm) (x : Int) : Int := 1 + ((ch.filter fun p => decide (x < p.1)).map (·.2)).foldl max 0
noncomputable def choicesM : List Int → List Itm → List Int → List Int
  | [], ch, best => best.set (deepOf ch).toNat (max (best.getD (deepOf ch).toNat 0) ch.length)
  | x :: r, ch, best => choicesM r (ch ++ [(x, fallOf ch x)]) (choicesM r ch best)

theorem choicesM_len : ∀ (r : List Int) (ch : List Itm) (best : List Int), (choicesM r ch best).length = best.length
  | [], ch, best => by rw [choicesM, List.length_set]
  | x :: r, ch, best => by rw [choicesM, choicesM_len r, choicesM_len r]

/-- a list of pairs in the heap -/
def PairsH (h : Heap) (l : Addr) (ps : List Itm) : Prop := ∃ vs, LAt h l vs ∧ ItemsAt true h vs ps

theorem PairsH.keeps {h h' : Heap} {l : Addr} {ps : List Itm} (X : PairsH h l ps) (k : Ext h h') : PairsH h' l ps := by
  refine hold fun hng => ?_
  obtain ⟨vs, ⟨n, h1⟩, h2⟩ := X
  (refine hng ?_; clear hng)
  exact ⟨vs, ⟨n, k _ _ h1⟩, h2.keeps k⟩

/-- what a call of _law_choices does -/
def ChoicesAt (w : World) (mean : ExcName → Option Value) (mg mb : Str → Option Value) (W : Addr) (word : List Int) (vw : List Value) (n k : Nat) : Prop := ∀ {A : Around} {E : Value → Shared → Prop} {Q : Value → Shared → Prop} {s : Shared} {C B : Addr} {ch : List Itm} {best : List Int} {vb : List Value} {t0 : Tok},
    (G : Gd w mean mg mb (hideAll s.heap [B])) → (R : Room A (n + 10) (3 * n + 60)) → (hW : LAt (hideAll s.heap [B]) W vw) → PairsH (hideAll s.heap [B]) C ch → LAt s.heap B vb → IntsAre vb best →
    ch.length ≤ k → (∀ p ∈ ch, 1 ≤ p.2 ∧ p.2 ≤ ch.length) → best.length = word.length + 1 →
    (ret : ∀ h' tk vb', LAt h' B vb' → IntsAre vb' (choicesM (word.drop k) ch best) → But B s.heap h' → Q .none { s with heap := h', toks := tk }) →
    wpAny (model Challenge.rw_sc0001_01.row.prog w) A (call (.ref 84) [.ref W, .int k t0, .ref C, .ref B] []) Q E s

set_option pp.deepTerms false in
set_option pp.maxSteps 3000 in
set_option maxRecDepth 100000 in
set_option maxHeartbeats 4000000 in
theorem choices_step {w : World} {mean mg mb} {W : Addr} {word : List Int} {vw : List Value} (hIw : IntsAre vw word) (hw : word.length < 64) (n k : Nat) (hnk : n + k = word.length)
    (IH : ∀ n', n = n' + 1 → ChoicesAt w mean mg mb W word vw n' (k + 1)) : ChoicesAt w mean mg mb W word vw n k := by
  intro A E Q s C B ch best vb t0 G R hW hC hB hIb hck hch hbl ret
  have G0 := G
  have R0 := R
  obtain ⟨nB, hB⟩ := hB
  obtain ⟨KX, Tp⟩ := G
  refine hold fun hng => ?_
  obtain ⟨hA, hd, hu⟩ := R
  (refine hng ?_; clear hng)
  revert KX; k_fill; intro KX
  refine' call_rwC (fun L => [(Str.ofString "at", L + 2), (Str.ofString "word", L + 1)]) (binds := [("word", .ref W), ("at", .int k t0), ("chosen", .ref C), ("best", .ref B)]) [(B, PySem.W.listOf vb.toArray nB)] KX Tp ?hN ?h1 ?h2 ?h3 ?h4 ?h5 ?h5b ?h6 ?hcl ?c1 ?c2 ?c3
  case hN => simpa using hB
  case h1 => k_is
  case h2 => k_is
  case h3 => (clear hw hnk hck hbl hu; omega)
  case h4 => exact kp_binds (G0.k.keeps (fun b o e => of_hideAll _ e)) (fun _ => rfl)
  case h5 => rfl
  case h5b => decide
  case hcl => intro L; rfl
  case c1 => rfl
  case c2 => rfl
  case c3 => rfl
  case h6 =>
   have TR := topRead_of Tp
   intro L h₁ tk1 cells F N Y hlt
   refine hold fun hng => ?_
   obtain ⟨o1, o2, rfl, d1, d2⟩ := Y.two
   (refine hng ?_; clear hng)
   replace d1 : o1.data = .cell (some (.int k t0)) := d1
   replace d2 : o2.data = .cell (some (.ref W)) := d2
   have fB : (hideAll s.heap [B]).get? B = none := hideAll_none _ (.head _)
   obtain ⟨g, hg⟩ : ∃ g, g = hideAll s.heap [B] := ⟨_, rfl⟩
   change Fr (hideAll s.heap [B]) _ _ _ at F
   change News (hideAll s.heap [B]) _ _ _ at N
   rw [← hg] at F N fB hW hC G0 Tp TR
   replace KX := hg ▸ KX
   replace F : Fr g L h₁ _ := F
   replace N : News g L h₁ [(L + 2, o1), (L + 1, o2), (B, PySem.W.listOf vb.toArray nB)] := N
   obtain ⟨nW, hW1⟩ := hW
   have hWB : g.IsList W vw.toArray := ⟨_, hW1, rfl, nW, rfl⟩
   have hvw : vw.length = word.length := hIw.length
   have hkw : k < 2 ^ 62 := by (clear hck hbl hd hu hvw; omega)
   walk_at "S3"
   walk1
   walk_at "S3"
   · -- all are gone through
     (rename (k : Int) = (word.length : Int) => hkl)
     have hn0 : n = 0 := by (clear hw hck hbl hd hu hvw hkw; omega)
     refine hold fun hng => ?_
     obtain ⟨vc, ⟨nC, hC1⟩, hIc⟩ := hC
     (refine hng ?_; clear hng)
     have hCB : g.IsList C vc.toArray := ⟨_, hC1, rfl, nC, rfl⟩
     refine hold fun hng => ?_
     obtain ⟨Ts, vals, rfl, hTv, hvc, hTT, hval⟩ := pairs_open hIc
     (refine hng ?_; clear hng)
     have hvcl := hIc.1
     refine newList_N F N (fun H3 F3 N3 => ?_)
     dsimp only at N3 ⊢
     (try generalize h₁.objs.size = D1 at N3 ⊢)
     walk_at "S3"
     (refine' compG_eval (cl := []) ?ca2 ?ca3 ?ca4 ?ca5 ?_ ?ca9; (case ca2 => rfl); (case ca3 => decide); (case ca4 => rfl); (case ca5 => decide); (case ca9 => exact fun _ => rfl))
     walk_at "S3"
     refine' src_tups (l := C) (Ts := Ts) (vals := vals) hA ⟨_, F3.keep _ _ hC1, rfl, nC, rfl⟩ rfl hTv (fun i T x h1 h2 => (hTT i T x h1 h2).at fun o e => F3.keep _ _ e) ?sc
     case sc =>
      intro h4 I4 fp4 wr4 P4 Md4 St4 X4 _ hP4
      refine X4.comp (fun i ys _ => IntsAre ys ((ch.take i).map (·.2))) (by rw [hvcl]; (clear hbl hd hu hvw hkw hkl hn0 hTv hvc hvcl; omega)) (fun i ys _ h => by rw [h.length, List.length_map, List.length_take]; (clear hw hnk hck hbl hd hu hvw hkw hkl hn0 hTv hvc hvcl; omega)) .nil ?_ ?_
      · intro g5 C5 fp5 i5 v5 m5 ys5 news5 H5 tk5 own5 eg5 hi5 hPi5 hJ5 hoff5 hown5 hlive5 F5 N5
        refine hold fun hng => ?_
        obtain ⟨T5, x5, rfl, hx5, hT5⟩ := hP4 _ _ _ hPi5 hi5
        (refine hng ?_; clear hng)
        refine hold fun hng => ?_
        obtain ⟨p5, hp5, htk5⟩ := pairs_take hx5 hvc
        (refine hng ?_; clear hng)
        refine hold fun hng => ?_
        obtain ⟨t5, t5', rfl⟩ := hval _ _ _ hx5 hp5
        (refine hng ?_; clear hng)
        refine assign2C hA F5 N5 hT5 (fun H6 tk6 F6 N6 => tests_nil ?_)
        rw [if_pos rfl]
        walk_at "S3"
        refine ⟨_, _, _, _, rfl, F6, N6, hoff5, ?_⟩
        rw [htk5, List.map_append]
        exact hJ5.append (.cons _ _ .nil)
      · intro D6 H6 tk6 ys6 k6 news6 ex6 nw6 hnD6 hJ6
        walk_at "S3"
        rw [List.length_map, hTv, hvc, List.take_length] at hJ6
        have F7 := F3.kept ex6
        have N7 := N3.grown ex6
        refine kmk_add_ints F7 N7 (N7.isList (.head _)) ⟨_, (nw6 _ (.head _)).1, rfl, k6, rfl⟩ (.cons 0 _ .nil) hJ6 (fun D8 us8 h8 F8 N8 _ hI8 => ?_) (by rw [List.length_map, sizeLine_eq]; simp; (clear hbl hd hu hvw hkw hkl hn0 hTv hvc hvcl; omega))
        clear F7 N7 F3 N3
        walk_at "S3"
        refine max_list_N hA F8 N8 (N8.isList (.head _)) hI8 (by simp) (fun h9 M tM tk9 F9 N9 hM1 hM2 => ?_)
        have hM : deepOf ch = M := max0 hM1 hM2
        have hM0 : 0 ≤ M := hM2 0 (by simp)
        have hMk : M ≤ ch.length := by
          rcases List.mem_cons.mp hM1 with e | h
          · (clear hw hnk hck hbl hd hu hvw hkw hkl hn0 hTv hvc hvcl hM hM0; omega)
          · refine hold fun hng => ?_
            obtain ⟨p, hp, e⟩ := List.mem_map.mp h
            (refine hng ?_; clear hng)
            have := (hch p hp).2
            (clear hw hnk hck hbl hd hu hvw hkw hkl hn0 hTv hvc hvcl hM hM0; omega)
        have hvb := hIb.length
        clear F8 N8
        walk_at "S3"
        (rename Fr _ _ _ _ => F9; rename News _ _ _ _ => N9)
        refine ksa_sub N9 (by walk_at "MM") hIb hM0 (by (clear hw hd hu hvw hkw hkl hn0 hTv hvc hvcl hM hM0 hvb; omega)) (by (clear hbl hd hu hvw hkw hkl hn0 hTv hvc hvcl hM hM0 hvb; omega)) (fun t9 => ?_)
        walk_at "S3"
        refine max_two_N hA F9 N9 (fun h10 tk10 F10 N10 => ?_)
        clear F9 N9
        walk_at "S3"
        refine set_put F10 N10 (D := B) (its := vb) (n := nB) (by walk_at "MM") hM0 (by (clear hbl hd hu hvw hkw hkl hn0 hTv hvc hvcl hM hM0 hvb; omega)) (by (clear hw hd hu hvw hkw hkl hn0 hTv hvc hvcl hM hM0; omega)) (fun h11 k11 F11 N11 => ?_)
        walk_at "S3"
        have hget := (N11 _ (put_mem (D := B) (by walk_at "MM"))).1
        refine ret h11 _ _ ⟨nB, hget⟩ ?_ (fun b o hb e => F11.keep _ _ (hg ▸ hideAll_get _ e (by simpa using hb)))
        rw [List.drop_eq_nil_of_le (by (clear hw hnk hck hbl hd hu hvw hkw hn0 hTv hvc hvcl hM hM0 hMk hvb; omega)), choicesM, hM]
        have emax : max (best.getD M.toNat 0) (ch.length : Int) = (if (ch.length : Int) > best.getD M.toNat 0 then (ch.length : Int) else best.getD M.toNat 0) := by split <;> (clear hw hnk hck hbl hd hu hvw hkw hkl hn0 hTv hvc hvcl hM hM0 hMk hvb; omega)
        rw [emax]
        exact ints_set hIb M.toNat
   · -- one more letter
     (rename (k : Int) ≠ (word.length : Int) => hkl)
     obtain ⟨n', rfl⟩ : ∃ n', n = n' + 1 := ⟨n - 1, by (clear hw hck hbl hd hu hvw hkw; omega)⟩
     have IH := @IH n' rfl
     have hkl' : k < word.length := by (clear hw hck hbl hvw hkw hkl hd hu; omega)
     refine hold fun hng => ?_
     obtain ⟨vc, ⟨nC, hC1⟩, hIc⟩ := hC
     (refine hng ?_; clear hng)
     have hCB : g.IsList C vc.toArray := ⟨_, hC1, rfl, nC, rfl⟩
     refine hold fun hng => ?_
     obtain ⟨Ts, vals, hvcT, hTv, hvc, hTT, hval⟩ := pairs_open hIc
     (refine hng ?_; clear hng)
     have hvcl := hIc.1
     refine newList_N F N (fun H3 F3 N3 => ?_)
     dsimp only at N3 ⊢
     (try generalize h₁.objs.size = D1 at N3 ⊢)
     walk_at "S3"
     (refine' compG_eval ?ca2 ?ca3 ?ca4 ?ca5 ?_ ?ca9; (case ca2 => rfl); (case ca3 => decide); (case ca4 => rfl); (case ca5 => decide); (case ca9 => exact fun _ => rfl))
     walk_at "S3"
     refine' src_tups (l := C) (Ts := Ts) (vals := vals) (vs := vc) hA ⟨_, F3.keep _ _ hC1, rfl, nC, rfl⟩ hvcT hTv (fun i T x h1 h2 => (hTT i T x h1 h2).at fun o e => F3.keep _ _ e) ?sc
     case sc =>
      intro h4 I4 fp4 wr4 P4 Md4 St4 X4 _ hP4
      refine X4.comp (fun i ys _ => IntsAre ys (((ch.take i).filter fun p => decide (word.getD k 0 < p.1)).map (·.2))) (by rw [hvcl]; (clear hbl hvw hkw hkl hd hu hkl' hTv hvc hvcl; omega)) (fun i ys _ h => by rw [h.length, List.length_map]; exact Nat.le_trans (List.length_filter_le _ _) (by rw [List.length_take]; (clear hw hck hbl hvw hkw hkl hnk hd hu hkl' hTv hvc hvcl; omega))) .nil ?_ ?_
      · intro g5 C5 fp5 i5 v5 m5 ys5 news5 H5 tk5 own5 eg5 hi5 hPi5 hJ5 hoff5 hown5 hlive5 F5 N5
        refine hold fun hng => ?_
        obtain ⟨T5, x5, rfl, hx5, hT5⟩ := hP4 _ _ _ hPi5 hi5
        (refine hng ?_; clear hng)
        refine hold fun hng => ?_
        obtain ⟨p5, hp5, htk5⟩ := pairs_take hx5 hvc
        (refine hng ?_; clear hng)
        refine hold fun hng => ?_
        obtain ⟨t5, t5', rfl⟩ := hval _ _ _ hx5 hp5
        (refine hng ?_; clear hng)
        have hc1 : g5.get? (L + 2) = some o1 := eg5 _ _ (N3 (L + 2, o1) (by walk_at "MM")).1
        have hc2 : g5.get? (L + 1) = some o2 := eg5 _ _ (N3 (L + 1, o2) (by walk_at "MM")).1
        have hW5 : g5.IsList W vw.toArray := ⟨_, eg5 _ _ (F3.keep _ _ hW1), rfl, nW, rfl⟩
        refine assign2C hA F5 N5 hT5 (fun H6 tk6 F6 N6 => tests_one ?_)
        walk_at "S3"
        refine item_any (vs := vw) ⟨_, F6.keep _ _ (eg5 _ _ (F3.keep _ _ hW1)), rfl, nW, rfl⟩ (by (clear hw hck hbl hvw hkw hkl hnk hd hu hkl' hTv hvc hvcl hi5; omega)) (by (clear hw hck hbl hkw hkl hd hu hkl' hTv hvc hvcl hi5; omega)) (by (clear hw hck hbl hvw hkl hnk hd hu hkl' hTv hvc hvcl hi5; omega)) (fun v9 hv9 => ?_) (by with_unfolding_all rfl)
        refine hold fun hng => ?_
        obtain ⟨nw, tw, rfl, hnw⟩ := hIw.at _ _ hv9
        (refine hng ?_; clear hng)
        have enw : word.getD k 0 = nw := by
          rw [Int.toNat_natCast] at hnw
          rw [List.getD_eq_getElem?_getD, hnw]; rfl
        walk_at "S3"
        · (rename nw < p5.1 => hlt5)
          refine ⟨_, _, _, _, rfl, F6, N6, hoff5, ?_⟩
          rw [htk5, List.filter_append, List.map_append, enw, List.filter_cons_of_pos (by simpa using hlt5)]
          rw [enw] at hJ5
          exact hJ5.append (.cons _ _ .nil)
        · (rename ¬ nw < p5.1 => hlt5)
          refine ⟨_, _, _, _, rfl, F6, N6, hoff5, ?_⟩
          rw [htk5, List.filter_append, List.map_append, enw, List.filter_cons_of_neg (by simpa using hlt5)]
          rw [enw] at hJ5
          simpa using hJ5
      · intro D6 H6 tk6 ys6 k6 news6 ex6 nw6 hnD6 hJ6
        walk_at "S3"
        rw [hvcl, List.take_length] at hJ6
        have F7 := F3.kept ex6
        have N7 := N3.grown ex6
        refine kmk_add_ints F7 N7 (N7.isList (.head _)) ⟨_, (nw6 _ (.head _)).1, rfl, k6, rfl⟩ (.cons 0 _ .nil) hJ6 (fun D8 us8 h8 F8 N8 _ hI8 => ?_) (by
          have := List.length_filter_le (fun p : Itm => decide (word.getD k 0 < p.1)) ch
          rw [List.length_map, sizeLine_eq]; simp only [List.length_cons, List.length_nil]; (clear hbl hvw hkw hkl hd hu hkl' hTv hvc hvcl; omega))
        clear F7 N7 F3 N3
        walk_at "S3"
        refine max_list_N hA F8 N8 (N8.isList (.head _)) hI8 (by simp) (fun h9 M tM tk9 F9 N9 hM1 hM2 => ?_)
        have hM : fallOf ch (word.getD k 0) = 1 + M := congrArg (1 + ·) (max0 hM1 hM2)
        have hM0 : 0 ≤ M := hM2 0 (by simp)
        have hMk : M ≤ ch.length := by
          rcases List.mem_cons.mp hM1 with e | h
          · (clear hw hck hbl hvw hkw hkl hnk hd hu hkl' hTv hvc hvcl hM hM0; omega)
          · refine hold fun hng => ?_
            obtain ⟨p, hp, e⟩ := List.mem_map.mp h
            (refine hng ?_; clear hng)
            have := (hch p (List.mem_filter.mp hp).1).2
            (clear hw hck hbl hvw hkw hkl hnk hd hu hkl' hTv hvc hvcl hM hM0; omega)
        have hvb := hIb.length
        clear F8 N8
        walk_at "S3"
        (rename Fr _ _ _ _ => F9; rename News _ _ _ _ => N9)
        have ek1 : ((k : Int) + 1) = ((k + 1 : Nat) : Int) := by (clear hw hck hbl hvw hkw hkl hnk hd hu hkl' hTv hvc hvcl hM hM0 hMk hvb; omega)
        rw [ek1]
        have hBL : B < L := hlt _ (.head _)
        refine cutp (fun G => ∀ NL, News g L _ NL → (B, PySem.W.listOf vb.toArray nB) ∈ NL → (L + 2, o1) ∈ NL → (L + 1, o2) ∈ NL → G) (fun G kk => kk _ N9 (by walk_at "MM") (by walk_at "MM") (by walk_at "MM")) ?_
        rintro NL N9' hmB hm1 hm2
        clear N9
        have X9 := ext_hide (as := [B]) F9.keep (by simpa using fB)
        refine IH (C := C) (B := B) (ch := ch) (best := best) (vb := vb) (G0.keeps X9) ((R0.le (d' := n' + 10 + 1) (u' := 3 * n' + 60 + 3)).deeper _) ⟨nW, X9 _ _ hW1⟩ (PairsH.keeps ⟨vc, ⟨nC, hC1⟩, hIc⟩ X9) ⟨nB, (N9' _ hmB).1⟩ hIb (by (clear hw hbl hvw hkw hkl hnk hd hu hkl' hTv hvc hvcl hM hM0 hMk hvb ek1 hBL; omega)) hch hbl ?_
        intro h10 tk10 vb1 hB1 hIb1 kb1
        obtain ⟨nB1, hB1⟩ := hB1
        have F10 := Fr.chg F9 N9' hmB kb1
        have N10 := News.chg N9' hmB kb1 hB1
        have hmB1 := put_mem (o := PySem.W.listOf vb1.toArray nB1) hmB
        have hm3 := put_mem_ne (o := PySem.W.listOf vb1.toArray nB1) hm1 (Nat.ne_of_gt (Nat.lt_trans hBL (Nat.lt_add_of_pos_right (by decide))))
        have hm4 := put_mem_ne (o := PySem.W.listOf vb1.toArray nB1) hm2 (Nat.ne_of_gt (Nat.lt_trans hBL (Nat.lt_add_of_pos_right (by decide))))
        have hvb1 := hIb1.length
        generalize put NL B (PySem.W.listOf vb1.toArray nB1) = NL1 at *
        clear hm1 hm2 hmB N9' F9
        walk_at "S3"
        refine item_any (vs := vw) ⟨_, F10.keep _ _ hW1, rfl, nW, rfl⟩ (by (clear hw hck hbl hvw hkw hkl hnk hd hu hkl' hTv hvc hvcl hM hM0 hMk hvb ek1 hBL hvb1; omega)) (by (clear hw hck hbl hkw hkl hd hu hkl' hTv hvc hvcl hM hM0 hMk hvb ek1 hBL hvb1; omega)) (by (clear hw hck hbl hvw hkl hnk hd hu hkl' hTv hvc hvcl hM hM0 hMk hvb ek1 hBL hvb1; omega)) (fun v9 hv9 => ?_) (by with_unfolding_all rfl)
        refine hold fun hng => ?_
        obtain ⟨nw, tw, rfl, hnw⟩ := hIw.at _ _ hv9
        (refine hng ?_; clear hng)
        have enw : word.getD k 0 = nw := by
          rw [Int.toNat_natCast] at hnw
          rw [List.getD_eq_getElem?_getD, hnw]; rfl
        walk_at "S3"
        (rename Addr => DT)
        (rename Fr _ _ _ _ => F11; rename News _ _ _ _ => N11; rename ∀ (p : Addr × Obj), p ∈ NL1 → p.1 < DT => lt11)
        refine newList_N F11 N11 (fun h12 F12 N12 => ?_)
        dsimp only at N12 ⊢
        have hBh : B < h12.objs.size := Heap.lt_size (N12 _ (.tail _ (.tail _ hmB1))).1
        walk_at "S3"
        (rename Fr _ _ _ _ => F13; rename News _ _ _ _ => N13)
        generalize h12.objs.size = D5 at *
        rw [ek1]
        have X13 := ext_hide (as := [B]) F13.keep (by simpa using fB)
        refine hold fun hng => ?_
        obtain ⟨NL2, N14, hmB2, hmD5, hmDT⟩ : ∃ NL2, News g L _ NL2 ∧ (B, PySem.W.listOf vb1.toArray nB1) ∈ NL2 ∧ (D5, ({ cls := Value.type "list", data := Data.seq (vc ++ [Value.ref DT]).toArray } : Obj)) ∈ NL2 ∧ (DT, ({ cls := Value.type "tuple", data := Data.seq #[Value.int nw tw, Value.int (1 + M) tk9] } : Obj)) ∈ NL2 :=
          ⟨_, N13, .tail _ (.tail _ (.tail _ hmB1)), .head _, .tail _ (.tail _ (.head _))⟩
        (refine hng ?_; clear hng)
        clear N13
        have hBD : D5 ∉ [B] := by simpa using Nat.ne_of_gt hBh
        have hBT : DT ∉ [B] := by simpa using Nat.ne_of_gt (lt11 _ hmB1)
        have hT5 := hideAll_get _ (N14 _ hmDT).1 hBT
        have hL5 := hideAll_get _ (N14 _ hmD5).1 hBD
        have hch2 : PairsH _ D5 (ch ++ [(nw, 1 + M)]) := ⟨vc ++ [Value.ref DT], ⟨0, hL5⟩, (hIc.keeps X13).snoc ⟨DT, tw, tk9, rfl, ⟨_, hT5, rfl, 0, rfl⟩⟩⟩
        refine IH (C := D5) (B := B) (ch := ch ++ [(nw, 1 + M)]) (vb := vb1) (G0.keeps X13) ((R0.le (d' := n' + 10 + 1) (u' := 3 * n' + 60 + 3)).deeper _) ⟨nW, X13 _ _ hW1⟩ hch2 ⟨nB1, (N14 _ hmB2).1⟩ hIb1 (by simp; omega) ?_ (by rw [choicesM_len]; exact hbl) ?_
        · intro p hp
          rw [List.length_append]
          rcases List.mem_append.mp hp with hp | hp
          · have := hch p hp
            simp only [List.length_cons, List.length_nil]; (clear hw hck hbl hvw hkw hkl hnk hd hu hkl' hTv hvc hvcl hM hM0 hMk hvb ek1 hBL hvb1 enw hBh; omega)
          · rw [List.mem_singleton.mp hp]
            simp only [List.length_cons, List.length_nil]; (clear hw hck hbl hvw hkw hkl hnk hd hu hkl' hTv hvc hvcl hM hvb ek1 hBL hvb1 enw hBh; omega)
        · intro h14 tk14 vb2 hB2 hIb2 kb2
          obtain ⟨nB2, hB2⟩ := hB2
          have F14 := Fr.chg F13 N14 hmB2 kb2
          walk_at "S3"
          refine ret h14 _ _ ⟨nB2, hB2⟩ ?_ (fun b o hb e => F14.keep _ _ (hg ▸ hideAll_get _ e (by simpa using hb)))
          have edr : word.drop k = nw :: word.drop (k + 1) := by
            rw [List.drop_eq_getElem_cons hkl']
            congr 1
            rw [Int.toNat_natCast] at hnw
            exact Option.some.inj ((List.getElem?_eq_getElem hkl').symm.trans hnw)
          rw [edr, choicesM, ← enw, hM, enw]
          exact hIb2

theorem choices_all {w : World} {mean mg mb} {W : Addr} {word : List Int} {vw : List Value} (hIw : IntsAre vw word) (hw : word.length < 64) : ∀ n k, n + k = word.length → ChoicesAt w mean mg mb W word vw n k := by
  intro n
  induction n with
  | zero =>
    intro k h
    have := @choices_step w mean mg mb W word vw hIw hw 0 k h (by intro n' e; cases e)
    exact @this
  | succ n ih =>
    intro k h
    have := @choices_step w mean mg mb W word vw hIw hw (n + 1) k h (by
      intro n' e
      cases e
      have := @ih (k + 1) (by omega)
      exact @this)
    exact @this

-- part C2
theorem offC2 : True := by w_top off; trivial
theorem newEnv_one {M : Model} {A : Around} {E : Value → Shared → Prop} {s : Shared} {scope : Scope} {globals : Addr} {cl : List (Str × Addr)} {qual : Str} {env : Env} {x : Str} {Q : Env → Shared → Prop} (hc1 : ∀ n acc, cellsFrom n scope.names acc = (x, n) :: acc) (hp1 : ∀ h, pushCells h scope.names = h.push { cls := .type "cell", data := .cell none })
    (hQ : Q (newEnv scope s.heap.objs.size globals ((x, s.heap.objs.size + 1) :: cl) qual none .none (some env) builtinsNs) { s with heap := (s.heap.push { cls := .type "dict", data := .dict #[] }).push { cls := .type "cell", data := .cell none } }) :
    wpAny M A (newFunctionEnv scope globals cl [] qual none .none (some env)) Q E s := by
  simp only [newFunctionEnv, Option.isSome_some, if_true]
  refine wpAny_bind (wpAny_alloc ?_)
  refine wpAny_bind (wpAny_layCells _ (fun name kind cells => by cases hkc : kind == NameKind.cell <;> simp [hkc]) _ _ _ _ ?_)
  rw [hc1, hp1]
  dsimp only
  rw [Heap.size_push]
  refine wpAny_bind ?_
  rw [List.forIn_nil]
  exact wpAny_pure (wpAny_pure hQ)

section
variable {prog : Program} {w : World} {A : Around} {E : Value → Shared → Prop} {env : Env}

/-- the block of a comprehension, over a source that stands -/
theorem comp1_core {elt target iter : PySem.Expr} {ifs : List PySem.Expr} {scope : Scope} {cl : List (Str × Addr)} {pos : Pos} {s₂ : Shared} {I : Addr} {fp wr : List Addr} {n : Nat} {P Md : Nat → Value → Heap → Prop} {St : Nat → Heap → Prop}
    (S : Src prog w A target I fp wr n P Md St) (hsz : n ≤ 2 ^ 20) (J : Addr → Nat → List Value → List (Addr × Obj) → Prop) {RR : Value → Addr → Result → Shared → Prop}
    {x : Str} (hc1 : ∀ n acc, cellsFrom n scope.names acc = (x, n) :: acc) (hp1 : ∀ h, pushCells h scope.names = h.push { cls := .type "cell", data := .cell none }) (hkind : scope.kind = .function) (hst : St 0 s₂.heap) (hfp : ∀ b ∈ fp, b < s₂.heap.objs.size) (hlive : ∀ i h, St i h → ∀ b ∈ fp, ∃ o, h.get? b = some o)
    (hJl : ∀ C i ys news, J C i ys news → ys.length ≤ i) (h0 : ∀ C, J C 0 [] [(C + 1, { cls := .type "cell", data := .cell none })])
    (turn : ∀ (C : Addr) (fpD : List Addr) (i : Nat) (v : Value) m₁ ys news₁ H tk own, i < n → P i v H → J C i ys news₁ → (∀ p ∈ news₁, p.1 ∉ fpD) → (∀ p ∈ own, p.1 ∈ fpD) → (∀ b ∈ fpD, (∃ o, (hideAll s₂.heap wr).get? b = some o) ∨ ∃ o, (b, o) ∈ own) →
      Fr (hideAll s₂.heap wr) C H m₁ → News (hideAll s₂.heap wr) C H (own ++ news₁) →
      wpAny (model prog w) A (assign target (compEnvC scope ((x, C + 1) :: cl) C env) v) (fun _ s' => wpAny (model prog w) A (testsOf ifs (compEnvC scope ((x, C + 1) :: cl) C env)) (fun ok s'' =>
        if ok = true then wpAny (model prog w) A (eval elt (compEnvC scope ((x, C + 1) :: cl) C env)) (fun y s₄ => EltJ (hideAll s₂.heap wr) C fpD own (J C (i + 1) (ys ++ [y])) s₂ s₄) (fun _ _ => False) s''
        else EltJ (hideAll s₂.heap wr) C fpD own (J C (i + 1) ys) s₂ s'') (fun _ _ => False) s') (fun _ _ => False) { s₂ with heap := H, toks := tk })
    (hRR : ∀ D C H tk m' ys k news, H.Ns C m' → s₂.heap.get? C = none → D ≠ C → News (hideAll s₂.heap wr) C H ((D, PySem.W.listOf ys.toArray k) :: news) → Ext (hideAll s₂.heap wr) H → (∀ p ∈ news, p.1 ≠ D) → J C n ys news → RR (.ref D) C (.ok .next) { s₂ with heap := H, toks := tk }) :
    wpAny (model prog w) A (newList []) (fun acc s₃ => wpAny (model prog w) A (newFunctionEnv scope env.globals cl [] env.qual none .none (some env)) (fun cenv s₄ =>
      codeAny (model prog w) A (.compStart (.ListComp elt [⟨target, iter, ifs, 0⟩] scope pos) 0 (.ref I) acc { cenv with scope := relabel scope env }) (RR acc cenv.locals) s₄) E s₃) E s₂ := by
  obtain ⟨W, self⟩ := S
  refine wpAny_newObj_type (newEnv_one hc1 hp1 ?_)
  dsimp only
  generalize hH2 : s₂.heap.push { cls := .type "list", dict := none, data := .seq ([] : List Value).toArray } = H2
  have hC : H2.objs.size = s₂.heap.objs.size + 1 := by rw [← hH2, Heap.size_push]
  generalize hCe : H2.objs.size = C at *
  generalize hDe : s₂.heap.objs.size = D at *
  generalize hh₁ : (H2.push { cls := .type "dict", data := .dict #[] }).push { cls := .type "cell", data := .cell none } = h₁
  have hDC : D ≠ C := by rw [hC]; exact Nat.ne_of_lt (Nat.lt_succ_self _)
  have hDf : D ∉ fp := fun hm => Nat.lt_irrefl _ (hfp _ hm)
  have hCf : C ∉ fp := fun hm => by have := hfp _ hm; rw [hC] at this; exact Nat.lt_irrefl _ (Nat.lt_of_succ_lt this)
  have hcf : C + 1 ∉ fp := fun hm => by have := hfp _ hm; rw [hC] at this; exact Nat.lt_irrefl _ (Nat.lt_of_succ_lt (Nat.lt_of_succ_lt this))
  have hcD : C + 1 ≠ D := by rw [hC]; exact Nat.ne_of_gt (Nat.lt_succ_of_lt (Nat.lt_succ_self _))
  have fresh : ∀ a, D ≤ a → s₂.heap.get? a = none := fun a ha => by
    cases e : s₂.heap.get? a with
    | none => rfl
    | some o' => exact absurd (Heap.lt_size e) (Nat.not_lt.mpr (hDe ▸ ha))
  have gfresh : ∀ a, D ≤ a → (hideAll s₂.heap wr).get? a = none := fun a ha => by
    cases e : (hideAll s₂.heap wr).get? a with
    | none => rfl
    | some o' => have := of_hideAll _ e; rw [fresh a ha] at this; cases this
  have old : Ext s₂.heap h₁ := fun b o e => hh₁ ▸ Heap.get?_push_of_some _ (Heap.get?_push_of_some _ (hH2 ▸ Heap.get?_push_of_some _ e))
  have hacc : h₁.get? D = some (PySem.W.listOf #[] 0) := hh₁ ▸ Heap.get?_push_of_some _ (Heap.get?_push_of_some _ (hH2 ▸ (hDe ▸ Heap.get?_push_size _ rfl)))
  have hcg : h₁.get? (C + 1) = some { cls := .type "cell", data := .cell none } := by
    have := Heap.get?_push_size (H2.push { cls := .type "dict", data := .dict #[] }) (o := { cls := .type "cell", data := .cell none }) rfl
    rw [Heap.size_push, hCe, hh₁] at this
    exact this
  have hns₁ : h₁.Ns C (fun _ => none) := by
    have := Heap.Ns.new H2 (.type "dict")
    rw [hCe] at this
    exact hh₁ ▸ this.keeps fun b o e => Heap.get?_push_of_some _ e
  have hst₁ : St 0 h₁ := W.frame _ _ _ hst fun b _ o e => old b o e
  have hg : (hideAll s₂.heap wr).objs.size ≤ C := by rw [hideAll_size, hDe, hC]; exact Nat.le_succ _
  have loop : ∀ s₃ : Shared, s₃ = { s₂ with heap := h₁ } →
      codeAny (model prog w) A (.compLoop (.ListComp elt [⟨target, iter, ifs, 0⟩] scope pos) 0 (.ref I) (.ref D) (compEnvC scope ((x, C + 1) :: cl) C env)) (RR (.ref D) C) s₃ := by
    rintro s₃ rfl
    refine compLoop_go
      (fun k s' => ∃ H tk m' ys kD news i, s' = { s₂ with heap := H, toks := tk } ∧ St i H ∧ H.get? D = some (PySem.W.listOf ys.toArray kD) ∧ H.Ns C m' ∧ Ext (hideAll s₂.heap wr) H ∧
        (∀ p ∈ news, H.get? p.1 = some p.2 ∧ p.1 ≠ C ∧ (hideAll s₂.heap wr).get? p.1 = none) ∧ (∀ p ∈ news, p.1 ∉ D :: fp) ∧ J C i ys news ∧ i ≤ n ∧ k = n + 1 - i) ?_ (n + 1)
      ⟨h₁, _, _, [], 0, [(C + 1, { cls := .type "cell", data := .cell none })], 0, rfl, hst₁, hacc, hns₁, fun b o e => old b o (of_hideAll _ e), ?_, ?_, h0 C, Nat.zero_le _, rfl⟩
    rotate_left
    · intro p hp
      rw [List.mem_singleton.mp hp]
      exact ⟨hcg, Nat.succ_ne_self _, gfresh _ (by rw [hC]; exact Nat.le_succ_of_le (Nat.le_succ _))⟩
    · intro p hp hm
      rw [List.mem_singleton.mp hp] at hm
      rcases List.mem_cons.mp hm with e | hm
      · exact hcD e
      · exact hcf hm
    rintro k s' hz1
    refine hold fun hng => ?_
    obtain ⟨H, tk, m', ys, kD, news, i, rfl, hst', hD', hn', hk, hN, hoff, hJ, hi, rfl⟩ := hz1
    (refine hng ?_; clear hng)
    have hCw : C ∉ wr := fun h => hCf (W.sub _ h)
    have hDw : D ∉ wr := fun h => hDf (W.sub _ h)
    have hCl : C < H.objs.size := hn'.lt
    by_cases hlt : i < n
    · refine W.item i _ _ _ hlt hst' fun v h₀' tk₁ hMd hk₀ => ?_
      refine W.go i v _ _ _ hMd fun h₁' hPv hst₁' hk₀' => ?_
      have hk₁ : ∀ b o, b ∉ wr → H.get? b = some o → h₁'.get? b = some o := fun b o hb e => hk₀' b o hb (hk₀ b o hb e)
      have gw : ∀ b ∈ wr, (hideAll s₂.heap wr).get? b = none := fun b hb => hideAll_none _ hb
      have hk' : Ext (hideAll s₂.heap wr) h₁' := fun b o e => hk₁ b o (fun hb => by rw [gw b hb] at e; cases e) (hk b o e)
      have hD1 : h₁'.get? D = some (PySem.W.listOf ys.toArray kD) := hk₁ _ _ hDw hD'
      have F₁ : Fr (hideAll s₂.heap wr) C h₁' m' := ⟨hn'.at' fun o e => hk₁ _ o hCw e, hk', hg⟩
      have N₁ : News (hideAll s₂.heap wr) C h₁' (((D, PySem.W.listOf ys.toArray kD) :: ownOf (hideAll s₂.heap wr) fp h₁') ++ news) := fun p hp => by
        rcases List.mem_append.mp hp with hp | hp
        · rcases List.mem_cons.mp hp with rfl | hp
          · exact ⟨hD1, hDC, gfresh _ (Nat.le_refl _)⟩
          · exact news_ownOf hCf p hp
        · have z := hN p hp
          exact ⟨hk₁ _ _ (fun hb => hoff p hp (.tail _ (W.sub _ hb))) z.1, z.2⟩
      have fin : ∀ {J'} {s₄ : Shared}, EltJ (hideAll s₂.heap wr) C (D :: fp) ((D, PySem.W.listOf ys.toArray kD) :: ownOf (hideAll s₂.heap wr) fp h₁') J' s₂ s₄ →
          ∃ H' tk' m₂ news₂, s₄ = { s₂ with heap := H', toks := tk' } ∧ St (i + 1) H' ∧ H'.get? D = some (PySem.W.listOf ys.toArray kD) ∧ H'.Ns C m₂ ∧ Ext (hideAll s₂.heap wr) H' ∧
            (∀ p ∈ news₂, H'.get? p.1 = some p.2 ∧ p.1 ≠ C ∧ (hideAll s₂.heap wr).get? p.1 = none) ∧ (∀ p ∈ news₂, p.1 ∉ D :: fp) ∧ J' news₂ := by
        rintro J' s₄ hz1
        refine hold fun hng => ?_
        obtain ⟨H', tk', m₂, news₂, rfl, F₂, N₂, o₂, j₂⟩ := hz1
        (refine hng ?_; clear hng)
        refine ⟨H', tk', m₂, news₂, rfl, W.frame _ _ _ hst₁' fun b hb o e => ?_, (N₂ _ (.head _)).1, F₂.ns, F₂.keep, fun p hp => N₂ p (List.mem_append_right _ hp), o₂, j₂⟩
        cases hgn : (hideAll s₂.heap wr).get? b with
        | some o₀ =>
          have e1 := hk' b o₀ hgn
          rw [e] at e1
          cases e1
          exact F₂.keep b o hgn
        | none => exact (N₂ _ (List.mem_append_left _ (.tail _ (mem_ownOf hb hgn e)))).1
      have T := turn C (D :: fp) i v m' ys news h₁' tk₁ ((D, PySem.W.listOf ys.toArray kD) :: ownOf (hideAll s₂.heap wr) fp h₁') hlt hPv hJ hoff
        (fun p hp => by
          rcases List.mem_cons.mp hp with rfl | hp
          · exact .head _
          · exact .tail _ (ownOf_sub p hp))
        (fun b hb => by
          rcases List.mem_cons.mp hb with rfl | hb
          · exact .inr ⟨_, .head _⟩
          · obtain ⟨o, e⟩ := hlive _ _ hst₁' b hb
            cases hgn : (hideAll s₂.heap wr).get? b with
            | some o₀ => exact .inl ⟨_, rfl⟩
            | none => exact .inr ⟨_, .tail _ (mem_ownOf hb hgn e)⟩)
        F₁ N₁
      refine wpAny_mono T (fun _ s₃ h₃ => ?_) fun _ _ f => f.elim
      refine wpAny_mono h₃ (fun ok s₄ h₄ => ?_) fun _ _ f => f.elim
      cases ok with
      | false =>
        simp only [Bool.false_eq_true, if_false] at h₄ ⊢
        refine hold fun hng => ?_
        obtain ⟨H', tk', m₂, news₂, rfl, st', d', ns', ex', n', o', j'⟩ := fin h₄
        (refine hng ?_; clear hng)
        exact ⟨n + 1 - (i + 1), by (clear hsz hCe hDe hC hDC hcD hg hi hCl; omega), H', tk', m₂, ys, kD, news₂, i + 1, rfl, st', d', ns', ex', n', o', j', hlt, rfl⟩
      | true =>
        simp only [if_true] at h₄ ⊢
        refine wpAny_mono h₄ (fun y s₅ h₅ => ?_) fun _ _ f => f.elim
        refine hold fun hng => ?_
        obtain ⟨H', tk', m₂, news₂, rfl, st', d', ns', ex', n', o', j'⟩ := fin h₅
        (refine hng ?_; clear hng)
        have hyl : ys.length ≤ 2 ^ 20 := by have := hJl _ _ _ _ hJ; (clear hCe hDe hC hDC hcD hg hi hCl; omega)
        refine append_at d' (fun h₆ hs₆ e₆ => ?_) (by rw [List.size_toArray, sizeLine_eq]; (clear hsz hCe hDe hC hDC hcD hg hi hCl hlt; omega))
        have kb := But.of_same hs₆
        refine ⟨n + 1 - (i + 1), by (clear hsz hCe hDe hC hDC hcD hg hi hCl hyl; omega), h₆, tk', m₂, ys ++ [y], kD + 1, news₂, i + 1, rfl, W.frame _ _ _ st' fun b hb o e => kb b o (fun c => hDf (c ▸ hb)) e, by rw [e₆]; simp, ns'.sameBut hs₆ (Ne.symm hDC), fun b o e => kb b o (fun c => ?_) (ex' b o e), fun p hp => ⟨kb _ _ (fun c => o' p hp (c ▸ .head _)) (n' p hp).1, (n' p hp).2⟩, o', j', hlt, rfl⟩
        rw [c, gfresh D (Nat.le_refl _)] at e; cases e
    · have hin : i = n := by (clear hsz hCe hDe hC hDC hcD hg hCl; omega)
      subst hin
      refine W.done _ _ _ hst' fun h₁' tk₁ hk₁ => ?_
      have gw : ∀ b ∈ wr, (hideAll s₂.heap wr).get? b = none := fun b hb => hideAll_none _ hb
      refine hRR D C h₁' tk₁ m' ys kD news (hn'.at' fun o e => hk₁ _ o hCw e) (fresh C (by rw [hC]; exact Nat.le_succ _)) hDC (fun p hp => ?_) (fun b o e => hk₁ b o (fun hb => by rw [gw b hb] at e; cases e) (hk b o e)) (fun p hp c => hoff p hp (c ▸ .head _)) hJ
      rcases List.mem_cons.mp hp with rfl | hp
      · exact ⟨hk₁ _ _ hDw hD', hDC, gfresh _ (Nat.le_refl _)⟩
      · have z := hN p hp
        exact ⟨hk₁ _ _ (fun hb => hoff p hp (.tail _ (W.sub _ hb))) z.1, z.2⟩
  have L := loop _ rfl
  exact codeAny_compStart_list L (self 0 _ _ _ hst₁ L)


/-- a comprehension whose name is a cell -/
theorem comp1_eval {elt target iter : PySem.Expr} {ifs : List PySem.Expr} {scope : Scope} {cl : List (Str × Addr)} {pos : Pos} {s : Shared} {x : Str} {Q : Value → Shared → Prop}
    (hclos : closureFor scope env = pure cl) (hc1 : ∀ n acc, cellsFrom n scope.names acc = (x, n) :: acc) (hp1 : ∀ h, pushCells h scope.names = h.push { cls := .type "cell", data := .cell none }) (hkind : scope.kind = .function)
    (hnames : ∀ y ∈ scope.names, y.2 = .local → scope.names.lookup y.1 = some .local)
    (h : wpAny (model prog w) A (eval iter env) (fun xv s₁ => wpAny (model prog w) A (pyIter xv) (fun it s₂ => ∃ g h' I fp wr n P Md St tk0, it = .ref I ∧ s₂ = { s₁ with heap := h', toks := tk0 } ∧ g = s₁.heap ∧ Made prog w A target g h' I fp wr n P Md St ∧ n ≤ 2 ^ 20 ∧
      ∃ J : Addr → Nat → List Value → List (Addr × Obj) → Prop, (∀ C i ys news, J C i ys news → ys.length ≤ i) ∧ (∀ C, J C 0 [] [(C + 1, { cls := .type "cell", data := .cell none })]) ∧
      (∀ (g : Heap) (C : Addr) (fpD : List Addr) (i : Nat) (v : Value) m₁ ys news₁ H tk own, Ext s₁.heap g → i < n → P i v H → J C i ys news₁ → (∀ p ∈ news₁, p.1 ∉ fpD) → (∀ p ∈ own, p.1 ∈ fpD) → (∀ b ∈ fpD, (∃ o, g.get? b = some o) ∨ ∃ o, (b, o) ∈ own) →
        Fr g C H m₁ → News g C H (own ++ news₁) →
        wpAny (model prog w) A (assign target (compEnvC scope ((x, C + 1) :: cl) C env) v) (fun _ s' => wpAny (model prog w) A (testsOf ifs (compEnvC scope ((x, C + 1) :: cl) C env)) (fun ok s'' =>
          if ok = true then wpAny (model prog w) A (eval elt (compEnvC scope ((x, C + 1) :: cl) C env)) (fun y s₄ => EltJ g C fpD own (J C (i + 1) (ys ++ [y])) s₁ s₄) (fun _ _ => False) s''
          else EltJ g C fpD own (J C (i + 1) ys) s₁ s'') (fun _ _ => False) s') (fun _ _ => False) { s₁ with heap := H, toks := tk }) ∧
      ∀ D C H tk ys k news, Ext s₁.heap H → Newer s₁.heap H ((D, PySem.W.listOf ys.toArray k) :: news) → (∀ p ∈ news, p.1 ≠ D) → J C n ys news → Q (.ref D) { s₁ with heap := H, toks := tk }) E s₁) E s)
    (hs : ∀ x, foldedSetIterable iter env x = pure x := by intro _; rfl) :
    wpAny (model prog w) A (eval (.ListComp elt [⟨target, iter, ifs, 0⟩] scope pos) env) Q E s := by
  rw [eval_ListComp]
  refine wpAny_comprehension_free (use := none) rfl hs hclos hkind hnames (wpAny_mono h (fun xv s₁ h₁ => wpAny_mono h₁ (fun it s₂ h₂ => ?_) fun _ _ e => e) fun _ _ e => e)
  refine hold fun hng => ?_
  obtain ⟨_, h', I, fp, wr, n, P, Md, St, tk0, rfl, rfl, rfl, X, hn, J, hJl, h0, turn, hQ⟩ := h₂
  (refine hng ?_; clear hng)
  refine comp1_core (RR := fun acc C => compPost (model prog w) A E none Q acc C) X.S hn J hc1 hp1 hkind X.st X.fpl X.live hJl h0 (fun C fpD i v m₁ ys news₁ H tk own hi hP hJ ho hw hb F N => turn _ C fpD i v m₁ ys news₁ H tk own X.hid hi hP hJ ho hw hb F N) ?_
  intro D C H tk m' ys k news hns hC hDC N ex hnD hJ
  refine ⟨m', hns, fun h'' hs'' => ?_⟩
  have kb := But.of_same hs''
  have exs : Ext s₁.heap h'' := fun b o e => kb b o (fun c => by
    have := X.ext _ _ e
    rw [c] at this
    rw [hC] at this; cases this) (ex b o (X.hid b o e))
  refine hQ D C h'' tk ys k news exs (fun p hp => ⟨kb _ _ (N p hp).2.1 (N p hp).1, ?_⟩) hnD hJ
  cases e : s₁.heap.get? p.1 with
  | none => rfl
  | some o => have := X.hid _ _ e; rw [(N p hp).2.2] at this; cases this
end

-- part CO
theorem offCO : True := by w_top off; trivial





/-- one number goes through the columns -/
noncomputable def colGo : Nat → Nat → Tbl → Int → Option Nat → Tbl
  | 0, _, cols, _, _ => cols
  | f + 1, level, cols, x, edge =>
    let cols1 := growT level cols
    let col := cols1.getD level []
    let spot := bL (col.map (·.2)) x (col.map (·.2)).length 0 (hiOf edge col)
    let col1 := insAt col spot (0, x)
    if spot + 1 = col1.length then cols1.set level col1
    else colGo f (level + 1) (cols1.set level (col1.eraseIdx (spot + 1))) (col1.getD (spot + 1) (0, 0)).2 (some spot)
noncomputable def colStep (n : Nat) (st : Tbl) (x : Int) : Tbl := colGo n 0 st x none
noncomputable def colsM (word : List Int) : Tbl := word.reverse.foldl (colStep word.length) []
/-- the columns read as rows -/
noncomputable def turnM (cols : Tbl) : Tbl := (List.range (cols.getD 0 []).length).map fun l => cols.filterMap fun c => c[l]?

structure ColN (g : Heap) (nx : List (Addr × Obj)) (Tb c : Addr) (oc : Obj) (as : List Addr) (cols : Tbl) : Prop where
  tab : TabN false g nx Tb as cols
  ta : Tb ∉ as
  nd : as.Nodup
  cell : (c, oc) ∈ nx
  cT : c ≠ Tb
  ca : c ∉ as
theorem ColN.mono {g nx nx' Tb c oc as cols} (X : ColN g nx Tb c oc as cols) (h : ∀ p ∈ nx, p ∈ nx') : ColN g nx' Tb c oc as cols :=
  ⟨X.tab.mono fun p hp _ => h p hp, X.ta, X.nd, h _ X.cell, X.cT, X.ca⟩
theorem ColN.grow {g nx Tb c oc as cols l n} (X : ColN g nx Tb c oc as cols) (hl : ∀ p ∈ nx, p.1 < l) :
    ColN g (put ((l, PySem.W.listOf #[] 0) :: nx) Tb (PySem.W.listOf ((as ++ [l]).map Value.ref).toArray n)) Tb c oc (as ++ [l]) (cols ++ [[]]) := by
  have hT : Tb < l := hl _ X.tab.top.choose_spec
  have hc : c < l := hl _ X.cell
  have ha : ∀ x ∈ as, x < l := fun x hx => let ⟨_, h⟩ := X.tab.live hx; hl _ h
  have hla : l ∉ as := fun h => Nat.lt_irrefl _ (ha _ h)
  refine ⟨(X.tab.mono (news' := (l, PySem.W.listOf #[] 0) :: nx) fun p hp _ => .tail _ hp).grow X.ta (Nat.ne_of_gt hT) (.head _), ?_, ?_, put_mem_ne (.tail _ X.cell) X.cT, X.cT, ?_⟩
  · intro h
    rcases List.mem_append.mp h with h | h
    · exact X.ta h
    · rw [List.mem_singleton.mp h] at hT; exact Nat.lt_irrefl _ hT
  · exact List.nodup_append.mpr ⟨X.nd, by simp, fun x hx y hy => by rw [List.mem_singleton.mp hy]; exact fun e => hla (e ▸ hx)⟩
  · intro h
    rcases List.mem_append.mp h with h | h
    · exact X.ca h
    · rw [List.mem_singleton.mp h] at hc; exact Nat.lt_irrefl _ hc
theorem ColN.set {g nx Tb c oc as cols i a col' vs' n} (X : ColN g nx Tb c oc as cols) (ha : as[i]? = some a) (hv : ItemsAt false g vs' col') :
    ColN g (put nx a (PySem.W.listOf vs'.toArray n)) Tb c oc as (cols.set i col') := by
  have hm := List.mem_of_getElem? ha
  exact ⟨X.tab.set X.ta X.nd ha hv, X.ta, X.nd, put_mem_ne X.cell fun e => X.ca (e ▸ hm), X.cT, X.ca⟩

/-- between the numbers -/
inductive ColsJ1 (g : Heap) (Tb c W : Addr) (i : Nat) (cols : Tbl) (m : Str → Option Value) (nx : List (Addr × Obj)) : Prop
  | mk (as : List Addr) (oc : Obj) (q1 : ColN g nx Tb c oc as cols) (q2 : oc.data = .cell (some (.ref Tb))) (q3 : m (Str.ofString "word") = some (.ref W)) (q4 : (∀ col ∈ cols, col.length ≤ i)) (q5 : cols.length ≤ 64 * i) : ColsJ1 g Tb c W i cols m nx
/-- between the levels -/
inductive ColsJ2 (g : Heap) (Tb c W : Addr) (fp : List Addr) (own : List (Addr × Obj)) (n i : Nat) (res : Tbl) (i2 : Nat) (m : Str → Option Value) (nx2 : List (Addr × Obj)) : Prop
  | mk (nx3 : List (Addr × Obj)) (as : List Addr) (oc : Obj) (cols : Tbl) (x : Int) (tx : Tok) (ev : Value) (edge : Option Nat) (q1 : nx2 = own ++ nx3) (q2 : (∀ p ∈ nx3, p.1 ∉ fp)) (q3 : ColN g nx3 Tb c oc as cols) (q4 : oc.data = .cell (some (.ref Tb))) (q5 : m (Str.ofString "word") = some (.ref W)) (q6 : m (Str.ofString "number") = some (.int x tx)) (q7 : m (Str.ofString "edge") = some ev) (q8 : EdgeAt ev edge) (q9 : colGo (n - i2) i2 cols x edge = res) (q10 : i2 ≤ cols.length) (q11 : (∀ col ∈ cols, col.length ≤ i)) (q12 : cols.length ≤ 64 * i + i2) : ColsJ2 g Tb c W fp own n i res i2 m nx2

theorem src_rangeN {prog : Program} {w : World} {A : Around} {E : Value → Shared → Prop} {s : Shared} {R : Value → Shared → Prop} {x : Str} {px : Pos} {r : Addr} {a₀ b₀ c₀ : Int} {t₀ u₀ v₀ : Tok} {n : Nat}
    (hh : A.handled = none) (hr : IsRange s.heap r a₀ b₀ c₀ t₀ u₀ v₀) (hsmall : Builtin.Range.small a₀ b₀ c₀ = true) (hn : Builtin.Range.rangeSize a₀ b₀ c₀ = (n : Int))
    (h : ∀ h' I fp wr P Md St, Made prog w A (.Name x px) s.heap h' I fp wr n P Md St → (∀ b ∈ fp, s.heap.objs.size ≤ b) → (∀ i v H, P i v H → ∃ t, v = .int (a₀ + i * c₀) t) → R (.ref I) { s with heap := h' }) :
    wpAny (model prog w) A (pyIter (.ref r)) R E s := src_range (fun _ _ => rfl) hh hr hsmall hn h
theorem src_listN {prog : Program} {w : World} {A : Around} {E : Value → Shared → Prop} {s : Shared} {R : Value → Shared → Prop} {x : Str} {px : Pos} {l : Addr} {vs : List Value} (hh : A.handled = none) (hl : s.heap.IsList l vs.toArray)
    (h : ∀ h' I fp wr P Md St, Made prog w A (.Name x px) s.heap h' I fp wr vs.length P Md St → (∀ b ∈ fp, b = l ∨ s.heap.objs.size ≤ b) → (∀ i v H, P i v H → vs[i]? = some v) → R (.ref I) { s with heap := h' }) :
    wpAny (model prog w) A (pyIter (.ref l)) R E s := src_list (fun _ _ => rfl) hh hl h

set_option pp.deepTerms false in
set_option pp.maxSteps 3000 in
set_option maxRecDepth 100000 in
set_option maxHeartbeats 4000000 in
theorem columns_spec {w : World} {mean mg mb} {A : Around} {E : Value → Shared → Prop} {Q : Value → Shared → Prop} {s : Shared} {W : Addr} {vw : List Value} {word : List Int}
    (G : Gd w mean mg mb s.heap) (R : Room A 10 60) (hW : LAt s.heap W vw) (hI : IntsAre vw word) (hn : word.length < 64) (hne : 0 < (colsM word).length)
    (ret : ∀ D h' tk, Ext s.heap h' → TabH false h' D (turnM (colsM word)) → Q (.ref D) { s with heap := h', toks := tk }) :
    wpAny (model Challenge.rw_sc0001_01.row.prog w) A (call (.ref 74) [.ref W] []) Q E s := by
  have G0 := G
  have R0 := R
  obtain ⟨KX, Tp⟩ := G
  refine hold fun hng => ?_
  obtain ⟨hA, hd, hu⟩ := R
  (refine hng ?_; clear hng)
  revert KX; k_fill; intro KX
  refine' call_rwC (fun L => [(Str.ofString "table", L + 1)]) (binds := [("word", .ref W)]) [] KX Tp ?hN ?h1 ?h2 ?h3 ?h4 ?h5 ?h5b ?h6 ?hcl ?c1 ?c2 ?c3
  case hN => simp
  case h1 => k_is
  case h2 => k_is
  case h3 => (clear hn hne hu; omega)
  case h4 => exact kp_binds G0.k (fun _ => rfl)
  case h5 => rfl
  case h5b => decide
  case hcl => intro L; rfl
  case c1 => rfl
  case c2 => rfl
  case c3 => rfl
  case h6 =>
   have TR := topRead_of Tp
   intro L h₁ tk1 cells F N Y hlt
   refine hold fun hng => ?_
   obtain ⟨o1, rfl, d1⟩ := Y.one
   (refine hng ?_; clear hng)
   change Fr s.heap _ _ _ at F
   change News s.heap L h₁ [(L + 1, o1)] at N
   obtain ⟨nW, hW1⟩ := hW
   have hWB : s.heap.IsList W vw.toArray := ⟨_, hW1, rfl, nW, rfl⟩
   have hvw : vw.length = word.length := hI.length
   walk_at "S3"
   refine newList_N F N (fun H3 F3 N3 => ?_)
   dsimp only at N3 ⊢
   generalize hTe : h₁.objs.size = Tb at N3 ⊢
   have hTc : L + 1 < Tb := hTe ▸ Heap.lt_size (N _ (.head _)).1
   walk_at "S3"
   refine storeCell F3 N3 (c := L + 1) (o := o1) (.tail _ (.head _)) d1 rfl rfl (fun h4 o4 F4 N4 d4 k4 => ?_)
   have hTne : Tb ≠ L + 1 := Nat.ne_of_gt hTc
   have N5 : News s.heap L h4 [(Tb, PySem.W.listOf #[] 0), (L + 1, o4)] := fun p hp => N4 p (by
     rcases List.mem_cons.mp hp with rfl | hp
     · exact put_mem_ne (.head _) hTne
     · rw [List.mem_singleton.mp hp]; exact put_mem (.tail _ (.head _)))
   clear N4 N3 F3 N F
   walk_at "S3"
   refine For_invVF F4 rfl rfl ?_
   walk_at "S3"
   refine krv_ints F4 N5 ⟨_, F4.keep _ _ hW1, rfl, nW, rfl⟩ (.int _ _) hI (fun Dw ws h6 F6 N6 lt6 hIw _ => ?_) (by with_unfolding_all rfl) (fun _ => by with_unfolding_all rfl) (by rw [List.size_toArray, sizeLine_eq]; (clear hne hd hu hTe hTc hTne; omega))
   walk_at "S3"
   have hwl : ws.length = word.length := by rw [hIw.length, List.length_reverse]
   have N7 : News s.heap L h6 [(Tb, PySem.W.listOf #[] 0), (L + 1, o4)] := fun p hp => N6 p (.tail _ hp)
   refine' iter_list_J (vs := ws) (m₀ := _) (news := _) (fun i m nx => ColsJ1 s.heap Tb (L + 1) W i ((word.reverse.take i).foldl (colStep word.length) []) m nx) ?hh ?hl ?hlL F6 N7 ?hnl ?h0 ?turn ?done
   case hh => exact hA
   case hl => exact N6.isList (.head _)
   case hlL => exact (N6 _ (.head _)).2.1
   case hnl => exact fun p hp => Nat.ne_of_lt (lt6 p hp)
   case h0 =>
     exact ⟨[], o4, ⟨⟨⟨0, .head _⟩, rfl, fun _ _ _ h => by simp at h⟩, by simp, by simp, .tail _ (.head _), Ne.symm hTne, by simp⟩, d4, by walk_at "M", by simp, Nat.zero_le _⟩
   case done =>
     rintro h' tk' m' nx F' N' hz1
     refine hold fun hng => ?_
     obtain ⟨as, oc, X, dc, m1, hb1, hb2⟩ := hz1
     (refine hng ?_; clear hng)
     rw [show word.reverse.take ws.length = word.reverse by rw [hwl, ← List.length_reverse]; exact List.take_length] at X hb1 hb2
     change ColN s.heap nx Tb (L + 1) oc as (colsM word) at X
     clear N5 N6 F6 N7
     walk_at "S3"
     change ∀ col ∈ colsM word, col.length ≤ ws.length at hb1
     change (colsM word).length ≤ 64 * ws.length at hb2
     generalize hcols : colsM word = cols at *
     have hcell := X.cell
     have F' : Fr s.heap L h' m' := F'
     have N' : News s.heap L h' nx := N'
     have hTm := X.tab.top.choose_spec
     have hTl : (as.map Value.ref).length = cols.length := by rw [List.length_map, X.tab.len]
     have hcl : cols.length ≤ 64 * 64 := by (clear hd hu hvw hTe hTc hTne hne hTl; omega)
     have hcb : ∀ col ∈ cols, col.length ≤ 64 := fun c hc => by have := hb1 c hc; (clear hd hu hvw hTe hTc hTne hne hb2 hTl hcl; omega)
     have h00 : cols[0]? = some (cols.getD 0 []) := by simp [hne]
     obtain ⟨a0, ha0⟩ : ∃ a, as[0]? = some a := ⟨_, List.getElem?_eq_getElem (by rw [X.tab.len]; exact hne)⟩
     refine hold fun hng => ?_
     obtain ⟨vs0, nr0, hm0, hI0⟩ := X.tab.row 0 a0 _ ha0 h00
     (refine hng ?_; clear hng)
     have hl0 := hI0.1
     have hb0 := hcb _ (List.mem_of_getElem? h00)
     generalize hc0 : cols.getD 0 [] = col0 at *
     refine' comp1_eval (x := Str.ofString "level") (cl := [(Str.ofString "table", L + 1)]) ?e1 ?e2 ?e3 ?e4 ?e5 ?e6 ?e7
     case e1 => rfl
     case e2 => intro n acc; rfl
     case e3 => intro h; rfl
     case e4 => rfl
     case e5 => decide
     case e7 => exact fun _ => rfl
     case e6 =>
      walk_at "S3"
      refine item_any (vs := as.map Value.ref) (N'.isList hTm) (by (clear hn hd hu hvw hTe hTc hTne hwl hne hb2 hTl hcl hl0 hb0; omega)) (by (clear hn hd hu hvw hTe hTc hTne hwl hb2 hcl hl0 hb0; omega)) (by (clear hn hd hu hvw hTe hTc hTne hwl hne hb2 hTl hcl hl0 hb0; omega)) (fun v9 hv9 => ?_) (by with_unfolding_all rfl)
      obtain rfl : v9 = .ref a0 := refs_at (k := 0) ha0 hv9
      walk_at "S3"
      (rename Fr _ _ _ _ => F8; rename News _ _ _ _ => N8; rename IsRange _ _ _ _ _ _ _ _ => R8)
      refine' src_rangeN (n := col0.length) hA R8 (small_one (by (clear hn hd hu hvw hTe hTc hTne hwl hne hb2 hTl hcl hl0 hb0; omega)) (by (clear hn hd hu hvw hTe hTc hTne hwl hne hb2 hTl hcl hl0 hb0; omega)) (by (clear hn hd hu hvw hTe hTc hTne hwl hne hb2 hTl hcl hl0 hb0; omega)) (by (clear hn hd hu hvw hTe hTc hTne hwl hne hb2 hTl hcl hl0; omega))) (by rw [rangeSize_nat]; (clear hn hd hu hvw hTe hTc hTne hwl hne hb2 hTl hcl hl0 hb0; omega)) ?sr
      case sr =>
       intro h9 I9 fp9 wr9 P9 Md9 St9 X9 _ hP9
       have hcl8 : (L + 1, oc) ∈ nx := hcell
       have hTm8 := hTm
       refine ⟨_, h9, I9, fp9, wr9, col0.length, P9, Md9, St9, _, rfl, rfl, rfl, X9, by (clear hn hd hu hvw hTe hTc hTne hwl hne hb2 hTl hcl hl0; omega), fun C i ys nx => ∃ (bs : List Addr) (oc' : Obj), ys = bs.map Value.ref ∧ bs.length = i ∧ (C + 1, oc') ∈ nx ∧ C + 1 ∉ bs ∧ (∃ v0, oc'.data = .cell v0) ∧
         ∀ (j : Nat) (a : Addr) (row : List Itm), bs[j]? = some a → (turnM cols)[j]? = some row → RowN false s.heap nx a row, ?_, ?_, ?_, ?_⟩
       · rintro C i ys nx hz1
         refine hold fun hng => ?_
         obtain ⟨bs, oc', rfl, e, _⟩ := hz1
         (refine hng ?_; clear hng)
         rw [List.length_map, e]; exact Nat.le_refl _
       · exact fun C => ⟨[], _, rfl, rfl, .head _, by simp, ⟨_, rfl⟩, fun _ _ _ h => by simp at h⟩
       · rintro g C fpD l v m5 ys nx5 H tk5 own5 eg hl hPl hz1
         refine hold fun hng => ?_
         obtain ⟨bs, oc', rfl, hbl, hcm, hcb', ⟨v0, hv0⟩, hrow⟩ := hz1
         (refine hng ?_; clear hng)
         rintro hoff5 hown5 hlive5 F5 N5
         obtain ⟨tl, rfl⟩ := hP9 _ _ _ hPl
         rw [show (0 + (l : Int) * 1) = l by (clear hn hd hu hvw hTe hTc hTne hwl hne hb2 hTl hcl hl0 hb0 hl hbl; omega)]
         refine wpAny_assign_Name (storeCell F5 N5 (c := C + 1) (List.mem_append_right _ hcm) hv0 rfl rfl (fun H6 oc6 F6 N6 d6 k6 => tests_nil ?_))
         rw [if_pos rfl]
         have hcf : C + 1 ∉ fpD := hoff5 _ hcm
         rw [put_append, put_off (l := own5) (D := C + 1) (fun p hp e => hcf (e ▸ hown5 p hp))] at N6
         have hgc : g.get? (L + 1) = some oc := eg _ _ (N8 _ hcl8).1
         have hgT : H6.IsList Tb (as.map Value.ref).toArray := ⟨_, F6.keep _ _ (eg _ _ (N8 _ hTm8).1), rfl, _, rfl⟩
         (refine' compG_eval ?ca2 ?ca3 ?ca4 ?ca5 ?_ ?ca9; (case ca2 => rfl); (case ca3 => decide); (case ca4 => rfl); (case ca5 => decide); (case ca9 => exact fun _ => rfl))
         walk_at "S3"
         have hgN : News g C H6 _ := N6
         have hcell6 : H6.get? (C + 1) = some oc6 := (N6 _ (List.mem_append_right _ (put_mem hcm))).1
         refine' src_listN (vs := as.map Value.ref) hA hgT ?sl
         case sl =>
          intro h7 I7 fp7 wr7 P7 Md7 St7 X7 _ hP7
          refine X7.comp (fun i ys _ => ItemsAt false s.heap ys ((cols.take i).filterMap fun c => c[l]?)) (by (clear hn hd hu hvw hTe hTc hTne hwl hne hb2 hl0 hb0 hl hbl; omega)) (fun i ys _ h => by rw [h.1]; exact Nat.le_trans (List.length_filterMap_le _ _) (by rw [List.length_take]; (clear hn hd hu hvw hTe hTc hTne hwl hne hb2 hTl hcl hl0 hb0 hl hbl; omega))) ⟨rfl, fun _ _ _ h => by simp at h⟩ ?_ ?_
          · intro g2 C2 fpE j v2 m6 ys6 nx6 H7 tk7 own6 eg2 hj hPj hJ6 hoff6 hown6 hlive6 F7 N7
            have hj' : j < cols.length := by (clear hn hd hu hvw hTe hTc hTne hwl hne hb2 hcl hl0 hb0 hl hbl; omega)
            obtain ⟨a, haj⟩ : ∃ a, as[j]? = some a := ⟨_, List.getElem?_eq_getElem (by rw [X.tab.len]; exact hj')⟩
            have hv2 := hP7 _ _ _ hPj
            obtain rfl : v2 = .ref a := by
              rw [List.getElem?_map, haj] at hv2
              exact (Option.some.inj hv2).symm
            have hcj : cols[j]? = some cols[j] := List.getElem?_eq_getElem hj'
            refine hold fun hng => ?_
            obtain ⟨vsj, nj, hmj, hIj⟩ := X.tab.row j a _ haj hcj
            (refine hng ?_; clear hng)
            have hlj := hIj.1
            have hbj := hcb _ (List.mem_of_getElem? hcj)
            have etk : cols.take (j + 1) = cols.take j ++ [cols[j]] := by rw [List.take_add_one, hcj]; rfl
            generalize cols[j] = col at *
            refine assignC F7 N7 (fun H8 tk8 F9 N9 => tests_one ?_)
            have hgl2 : g2.get? (C + 1) = some oc6 := eg2 _ _ hcell6
            have hgj : g2.IsList a vsj.toArray := ⟨_, eg2 _ _ (F6.keep _ _ (eg _ _ (N8 _ hmj).1)), rfl, nj, rfl⟩
            have ex2 : Ext s.heap g2 := fun b o e => eg2 _ _ (F6.keep _ _ (eg _ _ (F8.keep _ _ e)))
            have KX2 : (Mine.hd.heap_39 w.params).In g2 := G0.k.keeps ex2
            have TR2 := TR.keeps ex2
            clear TR
            walk_at "S3"
            (k_dflt (refine' nameG_B ?k1 ?k2 ?k3 ?k4 ?k5 ?k6 ?_ ?c1 ?c2 ?c3 ?c4 ?c5; (case k1 => with_reducible assumption); (case k2 => with_reducible assumption); (case k3 => with_reducible assumption); (case k4 => k_is); (case k5 => boot_fast); (case k6 => decide); (case c1 => rfl); (case c2 => rfl); (case c3 => rfl); (case c4 => rfl); (case c5 => decide)))
            walk_at "S3"
            · (rename (l : Int) < (col.length : Int) => hlc)
              refine item_any (vs := vsj) ⟨_, F9.keep _ _ (eg2 _ _ (F6.keep _ _ (eg _ _ (N8 _ hmj).1))), rfl, nj, rfl⟩ (by (clear hn hd hu hvw hTe hTc hTne hwl hne hb2 hTl hcl hl0 hb0 hl hbl hj hj' hlj hbj hlc; omega)) (by (clear hn hd hu hvw hTe hTc hTne hwl hne hb2 hTl hcl hl0 hb0 hl hbl hj hj' hbj; omega)) (by (clear hn hd hu hvw hTe hTc hTne hwl hne hb2 hTl hcl hl0 hbl hj hj' hlj hbj hlc; omega)) (fun v9 hv9 => ?_) (by with_unfolding_all rfl)
              rw [Int.toNat_natCast] at hv9
              have hcl9 : col[l]? = some col[l] := List.getElem?_eq_getElem (by (clear hn hd hu hvw hTe hTc hTne hwl hne hb2 hTl hcl hl0 hb0 hl hbl hj hj' hlj hbj; omega))
              refine ⟨_, _, _, _, rfl, F9, N9, hoff6, ?_⟩
              rw [etk, List.filterMap_append, List.filterMap_cons, hcl9]
              exact hJ6.snoc (hIj.2 _ _ _ hv9 hcl9)
            · (rename ¬ (l : Int) < (col.length : Int) => hlc)
              have hcl9 : col[l]? = none := List.getElem?_eq_none (by (clear hn hd hu hvw hTe hTc hTne hwl hne hb2 hTl hcl hl0 hb0 hl hbl hj hj' hlj hbj; omega))
              refine ⟨_, _, _, _, rfl, F9, N9, hoff6, ?_⟩
              rw [etk, List.filterMap_append, List.filterMap_cons, hcl9]
              simpa using hJ6
          · intro D H7 tk7 ys7 k7 nx7 ex7 nw7 hnD7 hJ7
            have e7 : cols.take (as.map Value.ref).length = cols := by rw [hTl]; exact List.take_length
            rw [e7] at hJ7
            have hD6 : H6.get? D = none := (nw7 _ (.head _)).2
            have hDc : D ≠ C + 1 := fun e => by rw [e, hcell6] at hD6; cases hD6
            have hDf : D ∉ fpD := fun hm => by
              rcases hlive5 _ hm with ⟨o, e⟩ | ⟨o, e⟩
              · rw [F6.keep _ _ e] at hD6; cases hD6
              · rw [(N6 _ (List.mem_append_left _ e)).1] at hD6; cases hD6
            have F7 := F6.kept ex7
            have N7 := N6.grown ex7
            have ND := nw7.news F6 _ (.head _)
            refine ⟨_, _, _, (D, PySem.W.listOf ys7.toArray k7) :: put nx5 (C + 1) oc6, rfl, F7, fun p hp => ?_, fun p hp => ?_, bs ++ [D], oc6, by simp, by simp [hbl], .tail _ (put_mem hcm), ?_, ⟨_, d6⟩, fun j a row h1 h2 => ?_⟩
            · rcases List.mem_append.mp hp with hp | hp
              · exact N7 p (List.mem_append_left _ hp)
              · rcases List.mem_cons.mp hp with rfl | hp
                · exact ND
                · exact N7 p (List.mem_append_right _ hp)
            · rcases List.mem_cons.mp hp with rfl | hp
              · exact hDf
              · exact put_offs hoff5 p hp
            · intro hm
              rcases List.mem_append.mp hm with hm | hm
              · exact hcb' hm
              · exact hDc (List.mem_singleton.mp hm).symm
            · rcases Nat.lt_trichotomy j l with h | h | h
              · rw [List.getElem?_append_left (by (clear hn hd hu hvw hTe hTc hTne hwl hne hb2 hTl hcl hl0 hb0 hl hDc ND; omega))] at h1
                refine hold fun hng => ?_
                obtain ⟨vs', n', h', h''⟩ := hrow j a row h1 h2
                (refine hng ?_; clear hng)
                exact ⟨vs', n', .tail _ (put_mem_ne h' fun e => hcb' (e ▸ List.mem_of_getElem? h1)), h''⟩
              · subst h
                rw [List.getElem?_append_right (by (clear hn hd hu hvw hTe hTc hTne hwl hne hb2 hTl hcl hl0 hb0 hDc ND hl; omega)), hbl, Nat.sub_self] at h1
                simp at h1
                subst h1
                have hl' : j < col0.length := hl
                unfold turnM at h2
                rw [hc0, List.getElem?_map, List.getElem?_range hl'] at h2
                cases h2
                exact ⟨ys7, k7, .head _, hJ7⟩
              · rw [List.getElem?_eq_none (by simp; (clear hn hd hu hvw hTe hTc hTne hwl hne hb2 hTl hcl hl0 hb0 hl hDc ND; omega))] at h1; cases h1
       · rintro D C H tk _ k news ex nw hnD hz1
         refine hold fun hng => ?_
         obtain ⟨bs, oc', rfl, hbl, hcm, hcb', _, hrow⟩ := hz1
         (refine hng ?_; clear hng)
         walk_at "S3"
         have exs : Ext s.heap H := fun b o e => ex _ _ (F8.keep _ _ e)
         refine ret D _ _ exs ⟨bs, ⟨k, (nw _ (.head _)).1⟩, ?_, fun j a row h1 h2 => ?_⟩
         · rw [hbl]
           unfold turnM
           rw [hc0, List.length_map, List.length_range]
         · refine hold fun hng => ?_
           obtain ⟨vs', n', h', h''⟩ := hrow j a row h1 h2
           (refine hng ?_; clear hng)
           exact ⟨vs', ⟨n', (nw _ (.tail _ h')).1⟩, h''.keeps exs⟩
   case turn =>
     rintro fp i v m₁ nx h tk' own hPfp hPk hv hz1
     refine hold fun hng => ?_
     obtain ⟨as, oc, X, dc, m1, hb1, hb2⟩ := hz1
     (refine hng ?_; clear hng)
     rintro hoff hown hlive F' N'
     clear N5 N6 F6 N7
     have F' : Fr s.heap L h _ := F'
     have N' : News s.heap L h (own ++ nx) := N'
     have hi : i < word.length := hwl ▸ (List.getElem?_eq_some_iff.mp hv).1
     refine hold fun hng => ?_
     obtain ⟨x, tx, rfl, hx⟩ := hIw.at _ _ hv
     (refine hng ?_; clear hng)
     generalize hst : (word.reverse.take i).foldl (colStep word.length) [] = st at X hb1 hb2
     have hst' : (word.reverse.take (i + 1)).foldl (colStep word.length) [] = colStep word.length st x := by
       rw [List.take_add_one, hx, List.foldl_append, hst]; rfl
     rw [hst']
     clear hst hst'
     walk_at "S3"
     (rename Fr _ _ _ _ => F3; rename News _ _ _ _ => N3)
     have hWL : h.IsList W vw.toArray := ⟨_, F'.keep _ _ hW1, rfl, nW, rfl⟩
     refine For_invVF F3 rfl rfl ?_
     walk_at "S3"
     (rename Fr _ _ _ _ => F3; rename News _ _ _ _ => N3; rename IsRange _ _ _ _ _ _ _ _ => R3)
     refine' iter_range_J (ColsJ2 s.heap Tb (L + 1) W fp own word.length i (colStep word.length st x)) ?hh R3 ?hs (rangeSize_nat _ _) F3 N3 ?h0 ?turn ?done
     case hh => exact hA
     case hs => exact small_one (by (clear hn hne hd hu hvw hTe hTc hTne hwl hi hb2; omega)) (by (clear hn hne hd hu hvw hTe hTc hTne hwl hi hb2; omega)) (by (clear hn hne hd hu hvw hTe hTc hTne hwl hi hb2; omega)) (by (clear hne hd hu hvw hTe hTc hTne hwl hi hb2; omega))
     case h0 =>
       exact ⟨nx, as, oc, st, x, tx, .none, none, rfl, hoff, X, dc, by walk_at "M", by walk_at "M", by walk_at "M", .inl ⟨rfl, rfl⟩, rfl, Nat.zero_le _, hb1, by omega⟩
     case done =>
       rintro h' tk' m' nx2 F' N' hz1
       refine hold fun hng => ?_
       obtain ⟨nx3, as, oc, cols, x', tx', ev, edge, rfl, off3, X, dc, m1, m2, m3, hE, hst, hlv, hb1, hb2⟩ := hz1
       (refine hng ?_; clear hng)
       clear F3 N3
       rw [show word.length - ((word.length : Int) - 0).toNat = 0 by (clear hn hne hd hu hvw hTe hTc hTne hwl hi hlv hb2; omega), colGo] at hst
       subst hst
       walk_at "S3"
       exact ⟨_, _, _, _, rfl, F', N', off3, as, oc, X, dc, m1, fun r hr => Nat.le_succ_of_le (hb1 r hr), by (clear hne hd hu hvw hTe hTc hTne hwl hi hlv; omega)⟩
     case turn =>
       rintro fp2 i2 t2 m₁ nx2 h tk' own2 hi2 hz1
       refine hold fun hng => ?_
       obtain ⟨nx3, as, oc, cols, x, tx, ev, edge, rfl, off3, X, dc, m1, m2, m3, hE, hst, hlv, hb1, hb2⟩ := hz1
       (refine hng ?_; clear hng)
       rintro hoff2 hown2 hlive2 F' N'
       clear F3 N3
       replace F' : Fr s.heap L h (fun y => if y = Str.ofString "level" then some (Value.int (0 + ↑i2 * 1) t2) else m₁ y) := F'
       replace N' : News s.heap L h (own2 ++ (own ++ nx3)) := N'
       rw [show (0 + (i2 : Int) * 1) = i2 by (clear hn hne hd hu hvw hTe hTc hTne hwl hi hi2 hlv hb2; omega)] at F'
       have hcell := X.cell
       walk_at "S3"
       -- the level is new, or not
       refine cutk (J := fun Q' => ∀ h' tk as' nx4, Fr s.heap L h' (fun y => if y = Str.ofString "level" then some (Value.int i2 t2) else m₁ y) → News s.heap L h' (own2 ++ (own ++ nx4)) → (∀ p ∈ nx4, p.1 ∉ fp) → (∀ p ∈ nx4, p.1 ∉ fp2) → ColN s.heap nx4 Tb (L + 1) oc as' (growT i2 cols) → Q' .next { s with heap := h', toks := tk }) (fun Q' kk0 => ?_) ?_
       · have hTm := List.mem_append_right own2 (List.mem_append_right own X.tab.top.choose_spec)
         have hTl : (as.map Value.ref).length = cols.length := by rw [List.length_map, X.tab.len]
         have f3 := live_lt hlive (fun q h => List.mem_append_right own2 (List.mem_append_left nx3 h)) F' N'
         have f4 := live_lt hlive2 (fun q h => List.mem_append_left (own ++ nx3) h) F' N'
         walk1
         walk_at "S3"
         · (rename (_ : Int) = _ => hc)
           refine kl_method N' hTm PySem.F.slot_list_append PySem.F.type_list_append ?_
           walk_at "S3"
           refine newList_N F' N' (fun h4 F4 N4 => ?_)
           walk_at "S3"
           refine append_put F4 N4 (.tail _ hTm) (by (clear hne hd hu hvw hTe hTc hTne hwl hi hlv hb2; omega)) (fun h5 k5 F5 N5 => ?_)
           rw [show as.map Value.ref ++ [Value.ref h.objs.size] = (as ++ [h.objs.size]).map Value.ref by simp] at N5
           walk_at "S3"
           have f1 : ∀ p ∈ nx3, p.1 < h.objs.size := fun p hp => Heap.lt_size (N' p (List.mem_append_right _ (List.mem_append_right _ hp))).1
           have hTf : Tb ∉ fp := off3 _ X.tab.top.choose_spec
           have hTf2 : Tb ∉ fp2 := hoff2 _ (List.mem_append_right _ X.tab.top.choose_spec)
           have Z := X.grow (n := X.tab.top.choose + 1) f1
           have hc' : i2 = cols.length := by (clear hn hne hd hu hvw hTe hTc hTne hwl hi hi2 hlv hb2 hTl; omega)
           have offs : ∀ (f : List Addr), (∀ b ∈ f, b < h.objs.size) → (∀ p ∈ nx3, p.1 ∉ f) → ∀ p ∈ put ((h.objs.size, PySem.W.listOf #[] 0) :: nx3) Tb (PySem.W.listOf ((as ++ [h.objs.size]).map Value.ref).toArray (X.tab.top.choose + 1)), p.1 ∉ f := fun f hf h0 => put_offs fun p hp hm => by
             rcases List.mem_cons.mp hp with rfl | hp
             · exact Nat.lt_irrefl _ (hf _ hm)
             · exact h0 p hp hm
           refine kk0 _ _ (as ++ [h.objs.size]) _ F5 (fun p hp => N5 p ?_) (offs fp f3 off3) (offs fp2 f4 (fun p hp => hoff2 p (List.mem_append_right _ hp))) ?_
           · rcases List.mem_append.mp hp with hp | hp
             · exact put_mem_ne (.tail _ (List.mem_append_left _ hp)) fun c => hTf2 (c ▸ hown2 p hp)
             rcases List.mem_append.mp hp with hp | hp
             · exact put_mem_ne (.tail _ (List.mem_append_right _ (List.mem_append_left _ hp))) fun c => hTf (c ▸ hown p hp)
             · refine put_mono (fun q hq => ?_) p hp
               rcases List.mem_cons.mp hq with rfl | hq
               · exact .head _
               · exact .tail _ (List.mem_append_right _ (List.mem_append_right _ hq))
           · rw [growT, if_pos hc']; exact Z
         · (rename (_ : Int) ≠ _ => hc)
           have hc' : ¬ i2 = cols.length := by (clear hn hne hd hu hvw hTe hTc hTne hwl hi hi2 hlv hb2 hTl; omega)
           refine kk0 _ _ as nx3 F' N' off3 (fun p hp => hoff2 p (List.mem_append_right _ hp)) ?_
           rw [growT, if_neg hc']; exact X
       rintro h3 tk3 as' nx4 F3 N3 off4 off5 X4
       have hi' := growT_lt hlv
       have hr1 := growT_row (i := i2) hb1
       have hln := growT_len (i := i2) (rows := cols)
       have hgo : colGo (word.length - i2) i2 cols x edge = _ := hst
       obtain ⟨f9, hf9⟩ : ∃ f, word.length - i2 = f + 1 := ⟨word.length - i2 - 1, by (clear hn hne hd hu hvw hTe hTc hTne hwl hi hlv hb2 hi' hln; omega)⟩
       rw [hf9, colGo] at hgo
       generalize hR : growT i2 cols = cols' at *
       have hownf : ∀ p ∈ own, p.1 ∉ fp2 := fun p hp => hoff2 p (List.mem_append_left _ hp)
       clear F' N' hoff2 off3 X hcell
       have hcell := X4.cell
       try dsimp only
       walk_at "S3"
       have hTm := List.mem_append_right own2 (List.mem_append_right own X4.tab.top.choose_spec)
       have hTl : (as'.map Value.ref).length = cols'.length := by rw [List.length_map, X4.tab.len]
       obtain ⟨a, ha⟩ : ∃ a, as'[i2]? = some a := ⟨_, List.getElem?_eq_getElem (by rw [X4.tab.len]; exact hi')⟩
       refine item_any (vs := as'.map Value.ref) (N3.isList hTm) (by (clear hn hne hd hu hvw hTe hTc hTne hwl hi hi2 hlv hb2 hf9 hi' hln hTl; omega)) (by (clear hn hne hd hu hvw hTe hTc hTne hwl hi hi2 hlv hb2 hf9 hln; omega)) (by (clear hne hd hu hvw hTe hTc hTne hwl hi hi2 hlv hb2 hi' hln hTl; omega)) (fun v9 hv9 => ?_) (by with_unfolding_all rfl)
       cases refs_at ha hv9
       have hrow : cols'[i2]? = some (cols'.getD i2 []) := by simp [hi']
       refine hold fun hng => ?_
       obtain ⟨vsr, nr, hmr, hIr⟩ := X4.tab.row i2 a _ ha hrow
       (refine hng ?_; clear hng)
       have hrl : (cols'.getD i2 []).length ≤ i := hr1 _ (List.mem_of_getElem? hrow)
       generalize hrw : cols'.getD i2 [] = col at *
       have hvr := hIr.1
       have hints := hIr.ints
       have hxl : (col.map (·.2)).length = col.length := List.length_map _
       walk_at "S3"
       -- the bound of the search
       refine cutk (J := fun Q' => ∀ h' tk ev', Fr s.heap L h' (fun y => if y = Str.ofString "edge" then some ev' else if y = Str.ofString "column" then some (.ref a) else if y = Str.ofString "level" then some (Value.int i2 t2) else m₁ y) → News s.heap L h' (own2 ++ (own ++ nx4)) → HiAt ev' col.length (hiOf edge col) → Q' .next { s with heap := h', toks := tk }) (fun Q' kk1 => ?_) ?_
       · (rename Fr _ _ _ _ => F4; rename News _ _ _ _ => N4)
         have hrm := List.mem_append_right own2 (List.mem_append_right own hmr)
         rcases hE with ⟨rfl, rfl⟩ | ⟨k, t, rfl, rfl⟩
         · walk1
           walk_at "S3"
           (rename Fr _ _ _ _ => F5; rename News _ _ _ _ => N5)
           exact kk1 _ _ _ (Fr.re F5 (by walk_at "M")) N5 (.inl ⟨rfl, rfl⟩)
         · walk1
           walk_at "S3"
           (rename Fr _ _ _ _ => F5; rename News _ _ _ _ => N5)
           refine min_two_N hA F5 N5 (fun h6 tk6 F6 N6 => ?_)
           walk_at "S3"
           (rename Fr _ _ _ _ => F7; rename News _ _ _ _ => N7)
           refine kk1 _ _ _ F7 N7 (.inr ⟨_, congrArg (fun z => Value.int z _) ?_⟩)
           show (if (col.length : Int) < (k : Int) then (col.length : Int) else (k : Int)) = ((min k col.length : Nat) : Int)
           split <;> (clear hn hne hd hu hvw hTe hTc hTne hwl hi hi2 hlv hb2 hf9 hi' hln hTl hrl hvr hxl; omega)
       rintro h4 tk4 ev4 F4 N4 hH
       have hhi : hiOf edge col ≤ col.length := by unfold hiOf; split <;> (clear hn hne hd hu hvw hTe hTc hTne hwl hi hi2 hlv hb2 hf9 hi' hln hTl hrl hvr hxl; omega)
       try dsimp only
       walk_at "S3"
       -- the place sought
       (rename Fr _ _ _ _ => F6; rename News _ _ _ _ => N6)
       have hrm : (a, PySem.W.listOf vsr.toArray nr) ∈ own2 ++ (own ++ nx4) := List.mem_append_right own2 (List.mem_append_right own hmr)
       refine' bisL_none (vs := vsr) (xs := col.map (·.2)) (x := x) (lo := 0) (hi := hiOf edge col) (hv := ev4) ?d1 ?d2 ?d3 hints (Int.le_refl 0) (by rw [hxl]; exact hH) (by (clear hn hne hd hu hvw hTe hTc hTne hwl hi hi2 hlv hb2 hf9 hi' hln hTl hrl hvr hxl hhi; omega)) (by (clear hn hne hd hu hvw hTe hTc hTne hwl hi hi2 hlv hb2 hf9 hi' hln hTl hrl hvr; omega)) (by (clear hne hd hu hvw hTe hTc hTne hwl hi2 hlv hb2 hf9 hi' hln hTl hvr hhi; omega)) (.inl ⟨rfl, rfl⟩) ?_
       case d1 => exact G0.keeps F6.keep
       case d2 => exact (R0.le (d' := 2 + 1) (u' := 16 + 3)).deeper _
       case d3 => exact N6.isList hrm
       intro h7 tk7 t7 ext7
       have F7 := F6.kept ext7
       have N7 := N6.grown ext7
       clear F6 N6
       rw [show (0 : Int).toNat = 0 from rfl, Int.toNat_natCast]
       have hsl : bL (col.map (·.2)) x (col.map (·.2)).length 0 (hiOf edge col) ≤ col.length := by
         have := bL_le (col.map (·.2)) x (col.map (·.2)).length 0 (hiOf edge col)
         (clear hn hne hd hu hvw hTe hTc hTne hwl hi hi2 hlv hb2 hf9 hi' hln hTl hrl hvr hxl; omega)
       generalize hk : bL (col.map (·.2)) x (col.map (·.2)).length 0 (hiOf edge col) = k at *
       walk_at "S3"
       -- the item goes in
       (rename Fr _ _ _ _ => F6; rename News _ _ _ _ => N6)
       have hfa := (N6 _ hrm).2.2
       refine' insL_none (gb := s.heap) (vs := vsr) (xs := col.map (·.2)) (x := x) (lo := 0) (hi := hiOf edge col) (hv := ev4) G0 ?e1 hfa ?e2 ?e3 hints (Int.le_refl 0) (by (clear hn hne hd hu hvw hTe hTc hTne hwl hi hi2 hlv hb2 hf9 hi' hln hTl hrl hvr hxl hhi hk hsl; omega)) (by rw [hxl]; exact hH) (by (clear hn hne hd hu hvw hTe hTc hTne hwl hi hi2 hlv hb2 hf9 hi' hln hTl hrl hvr hxl hhi hk hsl; omega)) (by (clear hn hne hd hu hvw hTe hTc hTne hwl hi hi2 hlv hb2 hf9 hi' hln hTl hrl hvr hk hsl; omega)) (by (clear hne hd hu hvw hTe hTc hTne hwl hi2 hlv hb2 hf9 hi' hln hTl hvr hhi hk hsl; omega)) (.inl ⟨rfl, rfl⟩) ?_
       case e1 => exact F6.keep
       case e2 => exact (R0.le (d' := 4 + 1) (u' := 30 + 3)).deeper _
       case e3 => exact ⟨_, (N6 _ hrm).1⟩
       intro h8 tk8 hL8 kb8
       rw [show (0 : Int).toNat = 0 from rfl, Int.toNat_natCast, hk] at hL8
       obtain ⟨n8, hL8⟩ := hL8
       have F8 := Fr.chg F6 N6 hrm kb8
       have N8 := News.chg N6 hrm kb8 hL8
       have am : a ∈ as' := List.mem_of_getElem? ha
       have af2 : a ∉ fp2 := off5 _ hmr
       have af : a ∉ fp := off4 _ hmr
       rw [put_append, put_append, put_off (l := own2) (D := a) (fun p hp c => af2 (c ▸ hown2 p hp)), put_off (l := own) (D := a) (fun p hp c => af (c ▸ hown p hp))] at N8
       have I2 : IV false s.heap (.int x tx) (0, x) := ⟨rfl, _, rfl⟩
       have hI8 := hIr.ins I2 k
       have X8 := X4.set (n := n8) ha hI8
       have o8 := put_offs (D := a) (o := PySem.W.listOf (vsr.take k ++ Value.int x tx :: vsr.drop k).toArray n8) off4
       have o9 := put_offs (D := a) (o := PySem.W.listOf (vsr.take k ++ Value.int x tx :: vsr.drop k).toArray n8) off5
       have hm8' := put_mem (o := PySem.W.listOf (vsr.take k ++ Value.int x tx :: vsr.drop k).toArray n8) hmr
       have hl8 : (vsr.take k ++ Value.int x tx :: vsr.drop k).length = (insAt col k (0, x)).length := hI8.1
       have hil : (insAt col k (0, x)).length = col.length + 1 := insAt_len
       generalize hvs : vsr.take k ++ Value.int x tx :: vsr.drop k = vs8 at *
       generalize hnx : put nx4 a (PySem.W.listOf vs8.toArray n8) = nx8 at *
       have hm8 : (a, PySem.W.listOf vs8.toArray n8) ∈ own2 ++ (own ++ nx8) := List.mem_append_right _ (List.mem_append_right _ hm8')
       have hcell := X8.cell
       clear F6 N6
       walk_at "S3"
       walk1
       walk_at "S3"
       · -- it stands last
         (rename (_ : Int) = _ => hc)
         have hc' : k + 1 = (insAt col k (0, x)).length := by (clear hn hne hd hu hvw hTe hTc hTne hwl hi hi2 hlv hb2 hf9 hi' hln hTl hrl hvr hxl hhi hk hsl hil hl8; omega)
         rw [if_pos hc'] at hgo
         (rename Fr _ _ _ _ => F9; rename News _ _ _ _ => N9)
         refine wpAny_execs_nil ?_
         refine ⟨_, _, _, _, rfl, F9, N9.right, o8, ?_⟩
         rw [← hgo]
         refine ⟨as', oc, X8, dc, ?_, ?_, ?_⟩
         · walk_at "M"
         · exact set_len_le (fun r hr => Nat.le_succ_of_le (hr1 r hr)) (by (clear hn hne hd hu hvw hTe hTc hTne hwl hi hi2 hlv hb2 hf9 hi' hln hTl hvr hxl hhi hk hsl hl8 hc hc'; omega))
         · simp only [List.length_set]; (clear hne hd hu hvw hTe hTc hTne hwl hi hi2 hlv hi' hTl hrl hvr hxl hhi hk hsl hil hl8 hc hc'; omega)
       · (rename (_ : Int) ≠ _ => hc)
         have hc' : ¬ k + 1 = (insAt col k (0, x)).length := by (clear hn hne hd hu hvw hTe hTc hTne hwl hi hi2 hlv hb2 hf9 hi' hln hTl hrl hvr hxl hhi hk hsl hil hl8; omega)
         rw [if_neg hc'] at hgo
         have hk1 : k + 1 < (insAt col k (0, x)).length := by (clear hn hne hd hu hvw hTe hTc hTne hwl hi hi2 hlv hb2 hf9 hi' hln hTl hrl hvr hxl hhi hk hl8 hc; omega)
         refine hold fun hng => ?_
         obtain ⟨vn, hvn, hIn0, tn, rfl⟩ := hI8.get hk1
         (refine hng ?_; clear hng)
         refine kl_method N8 hm8 PySem.F.slot_list_pop PySem.F.type_list_pop ?_
         walk_at "S3"
         refine pop_put (k := k + 1) F8 N8 hm8 (by (clear hne hd hu hvw hTe hTc hTne hwl hi2 hlv hb2 hf9 hi' hln hTl hvr hxl hhi hk hsl hc hc' hk1 hIn0; omega)) (by have := fits_of (k := k + 1) (by (clear hne hd hu hvw hTe hTc hTne hwl hi2 hlv hb2 hf9 hi' hln hTl hvr hxl hhi hk hsl hl8 hc hc' hIn0; omega)); simpa using this) (by have := seqIndex_nat (k := k + 1) (n := vs8.length) (by (clear hn hne hd hu hvw hTe hTc hTne hwl hi hi2 hlv hb2 hf9 hi' hln hTl hrl hvr hxl hhi hk hsl hil hc hc' hIn0; omega)); simpa using this) hvn (fun h9 k9 F9 N9 => ?_)
         rw [put_append, put_append, put_off (l := own2) (D := a) (fun p hp c => af2 (c ▸ hown2 p hp)), put_off (l := own) (D := a) (fun p hp c => af (c ▸ hown p hp))] at N9
         have X9 := X8.set (n := n8 + 1) ha (hI8.erase (k + 1))
         rw [List.set_set] at X9
         have o18 := put_offs (D := a) (o := PySem.W.listOf (vs8.eraseIdx (k + 1)).toArray (n8 + 1)) o8
         have o19 := put_offs (D := a) (o := PySem.W.listOf (vs8.eraseIdx (k + 1)).toArray (n8 + 1)) o9
         have er : col.length = ((insAt col k (0, x)).eraseIdx (k + 1)).length := by rw [List.length_eraseIdx_of_lt hk1]; (clear hn hne hd hu hvw hTe hTc hTne hwl hi hi2 hlv hb2 hf9 hi' hln hTl hrl hvr hxl hhi hk hsl hl8 hc hc' hk1 hIn0; omega)
         walk_at "S3"
         (rename Fr _ _ _ _ => F10; rename News _ _ _ _ => N10)
         refine ⟨_, _, _, _, rfl, F10, N10, fun p hp => ?_, _, as', oc, _, ((insAt col k (0, x)).getD (k + 1) (0, 0)).2, tn, .int k t7, some k, rfl, o18, X9, dc, ?_, ?_, ?_, .inr ⟨k, t7, rfl, rfl⟩, ?_, ?_, ?_, ?_⟩
         · rcases List.mem_append.mp hp with hp | hp
           · exact hownf p hp
           · exact o19 p hp
         · walk_at "M"
         · walk_at "M"
         · walk_at "M"
         · rw [show word.length - (i2 + 1) = f9 by (clear hn hne hd hu hvw hTe hTc hTne hwl hi hi2 hlv hb2 hi' hln hTl hrl hvr hxl hhi hk hsl hil hl8 hc hc' hk1 hIn0 er; omega)]; exact hgo
         · simp only [List.length_set]; (clear hn hne hd hu hvw hTe hTc hTne hwl hi hi2 hlv hb2 hf9 hln hTl hrl hvr hxl hhi hk hsl hil hl8 hc hc' hk1 hIn0 er; omega)
         · exact set_len_le hr1 (by (clear hn hne hd hu hvw hTe hTc hTne hwl hi hi2 hlv hb2 hf9 hi' hln hTl hvr hxl hhi hk hsl hil hl8 hc hc' hk1 hIn0; omega))
         · simp only [List.length_set]; (clear hn hne hd hu hvw hTe hTc hTne hwl hi hi2 hlv hf9 hi' hTl hrl hvr hxl hhi hk hsl hil hl8 hc hc' hk1 hIn0 er; omega)

-- part SO
theorem offSO : True := by w_top off; trivial
/-- a run of a decision tree by keys, all questions in range -/
def askP {α : Type} (n : Nat) (key : Nat → Int) : KasT α → (α → Prop) → Prop
  | .ret a, Q => Q a
  | .ask i j k, Q => i < n ∧ j < n ∧ askP n key (k (decide (key i < key j))) Q
theorem askP_mono {α : Type} {n : Nat} {key : Nat → Int} {Q Q' : α → Prop} (hq : ∀ a, Q a → Q' a) : ∀ t : KasT α, askP n key t Q → askP n key t Q'
  | .ret a, h => hq a h
  | .ask _ _ k, ⟨h1, h2, h3⟩ => ⟨h1, h2, askP_mono hq (k _) h3⟩
theorem askP_bind {α β : Type} {n : Nat} {key : Nat → Int} {f : α → KasT β} {Q : β → Prop} : ∀ t : KasT α, askP n key t (fun a => askP n key (f a) Q) → askP n key (t.bind f) Q
  | .ret a, h => h
  | .ask _ _ k, ⟨h1, h2, h3⟩ => ⟨h1, h2, askP_bind (k _) h3⟩

section
variable {n : Nat} {key : Nat → Int}
/-- the array is a turn of 0..n-1 -/
structure Pm (n : Nat) (p : Array Nat) : Prop where
  perm : p.Perm (List.range n).toArray
theorem Pm.size {p : Array Nat} (h : Pm n p) : p.size = n := by have := h.perm.size_eq; simpa using this
theorem Pm.lt {p : Array Nat} (h : Pm n p) {i : Nat} (hi : i < n) : p.getD i 0 < n := by
  have hs := h.size
  have hi' : i < p.size := by omega
  have e : p.getD i 0 = p[i] := by simp [Array.getD, hi']
  rw [e]
  have hm : p[i] ∈ p.toList := by simp
  have := (Array.perm_iff_toList_perm.mp h.perm).mem_iff.mp hm
  simpa using this
theorem Pm.of {p q : Array Nat} (h : Pm n p) (k : q.Perm p) : Pm n q := ⟨k.trans h.perm⟩

noncomputable def KN (key : Nat → Int) (p : Array Nat) (i : Nat) : Int := key (p.getD i 0)
theorem KN_congr {p q : Array Nat} {i j : Nat} (h : p[i]? = q[j]?) : KN key p i = KN key q j := by
  unfold KN
  rw [Array.getD_eq_getD_getElem?, Array.getD_eq_getD_getElem?, h]
def UpTo (key : Nat → Int) (p : Array Nat) (k : Nat) : Prop := ∀ i j, i ≤ j → j < k → KN key p i ≤ KN key p j
def DownTo (key : Nat → Int) (p : Array Nat) (k : Nat) : Prop := ∀ i j, i ≤ j → j < k → KN key p j ≤ KN key p i
theorem KN_rev {xs : Array Nat} {i j : Nat} (hj : j ≤ xs.size) (k : Nat) :
    KN key (kas_rev xs i j) k = if i ≤ k ∧ k < j then KN key xs (i + j - 1 - k) else KN key xs k := by
  have e := getElem?_mirror_all (i := i) hj k
  by_cases h1 : i ≤ k ∧ k < j
  · rw [if_pos h1] at e ⊢; exact KN_congr e
  · rw [if_neg h1] at e ⊢; exact KN_congr e
theorem KN_rev_equal {xs : Array Nat} {i j : Nat} (hj : j ≤ xs.size) (heq : ∀ k, i ≤ k → k < j → KN key xs k = KN key xs (j - 1)) (k : Nat) :
    KN key (kas_rev xs i j) k = KN key xs k := by
  rw [KN_rev hj]
  split
  · rw [heq _ (by omega) (by omega), heq k (by omega) (by omega)]
  · rfl
theorem KN_bubble {xs : Array Nat} {src d : Nat} (hs : src < xs.size) (hd : d ≤ src) (k : Nat) :
    KN key (bubble xs src d) k = if k = src - d then KN key xs src else if src - d < k ∧ k ≤ src then KN key xs (k - 1) else KN key xs k := by
  have e := getElem?_bubble hs d hd k
  by_cases h1 : k = src - d
  · rw [if_pos h1] at e ⊢; exact KN_congr e
  · rw [if_neg h1] at e ⊢
    by_cases h2 : src - d < k ∧ k ≤ src
    · rw [if_pos h2] at e ⊢; exact KN_congr e
    · rw [if_neg h2] at e ⊢; exact KN_congr e
theorem Pm.rev {p : Array Nat} (h : Pm n p) (i j : Nat) : Pm n (kas_rev p i j) := h.of (mirror_perm _ _ _ _)

theorem asc_ok {p : Array Nat} (hp : Pm n p) : ∀ (f a : Nat) (Q : Nat → Prop), 1 ≤ a → a + f ≤ n → UpTo key p a →
    (∀ m, a ≤ m → m ≤ a + f → UpTo key p m → (m = a + f ∨ KN key p m < KN key p (m - 1)) → Q m) → askP n key (kas_asc p f a) Q
  | 0, a, Q, _, _, hs, h => h a (Nat.le_refl _) (Nat.le_refl _) hs (.inl rfl)
  | f + 1, a, Q, h1, h2, hs, h => by
    refine ⟨hp.lt (by omega), hp.lt (by omega), ?_⟩
    by_cases hless : KN key p a < KN key p (a - 1)
    · have hl : key (p.getD a 0) < key (p.getD (a - 1) 0) := hless
      simp only [hl, decide_true, if_true]
      exact h a (Nat.le_refl _) (by (clear h1 h2 hless hl; omega)) hs (.inr hless)
    · have hl : ¬ key (p.getD a 0) < key (p.getD (a - 1) 0) := hless
      simp only [hl, decide_false, Bool.false_eq_true, if_false]
      refine asc_ok hp f (a + 1) Q (by (clear h1 h2 hless hl; omega)) (by (clear h1 hless hl; omega)) (fun i j hij hj => ?_) (fun m hm1 hm2 hsm ho => h m (by (clear h1 h2 hless hl hm2 ho; omega)) (by (clear h1 h2 hless hl hm1 ho; omega)) hsm (by rcases ho with e | e; exact .inl (by (clear h1 h2 hless hl hm1 hm2; omega)); exact .inr e))
      by_cases hjx : j < a
      · exact hs i j hij hjx
      · have hj' : j = a := by (clear h1 h2 hless hl hij; omega)
        subst hj'
        by_cases hi' : i = j
        · subst hi'; exact Int.le_refl _
        · exact Int.le_trans (hs i (j - 1) (by omega) (by (clear hij h2 hless hl hj hjx hi'; omega))) (Int.not_lt.mp hless)

theorem tail3_ok {p : Array Nat} (hp : Pm n p) {a nrem : Nat} {Q : Nat × Array Nat → Prop} (h1 : 1 ≤ a) (ha : a ≤ nrem) (hn : nrem ≤ n) (hs : DownTo key p a)
    (h : ∀ m p', Pm n p' → 1 ≤ m → m ≤ nrem → UpTo key p' m → Q (m, p')) : askP n key (kas_tail3 a nrem p) Q := by
  unfold kas_tail3
  have hsz : a ≤ p.size := by rw [hp.size]; omega
  refine askP_bind _ (asc_ok (hp.rev 0 a) (nrem - a) a _ h1 (by omega) ?_ fun m hm1 hm2 hsm _ => h m _ (hp.rev 0 a) (by (clear ha hn hsz hm2; omega)) (by (clear h1 hn hsz hm1; omega)) hsm)
  intro i j hij hj
  rw [KN_rev hsz, KN_rev hsz, if_pos (by (clear h1 ha hn hsz; omega)), if_pos (by (clear h1 ha hn hsz hij; omega))]
  exact hs _ _ (by (clear h1 ha hn hsz hj; omega)) (by (clear h1 ha hn hsz hij; omega))

theorem desc_ok : ∀ (f a q : Nat) (p : Array Nat) (Q : Array Nat × Nat × Nat → Prop), Pm n p → 1 ≤ a → a + f ≤ n → DownTo key p a → q + 1 ≤ a → (∀ i, a - (q + 1) ≤ i → i < a → KN key p i = KN key p (a - 1)) →
    (∀ m q' p', Pm n p' → a ≤ m → m ≤ a + f → DownTo key p' m → q' + 1 ≤ m → (∀ i, m - (q' + 1) ≤ i → i < m → KN key p' i = KN key p' (m - 1)) → Q (p', m, q')) → askP n key (kas_desc f p a q) Q
  | 0, a, q, p, Q, hp, _, _, hs, hq, he, h => h a q p hp (Nat.le_refl _) (Nat.le_refl _) hs hq he
  | f + 1, a, q, p, Q, hp, h1, h2, hs, hq, he, h => by
    have hsz : a ≤ p.size := by rw [hp.size]; omega
    refine ⟨hp.lt (by omega), hp.lt (by omega), ?_⟩
    by_cases hless : KN key p a < KN key p (a - 1)
    · have hl : key (p.getD a 0) < key (p.getD (a - 1) 0) := hless
      simp only [hl, decide_true, if_true]
      have step1 : ∀ xs : Array Nat, (∀ k, KN key xs k = KN key p k) → DownTo key xs (a + 1) := by
        intro xs hk i j hij hj
        rw [hk, hk]
        by_cases hjx : j < a
        · exact hs i j hij hjx
        · have hj' : j = a := by (clear h1 h2 hq hsz hless hl hij; omega)
          subst hj'
          by_cases hi' : i = j
          · subst hi'; exact Int.le_refl _
          · exact Int.le_trans (Int.le_of_lt hless) (hs i (j - 1) (by omega) (by (clear hij h2 hq hsz hless hl hj hjx hi'; omega)))
      by_cases hneq : q > 0
      · rw [if_pos hneq]
        exact desc_ok f (a + 1) 0 _ Q (hp.rev _ _) (by (clear h1 h2 hq hsz hless hl hneq; omega)) (by (clear h1 hq hsz hless hl hneq; omega)) (step1 _ (KN_rev_equal hsz he)) (by (clear h1 h2 hq hsz hless hl hneq; omega)) (fun i h1 h2 => by congr 1; (clear hq hsz hless hl hneq; omega)) (fun m q' p' a1 a2 a3 => h m q' p' a1 (by (clear h1 h2 hq hsz hless hl hneq a3; omega)) (by (clear h1 h2 hq hsz hless hl hneq a2; omega)))
      · rw [if_neg hneq]
        exact desc_ok f (a + 1) 0 _ Q hp (by (clear h1 h2 hq hsz hless hl hneq; omega)) (by (clear h1 hq hsz hless hl hneq; omega)) (step1 _ fun _ => rfl) (by (clear h1 h2 hq hsz hless hl hneq; omega)) (fun i h1 h2 => by congr 1; (clear hq hsz hless hl hneq; omega)) (fun m q' p' a1 a2 a3 => h m q' p' a1 (by (clear h1 h2 hq hsz hless hl hneq a3; omega)) (by (clear h1 h2 hq hsz hless hl hneq a2; omega)))
    · have hl : ¬ key (p.getD a 0) < key (p.getD (a - 1) 0) := hless
      simp only [hl, decide_false, Bool.false_eq_true, if_false]
      refine ⟨hp.lt (by omega), hp.lt (by (clear h1 hq hsz hless hl; omega)), ?_⟩
      by_cases hlarger : KN key p (a - 1) < KN key p a
      · have hl2 : key (p.getD (a - 1) 0) < key (p.getD a 0) := hlarger
        simp only [hl2, decide_true, if_true]
        exact h a q p hp (Nat.le_refl _) (by (clear h1 h2 hq hsz hless hl hlarger hl2; omega)) hs hq he
      · have hl2 : ¬ key (p.getD (a - 1) 0) < key (p.getD a 0) := hlarger
        simp only [hl2, decide_false, Bool.false_eq_true, if_false]
        have heqx : KN key p a = KN key p (a - 1) := by (clear h1 h2 hq hsz hl hl2; omega)
        refine desc_ok f (a + 1) (q + 1) _ Q hp (by (clear h1 h2 hq hsz hless hl hlarger hl2 heqx; omega)) (by (clear h1 hq hsz hless hl hlarger hl2 heqx; omega)) (fun i j hij hj => ?_) (by (clear h1 h2 hsz hless hl hlarger hl2 heqx; omega)) (fun i h1 h2 => ?_) (fun m q' p' a1 a2 a3 => h m q' p' a1 (by (clear h1 h2 hq hsz hless hl hlarger hl2 heqx a3; omega)) (by (clear h1 h2 hq hsz hless hl hlarger hl2 heqx a2; omega)))
        · by_cases hjx : j < a
          · exact hs i j hij hjx
          · have hj' : j = a := by (clear h1 h2 hq hsz hless hl hlarger hl2 heqx hij; omega)
            subst hj'
            by_cases hi' : i = j
            · subst hi'; exact Int.le_refl _
            · rw [heqx]; exact hs i (j - 1) (by omega) (by (clear hij h2 hq hsz hless hl hlarger hl2 heqx hj hjx hi'; omega))
        · rw [show a + 1 - 1 = a by (clear hq hsz hless hl hlarger hl2 heqx h1 h2; omega)]
          by_cases hix : i = a
          · subst hix; rfl
          · rw [heqx]; exact he i (by (clear hq hsz hless hl hlarger hl2 heqx h2 hix; omega)) (by (clear hq hsz hless hl hlarger hl2 heqx h1; omega))

theorem descPart_ok {p : Array Nat} (hp : Pm n p) {a nrem : Nat} {Q : Nat × Array Nat → Prop} (ha : a + 1 ≤ nrem) (hn : nrem ≤ n) (hs : DownTo key p (a + 1))
    (h : ∀ m p', Pm n p' → 1 ≤ m → m ≤ nrem → UpTo key p' m → Q (m, p')) : askP n key (kas_descPart a nrem p) Q := by
  unfold kas_descPart
  refine askP_bind _ (desc_ok _ (a + 1) 0 p _ hp (by omega) (by omega) hs (by omega) (fun i h1 h2 => by congr 1; (clear ha hn; omega)) fun m q p' hp' hm1 hm2 hs' hq he => ?_)
  dsimp only
  have hsz : m ≤ p'.size := by rw [hp'.size]; omega
  by_cases hneq : q > 0
  · rw [if_pos hneq]
    refine tail3_ok (hp'.rev _ _) (by (clear ha hn hm1 hm2 hsz hneq; omega)) (by omega) hn ?_ h
    intro i j hij hj
    rw [KN_rev_equal hsz he, KN_rev_equal hsz he]
    exact hs' i j hij hj
  · rw [if_neg hneq]
    exact tail3_ok hp' (by (clear ha hn hm1 hm2 hsz hneq; omega)) (by omega) hn hs' h

theorem count_ok {p : Array Nat} (hp : Pm n p) {nrem : Nat} {Q : Nat × Array Nat → Prop} (h1 : 1 ≤ nrem) (hn : nrem ≤ n)
    (h : ∀ m p', Pm n p' → 1 ≤ m → m ≤ nrem → UpTo key p' m → Q (m, p')) : askP n key (kas_count nrem p) Q := by
  unfold kas_count
  refine askP_bind _ (asc_ok hp (nrem - 1) 1 _ (Nat.le_refl 1) (by omega) (fun i j hij hj => by
    have : i = j := by omega
    subst this; exact Int.le_refl _) fun m hm1 hm2 hsm hor => ?_)
  by_cases hnn : m = nrem
  · rw [if_pos (by simpa using hnn)]
    exact h m p hp hm1 (by omega) hsm
  · rw [if_neg (by simpa using hnn)]
    have hlt : KN key p m < KN key p (m - 1) := hor.resolve_left (by (clear hn hm1 hm2 hor; omega))
    by_cases hgt : m > 1
    · rw [if_pos hgt]
      refine ⟨hp.lt (by (clear hm1 hm2 hor hnn hlt hgt; omega)), hp.lt (by (clear hm1 hor hnn hlt hgt; omega)), ?_⟩
      by_cases hrose : KN key p 0 < KN key p (m - 1)
      · have hl : key (p.getD 0 0) < key (p.getD (m - 1) 0) := hrose
        simp only [hl, decide_true, if_true]
        exact h m p hp hm1 (by (clear hn hm1 hor hnn hlt hgt hrose hl; omega)) hsm
      · have hl : ¬ key (p.getD 0 0) < key (p.getD (m - 1) 0) := hrose
        simp only [hl, decide_false, Bool.false_eq_true, if_false]
        have hsz : m ≤ p.size := by rw [hp.size]; (clear hm1 hor hnn hlt hgt hrose hl; omega)
        have hall : ∀ k, 0 ≤ k → k < m → KN key p k = KN key p (m - 1) := by
          intro k _ hk
          have a1 := hsm 0 k (by omega) hk
          have a2 := hsm k (m - 1) (by (clear h1 hn hm1 hm2 hor hnn hlt hgt hrose hl hsz a1; omega)) (by (clear h1 hn hm1 hm2 hor hnn hlt hrose hl hsz hk a1; omega))
          (clear h1 hn hm1 hm2 hor hnn hlt hgt hl hsz hk; omega)
        refine descPart_ok (hp.rev _ _) (by (clear hn hm1 hor hlt hgt hrose hl hsz; omega)) hn ?_ h
        intro i j hij hj
        rw [KN_rev_equal hsz hall, KN_rev_equal hsz hall]
        by_cases hjn : j < m
        · rw [hall i (by (clear h1 hn hm1 hm2 hor hnn hlt hgt hrose hl hsz hij hj hjn; omega)) (by (clear h1 hn hm1 hm2 hor hnn hlt hgt hrose hl hsz hj; omega)), hall j (by (clear h1 hn hm1 hm2 hor hnn hlt hgt hrose hl hsz hij hj hjn; omega)) hjn]; exact Int.le_refl _
        · have hj' : j = m := by (clear h1 hn hm1 hm2 hor hnn hlt hgt hrose hl hsz hij; omega)
          subst hj'
          by_cases hi' : i = j
          · subst hi'; exact Int.le_refl _
          · rw [hall i (by (clear h1 hn hij hm1 hm2 hor hnn hlt hgt hrose hl hsz hj hjn hi'; omega)) (by (clear h1 hn hm1 hm2 hor hnn hlt hgt hrose hl hsz hj hjn; omega))]; exact Int.le_of_lt hlt
    · rw [if_neg hgt]
      have hm : m = 1 := by (clear h1 hn hm2 hor hnn hlt; omega)
      subst hm
      refine descPart_ok hp (by (clear hn hm1 hm2 hor hlt hgt; omega)) hn ?_ h
      intro i j hij hj
      by_cases hi' : i = j
      · subst hi'; exact Int.le_refl _
      · have : i = 0 ∧ j = 1 := by (clear h1 hn hm1 hm2 hor hnn hlt hgt; omega)
        obtain ⟨rfl, rfl⟩ := this
        exact Int.le_of_lt hlt

theorem place_ok {p : Array Nat} (hp : Pm n p) {k : Nat} (hk : k < n) (hs : UpTo key p k) : ∀ (f l r : Nat) (Q : Nat → Prop), l ≤ r → r ≤ k → r - l ≤ f → (∀ i, i < l → KN key p i ≤ KN key p k) → (∀ i, r ≤ i → i < k → KN key p k < KN key p i) →
    (∀ m, m ≤ k → (∀ i, i < m → KN key p i ≤ KN key p k) → (∀ i, m ≤ i → i < k → KN key p k < KN key p i) → Q m) → askP n key (kas_place p k f l r) Q
  | 0, l, r, Q, hlr, hrk, hf, hlo, hhi, h => h l (by omega) hlo fun i h1 h2 => hhi i (by (clear hk hlr hrk h2; omega)) h2
  | f + 1, l, r, Q, hlr, hrk, hf, hlo, hhi, h => by
    unfold kas_place
    by_cases hge : l ≥ r
    · rw [if_pos hge]
      exact h l (by (clear hk hf hge; omega)) hlo fun i h1 h2 => hhi i (by (clear hk hlr hrk hf h2; omega)) h2
    · rw [if_neg hge]
      refine ⟨hp.lt hk, hp.lt (by omega), ?_⟩
      by_cases hless : KN key p k < KN key p ((l + r) / 2)
      · have hl : key (p.getD k 0) < key (p.getD ((l + r) / 2) 0) := hless
        simp only [hl, decide_true, if_true]
        exact place_ok hp hk hs f l ((l + r) / 2) Q (by (clear hk hlr hrk hf hless hl; omega)) (by (clear hk hlr hf hless hl; omega)) (by (clear hk hlr hrk hge hless hl; omega)) hlo (fun i h1 h2 => Int.lt_of_lt_of_le hless (hs _ _ h1 h2)) h
      · have hl : ¬ key (p.getD k 0) < key (p.getD ((l + r) / 2) 0) := hless
        simp only [hl, decide_false, Bool.false_eq_true, if_false]
        exact place_ok hp hk hs f ((l + r) / 2 + 1) r Q (by (clear hk hlr hrk hf hless hl; omega)) (by omega) (by (clear hk hlr hrk hge hless hl; omega)) (fun i h1 => Int.le_trans (hs i ((l + r) / 2) (by (clear hk hlr hrk hf hge hless hl; omega)) (by (clear hk hlr hf hless hl h1; omega))) (Int.not_lt.mp hless)) hhi h

theorem bin_ok : ∀ (f k : Nat) (p : Array Nat) (Q : Array Nat → Prop), Pm n p → k + f = n → UpTo key p k → (∀ p', Pm n p' → UpTo key p' n → Q p') → askP n key (kas_bin f p k) Q
  | 0, k, p, Q, hp, hk, hs, h => h p hp (by rw [← hk]; exact hs)
  | f + 1, k, p, Q, hp, hk, hs, h => by
    unfold kas_bin
    refine askP_bind _ (place_ok hp (by omega) hs k 0 k _ (by (clear hk; omega)) (by omega) (by (clear hk; omega)) (fun i hi => by omega) (fun i h1 h2 => by (clear hk; omega)) fun l hlk hlo hhi => ?_)
    refine bin_ok f (k + 1) _ Q (hp.of (bubble_perm _ _ _)) (by omega) ?_ h
    have hks : k < p.size := by rw [hp.size]; omega
    intro i j hij hj
    rw [KN_bubble hks (by (clear hk hlk hks hij hj; omega)), KN_bubble hks (by (clear hk hlk hks hij hj; omega)), show k - (k - l) = l by (clear hk hks hij hj; omega)]
    repeat' split
    all_goals first
      | (exfalso; (clear hk hlk hks; omega))
      | exact Int.le_refl _
      | exact hlo _ (by (clear hk hlk hks hj; omega))
      | exact Int.le_of_lt (hhi _ (by (clear hk hlk hks hij hj; omega)) (by (clear hk hlk hks hij hj; omega)))
      | exact hs _ _ (by omega) (by (clear hk hks hij; omega))

/-- what kas_sort leaves -/
theorem sort_ok (h1 : 1 ≤ n) : askP n key (kas_sort n) fun p => Pm n p ∧ UpTo key p n := by
  unfold kas_sort
  refine askP_bind _ (count_ok ⟨.refl _⟩ h1 (Nat.le_refl _) fun m p hp hm1 hm2 hs => ?_)
  dsimp only
  by_cases hlt : m < n
  · rw [if_pos hlt]
    exact bin_ok _ _ p _ hp (by omega) (by rw [show max m 1 = m by omega]; exact hs) fun p' a b => ⟨a, b⟩
  · rw [if_neg hlt]
    have : m = n := by omega
    subst this
    exact ⟨hp, hs⟩
end

-- part SP
theorem offSP : True := by w_top off; trivial
theorem wp_of_askP {α : Type} {n : Nat} {key : Nat → Int} {cmp : Nat → Nat → (Bool → Shared → Prop) → Shared → Prop} {s : Shared} {Q : α → Prop} {R : α → Shared → Prop}
    (hc : ∀ i j (C : Bool → Shared → Prop), i < n → j < n → C (decide (key i < key j)) s → cmp i j C s) (hq : ∀ a, Q a → R a s) : ∀ t : KasT α, askP n key t Q → t.kasWp cmp R s
  | .ret a, h => hq a h
  | .ask i j k, ⟨h1, h2, h3⟩ => hc i j _ h1 h2 (wp_of_askP hc hq (k _) h3)

/-- pairs, by one number -/
noncomputable def pk (p : Int × Int) : Int := 4 * p.1 + p.2

section
variable {prog : Program} {w : World} {A : Around} {E : Value → Shared → Prop} {s : Shared}
theorem lt_pairs {x y : Value} {p q : Int × Int} {C : Bool → Shared → Prop} (hx : PairAt s.heap x p) (hy : PairAt s.heap y q) (hp : 0 ≤ p.2 ∧ p.2 < 4) (hq : 0 ≤ q.2 ∧ q.2 < 4)
    (h : C (decide (pk p < pk q)) s) : wpAny (model prog w) A (keyLt' (tuples' true) x y) C E s := by
  refine hold fun hng => ?_
  obtain ⟨a, t, t', rfl, oa, ha1, ha2, na, ha3⟩ := hx
  (refine hng ?_; clear hng)
  refine hold fun hng => ?_
  obtain ⟨b, u, u', rfl, ob, hb1, hb2, nb, hb3⟩ := hy
  (refine hng ?_; clear hng)
  refine kat_lt ha1 ha3 hb1 hb3 ?_
  show KatLex prog w A true _ C [(Value.int p.1 t, Value.int q.1 u), (Value.int p.2 t', Value.int q.2 u')] 0 s
  refine kat_cons (wpAny_eqBool_int ?_)
  unfold pk at h
  by_cases h1 : p.1 = q.1
  · rw [show (p.1 == q.1) = true by simpa using h1]
    refine kat_yes (kat_cons (wpAny_eqBool_int ?_))
    by_cases h2 : p.2 = q.2
    · rw [show (p.2 == q.2) = true by simpa using h2]
      refine kat_yes (kat_nil ?_)
      have e : decide (4 * p.1 + p.2 < 4 * q.1 + q.2) = false := by simp; omega
      rw [e] at h
      exact h
    · rw [show (p.2 == q.2) = false by simpa using h2]
      refine kat_no (kat_one _ _ (lt_int ?_))
      have e : decide (4 * p.1 + p.2 < 4 * q.1 + q.2) = decide (p.2 < q.2) := by simp; omega
      rw [e] at h
      exact h
  · rw [show (p.1 == q.1) = false by simpa using h1]
    refine kat_no (oneLt_int ?_)
    have e : decide (4 * p.1 + p.2 < 4 * q.1 + q.2) = decide (p.1 < q.1) := by simp; omega
    rw [e] at h
    exact h

/-- a pair that stands in the base or on the ledger -/
def PairIn (h₀ : Heap) (news : List (Addr × Obj)) (v : Value) (p : Int × Int) : Prop := ∃ a t t' o n, v = .ref a ∧ o.cls = .type "tuple" ∧ o.data = .seq #[.int p.1 t, .int p.2 t'] n ∧ (h₀.get? a = some o ∨ (a, o) ∈ news)
theorem PairIn.at {h₀ h : Heap} {L : Addr} {m : Str → Option Value} {news : List (Addr × Obj)} {v : Value} {p : Int × Int} (X : PairIn h₀ news v p) (F : Fr h₀ L h m) (N : News h₀ L h news) : PairAt h v p := by
  refine hold fun hng => ?_
  obtain ⟨a, t, t', o, n, rfl, h1, h2, h3⟩ := X
  (refine hng ?_; clear hng)
  rcases h3 with e | e
  · exact ⟨a, t, t', rfl, o, F.keep _ _ e, h1, n, h2⟩
  · exact ⟨a, t, t', rfl, o, (N _ e).1, h1, n, h2⟩
theorem PairIn.mono {h₀ : Heap} {news news' : List (Addr × Obj)} {v : Value} {p : Int × Int} (X : PairIn h₀ news v p) (h : ∀ q ∈ news, q ∈ news') : PairIn h₀ news' v p := by
  refine hold fun hng => ?_
  obtain ⟨a, t, t', o, n, e, h1, h2, h3⟩ := X
  (refine hng ?_; clear hng)
  exact ⟨a, t, t', o, n, e, h1, h2, h3.imp id (h _)⟩
/-- a list of such pairs -/
def PairsIn (h₀ : Heap) (news : List (Addr × Obj)) (vs : List Value) (ps : List (Int × Int)) : Prop := vs.length = ps.length ∧ ∀ (i : Nat) (v : Value) (p : Int × Int), vs[i]? = some v → ps[i]? = some p → PairIn h₀ news v p
theorem PairsIn.at {h₀ h : Heap} {L : Addr} {m : Str → Option Value} {news : List (Addr × Obj)} {vs : List Value} {ps : List (Int × Int)} (X : PairsIn h₀ news vs ps) (F : Fr h₀ L h m) (N : News h₀ L h news) : ItemsAt true h vs ps :=
  ⟨X.1, fun i v p h1 h2 => (X.2 i v p h1 h2).at F N⟩
theorem PairsIn.mono {h₀ : Heap} {news news' : List (Addr × Obj)} {vs : List Value} {ps : List (Int × Int)} (X : PairsIn h₀ news vs ps) (h : ∀ q ∈ news, q ∈ news') : PairsIn h₀ news' vs ps :=
  ⟨X.1, fun i v p h1 h2 => (X.2 i v p h1 h2).mono h⟩

theorem map_range_getD {α : Type} (d : α) (l : List α) : (List.range l.length).map (fun i => l.getD i d) = l := by
  apply List.ext_getElem?
  intro i
  by_cases h : i < l.length
  · simp [h]
  · simp [Nat.le_of_not_lt h]

theorem kat_tups_of {h : Heap} : ∀ {vs : List Value} {ps : List (Int × Int)}, ItemsAt true h vs ps → ∃ fs : List Value, KatTups h vs fs ∧ fs.length = ps.length ∧ ∀ v ∈ fs, ∃ n t, v = .int n t
  | [], [], _ => ⟨[], .nil, rfl, by simp⟩
  | [], _ :: _, h => by have := h.1; simp at this
  | _ :: _, [], h => by have := h.1; simp at this
  | v :: vs, p :: ps, h => by
    refine hold fun hng => ?_
    obtain ⟨fs, h1, h2, h3⟩ := kat_tups_of (vs := vs) (ps := ps) ⟨by simpa using h.1, fun i v p h1 h2 => h.2 (i + 1) v p (by simpa using h1) (by simpa using h2)⟩
    (refine hng ?_; clear hng)
    refine hold fun hng => ?_
    obtain ⟨a, t, t', rfl, o, ho, hc, n, hd⟩ := h.2 0 v p rfl rfl
    (refine hng ?_; clear hng)
    refine ⟨.int p.1 t :: fs, .cons ho hc hd rfl h1, by simp [h2], fun v hv => ?_⟩
    rcases List.mem_cons.mp hv with rfl | hv
    · exact ⟨_, _, rfl⟩
    · exact h3 v hv

theorem sorted_pairs {h₀ : Heap} {L : Addr} {m : Str → Option Value} {news : List (Addr × Obj)} {l : Addr} {vs : List Value} {ps : List (Int × Int)} {Q : Value → Shared → Prop} (F : Fr h₀ L s.heap m) (N : News h₀ L s.heap news)
    (hl : s.heap.IsList l vs.toArray) (hI : PairsIn h₀ news vs ps) (hb : ∀ p ∈ ps, 0 ≤ p.2 ∧ p.2 < 4) (h2 : 2 ≤ ps.length) (h64 : ps.length < 64)
    (h : ∀ D vs' ps' c h', Fr h₀ L h' m → News h₀ L h' ((D, PySem.W.listOf vs'.toArray c) :: news) → (∀ q ∈ news, q.1 < D) → PairsIn h₀ news vs' ps' → ps'.Perm ps → ps'.Pairwise (fun p q => pk p ≤ pk q) → Q (.ref D) { s with heap := h' }) :
    wpAny (model prog w) A (call (.builtin "sorted") [.ref l]) Q E s := by
  have hvl := hI.1
  refine kat_sorted F N hl (by (clear h64; omega)) (by (clear h2; omega)) (fun D e1 h1 F1 N1 lt1 => ?_)
  have N2 : News h₀ L h1 news := fun p hp => N1 p (.tail _ hp)
  have hI1 := hI.at F1 N2
  refine hold fun hng => ?_
  obtain ⟨fs, t1, t2, t3⟩ := kat_tups_of hI1
  (refine hng ?_; clear hng)
  refine kat_kind (s := { s with heap := h1 }) (T := .type "int") t1 (by (clear h64 hvl; omega)) (fun v hv => ?_) (by decide) ?_
  · refine hold fun hng => ?_
    obtain ⟨n, t, rfl⟩ := t3 v hv
    (refine hng ?_; clear hng)
    exact Looks.now
  · have eT : (Value.type "int" != Value.type "tuple") = true := by decide
    rw [eT]
    refine wp_of_askP (n := vs.length) (key := fun i => pk (ps.getD i (0, 0))) (Q := fun p => Pm vs.length p ∧ UpTo (fun i => pk (ps.getD i (0, 0))) p vs.length) (fun i j C hi hj hC => ?_) (fun p hp => ?_) _ (sort_ok (by (clear h64 t2; omega)))
    · have g : ∀ i, i < vs.length → PairAt h1 (vs.getD i .none) (ps.getD i (0, 0)) ∧ 0 ≤ (ps.getD i (0, 0)).2 ∧ (ps.getD i (0, 0)).2 < 4 := fun i hi => by
        have hi' : i < ps.length := by (clear h2 h64 t2 hj; omega)
        have ev : vs[i]? = some (vs.getD i .none) := by simp [hi]
        have ep : ps[i]? = some (ps.getD i (0, 0)) := by simp [hi']
        exact ⟨hI1.2 i _ _ ev ep, hb _ (List.mem_of_getElem? ep)⟩
      exact lt_pairs (s := { s with heap := h1 }) (g i hi).1 (g j hj).1 (g i hi).2 (g j hj).2 hC
    · obtain ⟨hp, hs⟩ := hp
      have hsz := hp.size
      have hperm := Array.perm_iff_toList_perm.mp hp.perm
      refine KasFin.intro F1 N1 (.head fun q hq e => absurd (lt1 q hq) (e ▸ Nat.lt_irrefl _)) (fun h' c F' N' => ?_)
      have hgd : ∀ i, i < p.toList.length → p.toList[i]? = some (p.getD i 0) := fun i hi => by
        have hi' : i < p.size := by simpa using hi
        simp [Array.getD, hi']
      refine h D _ (p.toList.map fun i => ps.getD i (0, 0)) c h' F' N' lt1 ⟨by simp, fun i v q h1 h2 => ?_⟩ ?_ ?_
      · rw [List.getElem?_map] at h1 h2
        cases e : p.toList[i]? with
        | none => rw [e] at h1; cases h1
        | some k =>
          rw [e] at h1 h2
          cases h1; cases h2
          have hk : k < vs.length := by
            have := hperm.mem_iff.mp (List.mem_of_getElem? e)
            simpa using this
          have hk' : k < ps.length := by (clear h2 h64 t2 hsz; omega)
          exact hI.2 k _ _ (by simp [hk]) (by simp [hk'])
      · have e := hperm.map fun i => ps.getD i (0, 0)
        rw [show ((List.range vs.length).toArray.toList.map fun i => ps.getD i (0, 0)) = ps by rw [hvl]; simpa using map_range_getD (0, 0) ps] at e
        exact e
      · rw [List.pairwise_iff_getElem]
        intro i j hi hj hij
        have hi' : i < p.size := by simpa using hi
        have hj' : j < p.size := by simpa using hj
        have := hs i j (Nat.le_of_lt hij) (by (clear h2 h64 hvl t2 hi hj hij hi'; omega))
        unfold KN at this
        simpa [Array.getD, hi', hj'] using this
end

-- part LR
theorem offLR : True := by w_top off; trivial
theorem readsAll_of {h : Heap} : ∀ (vs : List Value) (ds : List PyData), vs.length = ds.length → (∀ (i : Nat) (v : Value) (d : PyData), vs[i]? = some v → ds[i]? = some d → ∃ as, Reads h v d as) → ∃ as, ReadsAll h vs ds as
  | [], [], _, _ => ⟨_, .nil⟩
  | [], _ :: _, h, _ => by simp at h
  | _ :: _, [], h, _ => by simp at h
  | v :: vs, d :: ds, h, k => by
    obtain ⟨as, h1⟩ := k 0 v d rfl rfl
    obtain ⟨bs, h2⟩ := readsAll_of vs ds (by simpa using h) fun i v d h1 h2 => k (i + 1) v d (by simpa using h1) (by simpa using h2)
    exact ⟨_, .cons h1 h2⟩
theorem lay_all : ∀ xs : List PyData, (∀ x ∈ xs, x.canLay0 = true) → PyData.canLayAll0 xs = true
  | [], _ => rfl
  | x :: xs, h => by rw [PyData.canLayAll0, h x (.head _), lay_all xs fun y hy => h y (.tail _ hy)]; rfl
theorem depth_all {k : Nat} : ∀ xs : List PyData, (∀ x ∈ xs, x.depth ≤ k) → PyData.depthAll xs ≤ k
  | [], _ => by rw [PyData.depthAll]; exact Nat.zero_le _
  | x :: xs, h => by rw [PyData.depthAll]; exact Nat.max_le.mpr ⟨h x (.head _), depth_all xs fun y hy => h y (.tail _ hy)⟩

/-- data of a row, a table, pairs -/
noncomputable def dRow (row : List Itm) : PyData := .list (row.map fun p => .int p.2)
noncomputable def dTab (rows : Tbl) : PyData := .list (rows.map dRow)
noncomputable def dPair (p : Itm) : PyData := .tuple [.int p.1, .int p.2]
noncomputable def dPairs (ps : List Itm) : PyData := .list (ps.map dPair)
noncomputable def dMarked (q : Int × Itm) : PyData := .tuple [.int q.1, dPair q.2]

theorem depth_pair (p : Itm) : (dPair p).depth ≤ 1 := by
  unfold dPair; simp only [PyData.depth, PyData.depthAll]; decide
theorem lay_pair (p : Itm) : (dPair p).canLay0 = true := rfl
theorem shaped_list {k : Nat} {xs : List PyData} (h1 : ∀ x ∈ xs, x.canLay0 = true) (h2 : ∀ x ∈ xs, x.depth ≤ k) (hk : k < 64) : PySem.SeqAt.shaped (.list xs) = true := by
  have := depth_all xs h2
  unfold PySem.SeqAt.shaped
  rw [PyData.canLay0, lay_all _ h1, PyData.depth, decide_eq_true (by omega)]
  rfl
theorem lay_row (row : List Itm) : (dRow row).canLay0 = true := by
  unfold dRow; rw [PyData.canLay0]
  refine lay_all _ fun x hx => ?_
  refine hold fun hng => ?_
  obtain ⟨p, _, rfl⟩ := List.mem_map.mp hx
  (refine hng ?_; clear hng)
  rfl
theorem depth_row (row : List Itm) : (dRow row).depth ≤ 1 := by
  unfold dRow; rw [PyData.depth]
  refine Nat.succ_le_succ (depth_all _ fun x hx => ?_)
  refine hold fun hng => ?_
  obtain ⟨p, _, rfl⟩ := List.mem_map.mp hx
  (refine hng ?_; clear hng)
  simp [PyData.depth]
theorem shaped_tab (rows : Tbl) : PySem.SeqAt.shaped (dTab rows) = true := shaped_list (k := 1) (fun x hx => by
  refine hold fun hng => ?_
  obtain ⟨p, _, rfl⟩ := List.mem_map.mp hx
  (refine hng ?_; clear hng)
  exact lay_row p) (fun x hx => by
  refine hold fun hng => ?_
  obtain ⟨p, _, rfl⟩ := List.mem_map.mp hx
  (refine hng ?_; clear hng)
  exact depth_row p) (by decide)
theorem shaped_pairs (ps : List Itm) : PySem.SeqAt.shaped (dPairs ps) = true := shaped_list (k := 1) (fun x hx => by
  refine hold fun hng => ?_
  obtain ⟨p, _, rfl⟩ := List.mem_map.mp hx
  (refine hng ?_; clear hng)
  exact lay_pair p) (fun x hx => by
  refine hold fun hng => ?_
  obtain ⟨p, _, rfl⟩ := List.mem_map.mp hx
  (refine hng ?_; clear hng)
  exact depth_pair p) (by decide)
theorem shaped_marked (qs : List (Int × Itm)) : PySem.SeqAt.shaped (.list (qs.map dMarked)) = true := shaped_list (k := 2) (fun x hx => by
  refine hold fun hng => ?_
  obtain ⟨p, _, rfl⟩ := List.mem_map.mp hx
  (refine hng ?_; clear hng)
  rfl) (fun x hx => by
  refine hold fun hng => ?_
  obtain ⟨p, _, rfl⟩ := List.mem_map.mp hx
  (refine hng ?_; clear hng)
  unfold dMarked dPair; simp only [PyData.depth, PyData.depthAll]; decide) (by decide)
theorem eqv_self {d : PyData} (h : PySem.SeqAt.shaped d = true) : PyData.eqv d d = true := PySem.SeqAt.eqv_refl _ (PySem.SeqAt.canLay_of_shaped h)

theorem reads_pair {h : Heap} {v : Value} {p : Itm} (X : PairAt h v p) : ∃ as, Reads h v (dPair p) as := by
  refine hold fun hng => ?_
  obtain ⟨a, t, t', rfl, o, e, hc, n, hd⟩ := X
  (refine hng ?_; clear hng)
  exact ⟨_, .tuple e hc hd (.cons (.int _ _) (.cons (.int _ _) .nil))⟩
theorem reads_pairs {h : Heap} {l : Addr} {vs : List Value} {ps : List Itm} (X : LAt h l vs) (Y : ItemsAt true h vs ps) : ∃ as, Reads h (.ref l) (dPairs ps) as := by
  obtain ⟨n, e⟩ := X
  obtain ⟨as, r⟩ := readsAll_of (h := h) vs (ps.map dPair) (by rw [List.length_map]; exact Y.1) fun i v d h1 h2 => by
    rw [List.getElem?_map] at h2
    refine hold fun hng => ?_
    obtain ⟨p, hp, rfl⟩ := Option.map_eq_some_iff.mp h2
    (refine hng ?_; clear hng)
    exact reads_pair (Y.2 i v p h1 hp)
  exact ⟨_, .list e rfl rfl (by simpa using r)⟩
theorem reads_row {h : Heap} {l : Addr} {vs : List Value} {row : List Itm} (X : LAt h l vs) (Y : ItemsAt false h vs row) : ∃ as, Reads h (.ref l) (dRow row) as := by
  obtain ⟨n, e⟩ := X
  obtain ⟨as, r⟩ := readsAll_of (h := h) vs (row.map fun p => .int p.2) (by rw [List.length_map]; exact Y.1) fun i v d h1 h2 => by
    rw [List.getElem?_map] at h2
    refine hold fun hng => ?_
    obtain ⟨p, hp, rfl⟩ := Option.map_eq_some_iff.mp h2
    (refine hng ?_; clear hng)
    refine hold fun hng => ?_
    obtain ⟨_, t, rfl⟩ := Y.2 i v p h1 hp
    (refine hng ?_; clear hng)
    exact ⟨_, .int _ _⟩
  exact ⟨_, .list e rfl rfl (by simpa using r)⟩
theorem reads_tab {h : Heap} {T : Addr} {rows : Tbl} (X : TabH false h T rows) : ∃ as, Reads h (.ref T) (dTab rows) as := by
  refine hold fun hng => ?_
  obtain ⟨as, ⟨n, e⟩, hl, hr⟩ := X
  (refine hng ?_; clear hng)
  obtain ⟨bs, r⟩ := readsAll_of (h := h) (as.map Value.ref) (rows.map dRow) (by rw [List.length_map, List.length_map]; exact hl) fun i v d h1 h2 => by
    rw [List.getElem?_map] at h1 h2
    refine hold fun hng => ?_
    obtain ⟨a, ha, rfl⟩ := Option.map_eq_some_iff.mp h1
    (refine hng ?_; clear hng)
    refine hold fun hng => ?_
    obtain ⟨row, hrow, rfl⟩ := Option.map_eq_some_iff.mp h2
    (refine hng ?_; clear hng)
    refine hold fun hng => ?_
    obtain ⟨vs, h3, h4⟩ := hr i a row ha hrow
    (refine hng ?_; clear hng)
    exact reads_row h3 h4
  exact ⟨_, .list e rfl rfl (by simpa using r)⟩
theorem reads_found1 {h : Heap} {D : Addr} {res : List (Int × Itm)} (X : FoundH false h D res) : ∃ as, Reads h (.ref D) (dPairs (res.map fun q => (q.1, q.2.2))) as := by
  refine hold fun hng => ?_
  obtain ⟨vs, ⟨n, e⟩, hl, hr⟩ := X
  (refine hng ?_; clear hng)
  obtain ⟨bs, r⟩ := readsAll_of (h := h) vs ((res.map fun q => (q.1, q.2.2)).map dPair) (by rw [List.length_map, List.length_map]; exact hl) fun i v d h1 h2 => by
    rw [List.getElem?_map, List.getElem?_map] at h2
    refine hold fun hng => ?_
    obtain ⟨p, hp, rfl⟩ := Option.map_eq_some_iff.mp h2
    (refine hng ?_; clear hng)
    refine hold fun hng => ?_
    obtain ⟨q, hq, rfl⟩ := Option.map_eq_some_iff.mp hp
    (refine hng ?_; clear hng)
    refine hold fun hng => ?_
    obtain ⟨a, t, u, rfl, ⟨o, ho, hc, k, hd⟩, _, t2, rfl⟩ := hr i v q h1 hq
    (refine hng ?_; clear hng)
    exact ⟨_, .tuple ho hc hd (.cons (.int _ _) (.cons (.int _ _) .nil))⟩
  exact ⟨_, .list e rfl rfl (by simpa using r)⟩
theorem reads_found2 {h : Heap} {D : Addr} {res : List (Int × Itm)} (X : FoundH true h D res) : ∃ as, Reads h (.ref D) (.list (res.map dMarked)) as := by
  refine hold fun hng => ?_
  obtain ⟨vs, ⟨n, e⟩, hl, hr⟩ := X
  (refine hng ?_; clear hng)
  obtain ⟨bs, r⟩ := readsAll_of (h := h) vs (res.map dMarked) (by rw [List.length_map]; exact hl) fun i v d h1 h2 => by
    rw [List.getElem?_map] at h2
    refine hold fun hng => ?_
    obtain ⟨q, hq, rfl⟩ := Option.map_eq_some_iff.mp h2
    (refine hng ?_; clear hng)
    refine hold fun hng => ?_
    obtain ⟨a, t, u, rfl, ⟨o, ho, hc, k, hd⟩, hu⟩ := hr i v q h1 hq
    (refine hng ?_; clear hng)
    obtain ⟨as, ru⟩ := reads_pair hu
    exact ⟨_, .tuple ho hc hd (.cons (.int _ _) (.cons ru .nil))⟩
  exact ⟨_, .list e rfl rfl (by simpa using r)⟩

-- part LW
theorem offLW : True := by w_top off; trivial
local macro_rules | `(tactic| walk_at "G4") => `(tactic| (
  (walk_at "G3");
  (fail_if_success (with_reducible show wpAny _ _ (eval (Expr.Name _ _) _) _ _ _));
  (fail_if_success (with_reducible show wpAny _ _ (eval (Expr.Call _ _ _ _) _) _ _ _))))
local macro_rules | `(tactic| walk_at "S4") => `(tactic| repeat' (walk_at "G4"; first | ((with_reducible show Frag.In _ _); first | assumption | exact Frag.In.keeps (by assumption) (Fr.keep (by assumption))) | (k_unfold; (try dsimp only)) | walk1 | (dsimp only; walk1)))






theorem assign2X {prog : Program} {w : World} {A : Around} {E : Value → Shared → Prop} {s : Shared} {env : Env} {g : Heap} {m : Str → Option Value} {news : List (Addr × Obj)} {a b : Str} {pa pb tp : Pos} {kk : Nat} {T : Addr} {x y : Value} {Q : Unit → Shared → Prop} (hh : A.handled = none) (F : Fr g env.locals s.heap m) (N : News g env.locals s.heap news) (ht : s.heap.IsTuple T #[x, y])
    (h : ∀ h₁, Fr g env.locals h₁ m → News g env.locals h₁ news → wpAny (model prog w) A (storeName env a x) (fun _ s₂ => wpAny (model prog w) A (storeName env b y) Q E s₂) E { s with heap := h₁ }) :
    wpAny (model prog w) A (assign (.Tuple [.Name a pa, .Name b pb] kk tp) env (.ref T)) Q E s := by
  refine wpAny_assign_Tuple hh ht rfl rfl fun h₁ he₁ => ?_
  have up₁ : ∀ c o, s.heap.get? c = some o → h₁.get? c = some o := fun c o e => he₁ c o (Nat.ne_of_lt (Heap.lt_size e)) e
  show wpAny _ _ (assignInOrder [assign (.Name a pa) env, assign (.Name b pb) env] [x, y]) _ _ _
  refine assignInOrder_cons (wpAny_assign_Name (wpAny_mono (h h₁ (F.keeps up₁) (N.grown up₁)) (fun _ s₂ h₂ => ?_) fun _ _ e => e))
  refine assignInOrder_cons (wpAny_assign_Name (wpAny_mono h₂ (fun _ s₃ h₃ => ?_) fun _ _ e => e))
  exact assignInOrder_nil h₃
theorem PairsIn.snoc {g : Heap} {news : List (Addr × Obj)} {q : Addr × Obj} {vs : List Value} {ps : List Itm} {v : Value} {p : Itm} (X : PairsIn g news vs ps) (Y : PairIn g (q :: news) v p) : PairsIn g (q :: news) (vs ++ [v]) (ps ++ [p]) := by
  have hl := X.1
  refine ⟨by simp [hl], fun i u r h1 h2 => ?_⟩
  rcases Nat.lt_trichotomy i vs.length with h | h | h
  · rw [List.getElem?_append_left h] at h1
    rw [List.getElem?_append_left (by omega)] at h2
    exact (X.2 i u r h1 h2).mono fun q hq => .tail _ hq
  · subst h
    rw [List.getElem?_append_right (Nat.le_refl _)] at h1
    rw [hl, List.getElem?_append_right (Nat.le_refl _)] at h2
    simp at h1 h2
    subst h1 h2
    exact Y
  · rw [List.getElem?_eq_none (by simp; (clear hl; omega))] at h1; cases h1
theorem PairsIn.put {g h : Heap} {L D : Addr} {NL : List (Addr × Obj)} {vs : List Value} {ps : List Itm} {o o' : Obj} (X : PairsIn g NL vs ps) (N : News g L h NL) (hm : (D, o) ∈ NL) (hd : ∀ xs n, o.data ≠ .seq xs n ∨ o.cls ≠ .type "tuple") : PairsIn g (put NL D o') vs ps := by
  refine ⟨X.1, fun i v p h1 h2 => ?_⟩
  refine hold fun hng => ?_
  obtain ⟨a, t, t', o1, n, e, hc, hd1, ho⟩ := X.2 i v p h1 h2
  (refine hng ?_; clear hng)
  refine ⟨a, t, t', o1, n, e, hc, hd1, ho.imp id fun hm1 => put_mem_ne hm1 fun c => ?_⟩
  subst c
  have := (N _ hm1).1.symm.trans (N _ hm).1
  cases this
  rcases hd _ _ with h | h
  · exact h hd1
  · exact h hc
theorem News.ne {g h : Heap} {L a b : Addr} {NL : List (Addr × Obj)} {o o' : Obj} (N : News g L h NL) (h1 : (a, o) ∈ NL) (h2 : (b, o') ∈ NL) (hd : o.data ≠ o'.data) : a ≠ b := fun c => by
  subst c
  have := (N _ h1).1.symm.trans (N _ h2).1
  cases this
  exact hd rfl
/-- what is new below a frame comes onto its ledger -/
theorem newer_news {g h h' : Heap} {L : Addr} {m : Str → Option Value} {nx : List (Addr × Obj)} (F : Fr g L h m) (H : ∀ p ∈ nx, h'.get? p.1 = some p.2 ∧ h.get? p.1 = none) : News g L h' nx := fun p hp => by
  obtain ⟨h1, h2⟩ := H p hp
  refine ⟨h1, fun c => ?_, ?_⟩
  · refine hold fun hng => ?_
    obtain ⟨o, _, _, ho, _⟩ := F.ns
    (refine hng ?_; clear hng)
    rw [c, ho] at h2; cases h2
  · cases e : g.get? p.1 with
    | none => rfl
    | some o => rw [F.keep _ _ e] at h2; cases h2

theorem pair_bounds (n : Int) : (0 ≤ (n.fmod 12).fdiv 4 ∧ (n.fmod 12).fdiv 4 < 4) ∧ 0 ≤ n.fmod 4 ∧ n.fmod 4 < 4 := by
  rw [Int.fmod_eq_emod_of_nonneg _ (by decide), Int.fmod_eq_emod_of_nonneg _ (by decide), Int.fdiv_eq_ediv_of_nonneg _ (by decide)]
  omega

/-- a heap that keeps only some places -/
noncomputable def keepOnly (h : Heap) (as : List Addr) : Heap := hideAll h ((List.range h.objs.size).filter fun a => decide (a ∉ as))
theorem keepOnly_of {h : Heap} {as : List Addr} {b : Addr} {o : Obj} (e : (keepOnly h as).get? b = some o) : b ∈ as ∧ h.get? b = some o := by
  have e1 := of_hideAll _ e
  refine ⟨Classical.byContradiction fun hb => ?_, e1⟩
  have : (keepOnly h as).get? b = none := hideAll_none _ (List.mem_filter.mpr ⟨List.mem_range.mpr (Heap.lt_size e1), by simpa using hb⟩)
  rw [this] at e; cases e
theorem keepOnly_get {h : Heap} {as : List Addr} {b : Addr} {o : Obj} (hb : b ∈ as) (e : h.get? b = some o) : (keepOnly h as).get? b = some o :=
  hideAll_get _ e fun hm => by have := (List.mem_filter.mp hm).2; simp [hb] at this
/-- a base that holds just the pairs -/
theorem PairsIn.base {g h : Heap} {L : Addr} {m : Str → Option Value} {NL : List (Addr × Obj)} {vs : List Value} {ps : List Itm} (X : PairsIn g NL vs ps) (F : Fr g L h m) (N : News g L h NL) :
    ∃ gp : Heap, ItemsAt true gp vs ps ∧ ∀ b o, gp.get? b = some o → (∃ xs n, o.data = .seq xs n) ∧ (g.get? b = some o ∨ (b, o) ∈ NL) := by
  refine ⟨keepOnly h (vs.filterMap fun v => match v with | .ref a => some a | _ => none), ⟨X.1, fun i v p h1 h2 => ?_⟩, fun b o e => ?_⟩
  · refine hold fun hng => ?_
    obtain ⟨a, t, t', o, n, rfl, hc, hd, ho⟩ := X.2 i v p h1 h2
    (refine hng ?_; clear hng)
    have hg : h.get? a = some o := by
      rcases ho with e | e
      · exact F.keep _ _ e
      · exact (N _ e).1
    exact ⟨a, t, t', rfl, o, keepOnly_get (List.mem_filterMap.mpr ⟨_, List.mem_of_getElem? h1, rfl⟩) hg, hc, n, hd⟩
  · obtain ⟨hb, e1⟩ := keepOnly_of e
    refine hold fun hng => ?_
    obtain ⟨v, hv, hvb⟩ := List.mem_filterMap.mp hb
    (refine hng ?_; clear hng)
    refine hold fun hng => ?_
    obtain ⟨i, hi, ei⟩ := List.mem_iff_getElem.mp hv
    (refine hng ?_; clear hng)
    obtain ⟨a, t, t', o', n, rfl, hc, hd, ho⟩ := X.2 i v (ps[i]'(X.1 ▸ hi)) (by rw [← ei]; exact List.getElem?_eq_getElem hi) (List.getElem?_eq_getElem _)
    obtain rfl : a = b := by simpa using hvb
    have hg : h.get? a = some o' := by
      rcases ho with e | e
      · exact F.keep _ _ e
      · exact (N _ e).1
    rw [e1] at hg
    cases hg
    exact ⟨⟨_, _, hd⟩, ho⟩

theorem bounds_to {k n : Nat} (h : k ≤ n) : sliceBounds none (some (k : Int)) none n = (((0 : Nat) : Int), ((k : Nat) : Int), 1) := by
  simp [sliceBounds]
  omega
theorem pick_to {vs : List Value} {k : Nat} (h : k ≤ vs.length) : slicePick vs.toArray none (some (k : Int)) none = (vs.take k).toArray := by
  rw [kmk_pick_nat _ (bounds_to (by simpa using h))]
  simp

theorem hideC {h : Heap} {c b : Addr} {o : Obj} (e : h.get? b = some o) (hne : b ≠ c) : (hideAll h [c]).get? b = some o := hideAll_get _ e (by simpa using hne)
theorem ne_cell {h : Heap} {c b : Addr} {o oc : Obj} {xs : Array Value} {n : Nat} (e : h.get? b = some o) (ho : o.data = .seq xs n) (hc : h.get? c = some oc) (hd : ∀ xs n, oc.data ≠ .seq xs n) : b ≠ c := fun x => by
  subst x
  rw [e] at hc
  cases hc
  exact hd _ _ ho
theorem LAt.hideC {h : Heap} {c l : Addr} {vs : List Value} {oc : Obj} (X : LAt h l vs) (hc : h.get? c = some oc) (hd : ∀ xs n, oc.data ≠ .seq xs n) : LAt (hideAll h [c]) l vs := by
  obtain ⟨n, e⟩ := X
  exact ⟨n, Mine.hideC e (ne_cell e rfl hc hd)⟩
theorem ItemsAt.hideC {b : Bool} {h : Heap} {c : Addr} {vs : List Value} {ps : List Itm} {oc : Obj} (X : ItemsAt b h vs ps) (hc : h.get? c = some oc) (hd : ∀ xs n, oc.data ≠ .seq xs n) : ItemsAt b (hideAll h [c]) vs ps := by
  refine ⟨X.1, fun i v p h1 h2 => ?_⟩
  have z := X.2 i v p h1 h2
  cases b with
  | false => exact z
  | true =>
    refine hold fun hng => ?_
    obtain ⟨a, t, t', rfl, o, e, hcl, n, hdt⟩ := z
    (refine hng ?_; clear hng)
    exact ⟨a, t, t', rfl, o, Mine.hideC e (ne_cell e hdt hc hd), hcl, n, hdt⟩
theorem TabH.hideC {b : Bool} {h : Heap} {c T : Addr} {rows : Tbl} {oc : Obj} (X : TabH b h T rows) (hc : h.get? c = some oc) (hd : ∀ xs n, oc.data ≠ .seq xs n) : TabH b (hideAll h [c]) T rows := by
  refine hold fun hng => ?_
  obtain ⟨as, h1, h2, h3⟩ := X
  (refine hng ?_; clear hng)
  refine ⟨as, h1.hideC hc hd, h2, fun i a row h4 h5 => ?_⟩
  refine hold fun hng => ?_
  obtain ⟨vs, h6, h7⟩ := h3 i a row h4 h5
  (refine hng ?_; clear hng)
  exact ⟨vs, h6.hideC hc hd, h7.hideC hc hd⟩
theorem TabH.keeps {b : Bool} {h h' : Heap} {T : Addr} {rows : Tbl} (X : TabH b h T rows) (k : Ext h h') : TabH b h' T rows := by
  refine hold fun hng => ?_
  obtain ⟨as, ⟨n, h1⟩, h2, h3⟩ := X
  (refine hng ?_; clear hng)
  refine ⟨as, ⟨n, k _ _ h1⟩, h2, fun i a row h4 h5 => ?_⟩
  refine hold fun hng => ?_
  obtain ⟨vs, ⟨n6, h6⟩, h7⟩ := h3 i a row h4 h5
  (refine hng ?_; clear hng)
  exact ⟨vs, ⟨n6, k _ _ h6⟩, h7.keeps k⟩
theorem LAt.keeps {h h' : Heap} {l : Addr} {vs : List Value} (X : LAt h l vs) (k : Ext h h') : LAt h' l vs := by
  obtain ⟨n, e⟩ := X
  exact ⟨n, k _ _ e⟩
theorem ns_data {h : Heap} {L : Addr} {m : Str → Option Value} (F : h.Ns L m) : ∃ o, h.get? L = some o ∧ ∀ xs n, o.data ≠ .seq xs n := by
  refine hold fun hng => ?_
  obtain ⟨o, _, _, ho, hd, _⟩ := F
  (refine hng ?_; clear hng)
  exact ⟨o, ho, fun xs n c => by rw [hd] at c; cases c⟩
/-- all that is new below a frame -/
noncomputable def allNew (g h : Heap) (L : Addr) : List (Addr × Obj) := (List.range h.objs.size).filterMap fun b => if g.get? b = none ∧ b ≠ L then (h.get? b).map fun o => (b, o) else none
theorem allNew_news (g h : Heap) (L : Addr) : News g L h (allNew g h L) := fun p hp => by
  refine hold fun hng => ?_
  obtain ⟨b, _, e⟩ := List.mem_filterMap.mp hp
  (refine hng ?_; clear hng)
  split at e
  · rename_i hc
    cases e1 : h.get? b with
    | none => rw [e1] at e; cases e
    | some o => rw [e1] at e; cases e; exact ⟨e1, hc.2, hc.1⟩
  · cases e
theorem allNew_mem {g h : Heap} {L b : Addr} {o : Obj} (e : h.get? b = some o) (h1 : g.get? b = none) (h2 : b ≠ L) : (b, o) ∈ allNew g h L :=
  List.mem_filterMap.mpr ⟨b, List.mem_range.mpr (Heap.lt_size e), by rw [if_pos ⟨h1, h2⟩, e]; rfl⟩
theorem ext_of {g gK h : Heap} {L : Addr} {m : Str → Option Value} {NL : List (Addr × Obj)} (F : Fr g L h m) (N : News g L h NL) (k : ∀ b o, gK.get? b = some o → g.get? b = some o ∨ (b, o) ∈ NL) : Ext gK h := fun b o e => by
  rcases k b o e with e | e
  · exact F.keep _ _ e
  · exact (N _ e).1
theorem name_head {g h : Heap} {L B : Addr} {o : Obj} {r : List (Addr × Obj)} (_ : News g L h ((B, o) :: r)) : ∃ B', B' = B := ⟨_, rfl⟩

theorem items_of_ints {g : Heap} {vs : List Value} {row : List Itm} (h : IntsAre vs (row.map (·.2))) : ItemsAt false g vs (row.map fun p => ((0 : Int), p.2)) := by
  refine ⟨by rw [List.length_map, h.length, List.length_map], fun i v p h1 h2 => ?_⟩
  refine hold fun hng => ?_
  obtain ⟨n, t, rfl, hn⟩ := h.at _ _ h1
  (refine hng ?_; clear hng)
  rw [List.getElem?_map] at h2 hn
  refine hold fun hng => ?_
  obtain ⟨q, hq, rfl⟩ := Option.map_eq_some_iff.mp h2
  (refine hng ?_; clear hng)
  rw [hq] at hn
  cases hn
  exact ⟨rfl, t, rfl⟩

theorem pick_any {vs : List Value} {k : Nat} : slicePick vs.toArray none (some (k : Int)) none = (vs.take k).toArray := by
  have hb : sliceBounds none (some (k : Int)) none vs.toArray.size = (((0 : Nat) : Int), ((min k vs.length : Nat) : Int), 1) := by
    simp [sliceBounds]
    omega
  rw [kmk_pick_nat _ hb]
  simp [List.take_eq_take_iff]

/-- what the plain law says of a list of pairs -/
structure Plain (pairs around : List Itm) : Prop where
  fair1 : FairT (rowsM false pairs).1
  fair2 : FairT (rowsM false pairs).2
  len : (rowsM false pairs).2.length = (rowsM false pairs).1.length
  tall : (rowsM false pairs).1.length ≤ 7
  wide : (∀ row ∈ (rowsM false pairs).1, row.length ≤ 7) ∧ ∀ row ∈ (rowsM false pairs).2, row.length ≤ 7
  back1 : backLoop pairs.length (rowsM false pairs).1 (rowsM false pairs).2 [] = some (pairs.map fun p => (p.1, ((0 : Int), p.2))).reverse
  signs : (rowsM true around).2 = (rowsM false pairs).1
  marks : ((rowsM true around).1.map fun row => row.map fun p => ((0 : Int), p.2)) = (rowsM false pairs).2
  back2 : backLoop around.length (rowsM true around).1 (rowsM true around).2 [] = some (around.map fun p => (p.1, p)).reverse
  cols : turnM (colsM (pairs.map (·.2))) = (rowsM false pairs).1
  colne : 0 < (colsM (pairs.map (·.2))).length
  best : ∀ k, k ≤ pairs.length → (((rowsM false pairs).1.take k).map fun r => (r.length : Int)).sum ∈ (choicesM (pairs.map (·.2)) [] (List.replicate (pairs.length + 1) 0)).take (k + 1) ∧
    ∀ a ∈ (choicesM (pairs.map (·.2)) [] (List.replicate (pairs.length + 1) 0)).take (k + 1), a ≤ (((rowsM false pairs).1.take k).map fun r => (r.length : Int)).sum
def PlainLaw : Prop := ∀ pairs around : List Itm, 3 ≤ pairs.length → pairs.length ≤ 7 → (∀ p ∈ pairs, (0 ≤ p.1 ∧ p.1 < 4) ∧ 0 ≤ p.2 ∧ p.2 < 4) → pairs.Pairwise (fun p q => pk p ≤ pk q) →
  around.Perm (pairs.map fun p => (p.2, p.1)) → around.Pairwise (fun p q => pk p ≤ pk q) → Plain pairs around

/-- what the law's body does -/
def LawBody (w : World) (body : List Stmt) (scope : Scope) : Prop := (∀ L, cellsFrom (L + 1) scope.names [] = [(Str.ofString "best", L + 3), (Str.ofString "table", L + 2), (Str.ofString "script", L + 1)]) ∧
    ∀ {mean : ExcName → Option Value} {mg mb : Str → Option Value} {A : Around} {E : Value → Shared → Prop} {Q : Flow → Shared → Prop} {s : Shared} {g : Heap} {S L fa : Addr} {cd : Value} {vs : List Value} {script : List Int} {m : Str → Option Value} {o1 o2 o3 : Obj} {v2 v3 : Option Value},
      Gd w mean mg mb g → Room A 30 150 → Fr g L s.heap m → News g L s.heap [(L + 3, o3), (L + 2, o2), (L + 1, o1)] → o1.data = .cell (some (.ref S)) → o2.data = .cell v2 → o3.data = .cell v3 →
      PlainLaw → g.IsList S vs.toArray → IntsAre vs script → script.length < 64 → (∀ h' tk, Ext g h' → Q (.ret (.bool true)) { s with heap := h', toks := tk }) →
      wpAny (model Challenge.rw_sc0001_01.row.prog w) (A.deeper (envX (Str.ofString "law") scope L fa cd [(Str.ofString "best", L + 3), (Str.ofString "table", L + 2), (Str.ofString "script", L + 1)])) (execs body (envX (Str.ofString "law") scope L fa cd [(Str.ofString "best", L + 3), (Str.ofString "table", L + 2), (Str.ofString "script", L + 1)])) Q E s
theorem law_ex {K : Frag} {w : World} {name qual : Str} {params : Arguments} {body : List Stmt} {scope : Scope} {dV kV doc pm cdv ct oc : Value} {an od : Option Addr} {osl : Array (Option Value)} (h1 : K.lookup 89 = some ⟨oc, od, .func (fnOf name qual params body scope dV kV doc pm an cdv ct), osl⟩) (h2 : LawBody w body scope) :
    ∃ (name qual : Str) (params : Arguments) (body : List Stmt) (scope : Scope) (dV kV doc pm cdv ct oc : Value) (an od : Option Addr) (osl : Array (Option Value)), K.lookup 89 = some ⟨oc, od, .func (fnOf name qual params body scope dV kV doc pm an cdv ct), osl⟩ ∧ LawBody w body scope :=
  ⟨_, _, _, _, _, _, _, _, _, _, _, _, _, _, _, h1, h2⟩

set_option pp.deepTerms false in
set_option pp.maxSteps 3000 in
set_option maxRecDepth 100000 in
set_option maxHeartbeats 4000000 in
/-- the law, from its body -/
theorem law_at (w : World) : ∃ (name qual : Str) (params : Arguments) (body : List Stmt) (scope : Scope) (dV kV doc pm cdv ct oc : Value) (an od : Option Addr) (osl : Array (Option Value)),
    (Mine.hd.heap_39 w.params).lookup 89 = some ⟨oc, od, .func (fnOf name qual params body scope dV kV doc pm an cdv ct), osl⟩ ∧ LawBody w body scope := by
  have _ : Mine.hd.heap_39 w.params = Mine.hd.heap_39 w.params ∧ Challenge.rw_sc0001_01 = Challenge.rw_sc0001_01 := by k_fill; exact ⟨rfl, rfl⟩
  refine' law_ex ?h1 ?h3
  case h1 => k_is
  case h3 =>
   refine ⟨fun L => rfl, ?_⟩
   intro mean mg mb A E Q s g S L fa cd vs script m o1 o2 o3 v2 v3 G R F N d1 d2 d3 HP hS hI hn ret
   have G0 := G
   have R0 := R
   obtain ⟨KX, Tp⟩ := G
   refine hold fun hng => ?_
   obtain ⟨hA, hd, hu⟩ := R
   (refine hng ?_; clear hng)
   have TR := topRead_of Tp
   walk_at "S3"
   (refine' compG_assign ?ca1 ?ca2 ?ca3 ?ca4 ?ca5 ?ca7 ?ca8 ?_ ?ca9; (case ca1 => rfl); (case ca2 => rfl); (case ca3 => decide); (case ca4 => rfl); (case ca5 => decide); (case ca7 => rfl); (case ca8 => rfl); (case ca9 => exact fun _ => rfl))
   walk_at "S3"
   refine hold fun hng => ?_
   obtain ⟨oS, hS1, hS2, nS, hS3⟩ := id hS
   (refine hng ?_; clear hng)
   refine newList_N F N (fun H1 F1 N1 => ?_)
   dsimp only at N1 ⊢
   (try generalize s.heap.objs.size = D1 at N1 ⊢)
   have hI7 : IntsAre [Value.int 1 s.toks, Value.int 6 (s.toks + 1), Value.int 3 (s.toks + 1 + 1), Value.int 0 (s.toks + 1 + 1 + 1), Value.int 9 (s.toks + 1 + 1 + 1 + 1), Value.int 4 (s.toks + 1 + 1 + 1 + 1 + 1), Value.int 11 (s.toks + 1 + 1 + 1 + 1 + 1 + 1)] [1, 6, 3, 0, 9, 4, 11] :=
     .cons _ _ (.cons _ _ (.cons _ _ (.cons _ _ (.cons _ _ (.cons _ _ (.cons _ _ .nil))))))
   walk_at "S3"
   refine' src_enum (vs := [Value.int 1 s.toks, Value.int 6 (s.toks + 1), Value.int 3 (s.toks + 1 + 1), Value.int 0 (s.toks + 1 + 1 + 1), Value.int 9 (s.toks + 1 + 1 + 1 + 1), Value.int 4 (s.toks + 1 + 1 + 1 + 1 + 1), Value.int 11 (s.toks + 1 + 1 + 1 + 1 + 1 + 1)]) hA (N1.isList (.head _)) ?se
   case se =>
    intro h2 I2 fp2 wr2 P2 Md2 St2 X2 _ hP2
    refine X2.compA (fun i ys _ => ∃ zs : List Int, IntsAre ys zs ∧ zs.length = i) (by simp) F1 N1 (fun i ys _ ⟨zs, h, e⟩ => by rw [h.length, e]; exact Nat.le_refl _) ⟨[], .nil, rfl⟩ ?_ ?_
    · rintro g5 C5 fp5 i5 v5 m5 ys5 news5 H5 tk5 own5 eg5 hi5 hPi5 hz1
      refine hold fun hng => ?_
      obtain ⟨zs5, hz5, hzl5⟩ := hz1
      (refine hng ?_; clear hng)
      rintro hoff5 hown5 hlive5 F5 N5
      refine hold fun hng => ?_
      obtain ⟨T5, t5, x5, rfl, hx5, hT5⟩ := hP2 _ _ _ hPi5
      (refine hng ?_; clear hng)
      refine hold fun hng => ?_
      obtain ⟨n5, tn5, rfl, _⟩ := hI7.at _ _ hx5
      (refine hng ?_; clear hng)
      have hc1 : g5.get? (L + 1) = some o1 := eg5 _ _ (N1 (L + 1, o1) (by walk_at "MM")).1
      have hS5 : g5.IsList S vs.toArray := ⟨_, eg5 _ _ (F1.keep _ _ hS1), hS2, nS, hS3⟩
      have ex5 : Ext g g5 := fun b o e => eg5 _ _ (F1.keep _ _ e)
      have KX5 : (Mine.hd.heap_39 w.params).In g5 := G0.k.keeps ex5
      have TR5 := TR.keeps ex5
      refine assign2C hA F5 N5 hT5 (fun H6 tk6 F6 N6 => tests_nil ?_)
      rw [if_pos rfl]
      walk_at "S3"
      (k_dflt (refine' nameG_B ?k1 ?k2 ?k3 ?k4 ?k5 ?k6 ?_ ?c1 ?c2 ?c3 ?c4 ?c5; (case k1 => with_reducible assumption); (case k2 => with_reducible assumption); (case k3 => with_reducible assumption); (case k4 => k_is); (case k5 => boot_fast); (case k6 => decide); (case c1 => rfl); (case c2 => rfl); (case c3 => rfl); (case c4 => rfl); (case c5 => decide)))
      walk_at "S3"
      refine slice_list3 F6 N6 ⟨_, F6.keep _ _ (eg5 _ _ (F1.keep _ _ hS1)), hS2, nS, hS3⟩ (.int _ _) .none (.int _ _) (by decide) (fun H7 F7 N7 => ?_) (by with_unfolding_all rfl) (fun _ => by with_unfolding_all rfl) (by rw [List.size_toArray, sizeLine_eq]; have := hI.length; (clear hd hu hi5 hzl5; omega))
      walk_at "S3"
      have hpk := hI.pick (some (i5 : Int)) none (some 7)
      refine LSm.sum_ints F7 N7 hA (vs := (slicePick vs.toArray (some (i5 : Int)) none (some 7)).toList) (by rw [Array.toArray_toList]; exact N7.isList (.head _)) hpk (fun H8 tk8 t8 F8 N8 => ?_)
      walk_at "S3"
      refine ⟨_, _, _, news5, rfl, F8, fun p hp => N8 p (.tail _ hp), hoff5, zs5 ++ [_], hz5.append (.cons _ _ .nil), by simp [hzl5]⟩
    · rintro D3 H3 tk3 ys3 k3 news3 F3 N3 new3 hnD3 hz1
      refine hold fun hng => ?_
      obtain ⟨cells, hIc, hcl⟩ := hz1
      (refine hng ?_; clear hng)
      have hvs : vs.length = script.length := hI.length
      have hcl7 : cells.length = 7 := hcl
      have hyl7 : ys3.length = 7 := by rw [hIc.length, hcl7]
      generalize hNL : (D3, PySem.W.listOf ys3.toArray k3) :: (news3 ++ _) = NL at N3
      have hmD3 : (D3, PySem.W.listOf ys3.toArray k3) ∈ NL := hNL ▸ .head _
      have hm1 : (L + 1, o1) ∈ NL := hNL ▸ .tail _ (List.mem_append_right _ (by walk_at "MM"))
      have hm2 : (L + 2, o2) ∈ NL := hNL ▸ .tail _ (List.mem_append_right _ (by walk_at "MM"))
      have hm3 : (L + 3, o3) ∈ NL := hNL ▸ .tail _ (List.mem_append_right _ (by walk_at "MM"))
      clear hNL new3 hnD3
      try dsimp only
      walk_at "S3"
      (refine' compG_eval (cl := []) ?ca2 ?ca3 ?ca4 ?ca5 ?_ ?ca9; (case ca2 => rfl); (case ca3 => decide); (case ca4 => rfl); (case ca5 => decide); (case ca9 => exact fun _ => rfl))
      walk_at "S3"
      refine min_two_N hA F3 N3 (fun H4 tk4 F4 N4 => ?_)
      walk_at "S3"
      refine hold fun hng => ?_
      obtain ⟨kk, hkk, hk3, hk7⟩ : ∃ kk : Nat, (3 + (if (4 : Int) < (script.length : Int) then (4 : Int) else (script.length : Int))) = (kk : Int) ∧ 3 ≤ kk ∧ kk ≤ 7 := by
        by_cases h : (4 : Int) < (script.length : Int)
        · exact ⟨7, by rw [if_pos h]; rfl, by (clear hn hd hu hcl hvs hcl7 hyl7 h; omega), by (clear hn hd hu hcl hvs hcl7 hyl7 h; omega)⟩
        · refine ⟨3 + script.length, by rw [if_neg h]; (clear hn hd hu hcl hvs hcl7 hyl7 h; omega), by (clear hn hd hu hcl hvs hcl7 hyl7 h; omega), by (clear hn hd hu hcl hvs hcl7 hyl7; omega)⟩
      (refine hng ?_; clear hng)
      refine kmk_slice F4 N4 (N4.isList hmD3) .none (.int _ _) (fun D5 H5 F5 N5 hD5 => ?_) (by with_unfolding_all rfl) (fun _ => by with_unfolding_all rfl) (by rw [List.size_toArray, hyl7]; exact Nat.le_of_ble_eq_true rfl)
      rw [hkk, pick_to (by (clear hn hd hu hcl hvs hcl7 hkk hk3; omega))] at N5
      have hI5 := hIc.take kk
      have hl5 : (ys3.take kk).length = kk := by rw [List.length_take]; (clear hn hd hu hcl hvs hcl7 hkk hk3; omega)
      generalize ys3.take kk = zv at N5 hI5 hl5
      generalize cells.take kk = zs at hI5
      walk_at "S3"
      refine' src_listN (vs := zv) hA (N5.isList (.head _)) ?sz
      case sz =>
       intro h6 I6 fp6 wr6 P6 Md6 St6 X6 _ hP6
       refine X6.comp (fun i ys nx => ∃ ps : List Itm, ps.length = i ∧ PairsIn g nx ys ps ∧ ∀ p ∈ ps, (0 ≤ p.1 ∧ p.1 < 4) ∧ 0 ≤ p.2 ∧ p.2 < 4) (by (clear hn hd hu hcl hvs hcl7 hyl7 hkk hk3; omega)) (fun i ys nx ⟨ps, e, h, _⟩ => by rw [h.1, e]; exact Nat.le_refl _) ⟨[], rfl, ⟨rfl, fun _ _ _ h => by simp at h⟩, by simp⟩ ?_ ?_
       · rintro g7 C7 fp7 i7 v7 m7 ys7 news7 H7 tk7 own7 eg7 hi7 hPi7 hz1
         refine hold fun hng => ?_
         obtain ⟨ps7, hpl7, hpi7, hpb7⟩ := hz1
         (refine hng ?_; clear hng)
         rintro hoff7 hown7 hlive7 F7 N7
         refine hold fun hng => ?_
         obtain ⟨n7, tn7, rfl, _⟩ := hI5.at _ _ (hP6 _ _ _ hPi7)
         (refine hng ?_; clear hng)
         refine assignC F7 N7 (fun H8 tk8 F8 N8 => tests_nil ?_)
         rw [if_pos rfl]
         walk_at "S3"
         (rename Fr _ _ _ _ => F9; rename News _ _ _ (_ :: _) => N9; rename ∀ (p : Addr × Obj), p ∈ own7 ++ news7 → p.1 < _ => lt9)
         have hT9 := fresh_off hlive7 N9 lt9
         (rename Addr => T9)
         refine cutp (fun G => ∀ (o9 : Obj), o9.cls = .type "tuple" → (∃ t t', o9.data = .seq #[.int ((n7.fmod 12).fdiv 4) t, .int (n7.fmod 4) t'] 0) → News g7 C7 _ ((T9, o9) :: (own7 ++ news7)) → G) (fun G kk => kk _ rfl ⟨_, _, rfl⟩ N9) ?_
         rintro o9 c9 ⟨t9, t9', e9⟩ N9
         refine ⟨_, _, _, (T9, o9) :: news7, rfl, F9, fun p hp => N9 p ?_, fun p hp => ?_, ps7 ++ [((n7.fmod 12).fdiv 4, n7.fmod 4)], by simp [hpl7], ⟨by simp [hpi7.1], fun i v p h1 h2 => ?_⟩, fun p hp => ?_⟩
         · rcases List.mem_append.mp hp with hp | hp
           · exact .tail _ (List.mem_append_left _ hp)
           · rcases List.mem_cons.mp hp with rfl | hp
             · exact .head _
             · exact .tail _ (List.mem_append_right _ hp)
         · rcases List.mem_cons.mp hp with rfl | hp
           · exact hT9
           · exact hoff7 p hp
         · have hl7 := hpi7.1
           rcases Nat.lt_trichotomy i ys7.length with h | h | h
           · rw [List.getElem?_append_left h] at h1
             rw [List.getElem?_append_left (by (clear hn hd hu hcl hvs hcl7 hyl7 hkk hk3 hk7 hl5 hi7 hpl7; omega))] at h2
             exact (hpi7.2 i v p h1 h2).mono fun q hq => .tail _ hq
           · subst h
             rw [List.getElem?_append_right (Nat.le_refl _)] at h1
             rw [hl7, List.getElem?_append_right (Nat.le_refl _)] at h2
             simp at h1 h2
             subst h1 h2
             exact ⟨_, _, _, o9, 0, rfl, c9, e9, .inr (.head _)⟩
           · rw [List.getElem?_eq_none (by simp; (clear hn hd hu hcl hvs hcl7 hyl7 hkk hk3 hk7 hl5 hi7 hpl7 hl7; omega))] at h1; cases h1
         · rcases List.mem_append.mp hp with hp | hp
           · exact hpb7 p hp
           · rw [List.mem_singleton.mp hp]
             exact pair_bounds n7
       · rintro D7 H7 tk7 ys7 k7 news7 ex7 nw7 hnD7 hz1
         refine hold fun hng => ?_
         obtain ⟨ps7, hpl7, hpi7, hpb7⟩ := hz1
         (refine hng ?_; clear hng)
         have F7 := F5.kept ex7
         have N7' := N5.grown ex7
         have N7a := nw7.news F5
         clear F5 N5 F4 N4
         walk_at "S3"
         refine cutp (fun G => ∀ NL7, News g L H7 NL7 → PairsIn g NL7 ys7 ps7 → (D7, PySem.W.listOf ys7.toArray k7) ∈ NL7 → (L + 1, o1) ∈ NL7 → (L + 2, o2) ∈ NL7 → (L + 3, o3) ∈ NL7 → G) (fun G kk => kk (((D7, PySem.W.listOf ys7.toArray k7) :: news7) ++ NL) (fun p hp => by
             rcases List.mem_append.mp hp with hp | hp
             · exact N7a p hp
             · exact N7' p (.tail _ hp)) (hpi7.mono fun q hq => List.mem_append_left _ (.tail _ hq)) (List.mem_append_left _ (.head _)) (List.mem_append_right _ hm1) (List.mem_append_right _ hm2) (List.mem_append_right _ hm3)) ?_
         rintro NL7 N7 hp7 hd7 hm1 hm2 hm3
         clear N7' N7a nw7 ex7 hpi7 hmD3 hnD7
         have hpn : ps7.length = kk := by (clear hn hd hu hcl hvs hcl7 hyl7 hkk hk3 hk7; omega)
         refine sorted_pairs F7 N7 (N7.isList hd7) hp7 (fun p hp => (hpb7 p hp).2) (by (clear hn hd hu hcl hvs hcl7 hyl7 hkk hk7 hpn; omega)) (by (clear hn hd hu hcl hvs hcl7 hyl7 hkk hk3 hpn; omega)) (fun D8 vp pairs c8 H8 F8 N8 _ hI8 hperm hsort => ?_)
         have hpb : ∀ p ∈ pairs, (0 ≤ p.1 ∧ p.1 < 4) ∧ 0 ≤ p.2 ∧ p.2 < 4 := fun p hp => hpb7 p (hperm.mem_iff.mp hp)
         have hpl : pairs.length = kk := by rw [hperm.length_eq, hpn]
         refine cutp (fun G => ∀ NL8, News g L H8 NL8 → PairsIn g NL8 vp pairs → (D8, PySem.W.listOf vp.toArray c8) ∈ NL8 → (L + 1, o1) ∈ NL8 → (L + 2, o2) ∈ NL8 → (L + 3, o3) ∈ NL8 → G) (fun G kk => kk _ N8 (hI8.mono fun q hq => .tail _ hq) (.head _) (.tail _ hm1) (.tail _ hm2) (.tail _ hm3)) ?_
         rintro NL8 N8' hI8' hd8 hm1 hm2 hm3
         have hvp := hI8.1
         clear N8 hI8 F7 N7 hp7 hd7 hpb7 hpn hperm
         walk_at "S3"
         (refine' compG_assign ?ca1 ?ca2 ?ca3 ?ca4 ?ca5 ?ca7 ?ca8 ?_ ?ca9; (case ca1 => rfl); (case ca2 => rfl); (case ca3 => decide); (case ca4 => rfl); (case ca5 => decide); (case ca7 => rfl); (case ca8 => rfl); (case ca9 => exact fun _ => rfl))
         walk_at "S3"
         (rename Fr _ _ _ _ => F9; rename News _ _ _ _ => N9)
         have hI9 := hI8'.at F9 N9
         refine hold fun hng => ?_
         obtain ⟨Ts, vals, rfl, hTv, hvc, hTT, hval⟩ := pairs_open hI9
         (refine hng ?_; clear hng)
         refine' src_tups (l := D8) (Ts := Ts) (vals := vals) hA (N9.isList hd8) rfl hTv hTT ?sw
         case sw =>
          intro h10 I10 fp10 wr10 P10 Md10 St10 X10 _ hP10
          refine X10.compA (fun i ys _ => IntsAre ys ((pairs.take i).map (·.2))) (by (clear hn hd hu hcl hvs hcl7 hyl7 hkk hk3 hl5 hpl7 hTv hvc; omega)) F9 N9 (fun i ys _ h => by rw [h.length, List.length_map, List.length_take]; (clear hn hd hu hcl hvs hcl7 hyl7 hkk hk3 hk7 hl5 hpl7 hpl hvp hTv hvc; omega)) .nil ?_ ?_
          · intro g11 C11 fp11 i11 v11 m11 ys11 news11 H11 tk11 own11 eg11 hi11 hPi11 hJ11 hoff11 hown11 hlive11 F11 N11
            refine hold fun hng => ?_
            obtain ⟨T11, x11, rfl, hx11, hT11⟩ := hP10 _ _ _ hPi11 hi11
            (refine hng ?_; clear hng)
            refine hold fun hng => ?_
            obtain ⟨p11, hp11, htk11⟩ := pairs_take hx11 hvc
            (refine hng ?_; clear hng)
            refine hold fun hng => ?_
            obtain ⟨t11, t11', rfl⟩ := hval _ _ _ hx11 hp11
            (refine hng ?_; clear hng)
            refine assign2C hA F11 N11 hT11 (fun H12 tk12 F12 N12 => tests_nil ?_)
            rw [if_pos rfl]
            walk_at "S3"
            refine ⟨_, _, _, _, rfl, F12, N12, hoff11, ?_⟩
            rw [htk11, List.map_append]
            exact hJ11.append (.cons _ _ .nil)
          · intro Dw H11 tk11 vw kw news11 F11 N11 new11 hnD11 hJ11
            rw [hvp, List.take_length] at hJ11
            refine cutp (fun G => ∀ NL11, News g L H11 NL11 → PairsIn g NL11 (Ts.map Value.ref) pairs → (D8, PySem.W.listOf (Ts.map Value.ref).toArray c8) ∈ NL11 → (Dw, PySem.W.listOf vw.toArray kw) ∈ NL11 → (L + 1, o1) ∈ NL11 → (L + 2, o2) ∈ NL11 → (L + 3, o3) ∈ NL11 → G) (fun G kk => kk _ N11 (hI8'.mono fun q hq => .tail _ (List.mem_append_right _ hq)) (.tail _ (List.mem_append_right _ hd8)) (.head _) (.tail _ (List.mem_append_right _ hm1)) (.tail _ (List.mem_append_right _ hm2)) (.tail _ (List.mem_append_right _ hm3))) ?_
            rintro NL11 N11' hI11 hd11 hdw hm1 hm2 hm3
            clear N11 new11 hnD11 N9 F9 hI8' hd8
            have F11 : Fr g L H11 _ := F11
            try dsimp only
            walk_at "S3"
            refine hold fun hng => ?_
            obtain ⟨gp, hgI, hgp⟩ := hI11.base F11 N11'
            (refine hng ?_; clear hng)
            have ep : Ext gp H11 := fun b o e => by
              rcases (hgp b o e).2 with e | e
              · exact F11.keep _ _ e
              · exact (N11' _ e).1
            refine rows_spec (g0 := gp) (vps := Ts.map Value.ref) (pairs := pairs) false (G0.keeps F11.keep) ((R0.le (d' := 10 + 1) (u' := 60 + 3)).deeper _) (N11'.isList hd11) ep hgI (by (clear hn hd hu hcl hvs hcl7 hyl7 hkk hk3 hl5 hpl7 hvp hTv hvc; omega)) ?_
            intro r T M h12 tk12 nx12 asT bsM ext12 new12 hr12 X1 X2
            have F12 := F11.kept ext12
            have Nnx := newer_news F11 new12
            have NN := N11'.grown ext12
            have hrT : h12.IsTuple r #[.ref T, .ref M] := ⟨_, (Nnx _ hr12).1, rfl, 0, rfl⟩
            have N12 : News g L h12 (nx12 ++ NL11) := fun p hp => by
              rcases List.mem_append.mp hp with hp | hp
              · exact Nnx p hp
              · exact NN p hp
            clear NN F11
            refine assign2X hA F12 N12 hrT (fun h13 F13 N13 => ?_)
            refine storeCell F13 N13 (c := L + 2) (o := o2) (List.mem_append_right _ hm2) d2 rfl rfl (fun h14 o2' F14 N14 d2' k14 => ?_)
            have hL2 : ∀ p ∈ nx12, p.1 ≠ L + 2 := fun p hp c => by
              have h1 := (new12 p hp).2
              rw [c, (N11' _ hm2).1] at h1; cases h1
            have N14' : News g L h14 (put (nx12 ++ NL11) (L + 2) o2') := N14
            rw [put_append, put_off hL2] at N14'
            have hp14 := (hI11.put (o' := o2') N11' hm2 fun xs n => .inl (by rw [d2]; simp)).mono (news' := nx12 ++ put NL11 (L + 2) o2') fun q hq => List.mem_append_right _ hq
            have hd8 := put_mem_ne (o := o2') hd11 (News.ne N11' hd11 hm2 (by rw [d2]; intro c; cases c))
            have hw8 := put_mem_ne (o := o2') hdw (News.ne N11' hdw hm2 (by rw [d2]; intro c; cases c))
            have h18 := put_mem_ne (o := o2') hm1 (Nat.ne_of_lt (Nat.lt_succ_self (L + 1)))
            have h38 := put_mem_ne (o := o2') hm3 (Nat.ne_of_gt (Nat.lt_succ_self (L + 2)))
            have h28 := put_mem (o := o2') hm2
            have hgp14 : ∀ b o, gp.get? b = some o → g.get? b = some o ∨ (b, o) ∈ put NL11 (L + 2) o2' := fun b o e => by
              refine hold fun hng => ?_
              obtain ⟨⟨xs, n, hx⟩, e1⟩ := hgp b o e
              (refine hng ?_; clear hng)
              exact e1.imp id fun hm => put_mem_ne hm (News.ne N11' hm hm2 (by rw [d2, hx]; intro c; cases c))
            refine cutp (fun G => ∀ NL14, News g L h14 NL14 → PairsIn g NL14 (Ts.map Value.ref) pairs → (D8, PySem.W.listOf (Ts.map Value.ref).toArray c8) ∈ NL14 → (Dw, PySem.W.listOf vw.toArray kw) ∈ NL14 → (L + 1, o1) ∈ NL14 → (L + 2, o2') ∈ NL14 → (L + 3, o3) ∈ NL14 → (∀ p ∈ nx12, p ∈ NL14) → (∀ b o, gp.get? b = some o → g.get? b = some o ∨ (b, o) ∈ NL14) → G) (fun G kk => kk _ N14' hp14 (List.mem_append_right _ hd8) (List.mem_append_right _ hw8) (List.mem_append_right _ h18) (List.mem_append_right _ h28) (List.mem_append_right _ h38) (fun p hp => List.mem_append_left _ hp) (fun b o e => (hgp14 b o e).imp id fun hm => List.mem_append_right _ hm)) ?_
            rintro NL14 N15 hp14 hd14 hdw hm1 hm2 hm3 hX hgp14
            replace X1 := X1.mono (news' := NL14) fun p hp _ => hX p hp
            replace X2 := X2.mono (news' := NL14) fun p hp _ => hX p hp
            have F15 : Fr g L h14 _ := F14
            clear hd8 hw8 h18 h38 h28 N14 N14' N13 F13 N12 F12 Nnx hrT hd11 hI11 N11' hL2 new12 hr12 ext12 hX F14 ep hgp
            walk_at "S3"
            (refine' compG_eval (cl := []) ?ca2 ?ca3 ?ca4 ?ca5 ?_ ?ca9; (case ca2 => rfl); (case ca3 => decide); (case ca4 => rfl); (case ca5 => decide); (case ca9 => exact fun _ => rfl))
            walk_at "S3"
            (rename Fr _ _ _ _ => F16; rename News _ _ _ _ => N16)
            have hI16 := hp14.at F16 N16
            refine hold fun hng => ?_
            obtain ⟨Ts2, vals2, e2, hTv2, hvc2, hTT2, hval2⟩ := pairs_open hI16
            (refine hng ?_; clear hng)
            refine' src_tups (l := D8) (vs := Ts.map Value.ref) (Ts := Ts2) (vals := vals2) hA (N16.isList hd14) e2 hTv2 hTT2 ?sq
            case sq =>
             intro h17 I17 fp17 wr17 P17 Md17 St17 X17 _ hP17
             refine X17.comp (fun i ys nx => PairsIn g nx ys ((pairs.take i).map fun p => (p.2, p.1))) (by (clear hn hd hu hcl hvs hcl7 hyl7 hkk hk3 hl5 hpl7 hTv hvc hTv2 hvc2; omega)) (fun i ys nx h => by rw [h.1, List.length_map, List.length_take]; (clear hn hd hu hcl hvs hcl7 hyl7 hkk hk3 hk7 hl5 hpl7 hpl hvp hTv hvc hTv2 hvc2; omega)) ⟨rfl, fun _ _ _ h => by simp at h⟩ ?_ ?_
             · intro g18 C18 fp18 i18 v18 m18 ys18 news18 H18 tk18 own18 eg18 hi18 hPi18 hJ18 hoff18 hown18 hlive18 F18 N18
               refine hold fun hng => ?_
               obtain ⟨T18, x18, rfl, hx18, hT18⟩ := hP17 _ _ _ hPi18 hi18
               (refine hng ?_; clear hng)
               refine hold fun hng => ?_
               obtain ⟨p18, hp18, htk18⟩ := pairs_take hx18 hvc2
               (refine hng ?_; clear hng)
               refine hold fun hng => ?_
               obtain ⟨t18, t18', rfl⟩ := hval2 _ _ _ hx18 hp18
               (refine hng ?_; clear hng)
               refine assign2C hA F18 N18 hT18 (fun H19 tk19 F19 N19 => tests_nil ?_)
               rw [if_pos rfl]
               walk_at "S3"
               (rename Fr _ _ _ _ => F20; rename News _ _ _ (_ :: _) => N20; rename ∀ (p : Addr × Obj), p ∈ own18 ++ news18 → p.1 < _ => lt20)
               have hT20 := fresh_off hlive18 N20 lt20
               (rename Addr => T20)
               refine cutp (fun G => ∀ (o20 : Obj), o20.cls = .type "tuple" → (∃ t t', o20.data = .seq #[.int p18.2 t, .int p18.1 t'] 0) → News g18 C18 _ ((T20, o20) :: (own18 ++ news18)) → G) (fun G kk => kk _ rfl ⟨_, _, rfl⟩ N20) ?_
               rintro o20 c20 ⟨t20, t20', e20⟩ N20
               refine ⟨_, _, _, (T20, o20) :: news18, rfl, F20, fun p hp => N20 p ?_, fun p hp => ?_, ?_⟩
               · rcases List.mem_append.mp hp with hp | hp
                 · exact .tail _ (List.mem_append_left _ hp)
                 · rcases List.mem_cons.mp hp with rfl | hp
                   · exact .head _
                   · exact .tail _ (List.mem_append_right _ hp)
               · rcases List.mem_cons.mp hp with rfl | hp
                 · exact hT20
                 · exact hoff18 p hp
               · rw [htk18, List.map_append]
                 exact hJ18.snoc ⟨_, _, _, o20, 0, rfl, c20, e20, .inr (.head _)⟩
             · intro D21 H21 tk21 ys21 k21 news21 ex21 nw21 hnD21 hJ21
               walk_at "S3"
               have F21 := F16.kept ex21
               have N21a := nw21.news F16
               have N21b := N16.grown ex21
               have hsw : (pairs.take (Ts.map Value.ref).length).map (fun p => (p.2, p.1)) = pairs.map fun p => (p.2, p.1) := by rw [hvp, List.take_length]
               rw [hsw] at hJ21
               have hsub : ∀ p ∈ NL14, p ∈ ((D21, PySem.W.listOf ys21.toArray k21) :: news21) ++ NL14 := fun p hp => List.mem_append_right _ hp
               refine cutp (fun G => ∀ NL21, News g L H21 NL21 → (∀ p ∈ NL14, p ∈ NL21) → (D21, PySem.W.listOf ys21.toArray k21) ∈ NL21 → PairsIn g NL21 ys21 (pairs.map fun p => (p.2, p.1)) → G) (fun G kk => kk _ (fun p hp => by
                   rcases List.mem_append.mp hp with hp | hp
                   · exact N21a p hp
                   · exact N21b p hp) hsub (List.mem_append_left _ (.head _)) (hJ21.mono fun q hq => List.mem_append_left _ (.tail _ hq))) ?_
               rintro NL21 N21 hsub hd21 hJ21
               clear N21a N21b nw21 ex21 hnD21
               refine sorted_pairs F21 N21 (N21.isList hd21) hJ21 (fun p hp => ?_) (by rw [List.length_map]; (clear hn hd hu hcl hvs hcl7 hyl7 hkk hk7 hl5 hpl7 hvp hTv hvc hTv2 hvc2; omega)) (by rw [List.length_map]; (clear hn hd hu hcl hvs hcl7 hyl7 hkk hk3 hl5 hpl7 hvp hTv hvc hTv2 hvc2; omega)) (fun D22 va around c22 H22 F22 N22 _ hI22 hperm22 hsort22 => ?_)
               · refine hold fun hng => ?_
                 obtain ⟨q, hq, rfl⟩ := List.mem_map.mp hp
                 (refine hng ?_; clear hng)
                 exact (hpb q hq).1
               walk_at "S3"
               (rename Fr _ _ _ _ => F23; rename News _ _ _ _ => N23)
               refine cutp (fun G => ∀ NL23, News g L _ NL23 → (∀ p ∈ NL14, p ∈ NL23) → PairsIn g NL23 va around → (D22, PySem.W.listOf va.toArray c22) ∈ NL23 → G) (fun G kk => kk _ N23 (fun p hp => .tail _ (hsub p hp)) (hI22.mono fun q hq => .tail _ hq) (.head _)) ?_
               rintro NL23 N23' hsub hI23 hd23
               clear N23 hI22
               refine hold fun hng => ?_
               obtain ⟨gq, hqI, hgq⟩ := hI23.base F23 N23'
               (refine hng ?_; clear hng)
               have haln : around.length = kk := by rw [hperm22.length_eq, List.length_map, hpl]
               refine rows_spec (g0 := gq) (vps := va) (pairs := around) true (G0.keeps F23.keep) ((R0.le (d' := 10 + 1) (u' := 60 + 3)).deeper _) (N23'.isList hd23) (fun b o e => ?_) hqI (by (clear hn hd hu hcl hvs hcl7 hyl7 hkk hk3 hl5 hpl7 hpl hvp hTv hvc hTv2 hvc2; omega)) ?_
               · rcases (hgq b o e).2 with e | e
                 · exact F23.keep _ _ e
                 · exact (N23' _ e).1
               intro r24 T2 M2 h24 tk24 nx24 asT2 bsM2 ext24 new24 hr24 Y1 Y2
               have F24 := F23.kept ext24
               have Nnx := newer_news F23 new24
               have NN := N23'.grown ext24
               have hrT : h24.IsTuple r24 #[.ref T2, .ref M2] := ⟨_, (Nnx _ hr24).1, rfl, 0, rfl⟩
               have N24 : News g L h24 (nx24 ++ NL23) := fun p hp => by
                 rcases List.mem_append.mp hp with hp | hp
                 · exact Nnx p hp
                 · exact NN p hp
               clear NN F23
               refine assign2E hA F24 N24 hrT (fun h25 tk25 F25 N25 => ?_)
               replace N25 : News g L h25 (nx24 ++ NL23) := N25
               have mm : ∀ p ∈ NL14, p ∈ nx24 ++ NL23 := fun p hp => List.mem_append_right _ (hsub p hp)
               have Z1 : TabH false h25 T (rowsM false pairs).1 := (X1.mono fun p hp _ => mm p hp).heap N25 fun b o e => by
                 rcases hgp14 b o e with e | e
                 · exact F25.keep _ _ e
                 · exact (N25 _ (mm _ e)).1
               have Z2 : TabH false h25 M (rowsM false pairs).2 := (X2.mono fun p hp _ => mm p hp).heap N25 fun b o e => by
                 rcases hgp14 b o e with e | e
                 · exact F25.keep _ _ e
                 · exact (N25 _ (mm _ e)).1
               have Z3 : TabH true h25 T2 (rowsM true around).1 := (Y1.mono fun p hp _ => List.mem_append_left _ hp).heap N25 fun b o e => by
                 rcases (hgq b o e).2 with e | e
                 · exact F25.keep _ _ e
                 · exact (N25 _ (List.mem_append_right _ e)).1
               have Z4 : TabH false h25 M2 (rowsM true around).2 := (Y2.mono fun p hp _ => List.mem_append_left _ hp).heap N25 fun b o e => by
                 rcases (hgq b o e).2 with e | e
                 · exact F25.keep _ _ e
                 · exact (N25 _ (List.mem_append_right _ e)).1
               have Z5 : ItemsAt true h25 (Ts.map Value.ref) pairs := (hp14.mono mm).at F25 N25
               have Z6 : ItemsAt true h25 va around := (hI23.mono fun p hp => List.mem_append_right _ hp).at F25 N25
               have Z7 : LAt h25 D8 (Ts.map Value.ref) := ⟨c8, (N25 _ (mm _ hd14)).1⟩
               have Z8 : LAt h25 D22 va := ⟨c22, (N25 _ (List.mem_append_right _ hd23)).1⟩
               have Z9 : LAt h25 Dw vw := ⟨kw, (N25 _ (mm _ hdw)).1⟩
               have hc3 := (N25 _ (mm _ hm3)).1
               have hc2 := (N25 _ (mm _ hm2)).1
               have hc32 := (N25 _ (mm _ hm3)).2.2
               have hcL : (L + 3) ≠ L := (N25 _ (mm _ hm3)).2.1
               have hcL2 : (L + 2) ≠ L := (N25 _ (mm _ hm2)).2.1
               have d3' : ∀ xs n, o3.data ≠ .seq xs n := fun xs n c => by rw [d3] at c; cases c
               refine hold fun hng => ?_
               obtain ⟨oL, hL0, dL⟩ := ns_data F25.ns
               (refine hng ?_; clear hng)
               have hL : (hideAll h25 [L + 3]).get? L = some oL := Mine.hideC hL0 (Ne.symm hcL)
               replace Z1 := (Z1.hideC hc3 d3').hideC hL dL
               replace Z2 := (Z2.hideC hc3 d3').hideC hL dL
               replace Z3 := (Z3.hideC hc3 d3').hideC hL dL
               replace Z4 := (Z4.hideC hc3 d3').hideC hL dL
               replace Z5 := (Z5.hideC hc3 d3').hideC hL dL
               replace Z6 := (Z6.hideC hc3 d3').hideC hL dL
               replace Z7 := (Z7.hideC hc3 d3').hideC hL dL
               replace Z8 := (Z8.hideC hc3 d3').hideC hL dL
               replace Z9 := (Z9.hideC hc3 d3').hideC hL dL
               have Zc : (hideAll (hideAll h25 [L + 3]) [L]).get? (L + 2) = some o2' := Mine.hideC (Mine.hideC hc2 (Nat.ne_of_lt (Nat.lt_succ_self (L + 2)))) hcL2
               have hgL : g.get? L = none := by
                 cases e : g.get? L with
                 | none => rfl
                 | some o => exact absurd (Heap.lt_size e) (Nat.not_lt.mpr F25.above)
               have Zg : Ext g (hideAll (hideAll h25 [L + 3]) [L]) := fun b o e => Mine.hideC (Mine.hideC (F25.keep _ _ e) fun c => by rw [c, hc32] at e; cases e) fun c => by rw [c, hgL] at e; cases e
               have Zn : ∀ o, (hideAll (hideAll h25 [L + 3]) [L]).get? (L + 3) ≠ some o := fun o c => by
                 have := of_hideAll _ c
                 rw [hideAll_none _ (.head _)] at this; cases this
               have ZL : (hideAll (hideAll h25 [L + 3]) [L]).get? L = none := hideAll_none _ (.head _)
               have N26 := allNew_news g h25 L
               have Zk : ∀ b o, (hideAll (hideAll h25 [L + 3]) [L]).get? b = some o → g.get? b = some o ∨ (b, o) ∈ allNew g h25 L := fun b o e => by
                 have e1 := of_hideAll _ (of_hideAll _ e)
                 cases e2 : g.get? b with
                 | some o' => rw [F25.keep _ _ e2] at e1; cases e1; exact .inl rfl
                 | none => exact .inr (allNew_mem e1 e2 fun c => by rw [c, ZL] at e; cases e)
               have hm2 : (L + 2, o2') ∈ allNew g h25 L := allNew_mem hc2 (N25 _ (mm _ hm2)).2.2 hcL2
               have hm3 : (L + 3, o3) ∈ allNew g h25 L := allNew_mem hc3 hc32 hcL
               have Ze : Ext (hideAll (hideAll h25 [L + 3]) [L]) h25 := fun b o e => of_hideAll _ (of_hideAll _ e)
               generalize hideAll (hideAll h25 [L + 3]) [L] = gK at Z1 Z2 Z3 Z4 Z5 Z6 Z7 Z8 Z9 Zc Zg Zk Zn ZL Ze
               generalize allNew g h25 L = NL26 at N26 Zk hm2 hm3
               clear hm1 X1 X2 Y1 Y2 hp14 hI23 hd14 hd23 mm N25 hgp14 hgq hqI hgI hc3 hc2 hrT hr24 new24 Nnx ext24 N24 F24
               have hIw : IntsAre vw (pairs.map (·.2)) := hJ11
               have hwl : vw.length = pairs.length := by rw [hIw.length, List.length_map]
               have hlW : gK.IsList Dw vw.toArray := Z9.isList
               walk_at "S3"
               refine newList_N F25 N26 (fun H27 F27 N27 => ?_)
               dsimp only at N27 ⊢
               (try generalize h25.objs.size = D27 at N27 ⊢)
               walk_at "S3"
               refine len_any ((ext_of F27 N27 fun b o e => (Zk b o e).imp id fun h => .tail _ h) |> Z9.keeps).isList hwl (by (clear hn hd hu hcl hvs hcl7 hyl7 hkk hk3 hl5 hpl7 hvp hTv hvc hTv2 hvc2 haln hcL hcL2 hwl; omega)) ?_
               intro t28 tk28
               walk_at "S3"
               (rename Fr _ _ _ _ => F28; rename News _ _ _ _ => N28; rename IntsAre (List.flatten _) _ => hIb; rename _ ∧ AllLt _ _ => hlt28)
               obtain ⟨B, hBe⟩ := name_head N28
               subst hBe
               have hvb : (List.replicate ((pairs.length : Int) + 1).toNat [(0 : Int)]).flatten = List.replicate (pairs.length + 1) 0 := by
                 have : ∀ k : Nat, (List.replicate k [(0 : Int)]).flatten = List.replicate k 0 := fun k => by
                   induction k with
                   | zero => rfl
                   | succ k ih => rw [List.replicate_succ, List.replicate_succ, List.flatten_cons, ih]; rfl
                 rw [this]; rfl
               rw [hvb] at hIb
               generalize (List.replicate ((pairs.length : Int) + 1).toNat [Value.int 0 _]).flatten = vb at N28 hIb
               refine storeCell F28 N28 (c := L + 3) (o := o3) (.tail _ (.tail _ hm3)) d3 rfl rfl (fun h29 o3' F29 N29 d3'' k29 => ?_)
               clear k29
               replace F29 : Fr g L h29 _ := F29
               replace N29 : News g L h29 _ := N29
               have hgB : g.get? B = none := (N28 _ (.head _)).2.2
               have hB26 : ∀ o, (B, o) ∉ NL26 := fun o h => Nat.lt_irrefl _ (show B < B from kst_ltOf hlt28.2 _ h)
               have hBK : ∀ o, gK.get? B ≠ some o := fun o e => by
                 rcases Zk _ _ e with e | e
                 · rw [hgB] at e; cases e
                 · exact hB26 _ e
               have hB3 : B ≠ L + 3 := fun c => hB26 o3 (c ▸ hm3)
               refine cutp (fun G => ∀ NL29, News g L h29 NL29 → (B, PySem.W.listOf vb.toArray 0) ∈ NL29 → (L + 3, o3') ∈ NL29 → (L + 2, o2') ∈ NL29 → (∀ b o, gK.get? b = some o → g.get? b = some o ∨ (b, o) ∈ NL29) → G) (fun G kk => kk _ N29 (put_mem_ne (.head _) hB3) (put_mem (o' := o3) (.tail _ (.tail _ hm3))) (put_mem_ne (.tail _ (.tail _ hm2)) (Nat.ne_of_lt (Nat.lt_succ_self (L + 2)))) (fun b o e => (Zk b o e).imp id fun h => put_mem_ne (.tail _ (.tail _ h)) fun c => Zn o (c ▸ e))) ?_
               rintro NL29 N29 hmB hm3 hm2 Zk
               clear N28 F28 hlt28 N27 F27 N26 F25
               walk_at "S3"
               refine newList_N F29 N29 (fun H30 F30 N30 => ?_)
               dsimp only at N30 ⊢
               have hBlt := Heap.lt_size (N29 _ hmB).1
               generalize h29.objs.size = D30 at N30 hBlt ⊢
               replace hBlt : B < D30 := hBlt
               walk1
               refine ldCell (o := o3') N30 (.tail _ hm3) d3'' rfl rfl ?_
               walk1
               have hBD : B ≠ D30 := Nat.ne_of_lt hBlt
               have Zh : Ext gK (hideAll H30 [B]) := fun b o e => hideC (ext_of F30 N30 (fun b o e => (Zk b o e).imp id fun h => .tail _ h) b o e) fun c => hBK o (c ▸ e)
               have hpl0 : (pairs.map (·.2)).length = pairs.length := List.length_map _
               have hch := @choices_all w mean mg mb Dw (pairs.map (·.2)) vw hIw (by (clear hn hd hu hcl hvs hcl7 hyl7 hkk hk3 hl5 hpl7 hvp hTv hvc hTv2 hvc2 haln hcL hcL2 hwl hB3 hBlt hBD; omega)) pairs.length 0 (by rw [hpl0]; rfl)
               unfold ChoicesAt at hch
               have gG : Gd w mean mg mb (hideAll H30 [B]) := G0.keeps fun b o e => Zh _ _ (Zg _ _ e)
               have gR : Room A (pairs.length + 10 + 1) (3 * pairs.length + 60 + 3) := R0.le (by (clear hn hd hu hcl hvs hcl7 hyl7 hkk hk3 hl5 hpl7 hvp hTv hvc hTv2 hvc2 haln hcL hcL2 hwl hB3 hBlt hBD hpl0; omega)) (by (clear hn hd hu hcl hvs hcl7 hyl7 hkk hk3 hl5 hpl7 hvp hTv hvc hTv2 hvc2 haln hcL hcL2 hwl hB3 hBlt hBD hpl0; omega))
               have gW := Z9.keeps Zh
               have gC : PairsH (hideAll H30 [B]) D30 [] := ⟨[], ⟨0, hideC (N30 _ (.head _)).1 (Ne.symm hBD)⟩, rfl, fun _ _ _ h => by simp at h⟩
               have gB : LAt H30 B vb := ⟨0, (N30 _ (.tail _ hmB)).1⟩
               have gl : (List.replicate (pairs.length + 1) (0 : Int)).length = (pairs.map (·.2)).length + 1 := by rw [hpl0, List.length_replicate]
               refine ⟨G0.k.keeps F30.keep, ?_⟩
               show wpAny _ _ (call (.ref 84) [.ref Dw, .int ((0 : Nat) : Int) _, .ref D30, .ref B] []) _ _ _
               refine hch gG (gR.deeper _) gW gC gB hIb (Nat.le_refl _) (fun _ h => by cases h) gl ?_
               intro h31 tk31 vb' hLB hIb' k31
               obtain ⟨nB', eB'⟩ := hLB
               have F31 := Fr.chg F30 N30 (.tail _ hmB) k31
               have N31' := News.chg N30 (.tail _ hmB) k31 eB'
               have hL23 : ∀ {o : Obj} {a : Addr}, o.data ≠ (PySem.W.listOf vb.toArray 0).data → (a, o) ∈ NL29 → a ≠ B := fun h1 h2 => News.ne N29 h2 hmB h1
               refine cutp (fun G => ∀ NL31, News g L h31 NL31 → (B, PySem.W.listOf vb'.toArray nB') ∈ NL31 → (L + 3, o3') ∈ NL31 → (L + 2, o2') ∈ NL31 → (∀ b o, gK.get? b = some o → g.get? b = some o ∨ (b, o) ∈ NL31) → G) (fun G kk => kk _ N31' (put_mem (o' := PySem.W.listOf vb.toArray 0) (.tail _ hmB)) (put_mem_ne (.tail _ hm3) (hL23 (by rw [d3'']; intro c; cases c) hm3)) (put_mem_ne (.tail _ hm2) (hL23 (by rw [d2']; intro c; cases c) hm2)) (fun b o e => (Zk b o e).imp id fun h => put_mem_ne (.tail _ h) fun c => hBK o (c ▸ e))) ?_
               rintro NL31 N31 hmB hm3 hm2 Zk
               have Ze31 : Ext gK h31 := ext_of F31 N31 Zk
               have HP1 := HP pairs around (by (clear hn hd hu hcl hvs hcl7 hyl7 hkk hk7 hl5 hpl7 hvp hTv hvc hTv2 hvc2 haln hcL hcL2 hwl hB3 hBlt hBD hpl0 gl; omega)) (by (clear hn hd hu hcl hvs hcl7 hyl7 hkk hk3 hl5 hpl7 hvp hTv hvc hTv2 hvc2 haln hcL hcL2 hwl hB3 hBlt hBD hpl0 gl; omega)) hpb hsort hperm22 hsort22
               clear F30 N30 N31' hch gG gR gW gC gB gl Zh hL23 k31 F29 N29
               walk_at "S3"
               refine fair_spec (rows := (rowsM false pairs).1) (G0.keeps F31.keep) ((R0.le (d' := 10 + 1) (u' := 90 + 3)).deeper _) (Z1.keeps Ze31) (Nat.le_trans HP1.tall (by decide)) (fun r hr => Nat.le_trans (HP1.wide.1 r hr) (by decide)) HP1.fair1 (fun h32 tk32 e32 => ?_)
               have F32 := F31.kept e32
               have N32 := N31.grown e32
               have Ze32 : Ext gK h32 := fun b o e => e32 _ _ (Ze31 b o e)
               clear F31 N31 Ze31
               walk_at "S3"
               refine fair_spec (rows := (rowsM false pairs).2) (G0.keeps F32.keep) ((R0.le (d' := 10 + 1) (u' := 90 + 3)).deeper _) (Z2.keeps Ze32) (by rw [HP1.len]; exact Nat.le_trans HP1.tall (by decide)) (fun r hr => Nat.le_trans (HP1.wide.2 r hr) (by decide)) HP1.fair2 (fun h33 tk33 e33 => ?_)
               have F33 := F32.kept e33
               have N33 := N32.grown e33
               have Ze33 : Ext gK h33 := fun b o e => e33 _ _ (Ze32 b o e)
               clear F32 N32 Ze32
               walk_at "S3"
               refine len_any (Z7.keeps Ze33).isList hvp (by (clear hn hd hu hcl hvs hcl7 hyl7 hkk hk3 hl5 hpl7 hvp hTv hvc hTv2 hvc2 haln hcL hcL2 hwl hB3 hBlt hBD hpl0; omega)) ?_
               intro t34 tk34
               walk_at "S3"
               refine back_spec false (G0.keeps F33.keep) ((R0.le (d' := 10 + 1) (u' := 60 + 3)).deeper _) (Z1.keeps Ze33) (Z2.keeps Ze33) (by (clear hn hd hu hcl hvs hcl7 hyl7 hkk hk3 hl5 hpl7 hvp hTv hvc hTv2 hvc2 haln hcL hcL2 hwl hB3 hBlt hBD hpl0; omega)) HP1.len (Nat.le_trans HP1.tall (by decide)) (fun r hr => Nat.le_trans (HP1.wide.1 r hr) (by decide)) (fun r hr => Nat.le_trans (HP1.wide.2 r hr) (by decide)) HP1.back1 (fun D34 h34 tk34' e34 hf34 => ?_)
               have F34 := F33.kept e34
               have N34 := N33.grown e34
               have Ze34 : Ext gK h34 := fun b o e => e34 _ _ (Ze33 b o e)
               clear F33 N33 Ze33
               walk_at "S3"
               obtain ⟨as34, r34⟩ := reads_found1 hf34
               rw [List.reverse_reverse, List.map_map, (List.map_congr_left fun p _ => rfl : pairs.map ((fun q : Int × Itm => (q.1, q.2.2)) ∘ fun p => (p.1, ((0 : Int), p.2))) = pairs.map id), List.map_id] at r34
               obtain ⟨bs34, r34'⟩ := reads_pairs (Z7.keeps Ze34) (Z5.keeps Ze34)
               refine PySem.SeqAt.compareEq_shaped r34 r34' (shaped_pairs _) (shaped_pairs _) (by show A.units + 3 + 64 < _; (clear hn hd hcl hvs hcl7 hyl7 hkk hk3 hk7 hl5 hpl7 hpl hvp hTv hvc hTv2 hvc2 haln hcL hcL2 hwl hB3 hBlt hBD hpl0; omega)) ?_
               rw [eqv_self (shaped_pairs _)]
               clear r34 r34' hf34
               walk_at "S3"
               obtain ⟨as35, r35⟩ := reads_tab (Z4.keeps Ze34)
               rw [HP1.signs] at r35
               obtain ⟨bs35, r35'⟩ := reads_tab (Z1.keeps Ze34)
               refine PySem.SeqAt.compareEq_shaped r35 r35' (shaped_tab _) (shaped_tab _) (by show A.units + 3 + 64 < _; (clear hn hd hcl hvs hcl7 hyl7 hkk hk3 hk7 hl5 hpl7 hpl hvp hTv hvc hTv2 hvc2 haln hcL hcL2 hwl hB3 hBlt hBD hpl0; omega)) ?_
               rw [eqv_self (shaped_tab _)]
               clear r35 r35'
               walk_at "S3"
               (refine' compG_eval (cl := []) ?ca2 ?ca3 ?ca4 ?ca5 ?_ ?ca9; (case ca2 => rfl); (case ca3 => decide); (case ca4 => rfl); (case ca5 => decide); (case ca9 => exact fun _ => rfl))
               walk_at "S3"
               refine hold fun hng => ?_
               obtain ⟨as2, ⟨nT2, eT2⟩, hl2, hr2⟩ := id Z3
               (refine hng ?_; clear hng)
               have hl2' : as2.length ≤ 7 := by rw [hl2]; have := congrArg List.length HP1.signs; have := congrArg List.length HP1.marks; rw [List.length_map] at this; rw [this, HP1.len]; exact HP1.tall
               refine' src_listN (vs := as2.map Value.ref) hA ⟨_, Ze34 _ _ eT2, rfl, nT2, rfl⟩ ?sm
               case sm =>
                intro h36 I36 fp36 wr36 P36 Md36 St36 X36 _ hP36
                refine X36.comp (fun i ys nx => ∃ ls : List Addr, ys = ls.map Value.ref ∧ ls.length = i ∧ ∀ (j : Nat) (a : Addr) (row : List Itm), ls[j]? = some a → (rowsM true around).1[j]? = some row → RowN false gK nx a (row.map fun p => ((0 : Int), p.2))) (by rw [List.length_map]; (clear hn hd hu hcl hvs hcl7 hyl7 hkk hk3 hk7 hl5 hpl7 hpl hvp hTv hvc hTv2 hvc2 haln hcL hcL2 hwl hB3 hBlt hBD hpl0 hl2; omega)) (fun i ys nx ⟨ls, e1, e2, _⟩ => by rw [e1, List.length_map, e2]; exact Nat.le_refl _) ⟨[], rfl, rfl, fun _ _ _ h => by simp at h⟩ ?_ ?_
                · rintro g37 C37 fp37 i37 v37 m37 ys37 news37 H37 tk37 own37 eg37 hi37 hPi37 hz1
                  refine hold fun hng => ?_
                  obtain ⟨ls37, rfl, hll37, hrow37⟩ := hz1
                  (refine hng ?_; clear hng)
                  rintro hoff37 hown37 hlive37 F37 N37
                  rw [List.length_map] at hi37
                  obtain ⟨a, ha⟩ : ∃ a, as2[i37]? = some a := ⟨_, List.getElem?_eq_getElem hi37⟩
                  have hv37 := hP36 _ _ _ hPi37
                  obtain rfl : v37 = .ref a := by
                    rw [List.getElem?_map, ha] at hv37
                    exact (Option.some.inj hv37).symm
                  have hri : (rowsM true around).1[i37]? = some (rowsM true around).1[i37] := List.getElem?_eq_getElem (by rw [← hl2]; exact hi37)
                  generalize (rowsM true around).1[i37] = row at hri
                  refine hold fun hng => ?_
                  obtain ⟨vs37, hva, hIa⟩ := hr2 _ _ _ ha hri
                  (refine hng ?_; clear hng)
                  have hrl : row.length ≤ 7 := by
                    have : (row.map fun p => ((0 : Int), p.2)) ∈ (rowsM false pairs).2 := by rw [← HP1.marks]; exact List.mem_map.mpr ⟨row, List.mem_of_getElem? hri, rfl⟩
                    have := HP1.wide.2 _ this
                    rw [List.length_map] at this; exact this
                  have exg : Ext gK g37 := fun b o e => eg37 _ _ (Ze34 _ _ e)
                  refine assignC F37 N37 (fun H38 tk38 F38 N38 => tests_nil ?_)
                  rw [if_pos rfl]
                  refine hold fun hng => ?_
                  obtain ⟨Ts3, vals3, e3, hTv3, hvc3, hTT3, hval3⟩ := pairs_open (hIa.keeps exg)
                  (refine hng ?_; clear hng)
                  have hvl37 := hIa.1
                  (refine' compG_eval (cl := []) ?ca2 ?ca3 ?ca4 ?ca5 ?_ ?ca9; (case ca2 => rfl); (case ca3 => decide); (case ca4 => rfl); (case ca5 => decide); (case ca9 => exact fun _ => rfl))
                  walk_at "S3"
                  obtain ⟨nva, eva⟩ := hva
                  refine' src_tups (l := a) (vs := vs37) (Ts := Ts3) (vals := vals3) hA ⟨_, F38.keep _ _ (exg _ _ eva), rfl, nva, rfl⟩ e3 hTv3 (fun i T x h1 h2 => (hTT3 i T x h1 h2).at fun o e => F38.keep _ _ e) ?sr
                  case sr =>
                   intro h39 I39 fp39 wr39 P39 Md39 St39 X39 _ hP39
                   refine X39.comp (fun i ys _ => IntsAre ys ((row.take i).map (·.2))) (by (clear hn hd hu hcl hvs hcl7 hyl7 hkk hk3 hk7 hl5 hpl7 hpl hvp hTv hvc hTv2 hvc2 haln hcL hcL2 hwl hB3 hBlt hBD hpl0 hl2 hl2' hi37 hll37 hTv3 hvc3; omega)) (fun i ys _ h => by rw [h.length, List.length_map, List.length_take]; (clear hn hd hu hcl hvs hcl7 hyl7 hkk hk3 hk7 hl5 hpl7 hpl hvp hTv hvc hTv2 hvc2 haln hcL hcL2 hwl hB3 hBlt hBD hpl0 hl2 hl2' hi37 hll37 hrl hTv3 hvc3 hvl37; omega)) .nil ?_ ?_
                   · intro g40 C40 fp40 i40 v40 m40 ys40 news40 H40 tk40 own40 eg40 hi40 hPi40 hJ40 hoff40 hown40 hlive40 F40 N40
                     refine hold fun hng => ?_
                     obtain ⟨T40, x40, rfl, hx40, hT40⟩ := hP39 _ _ _ hPi40 hi40
                     (refine hng ?_; clear hng)
                     refine hold fun hng => ?_
                     obtain ⟨p40, hp40, htk40⟩ := pairs_take hx40 hvc3
                     (refine hng ?_; clear hng)
                     refine hold fun hng => ?_
                     obtain ⟨t40, t40', rfl⟩ := hval3 _ _ _ hx40 hp40
                     (refine hng ?_; clear hng)
                     refine assign2C hA F40 N40 hT40 (fun H41 tk41 F41 N41 => tests_nil ?_)
                     rw [if_pos rfl]
                     walk_at "S3"
                     refine ⟨_, _, _, _, rfl, F41, N41, hoff40, ?_⟩
                     rw [htk40, List.map_append]
                     exact hJ40.append (.cons _ _ .nil)
                   · intro D42 H42 tk42 ys42 k42 news42 ex42 nw42 hnD42 hJ42
                     rw [hvl37, List.take_length] at hJ42
                     have hD38 : H38.get? D42 = none := (nw42 _ (.head _)).2
                     have hDf : D42 ∉ fp37 := fun hm => by
                       rcases hlive37 _ hm with ⟨o, e⟩ | ⟨o, e⟩
                       · rw [F38.keep _ _ e] at hD38; cases hD38
                       · rw [(N38 _ (List.mem_append_left _ e)).1] at hD38; cases hD38
                     have F42 := F38.kept ex42
                     have N42 := N38.grown ex42
                     have ND := nw42.news F38 _ (.head _)
                     refine ⟨_, _, _, (D42, PySem.W.listOf ys42.toArray k42) :: news37, rfl, F42, fun p hp => ?_, fun p hp => ?_, ls37 ++ [D42], by rw [List.map_append]; rfl, by rw [List.length_append, hll37]; rfl, fun j a row' h1 h2 => ?_⟩
                     · rcases List.mem_append.mp hp with hp | hp
                       · exact N42 p (List.mem_append_left _ hp)
                       · rcases List.mem_cons.mp hp with rfl | hp
                         · exact ND
                         · exact N42 p (List.mem_append_right _ hp)
                     · rcases List.mem_cons.mp hp with rfl | hp
                       · exact hDf
                       · exact hoff37 p hp
                     · rcases Nat.lt_trichotomy j i37 with h | h | h
                       · rw [List.getElem?_append_left (by (clear hn hd hu hcl hvs hcl7 hyl7 hkk hk3 hk7 hl5 hpl7 hpl hvp hTv hvc hTv2 hvc2 haln hcL hcL2 hwl hB3 hBlt hBD hpl0 hl2 hl2' hi37 hrl hTv3 hvc3 hvl37 ND; omega))] at h1
                         refine hold fun hng => ?_
                         obtain ⟨vs', n', h', h''⟩ := hrow37 j a row' h1 h2
                         (refine hng ?_; clear hng)
                         exact ⟨vs', n', .tail _ h', h''⟩
                       · subst h
                         rw [List.getElem?_append_right (by (clear hn hd hu hcl hvs hcl7 hyl7 hkk hk3 hk7 hl5 hpl7 hpl hvp hTv hvc hTv2 hvc2 haln hcL hcL2 hwl hB3 hBlt hBD hpl0 hl2 hl2' hrl hTv3 hvc3 hvl37 ND hi37; omega)), hll37, Nat.sub_self] at h1
                         cases h1
                         rw [hri] at h2
                         cases h2
                         exact ⟨ys42, k42, .head _, items_of_ints hJ42⟩
                       · rw [List.getElem?_eq_none (by rw [List.length_append, hll37]; exact h)] at h1
                         cases h1
                · rintro D43 H43 tk43 ys43 k43 news43 ex43 nw43 hnD43 hz1
                  refine hold fun hng => ?_
                  obtain ⟨ls43, rfl, hll43, hrow43⟩ := hz1
                  (refine hng ?_; clear hng)
                  have F43 := F34.kept ex43
                  have N43 := N34.grown ex43
                  have Ze43 : Ext gK H43 := fun b o e => ex43 _ _ (Ze34 _ _ e)
                  have Z10 : TabH false H43 D43 (rowsM false pairs).2 := by
                    rw [← HP1.marks]
                    refine ⟨ls43, ⟨k43, (nw43 _ (.head _)).1⟩, by rw [hll43, List.length_map, List.length_map, hl2], fun i a row h1 h2 => ?_⟩
                    rw [List.getElem?_map] at h2
                    refine hold fun hng => ?_
                    obtain ⟨r, hr, rfl⟩ := Option.map_eq_some_iff.mp h2
                    (refine hng ?_; clear hng)
                    refine hold fun hng => ?_
                    obtain ⟨vs, n, h3, h4⟩ := hrow43 i a r h1 hr
                    (refine hng ?_; clear hng)
                    exact ⟨vs, ⟨n, (nw43 _ (.tail _ h3)).1⟩, h4.keeps Ze43⟩
                  clear F34 N34 Ze34 nw43 hnD43 ex43
                  walk_at "S3"
                  obtain ⟨as44, r44⟩ := reads_tab Z10
                  obtain ⟨bs44, r44'⟩ := reads_tab (Z2.keeps Ze43)
                  refine PySem.SeqAt.compareEq_shaped r44 r44' (shaped_tab _) (shaped_tab _) (by show A.units + 3 + 64 < _; (clear hn hd hcl hvs hcl7 hyl7 hkk hk3 hk7 hl5 hpl7 hpl hvp hTv hvc hTv2 hvc2 haln hcL hcL2 hwl hB3 hBlt hBD hpl0 hl2 hl2' hll43; omega)) ?_
                  rw [eqv_self (shaped_tab _)]
                  clear r44 r44' Z10
                  walk_at "S3"
                  have hva := Z6.1
                  refine len_any (Z8.keeps Ze43).isList hva (by (clear hn hd hu hcl hvs hcl7 hyl7 hkk hk3 hl5 hpl7 hpl hvp hTv hvc hTv2 hvc2 hcL hcL2 hwl hB3 hBlt hBD hpl0 hl2 hl2' hll43 hva; omega)) ?_
                  intro t45 tk45
                  walk_at "S3"
                  have hTw : ∀ row ∈ (rowsM true around).1, row.length ≤ 7 := fun row hr => by
                    have : (row.map fun p => ((0 : Int), p.2)) ∈ (rowsM false pairs).2 := by rw [← HP1.marks]; exact List.mem_map.mpr ⟨row, hr, rfl⟩
                    have := HP1.wide.2 _ this
                    rw [List.length_map] at this; exact this
                  have hTl : (rowsM true around).1.length = (rowsM false pairs).1.length := by have := congrArg List.length HP1.marks; rw [List.length_map] at this; rw [this, HP1.len]
                  refine back_spec true (G0.keeps F43.keep) ((R0.le (d' := 10 + 1) (u' := 60 + 3)).deeper _) (Z3.keeps Ze43) (Z4.keeps Ze43) (by (clear hn hd hu hcl hvs hcl7 hyl7 hkk hk3 hl5 hpl7 hpl hvp hTv hvc hTv2 hvc2 hcL hcL2 hwl hB3 hBlt hBD hpl0 hl2 hl2' hll43 hva hTl; omega)) (by rw [HP1.signs, hTl]) (by rw [hTl]; exact Nat.le_trans HP1.tall (by decide)) (fun r hr => Nat.le_trans (hTw r hr) (by decide)) (fun r hr => by rw [HP1.signs] at hr; exact Nat.le_trans (HP1.wide.1 r hr) (by decide)) HP1.back2 (fun D46 h46 tk46 e46 hf46 => ?_)
                  have F46 := F43.kept e46
                  have N46 := N43.grown e46
                  have Ze46 : Ext gK h46 := fun b o e => e46 _ _ (Ze43 b o e)
                  clear F43 N43 Ze43
                  walk_at "S3"
                  (refine' compG_eval (cl := []) ?ca2 ?ca3 ?ca4 ?ca5 ?_ ?ca9; (case ca2 => rfl); (case ca3 => decide); (case ca4 => rfl); (case ca5 => decide); (case ca9 => exact fun _ => rfl))
                  walk_at "S3"
                  refine' src_listN (vs := va) hA (Z8.keeps Ze46).isList ?sb
                  case sb =>
                   intro h47 I47 fp47 wr47 P47 Md47 St47 X47 _ hP47
                   refine X47.comp (fun i ys nx => ys.length = i ∧ ∀ (j : Nat) (v : Value) (p : Itm), ys[j]? = some v → around[j]? = some p → ∃ (a : Addr) (t : Tok) (u : Value) (o : Obj), v = .ref a ∧ (a, o) ∈ nx ∧ o.cls = .type "tuple" ∧ o.data = .seq #[.int p.1 t, u] 0 ∧ PairAt gK u p) (by (clear hn hd hu hcl hvs hcl7 hyl7 hkk hk3 hl5 hpl7 hpl hvp hTv hvc hTv2 hvc2 hcL hcL2 hwl hB3 hBlt hBD hpl0 hl2 hl2' hll43 hTl; omega)) (fun i ys nx h => by rw [h.1]; exact Nat.le_refl _) ⟨rfl, fun _ _ _ h => by simp at h⟩ ?_ ?_
                   · rintro g48 C48 fp48 i48 v48 m48 ys48 news48 H48 tk48 own48 eg48 hi48 hPi48 ⟨hyl48, hys48⟩ hoff48 hown48 hlive48 F48 N48
                     have hv48 := hP47 _ _ _ hPi48
                     have hp48 : around[i48]? = some around[i48] := List.getElem?_eq_getElem (by (clear hn hd hu hcl hvs hcl7 hyl7 hkk hk3 hk7 hl5 hpl7 hpl hvp hTv hvc hTv2 hvc2 haln hcL hcL2 hwl hB3 hBlt hBD hpl0 hl2 hl2' hll43 hTl hyl48; omega))
                     generalize around[i48] = p48 at hp48
                     have hPA := Z6.2 _ _ _ hv48 hp48
                     refine hold fun hng => ?_
                     obtain ⟨aP, tP, tP', rfl, hTP⟩ := id hPA
                     (refine hng ?_; clear hng)
                     have exg : Ext gK g48 := fun b o e => eg48 _ _ (Ze46 _ _ e)
                     have hTg := hTP.keeps exg
                     refine assignC F48 N48 (fun H49 tk49 F49 N49 => tests_nil ?_)
                     rw [if_pos rfl]
                     walk_at "S3"
                     walk1
                     walk_at "S3"
                     (rename Fr _ _ _ _ => F50; rename News _ _ _ (_ :: _) => N50; rename ∀ (p : Addr × Obj), p ∈ own48 ++ news48 → p.1 < _ => lt50)
                     have hT50 := fresh_off hlive48 N50 lt50
                     obtain ⟨T50, hT50e⟩ := name_head N50
                     subst hT50e
                     refine ⟨_, _, _, (T50, { cls := .type "tuple", data := .seq #[.int p48.1 tP, .ref aP] }) :: news48, rfl, F50, fun p hp => N50 p ?_, fun p hp => ?_, by rw [List.length_append, hyl48]; rfl, fun j v p h1 h2 => ?_⟩
                     · rcases List.mem_append.mp hp with hp | hp
                       · exact .tail _ (List.mem_append_left _ hp)
                       · rcases List.mem_cons.mp hp with rfl | hp
                         · exact .head _
                         · exact .tail _ (List.mem_append_right _ hp)
                     · rcases List.mem_cons.mp hp with rfl | hp
                       · exact hT50
                       · exact hoff48 p hp
                     · rcases Nat.lt_trichotomy j i48 with h | h | h
                       · rw [List.getElem?_append_left (by (clear hn hd hu hcl hvs hcl7 hyl7 hkk hk3 hk7 hl5 hpl7 hpl hvp hTv hvc hTv2 hvc2 haln hcL hcL2 hwl hB3 hBlt hBD hpl0 hl2 hl2' hll43 hva hTl hi48; omega))] at h1
                         refine hold fun hng => ?_
                         obtain ⟨a, t, u, o, e1, e2, e3⟩ := hys48 j v p h1 h2
                         (refine hng ?_; clear hng)
                         exact ⟨a, t, u, o, e1, .tail _ e2, e3⟩
                       · subst h
                         rw [List.getElem?_append_right (by (clear hn hd hu hcl hvs hcl7 hyl7 hkk hk3 hk7 hl5 hpl7 hpl hvp hTv hvc hTv2 hvc2 haln hcL hcL2 hwl hB3 hBlt hBD hpl0 hl2 hl2' hll43 hva hTl hi48; omega)), hyl48, Nat.sub_self] at h1
                         cases h1
                         rw [hp48] at h2
                         cases h2
                         exact ⟨_, _, _, _, rfl, .head _, rfl, rfl, hPA⟩
                       · rw [List.getElem?_eq_none (by rw [List.length_append, hyl48]; exact h)] at h1
                         cases h1
                   · rintro D51 H51 tk51 ys51 k51 news51 ex51 nw51 hnD51 ⟨hyl51, hys51⟩
                     have F51 := F46.kept ex51
                     have N51 := N46.grown ex51
                     have Ze51 : Ext gK H51 := fun b o e => ex51 _ _ (Ze46 _ _ e)
                     have hf51 : FoundH true H51 D51 (around.map fun p => (p.1, p)) := ⟨ys51, ⟨k51, (nw51 _ (.head _)).1⟩, by rw [List.length_map, hyl51, hva], fun i v r h1 h2 => by
                       rw [List.getElem?_map] at h2
                       refine hold fun hng => ?_
                       obtain ⟨p, hp, rfl⟩ := Option.map_eq_some_iff.mp h2
                       (refine hng ?_; clear hng)
                       refine hold fun hng => ?_
                       obtain ⟨a, t, u, o, e1, e2, e3, e4, e5⟩ := hys51 i v p h1 hp
                       (refine hng ?_; clear hng)
                       exact ⟨a, t, u, e1, ⟨o, (nw51 _ (.tail _ e2)).1, e3, 0, e4⟩, PairAt.keeps e5 Ze51⟩⟩
                     obtain ⟨as52, r52⟩ := reads_found2 hf46
                     rw [List.reverse_reverse] at r52
                     obtain ⟨bs52, r52'⟩ := reads_found2 hf51
                     have r52'' := Reads.keeps ex51 r52
                     clear F46 N46 Ze46 nw51 hnD51 hf46 hf51 hys51 r52
                     walk_at "S3"
                     refine PySem.SeqAt.compareEq_shaped r52'' r52' (shaped_marked _) (shaped_marked _) (by show A.units + 3 + 64 < _; (clear hn hd hcl hvs hcl7 hyl7 hkk hk3 hk7 hl5 hpl7 hpl hvp hTv hvc hTv2 hvc2 haln hcL hcL2 hwl hB3 hBlt hBD hpl0 hl2 hl2' hll43 hva hTl hyl51; omega)) ?_
                     rw [eqv_self (shaped_marked _)]
                     clear r52'' r52' ex51
                     walk_at "S3"
                     refine columns_spec (G0.keeps F51.keep) ((R0.le (d' := 10 + 1) (u' := 60 + 3)).deeper _) (Z9.keeps Ze51) hIw (by (clear hn hd hu hcl hvs hcl7 hyl7 hkk hk3 hl5 hpl7 hvp hTv hvc hTv2 hvc2 haln hcL hcL2 hwl hB3 hBlt hBD hl2 hl2' hll43 hva hTl hyl51; omega)) HP1.colne (fun D53 h53 tk53 e53 ht53 => ?_)
                     have F53 := F51.kept e53
                     have N53 := N51.grown e53
                     have Ze53 : Ext gK h53 := fun b o e => e53 _ _ (Ze51 b o e)
                     rw [HP1.cols] at ht53
                     clear F51 N51 Ze51
                     walk_at "S3"
                     obtain ⟨as54, r54⟩ := reads_tab ht53
                     obtain ⟨bs54, r54'⟩ := reads_tab (Z1.keeps Ze53)
                     refine PySem.SeqAt.compareEq_shaped r54 r54' (shaped_tab _) (shaped_tab _) (by show A.units + 3 + 64 < _; (clear hn hd hcl hvs hcl7 hyl7 hkk hk3 hk7 hl5 hpl7 hpl hvp hTv hvc hTv2 hvc2 haln hcL hcL2 hwl hB3 hBlt hBD hpl0 hl2 hl2' hll43 hva hTl hyl51; omega)) ?_
                     rw [eqv_self (shaped_tab _)]
                     clear r54 r54' ht53
                     walk_at "S3"
                     (refine' compG_eval ?ca2 ?ca3 ?ca4 ?ca5 ?_ ?ca9; (case ca2 => rfl); (case ca3 => decide); (case ca4 => rfl); (case ca5 => decide); (case ca9 => exact fun _ => rfl))
                     walk_at "S3"
                     have hbl' : vb'.length = pairs.length + 1 := by rw [hIb'.length, choicesM_len, List.length_replicate]
                     refine len_any (N53.isList hmB) hbl' (by (clear hn hd hu hcl hvs hcl7 hyl7 hkk hk3 hl5 hpl7 hvp hTv hvc hTv2 hvc2 haln hcL hcL2 hwl hB3 hBlt hBD hpl0 hl2 hl2' hll43 hva hTl hyl51 hbl'; omega)) ?_
                     intro t55 tk55
                     walk_at "S3"
                     (rename Fr _ _ _ _ => F55; rename News _ _ _ _ => N55; rename IsRange _ _ _ _ _ _ _ _ => R55)
                     refine' src_rangeN (n := pairs.length + 1) hA R55 (small_one (by (clear hn hd hu hcl hvs hcl7 hyl7 hkk hk3 hk7 hl5 hpl7 hpl hvp hTv hvc hTv2 hvc2 haln hcL hcL2 hwl hB3 hBlt hBD hpl0 hl2 hl2' hll43 hva hTl hyl51 hbl'; omega)) (by (clear hn hd hu hcl hvs hcl7 hyl7 hkk hk3 hk7 hl5 hpl7 hpl hvp hTv hvc hTv2 hvc2 haln hcL hcL2 hwl hB3 hBlt hBD hpl0 hl2 hl2' hll43 hva hTl hyl51 hbl'; omega)) (by (clear hn hd hu hcl hvs hcl7 hyl7 hkk hk3 hk7 hl5 hpl7 hpl hvp hTv hvc hTv2 hvc2 haln hcL hcL2 hwl hB3 hBlt hBD hpl0 hl2 hl2' hll43 hva hTl hyl51 hbl'; omega)) (by (clear hn hd hu hcl hvs hcl7 hyl7 hkk hk3 hl5 hpl7 hvp hTv hvc hTv2 hvc2 haln hcL hcL2 hwl hB3 hBlt hBD hpl0 hl2 hl2' hll43 hva hTl hyl51 hbl'; omega))) (by rw [rangeSize_nat]; (clear hn hd hu hcl hvs hcl7 hyl7 hkk hk3 hk7 hl5 hpl7 hpl hvp hTv hvc hTv2 hvc2 haln hcL hcL2 hwl hB3 hBlt hBD hpl0 hl2 hl2' hll43 hva hTl hyl51 hbl'; omega)) ?sk
                     case sk =>
                      intro h56 I56 fp56 wr56 P56 Md56 St56 X56 _ hP56
                      refine X56.comp (fun i ys _ => LSm.BoolsAre ys (List.replicate i true)) (by (clear hn hd hu hcl hvs hcl7 hyl7 hkk hk3 hl5 hpl7 hvp hTv hvc hTv2 hvc2 haln hcL hcL2 hwl hB3 hBlt hBD hpl0 hl2 hl2' hll43 hva hTl hyl51 hbl'; omega)) (fun i ys _ h => by rw [h.length, List.length_replicate]; exact Nat.le_refl _) .nil ?_ ?_
                      · rintro g57 C57 fp57 i57 v57 m57 ys57 news57 H57 tk57 own57 eg57 hi57 hPi57 hJ57 hoff57 hown57 hlive57 F57 N57
                        obtain ⟨t57, rfl⟩ := hP56 _ _ _ hPi57
                        rw [show (0 + (i57 : Int) * 1) = i57 by (clear hn hd hu hcl hvs hcl7 hyl7 hkk hk3 hk7 hl5 hpl7 hpl hvp hTv hvc hTv2 hvc2 haln hcL hcL2 hwl hB3 hBlt hBD hpl0 hl2 hl2' hll43 hva hTl hyl51 hbl' hi57; omega)]
                        have exs : Ext gK g57 := fun b o e => eg57 _ _ (ext_of F55 N55 Zk b o e)
                        have KX57 : (Mine.hd.heap_39 w.params).In g57 := G0.k.keeps fun b o e => exs _ _ (Zg _ _ e)
                        have TR57 := TR.keeps fun b o e => exs _ _ (Zg _ _ e)
                        have hcT : g57.get? (L + 2) = some o2' := eg57 _ _ (N55 _ hm2).1
                        have hcB : g57.get? (L + 3) = some o3' := eg57 _ _ (N55 _ hm3).1
                        have hlB : g57.get? B = some (PySem.W.listOf vb'.toArray nB') := eg57 _ _ (N55 _ hmB).1
                        refine hold fun hng => ?_
                        obtain ⟨as1, ⟨nT1, eT1⟩, hl1, hr1⟩ := id Z1
                        (refine hng ?_; clear hng)
                        have hl17 : as1.length ≤ 7 := by rw [hl1]; exact HP1.tall
                        clear TR
                        refine assignC F57 N57 (fun H58 tk58 F58 N58 => tests_nil ?_)
                        rw [if_pos rfl]
                        walk1
                        refine Call_ ?_
                        (k_dflt (refine' nameG_B ?k1 ?k2 ?k3 ?k4 ?k5 ?k6 ?_ ?c1 ?c2 ?c3 ?c4 ?c5; (case k1 => with_reducible assumption); (case k2 => with_reducible assumption); (case k3 => with_reducible assumption); (case k4 => k_is); (case k5 => boot_fast); (case k6 => decide); (case c1 => rfl); (case c2 => rfl); (case c3 => rfl); (case c4 => rfl); (case c5 => decide)))
                        walk_at "S4"
                        (refine' compG_eval (cl := []) ?ca2 ?ca3 ?ca4 ?ca5 ?_ ?ca9; (case ca2 => rfl); (case ca3 => decide); (case ca4 => rfl); (case ca5 => decide); (case ca9 => exact fun _ => rfl))
                        walk_at "S4"
                        refine ldCellB F58 hcT d2' rfl rfl ?_
                        walk_at "S4"
                        (k_dflt (refine' ldC ?k1 ?k2 ?_; (case k1 => k_asm); (case k2 => walk_at "M"); k_whole))
                        walk_at "S4"
                        refine kmk_slice F58 N58 ⟨_, F58.keep _ _ (exs _ _ eT1), rfl, nT1, rfl⟩ .none (.int _ _) (fun D59 H59 F59 N59 hD59 => ?_) (by with_unfolding_all rfl) (fun _ => by with_unfolding_all rfl) (by rw [List.size_toArray, List.length_map, sizeLine_eq]; (clear hn hd hu hcl hvs hcl7 hyl7 hkk hk3 hk7 hl5 hpl7 hpl hvp hTv hvc hTv2 hvc2 haln hcL hcL2 hwl hB3 hBlt hBD hpl0 hll43 hva hyl51 hbl' hi57 hl17; omega))
                        walk_at "S4"
                        rw [pick_any] at N59
                        have htl : ((as1.map Value.ref).take i57).length ≤ 7 := by rw [List.length_take, List.length_map]; (clear hn hd hu hcl hvs hcl7 hyl7 hkk hk3 hl5 hpl7 hvp hTv hvc hTv2 hvc2 haln hcL hcL2 hwl hB3 hBlt hBD hpl0 hl2 hl2' hll43 hva hTl hyl51 hbl' hl1 hl17; omega)
                        refine' src_listN (vs := (as1.map Value.ref).take i57) hA (N59.isList (.head _)) ?sr2
                        case sr2 =>
                         intro h60 I60 fp60 wr60 P60 Md60 St60 X60 _ hP60
                         refine X60.comp (fun i ys _ => IntsAre ys ((((rowsM false pairs).1.take i57).take i).map fun r => (r.length : Int))) (by (clear hn hd hu hcl hvs hcl7 hyl7 hkk hk3 hk7 hl5 hpl7 hpl hvp hTv hvc hTv2 hvc2 haln hcL hcL2 hwl hB3 hBlt hBD hpl0 hl2 hl2' hll43 hva hTl hyl51 hbl' hi57 hl1 hl17; omega)) (fun i ys _ h => by rw [h.length, List.length_map, List.length_take]; (clear hn hd hu hcl hvs hcl7 hyl7 hkk hk3 hk7 hl5 hpl7 hpl hvp hTv hvc hTv2 hvc2 haln hcL hcL2 hwl hB3 hBlt hBD hpl0 hl2 hl2' hll43 hva hTl hyl51 hbl' hi57 hl1 hl17 htl; omega)) .nil ?_ ?_
                         · intro g61 C61 fp61 i61 v61 m61 ys61 news61 H61 tk61 own61 eg61 hi61 hPi61 hJ61 hoff61 hown61 hlive61 F61 N61
                           have hv61 := hP60 _ _ _ hPi61
                           rw [List.length_take, List.length_map] at hi61
                           rw [List.getElem?_take_of_lt (by (clear hn hd hu hcl hvs hcl7 hyl7 hkk hk3 hk7 hl5 hpl7 hpl hvp hTv hvc hTv2 hvc2 haln hcL hcL2 hwl hB3 hBlt hBD hpl0 hl2 hl2' hll43 hva hTl hyl51 hbl' hi57 hl1 hl17 htl; omega)), List.getElem?_map] at hv61
                           refine hold fun hng => ?_
                           obtain ⟨a, ha, rfl⟩ := Option.map_eq_some_iff.mp hv61
                           (refine hng ?_; clear hng)
                           have hri : (rowsM false pairs).1[i61]? = some (rowsM false pairs).1[i61] := List.getElem?_eq_getElem (by rw [← hl1]; (clear hn hd hu hcl hvs hcl7 hyl7 hkk hk3 hk7 hl5 hpl7 hpl hvp hTv hvc hTv2 hvc2 haln hcL hcL2 hwl hB3 hBlt hBD hpl0 hl2 hl2' hll43 hva hTl hyl51 hbl' hi57 hl1 hl17 htl; omega))
                           have htk : ((rowsM false pairs).1.take i57).take (i61 + 1) = ((rowsM false pairs).1.take i57).take i61 ++ [(rowsM false pairs).1[i61]] := by
                             rw [List.take_add_one, List.getElem?_take_of_lt (by (clear hn hd hu hcl hvs hcl7 hyl7 hkk hk3 hk7 hl5 hpl7 hpl hvp hTv hvc hTv2 hvc2 haln hcL hcL2 hwl hB3 hBlt hBD hpl0 hl2 hl2' hll43 hva hTl hyl51 hbl' hi57 hl17 htl; omega)), hri]; rfl
                           generalize (rowsM false pairs).1[i61] = row at hri htk
                           refine hold fun hng => ?_
                           obtain ⟨vs61, ⟨na, hva⟩, hIa⟩ := hr1 _ _ _ ha hri
                           (refine hng ?_; clear hng)
                           have hvl := hIa.1
                           have hrl : row.length ≤ 7 := HP1.wide.1 _ (List.mem_of_getElem? hri)
                           have exg : Ext gK g61 := fun b o e => eg61 _ _ (F59.keep _ _ (exs _ _ e))
                           have KX61 : (Mine.hd.heap_39 w.params).In g61 := G0.k.keeps fun b o e => exg _ _ (Zg _ _ e)
                           have TR61 := TR57.keeps fun b o e => eg61 _ _ (F59.keep _ _ e)
                           refine assignC F61 N61 (fun H62 tk62 F62 N62 => tests_nil ?_)
                           rw [if_pos rfl]
                           refine Call_ ?_
                           (k_dflt (refine' nameG_B ?k1 ?k2 ?k3 ?k4 ?k5 ?k6 ?_ ?c1 ?c2 ?c3 ?c4 ?c5; (case k1 => with_reducible assumption); (case k2 => with_reducible assumption); (case k3 => with_reducible assumption); (case k4 => k_is); (case k5 => boot_fast); (case k6 => decide); (case c1 => rfl); (case c2 => rfl); (case c3 => rfl); (case c4 => rfl); (case c5 => decide)))
                           walk_at "S4"
                           (k_dflt (refine' ldC ?k1 ?k2 ?_; (case k1 => k_asm); (case k2 => walk_at "M"); k_whole))
                           walk_at "S4"
                           refine len_any ⟨_, F62.keep _ _ (exg _ _ hva), rfl, na, rfl⟩ hvl (by (clear hn hd hu hcl hvs hcl7 hyl7 hkk hk3 hk7 hl5 hpl7 hpl hvp hTv hvc hTv2 hvc2 haln hcL hcL2 hwl hB3 hBlt hBD hpl0 hl2 hl2' hll43 hTl hyl51 hbl' hi57 hl1 hl17 htl hi61 hvl; omega)) ?_
                           intro t63 tk63
                           walk_at "S4"
                           refine ⟨_, _, _, _, rfl, F62, N62, hoff61, ?_⟩
                           rw [htk, List.map_append]
                           exact hJ61.append (.cons _ _ .nil)
                         · intro D63 H63 tk63 ys63 k63 news63 ex63 nw63 hnD63 hJ63
                           rw [List.take_of_length_le (by rw [List.length_take, List.length_take, List.length_map, hl1]; exact Nat.le_refl _)] at hJ63
                           have F63 := F59.kept ex63
                           have N63 := N59.grown ex63
                           walk_at "S4"
                           refine LSm.sum_ints F63 N63 hA ⟨_, (nw63 _ (.head _)).1, rfl, k63, rfl⟩ hJ63 (fun H64 tk64 t64 F64 N64 => ?_)
                           clear F63 N63 F59
                           walk_at "S4"
                           refine Call_ ?_
                           (k_dflt (refine' nameG_B ?k1 ?k2 ?k3 ?k4 ?k5 ?k6 ?_ ?c1 ?c2 ?c3 ?c4 ?c5; (case k1 => with_reducible assumption); (case k2 => with_reducible assumption); (case k3 => with_reducible assumption); (case k4 => k_is); (case k5 => boot_fast); (case k6 => decide); (case c1 => rfl); (case c2 => rfl); (case c3 => rfl); (case c4 => rfl); (case c5 => decide)))
                           walk_at "S4"
                           refine ldCellB F64 hcB d3'' rfl rfl ?_
                           walk_at "S4"
                           (k_dflt (refine' ldC ?k1 ?k2 ?_; (case k1 => k_asm); (case k2 => walk_at "M"); k_whole))
                           walk_at "S4"
                           refine kmk_slice F64 N64 ⟨_, F64.keep _ _ hlB, rfl, nB', rfl⟩ .none (.int _ _) (fun D66 H66 F66 N66 hD66 => ?_) (by with_unfolding_all rfl) (fun _ => by with_unfolding_all rfl) (by rw [List.size_toArray, sizeLine_eq]; (clear hn hd hu hcl hvs hcl7 hyl7 hkk hk3 hl5 hpl7 hvp hTv hvc hTv2 hvc2 haln hcL hcL2 hwl hB3 hBlt hBD hpl0 hl2 hl2' hll43 hva hTl hyl51 hi57 hl1 hl17 htl; omega))
                           rw [show ((i57 : Int) + 1) = ((i57 + 1 : Nat) : Int) from rfl, pick_any] at N66
                           clear F64 N64
                           walk_at "S4"
                           refine max_list_N hA F66 N66 (N66.isList (.head _)) (hIb'.take (i57 + 1)) (by rw [List.length_take, choicesM_len, List.length_replicate]; (clear hn hd hu hcl hvs hcl7 hyl7 hkk hk3 hk7 hl5 hpl7 hpl hvp hTv hvc hTv2 hvc2 haln hcL hcL2 hwl hB3 hBlt hBD hpl0 hl2 hl2' hll43 hva hTl hyl51 hbl' hi57 hl1 hl17 htl; omega)) (fun H67 M67 t67 tk67 F67 N67 hM1 hM2 => ?_)
                           obtain ⟨hb1, hb2⟩ := HP1.best i57 (by (clear hn hd hu hcl hvs hcl7 hyl7 hkk hk3 hk7 hl5 hpl7 hpl hvp hTv hvc hTv2 hvc2 haln hcL hcL2 hwl hB3 hBlt hBD hpl0 hl2 hl2' hll43 hva hTl hyl51 hbl' hl1 hl17 htl; omega))
                           have hM : (((rowsM false pairs).1.take i57).map fun r => (r.length : Int)).sum = M67 := Int.le_antisymm (hM2 _ hb1) (hb2 _ hM1)
                           rw [hM]
                           walk_at "S4"
                           refine ⟨_, _, _, news57, rfl, F67, fun p hp => N67 p (.tail _ (.tail _ hp)), hoff57, ?_⟩
                           rw [List.replicate_succ']
                           simpa using bools_snoc true hJ57
                      · intro D70 H70 tk70 ys70 k70 news70 ex70 nw70 hnD70 hJ70
                        have F70 := F55.kept ex70
                        have N70 := N55.grown ex70
                        walk_at "S4"
                        refine LSm.all_bools F70 N70 hA ⟨_, (nw70 _ (.head _)).1, rfl, k70, rfl⟩ hJ70 (fun h71 tk71 F71 N71 => ?_)
                        rw [all_true]
                        walk_at "S4"
                        exact ret _ _ F71.keep
end Mine
end
namespace Mine

-- part TA
/-- Knuth's relation on words -/
inductive Kn : List Int → List Int → Prop
  | refl (u : List Int) : Kn u u
  | symm {u v : List Int} : Kn u v → Kn v u
  | trans {u v w : List Int} : Kn u v → Kn v w → Kn u w
  | a (u v : List Int) (x y z : Int) : x < y → y ≤ z → Kn (u ++ y :: x :: z :: v) (u ++ y :: z :: x :: v)
  | b (u v : List Int) (x y z : Int) : x ≤ y → y < z → Kn (u ++ x :: z :: y :: v) (u ++ z :: x :: y :: v)
theorem Kn.wrap {u v : List Int} (h : Kn u v) (p q : List Int) : Kn (p ++ u ++ q) (p ++ v ++ q) := by
  induction h with
  | refl u => exact .refl _
  | symm _ ih => exact .symm ih
  | trans _ _ i1 i2 => exact .trans i1 i2
  | a u v x y z h1 h2 => simpa using Kn.a (p ++ u) (v ++ q) x y z h1 h2
  | b u v x y z h1 h2 => simpa using Kn.b (p ++ u) (v ++ q) x y z h1 h2
theorem Kn.left {u v : List Int} (h : Kn u v) (p : List Int) : Kn (p ++ u) (p ++ v) := by simpa using h.wrap p []
theorem Kn.right {u v : List Int} (h : Kn u v) (q : List Int) : Kn (u ++ q) (v ++ q) := by simpa using h.wrap [] q
theorem Kn.filter {u v : List Int} (h : Kn u v) (t : Int) : Kn (u.filter fun x => decide (x ≤ t)) (v.filter fun x => decide (x ≤ t)) := by
  induction h with
  | refl u => exact .refl _
  | symm _ ih => exact .symm ih
  | trans _ _ i1 i2 => exact .trans i1 i2
  | a u v x y z h1 h2 =>
    rw [List.filter_append, List.filter_append]
    refine Kn.left ?_ _
    by_cases hz : z ≤ t
    · have hy : y ≤ t := by omega
      have hx : x ≤ t := by omega
      simp only [List.filter_cons, hz, hy, hx, decide_true, if_true]
      exact Kn.a [] _ x y z h1 h2
    · simp only [List.filter_cons, hz, decide_false, Bool.false_eq_true, if_false]
      exact .refl _
  | b u v x y z h1 h2 =>
    rw [List.filter_append, List.filter_append]
    refine Kn.left ?_ _
    by_cases hz : z ≤ t
    · have hy : y ≤ t := by omega
      have hx : x ≤ t := by omega
      simp only [List.filter_cons, hz, hy, hx, decide_true, if_true]
      exact Kn.b [] _ x y z h1 h2
    · simp only [List.filter_cons, hz, decide_false, Bool.false_eq_true, if_false]
      exact .refl _
theorem Kn.perm {u v : List Int} (h : Kn u v) : u.length = v.length := by
  induction h with
  | refl u => rfl
  | symm _ ih => exact ih.symm
  | trans _ _ i1 i2 => exact i1.trans i2
  | a u v x y z h1 h2 => simp
  | b u v x y z h1 h2 => simp

theorem moveA : ∀ (b : List Int) (y x : Int), x < y → (∀ z ∈ b, y ≤ z) → b.Pairwise (· ≤ ·) → Kn (y :: b ++ [x]) (y :: x :: b)
  | [], y, x, _, _, _ => .refl _
  | b1 :: b, y, x, h1, h2, h3 => by
    have hb : y ≤ b1 := h2 b1 (.head _)
    have ih := moveA b b1 x (by omega) (fun z hz => (List.pairwise_cons.mp h3).1 z hz) (List.pairwise_cons.mp h3).2
    exact (ih.left [y]).trans (Kn.a [] b x y b1 h1 hb).symm
theorem moveB : ∀ (a : List Int) (y x : Int), (∀ z ∈ a, z ≤ x) → x < y → a.Pairwise (· ≤ ·) → Kn (a ++ [y, x]) (y :: (a ++ [x]))
  | [], y, x, _, _, _ => .refl _
  | a1 :: a, y, x, h1, h2, h3 => by
    have ih := (moveB a y x (fun z hz => h1 z (.tail _ hz)) h2 (List.pairwise_cons.mp h3).2).left [a1]
    refine ih.trans ?_
    cases a with
    | nil => exact Kn.b [] [] a1 x y (h1 a1 (.head _)) h2
    | cons a2 a =>
      have h4 : a2 ≤ x := h1 a2 (.tail _ (.head _))
      exact Kn.b [] _ a1 a2 y ((List.pairwise_cons.mp h3).1 a2 (.head _)) (by omega)
/-- a letter goes into a row -/
theorem row_kn {a b : List Int} {x y : Int} (h1 : ∀ z ∈ a, z ≤ x) (h2 : x < y) (h3 : ∀ z ∈ b, y ≤ z) (ha : a.Pairwise (· ≤ ·)) (hb : b.Pairwise (· ≤ ·)) : Kn (a ++ y :: b ++ [x]) (y :: (a ++ x :: b)) := by
  have k1 := (moveA b y x h2 h3 hb).left a
  have k2 := (moveB a y x h1 h2 ha).right b
  simp at k1 k2 ⊢
  exact k1.trans k2
theorem moveC : ∀ (d : List Int) (x y : Int), d.Pairwise (· > ·) → (∀ z ∈ d, y < z) → x ≤ y → Kn (x :: (d ++ [y])) (d ++ [x, y])
  | [], x, y, _, _, _ => .refl _
  | d1 :: d, x, y, h1, h2, h3 => by
    have hp := List.pairwise_cons.mp h1
    have ih := (moveC d x y hp.2 (fun z hz => h2 z (.tail _ hz)) h3).left [d1]
    refine Kn.trans ?_ ih
    cases d with
    | nil => exact Kn.b [] [] x y d1 h3 (h2 d1 (.head _))
    | cons d2 d =>
      have h4 := h2 d2 (.tail _ (.head _))
      exact Kn.b [] (d ++ [y]) x d2 d1 (by omega) (hp.1 d2 (.head _))
theorem moveD : ∀ (e : List Int) (x y : Int), e.Pairwise (· > ·) → (∀ z ∈ e, z < x) → x ≤ y → Kn (x :: y :: e) (x :: (e ++ [y]))
  | [], x, y, _, _, _ => .refl _
  | e1 :: e, x, y, h1, h2, h3 => by
    have hp := List.pairwise_cons.mp h1
    have h4 := h2 e1 (.head _)
    have ih := (moveD e e1 y hp.2 (fun z hz => hp.1 z hz) (by omega)).left [x]
    exact (Kn.a [] e e1 x y h4 h3).symm.trans ih
/-- a letter goes into a column (read from below) -/
theorem col_kn {d e : List Int} {x y : Int} (hd : d.Pairwise (· > ·)) (he : e.Pairwise (· > ·)) (h1 : ∀ z ∈ d, y < z) (h2 : ∀ z ∈ e, z < x) (h3 : x ≤ y) : Kn (x :: (d ++ y :: e)) (d ++ x :: e ++ [y]) := by
  have k1 := (moveC d x y hd h1 h3).right e
  have k2 := (moveD e x y he h2 h3).left d
  simp at k1 k2 ⊢
  exact k1.trans k2

/-! falling runs -/
def Fall (c : List Int) : Prop := c.Pairwise (· > ·)
def Good (k : Nat) (s : List Int) : Prop := ∀ c : List Int, c.Sublist s → Fall c → c.length ≤ k
def Has (w : List Int) (k m : Nat) : Prop := ∃ s : List Int, s.Sublist w ∧ Good k s ∧ s.length = m

theorem sub1 {α : Type} {s : List α} {a : α} (h : s.Sublist [a]) : s = [] ∨ s = [a] := by
  rcases List.sublist_cons_iff.mp h with k | ⟨r, e, k⟩
  · exact .inl (List.sublist_nil.mp k)
  · rw [e, List.sublist_nil.mp k]; exact .inr rfl
theorem sub2 {α : Type} {s : List α} {a b : α} (h : s.Sublist [a, b]) : s = [] ∨ s = [a] ∨ s = [b] ∨ s = [a, b] := by
  rcases List.sublist_cons_iff.mp h with k | ⟨r, e, k⟩
  · rcases sub1 k with e | e <;> simp [e]
  · rcases sub1 k with e2 | e2 <;> simp [e, e2]
theorem sub3 {α : Type} {s : List α} {a b c : α} (h : s.Sublist [a, b, c]) : s = [] ∨ s = [a] ∨ s = [b] ∨ s = [c] ∨ s = [a, b] ∨ s = [a, c] ∨ s = [b, c] ∨ s = [a, b, c] := by
  rcases List.sublist_cons_iff.mp h with k | ⟨r, e, k⟩
  · rcases sub2 k with e | e | e | e <;> simp [e]
  · rcases sub2 k with e2 | e2 | e2 | e2 <;> simp [e, e2]

theorem sub_mid {α : Type} {c s1 m s3 : List α} (h : c.Sublist (s1 ++ m ++ s3)) : ∃ c1 c2 c3, c = c1 ++ c2 ++ c3 ∧ c1.Sublist s1 ∧ c2.Sublist m ∧ c3.Sublist s3 := by
  obtain ⟨l, c3, rfl, h1, h3⟩ := List.sublist_append_iff.mp h
  obtain ⟨c1, c2, rfl, h4, h5⟩ := List.sublist_append_iff.mp h1
  exact ⟨c1, c2, c3, rfl, h4, h5, h3⟩
theorem mid_sub {α : Type} {c1 c2 c3 s1 m s3 : List α} (h1 : c1.Sublist s1) (h2 : c2.Sublist m) (h3 : c3.Sublist s3) : (c1 ++ c2 ++ c3).Sublist (s1 ++ m ++ s3) := (h1.append h2).append h3
theorem Fall.mid {c1 c2 c3 : List Int} (h : Fall (c1 ++ c2 ++ c3)) : Fall c2 := (List.pairwise_append.mp (List.pairwise_append.mp h).1).2.1
/-- the middle may be laid otherwise where no new fall comes up -/
theorem Good.swap {k : Nat} {s1 m m' s3 : List Int} (h : Good k (s1 ++ m ++ s3)) (hm : ∀ c2 : List Int, c2.Sublist m' → Fall c2 → c2.Sublist m) : Good k (s1 ++ m' ++ s3) := fun c hc hf => by
  obtain ⟨c1, c2, c3, rfl, h1, h2, h3⟩ := sub_mid hc
  exact h _ (mid_sub h1 (hm c2 h2 hf.mid) h3) hf

theorem fall_mid {A m B : List Int} : Fall (A ++ m ++ B) ↔ Fall A ∧ Fall m ∧ Fall B ∧ (∀ a ∈ A, ∀ x ∈ m, a > x) ∧ (∀ a ∈ A, ∀ b ∈ B, a > b) ∧ ∀ x ∈ m, ∀ b ∈ B, x > b := by
  unfold Fall
  rw [List.pairwise_append, List.pairwise_append]
  constructor
  · rintro ⟨⟨h1, h2, h3⟩, h4, h5⟩
    exact ⟨h1, h2, h4, h3, fun a ha b hb => h5 a (List.mem_append_left _ ha) b hb, fun x hx b hb => h5 x (List.mem_append_right _ hx) b hb⟩
  · rintro ⟨h1, h2, h3, h4, h5, h6⟩
    refine ⟨⟨h1, h2, h4⟩, h3, fun a ha b hb => ?_⟩
    rcases List.mem_append.mp ha with ha | ha
    · exact h5 a ha b hb
    · exact h6 a ha b hb

theorem not_good {k : Nat} {s : List Int} (h : ¬ Good k s) : ∃ c : List Int, c.Sublist s ∧ Fall c ∧ k + 1 ≤ c.length := Classical.byContradiction fun hn => h fun c h1 h2 => Classical.byContradiction fun h3 => hn ⟨c, h1, h2, by omega⟩

/-- two letters x, z chosen, of which a fall z, x would be too long: the third letter steps in -/
theorem step_in {k : Nat} {s1 s3 m : List Int} {x y z : Int} (hxz : x < z) (hxy : x ≤ y) (hyz : y ≤ z) (hg : Good k (s1 ++ [x, z] ++ s3)) (hb : ¬ Good k (s1 ++ [z, x] ++ s3))
    (hm : ∀ c2 : List Int, c2.Sublist m → Fall c2 → c2.Sublist [x, z] ∨ c2 = [y]) : Good k (s1 ++ m ++ s3) := fun d hd hf => by
  obtain ⟨c, hc, hcf, hck⟩ := not_good hb
  obtain ⟨A, c2, B, rfl, hA, h2, hB⟩ := sub_mid hc
  have hzx : c2 = [z, x] := by
    rcases sub2 h2 with rfl | rfl | rfl | rfl
    · have := hg _ (mid_sub hA (List.nil_sublist _) hB) hcf; omega
    · have := hg _ (mid_sub hA (by simp : [z].Sublist [x, z]) hB) hcf; omega
    · have := hg _ (mid_sub hA (by simp : [x].Sublist [x, z]) hB) hcf; omega
    · rfl
  subst hzx
  obtain ⟨f1, f2, f3, f4, f5, f6⟩ := fall_mid.mp hcf
  obtain ⟨p, d2, q, rfl, hp, hd2, hq⟩ := sub_mid hd
  rcases hm d2 hd2 hf.mid with h | rfl
  · exact hg _ (mid_sub hp h hq) hf
  · obtain ⟨g1, g2, g3, g4, g5, g6⟩ := fall_mid.mp hf
    have e1 : Fall (A ++ [z] ++ q) := fall_mid.mpr ⟨f1, by simp [Fall], g3, fun a ha u hu => f4 a ha u (by simp at hu ⊢; exact .inl hu), fun a ha b h8 => by
      have := f4 a ha z (by simp); have := g6 y (by simp) b h8; (clear hxz hxy hck; omega), fun u hu b h8 => by simp at hu; have := g6 y (by simp) b h8; (clear hxz hxy hck; omega)⟩
    have e2 : Fall (p ++ [x] ++ B) := fall_mid.mpr ⟨g1, by simp [Fall], f3, fun a ha u hu => by simp at hu; have := g4 a ha y (by simp); (clear hxz hyz hck; omega), fun a ha b h8 => by
      have := g4 a ha y (by simp); have := f6 x (by simp) b h8; (clear hxz hyz hck; omega), fun u hu b h8 => f6 u (by simp at hu ⊢; exact .inr hu) b h8⟩
    have l1 := hg _ (mid_sub hA (by simp : [z].Sublist [x, z]) hq) e1
    have l2 := hg _ (mid_sub hp (by simp : [x].Sublist [x, z]) hB) e2
    simp at l1 l2 hck ⊢
    (clear hxz hxy hyz; omega)

-- part TB
theorem q12 {α : Type} (a b c : α) : [a, b].Sublist [a, b, c] := .cons_cons _ (.cons_cons _ (.cons _ .slnil))
theorem q13 {α : Type} (a b c : α) : [a, c].Sublist [a, b, c] := .cons_cons _ (.cons _ (.cons_cons _ .slnil))
theorem q23 {α : Type} (a b c : α) : [b, c].Sublist [a, b, c] := .cons _ (.cons_cons _ (.cons_cons _ .slnil))
theorem q1 {α : Type} (a b c : α) : [a].Sublist [a, b, c] := by simp
theorem q2 {α : Type} (a b c : α) : [b].Sublist [a, b, c] := by simp
theorem q3 {α : Type} (a b c : α) : [c].Sublist [a, b, c] := by simp
theorem q0 {α : Type} (l : List α) : [].Sublist l := List.nil_sublist _
theorem fall2 {a b : Int} : Fall [a, b] ↔ a > b := by simp [Fall]
theorem fall3 {a b c : Int} : Fall [a, b, c] ↔ (a > b ∧ a > c) ∧ b > c := by simp [Fall]

/-- a choice in the middle three, and what to put there instead -/
theorem has_mid {u v M M' : List Int} {k m : Nat} (H : ∀ s1 s2 s3 : List Int, s2.Sublist M → Good k (s1 ++ s2 ++ s3) → ∃ s2' : List Int, s2'.Sublist M' ∧ s2'.length = s2.length ∧ Good k (s1 ++ s2' ++ s3)) (h : Has (u ++ M ++ v) k m) : Has (u ++ M' ++ v) k m := by
  obtain ⟨s, hs, hg, hl⟩ := h
  obtain ⟨t1, t2, t3, rfl, h1, h2, h3⟩ := sub_mid hs
  obtain ⟨t2', h4, h5, h6⟩ := H t1 t2 t3 h2 hg
  exact ⟨t1 ++ t2' ++ t3, mid_sub h1 h4 h3, h6, by simp at hl ⊢; omega⟩

theorem Good.up {k : Nat} {s1 s2 s3 : List Int} {x y z : Int} (hg : Good k (s1 ++ [y, x, z] ++ s3)) (h1 : x < y) (h2 : y ≤ z) : Good k (s1 ++ [y, z, x] ++ s3) := fun c hc hf => by
  obtain ⟨c1, c2, c3, rfl, k1, k2, k3⟩ := sub_mid hc
  have hm := hf.mid
  have key : ∀ c2 : List Int, c2.Sublist [y, x, z] → Fall (c1 ++ c2 ++ c3) → (c1 ++ c2 ++ c3).length ≤ k := fun c2 h f => hg _ (mid_sub k1 h k3) f
  rcases sub3 k2 with e | e | e | e | e | e | e | e <;> subst e
  · exact key _ (q0 _) hf
  · exact key _ (q1 _ _ _) hf
  · exact key _ (q3 _ _ _) hf
  · exact key _ (q2 _ _ _) hf
  · rw [fall2] at hm; omega
  · exact key _ (q12 _ _ _) hf
  · obtain ⟨f1, f2, f3, f4, f5, f6⟩ := fall_mid.mp hf
    have z9 := (key [y, x] (q12 _ _ _) (fall_mid.mpr ⟨f1, fall2.mpr h1, f3, fun a ha u hu => (by
      have e1 := f4 a ha z (by simp)
      have e2 := f4 a ha x (by simp)
      simp at hu
      omega), f5, fun u hu b hb => (by
      have e1 := f6 z (by simp) b hb
      have e2 := f6 x (by simp) b hb
      simp at hu
      omega)⟩))
    simp at z9 ⊢
    exact z9
  · rw [fall3] at hm; omega
theorem Good.up' {k : Nat} {s1 s2 s3 : List Int} {x y z : Int} (hg : Good k (s1 ++ [x, z, y] ++ s3)) (h1 : x ≤ y) (h2 : y < z) : Good k (s1 ++ [z, x, y] ++ s3) := fun c hc hf => by
  obtain ⟨c1, c2, c3, rfl, k1, k2, k3⟩ := sub_mid hc
  have hm := hf.mid
  have key : ∀ c2 : List Int, c2.Sublist [x, z, y] → Fall (c1 ++ c2 ++ c3) → (c1 ++ c2 ++ c3).length ≤ k := fun c2 h f => hg _ (mid_sub k1 h k3) f
  rcases sub3 k2 with e | e | e | e | e | e | e | e <;> subst e
  · exact key _ (q0 _) hf
  · exact key _ (q2 _ _ _) hf
  · exact key _ (q1 _ _ _) hf
  · exact key _ (q3 _ _ _) hf
  · obtain ⟨f1, f2, f3, f4, f5, f6⟩ := fall_mid.mp hf
    have z9 := (key [z, y] (q23 _ _ _) (fall_mid.mpr ⟨f1, fall2.mpr h2, f3, fun a ha u hu => (by
      have e1 := f4 a ha z (by simp)
      simp at hu
      omega), f5, fun u hu b hb => (by
      have e1 := f6 z (by simp) b hb
      have e2 := f6 x (by simp) b hb
      simp at hu
      omega)⟩))
    simp at z9 ⊢
    exact z9
  · exact key _ (q23 _ _ _) hf
  · rw [fall2] at hm; omega
  · rw [fall3] at hm; omega

theorem has_kn {u v : List Int} (h : Kn u v) (k m : Nat) : Has u k m ↔ Has v k m := by
  induction h with
  | refl u => exact Iff.rfl
  | symm _ ih => exact ih.symm
  | trans _ _ i1 i2 => exact i1.trans i2
  | a u v x y z h1 h2 =>
    have e1 : u ++ y :: x :: z :: v = u ++ [y, x, z] ++ v := by simp
    have e2 : u ++ y :: z :: x :: v = u ++ [y, z, x] ++ v := by simp
    rw [e1, e2]
    constructor
    · refine has_mid fun t1 t2 t3 hs hg => ?_
      rcases sub3 hs with e | e | e | e | e | e | e | e <;> subst e
      · exact ⟨[], q0 _, rfl, hg⟩
      · exact ⟨_, q1 _ _ _, rfl, hg⟩
      · exact ⟨_, q3 _ _ _, rfl, hg⟩
      · exact ⟨_, q2 _ _ _, rfl, hg⟩
      · exact ⟨_, q13 _ _ _, rfl, hg⟩
      · exact ⟨_, q12 _ _ _, rfl, hg⟩
      · by_cases hb : Good k (t1 ++ [z, x] ++ t3)
        · exact ⟨_, q23 _ _ _, rfl, hb⟩
        · refine ⟨[y, z], q12 _ _ _, rfl, step_in (by omega) (by omega) h2 hg hb fun c2 h f => ?_⟩
          rcases sub2 h with e | e | e | e <;> subst e
          · exact .inl (q0 _)
          · exact .inr rfl
          · exact .inl (by simp)
          · rw [fall2] at f; omega
      · exact ⟨_, List.Sublist.refl _, rfl, hg.up (s2 := []) h1 h2⟩
    · refine has_mid fun t1 t2 t3 hs hg => ?_
      rcases sub3 hs with e | e | e | e | e | e | e | e <;> subst e
      · exact ⟨[], q0 _, rfl, hg⟩
      · exact ⟨_, q1 _ _ _, rfl, hg⟩
      · exact ⟨_, q3 _ _ _, rfl, hg⟩
      · exact ⟨_, q2 _ _ _, rfl, hg⟩
      · exact ⟨_, q13 _ _ _, rfl, hg⟩
      · exact ⟨_, q12 _ _ _, rfl, hg⟩
      · refine ⟨[x, z], q23 _ _ _, rfl, hg.swap fun c2 h f => ?_⟩
        rcases sub2 h with e | e | e | e <;> subst e
        · exact q0 _
        · simp
        · simp
        · rw [fall2] at f; omega
      · refine ⟨[y, x, z], List.Sublist.refl _, rfl, hg.swap fun c2 h f => ?_⟩
        rcases sub3 h with e | e | e | e | e | e | e | e <;> subst e
        · exact q0 _
        · exact q1 _ _ _
        · exact q3 _ _ _
        · exact q2 _ _ _
        · exact q13 _ _ _
        · rw [fall2] at f; omega
        · rw [fall2] at f; omega
        · rw [fall3] at f; omega
  | b u v x y z h1 h2 =>
    have e1 : u ++ x :: z :: y :: v = u ++ [x, z, y] ++ v := by simp
    have e2 : u ++ z :: x :: y :: v = u ++ [z, x, y] ++ v := by simp
    rw [e1, e2]
    constructor
    · refine has_mid fun t1 t2 t3 hs hg => ?_
      rcases sub3 hs with e | e | e | e | e | e | e | e <;> subst e
      · exact ⟨[], q0 _, rfl, hg⟩
      · exact ⟨_, q2 _ _ _, rfl, hg⟩
      · exact ⟨_, q1 _ _ _, rfl, hg⟩
      · exact ⟨_, q3 _ _ _, rfl, hg⟩
      · by_cases hb : Good k (t1 ++ [z, x] ++ t3)
        · exact ⟨_, q12 _ _ _, rfl, hb⟩
        · refine ⟨[x, y], q23 _ _ _, rfl, step_in (y := y) (by omega) h1 (by omega) hg hb fun c2 h f => ?_⟩
          rcases sub2 h with e | e | e | e <;> subst e
          · exact .inl (q0 _)
          · exact .inl (by simp)
          · exact .inr rfl
          · rw [fall2] at f; omega
      · exact ⟨_, q23 _ _ _, rfl, hg⟩
      · exact ⟨_, q13 _ _ _, rfl, hg⟩
      · exact ⟨_, List.Sublist.refl _, rfl, hg.up' (s2 := []) h1 h2⟩
    · refine has_mid fun t1 t2 t3 hs hg => ?_
      rcases sub3 hs with e | e | e | e | e | e | e | e <;> subst e
      · exact ⟨[], q0 _, rfl, hg⟩
      · exact ⟨_, q2 _ _ _, rfl, hg⟩
      · exact ⟨_, q1 _ _ _, rfl, hg⟩
      · exact ⟨_, q3 _ _ _, rfl, hg⟩
      · refine ⟨[x, z], q12 _ _ _, rfl, hg.swap fun c2 h f => ?_⟩
        rcases sub2 h with e | e | e | e <;> subst e
        · exact q0 _
        · simp
        · simp
        · rw [fall2] at f; omega
      · exact ⟨_, q23 _ _ _, rfl, hg⟩
      · exact ⟨_, q13 _ _ _, rfl, hg⟩
      · refine ⟨[x, z, y], List.Sublist.refl _, rfl, hg.swap fun c2 h f => ?_⟩
        rcases sub3 h with e | e | e | e | e | e | e | e <;> subst e
        · exact q0 _
        · exact q2 _ _ _
        · exact q1 _ _ _
        · exact q3 _ _ _
        · rw [fall2] at f; omega
        · rw [fall2] at f; omega
        · exact q13 _ _ _
        · rw [fall3] at f; omega

-- part TC
/-- row insertion -/
noncomputable def rIns (x : Itm) : List Itm → List Itm × Option Itm
  | [] => ([x], none)
  | y :: ys => if x.2 < y.2 then (x :: ys, some y) else (y :: (rIns x ys).1, (rIns x ys).2)
noncomputable def rPos (x : Itm) : List Itm → Nat
  | [] => 0
  | y :: ys => if x.2 < y.2 then 0 else rPos x ys + 1
noncomputable def tIns (x : Itm) : Tbl → Tbl × Nat
  | [] => ([[x]], 0)
  | r :: rs => match (rIns x r).2 with
    | none => ((rIns x r).1 :: rs, 0)
    | some y => ((rIns x r).1 :: (tIns y rs).1, (tIns y rs).2 + 1)

inductive InsC (x : Itm) (r : List Itm) : Prop
  | app : rIns x r = (r ++ [x], none) → rPos x r = r.length → (∀ z ∈ r, z.2 ≤ x.2) → InsC x r
  | bump (a b : List Itm) (y : Itm) : r = a ++ y :: b → rIns x r = (a ++ x :: b, some y) → rPos x r = a.length → (∀ z ∈ a, z.2 ≤ x.2) → x.2 < y.2 → InsC x r
theorem insC (x : Itm) : ∀ r : List Itm, InsC x r
  | [] => .app rfl rfl (by simp)
  | y :: ys => by
    by_cases h : x.2 < y.2
    · exact .bump [] ys y rfl (by rw [rIns, if_pos h]; rfl) (by rw [rPos, if_pos h]; rfl) (by simp) h
    · cases insC x ys with
      | app h1 h2 h3 =>
        refine .app (by rw [rIns, if_neg h, h1]; rfl) (by rw [rPos, if_neg h, h2]; rfl) fun z hz => ?_
        rcases List.mem_cons.mp hz with e | hz
        · subst e; omega
        · exact h3 z hz
      | bump a b w h1 h2 h3 h4 h5 =>
        refine .bump (y :: a) b w (by rw [h1]; rfl) (by rw [rIns, if_neg h, h2]; rfl) (by rw [rPos, if_neg h, h3]; rfl) (fun z hz => ?_) h5
        rcases List.mem_cons.mp hz with e | hz
        · subst e; (clear h3 h5; omega)
        · exact h4 z hz

def SortedK (r : List Itm) : Prop := (r.map (·.2)).Pairwise (· ≤ ·)
theorem SortedK.app {r : List Itm} {x : Itm} (h : SortedK r) (hx : ∀ z ∈ r, z.2 ≤ x.2) : SortedK (r ++ [x]) := by
  unfold SortedK
  rw [List.map_append, List.pairwise_append]
  refine ⟨h, by simp, fun u hu v hv => ?_⟩
  obtain ⟨p, hp, rfl⟩ := List.mem_map.mp hu
  simp at hv
  subst hv
  exact hx p hp
theorem SortedK.split {a b : List Itm} {y : Itm} (h : SortedK (a ++ y :: b)) : SortedK a ∧ SortedK b ∧ (∀ z ∈ a, z.2 ≤ y.2) ∧ (∀ z ∈ b, y.2 ≤ z.2) ∧ ∀ z ∈ a, ∀ u ∈ b, z.2 ≤ u.2 := by
  unfold SortedK at h
  rw [List.map_append, List.pairwise_append, List.map_cons, List.pairwise_cons] at h
  obtain ⟨h1, ⟨h2, h3⟩, h4⟩ := h
  exact ⟨h1, h3, fun z hz => h4 _ (List.mem_map.mpr ⟨z, hz, rfl⟩) _ (.head _), fun z hz => h2 _ (List.mem_map.mpr ⟨z, hz, rfl⟩), fun z hz u hu => h4 _ (List.mem_map.mpr ⟨z, hz, rfl⟩) _ (.tail _ (List.mem_map.mpr ⟨u, hu, rfl⟩))⟩
theorem SortedK.join {a b : List Itm} {y : Itm} (h1 : SortedK a) (h2 : SortedK b) (h3 : ∀ z ∈ a, z.2 ≤ y.2) (h4 : ∀ z ∈ b, y.2 ≤ z.2) : SortedK (a ++ y :: b) := by
  unfold SortedK
  rw [List.map_append, List.pairwise_append, List.map_cons, List.pairwise_cons]
  refine ⟨h1, ⟨fun u hu => ?_, h2⟩, fun u hu v hv => ?_⟩
  · obtain ⟨p, hp, rfl⟩ := List.mem_map.mp hu
    exact h4 p hp
  · obtain ⟨p, hp, rfl⟩ := List.mem_map.mp hu
    rcases List.mem_cons.mp hv with e | hv
    · rw [e]; exact h3 p hp
    · obtain ⟨q, hq, rfl⟩ := List.mem_map.mp hv
      exact Int.le_trans (h3 p hp) (h4 q hq)
theorem SortedK.rIns {r : List Itm} (x : Itm) (h : SortedK r) : SortedK (rIns x r).1 := by
  cases insC x r with
  | app h1 h2 h3 => rw [h1]; exact h.app h3
  | bump a b y h1 h2 h3 h4 h5 =>
    rw [h2]
    rw [h1] at h
    obtain ⟨k1, k2, k3, k4, k5⟩ := h.split
    exact k1.join k2 h4 fun z hz => by have := k4 z hz; (clear h3; omega)

/-- one row stands over another -/
def Over (r s : List Itm) : Prop := s.length ≤ r.length ∧ ∀ (j : Nat) (x y : Itm), r[j]? = some x → s[j]? = some y → x.2 < y.2
def Tab : Tbl → Prop
  | [] => True
  | r :: rs => SortedK r ∧ Over r (rs.headD []) ∧ Tab rs
theorem over_nil (r : List Itm) : Over r [] := ⟨Nat.zero_le _, fun j x y _ h => by simp at h⟩

/-- what is bumped goes weakly to the left -/
theorem pos_le {a b s : List Itm} {x y : Itm} (ho : Over (a ++ y :: b) s) : rPos y s ≤ a.length := by
  have hp : (a ++ y :: b)[a.length]? = some y := by simp
  cases insC y s with
  | app h1 h2 h3 =>
    rw [h2]
    refine Classical.byContradiction fun hn => ?_
    have hl : a.length < s.length := by omega
    have := ho.2 a.length y s[a.length] hp (List.getElem?_eq_getElem hl)
    have := h3 _ (List.getElem_mem hl)
    omega
  | bump a2 b2 y2 h1 h2 h3 h4 h5 =>
    rw [h3]
    refine Classical.byContradiction fun hn => ?_
    have hl : a.length < a2.length := by (clear h3 h5; omega)
    have e : s[a.length]? = some a2[a.length] := by rw [h1, List.getElem?_append_left hl]; exact List.getElem?_eq_getElem hl
    have := ho.2 a.length y _ hp e
    have := h4 _ (List.getElem_mem hl)
    omega
theorem over_bump {a b s : List Itm} {x y : Itm} (ho : Over (a ++ y :: b) s) (ha : ∀ z ∈ a, z.2 ≤ x.2) (hxy : x.2 < y.2) : Over (a ++ x :: b) (rIns y s).1 := by
  have hp := pos_le (x := x) ho
  obtain ⟨ho1, ho2⟩ := ho
  have hle : ∀ (j : Nat) (u : Itm), (a ++ x :: b)[j]? = some u → ∃ u', (a ++ y :: b)[j]? = some u' ∧ u.2 ≤ u'.2 := by
    intro j u hu
    rcases Nat.lt_trichotomy j a.length with h | h | h
    · rw [List.getElem?_append_left h] at hu
      exact ⟨u, by rw [List.getElem?_append_left h]; exact hu, Int.le_refl _⟩
    · subst h
      simp at hu
      subst hu
      exact ⟨y, by simp, by (clear hp ho1; omega)⟩
    · rw [List.getElem?_append_right (by (clear hxy hp ho1; omega))] at hu
      obtain ⟨i, hi⟩ : ∃ i, j - a.length = i + 1 := ⟨j - a.length - 1, by (clear hxy hp ho1; omega)⟩
      rw [hi, List.getElem?_cons_succ] at hu
      exact ⟨u, by rw [List.getElem?_append_right (by (clear hxy hp ho1 hi; omega)), hi, List.getElem?_cons_succ]; exact hu, Int.le_refl _⟩
  have hat : ∀ (j : Nat) (u : Itm), j ≤ a.length → (a ++ x :: b)[j]? = some u → u.2 ≤ x.2 := by
    intro j u hj hu
    rcases Nat.lt_or_eq_of_le hj with h | h
    · rw [List.getElem?_append_left h] at hu
      exact ha u (List.mem_of_getElem? hu)
    · subst h; simp at hu; subst hu; exact Int.le_refl _
  have hlen : (a ++ x :: b).length = (a ++ y :: b).length := by simp
  cases insC y s with
  | app h1 h2 h3 =>
    rw [h1]
    refine ⟨by rw [List.length_append, hlen]; simp at ho1 ⊢; (clear hxy hlen ho1; omega), fun j u v hu hv => ?_⟩
    by_cases hj : j < s.length
    · rw [List.getElem?_append_left hj] at hv
      obtain ⟨u', e1, e2⟩ := hle j u hu
      have := ho2 j u' v e1 hv
      (clear hxy hp ho1 hlen h2 hj; omega)
    · rw [List.getElem?_append_right (by (clear hxy hp ho1 hlen h2; omega))] at hv
      have hj' : j - s.length = 0 := by
        refine Classical.byContradiction fun hn => ?_
        rw [List.getElem?_eq_none (by simp; (clear hxy hp ho1 hlen h2 hj; omega))] at hv; cases hv
      rw [hj'] at hv
      simp at hv
      subst hv
      have := hat j u (by (clear hxy ho1 hlen hj; omega)) hu
      (clear hp ho1 hlen h2 hj hj'; omega)
  | bump a2 b2 y2 h1 h2 h3 h4 h5 =>
    rw [h2]
    have hl2 : (a2 ++ y :: b2).length = s.length := by rw [h1]; simp
    refine ⟨by rw [hlen, hl2]; exact ho1, fun j u v hu hv => ?_⟩
    rcases Nat.lt_trichotomy j a2.length with h | h | h
    · rw [List.getElem?_append_left h] at hv
      obtain ⟨u', e1, e2⟩ := hle j u hu
      have := ho2 j u' v e1 (by rw [h1, List.getElem?_append_left h]; exact hv)
      (clear hxy hp ho1 hlen h3 h5 hl2 h; omega)
    · subst h
      simp at hv
      subst hv
      have := hat _ u (by (clear hxy ho1 hlen h5 hl2; omega)) hu
      (clear hp ho1 hlen h3 h5 hl2; omega)
    · rw [List.getElem?_append_right (by (clear hxy hp ho1 hlen h3 h5 hl2; omega))] at hv
      obtain ⟨i, hi⟩ : ∃ i, j - a2.length = i + 1 := ⟨j - a2.length - 1, by (clear hxy hp ho1 hlen h3 h5 hl2; omega)⟩
      rw [hi, List.getElem?_cons_succ] at hv
      obtain ⟨u', e1, e2⟩ := hle j u hu
      have := ho2 j u' v e1 (by rw [h1, List.getElem?_append_right (by (clear hxy hp ho1 hlen h3 h5 hl2 hi e2; omega)), hi, List.getElem?_cons_succ]; exact hv)
      (clear hxy hp ho1 hlen h3 h5 hl2 h hi; omega)

theorem tIns_head (x : Itm) (T : Tbl) : (tIns x T).1.headD [] = (rIns x (T.headD [])).1 := by
  cases T with
  | nil => rfl
  | cons r rs =>
    rw [tIns]
    split <;> rfl
theorem tab_tIns : ∀ (T : Tbl) (x : Itm), Tab T → Tab (tIns x T).1
  | [], x, _ => by
    show Tab [[x]]
    exact ⟨by simp [SortedK], over_nil _, True.intro⟩
  | r :: rs, x, ⟨h1, h2, h3⟩ => by
    rw [tIns]
    cases insC x r with
    | app k1 k2 k3 =>
      rw [k1]
      refine ⟨h1.app k3, ⟨Nat.le_trans h2.1 (by rw [List.length_append]; exact Nat.le_add_right _ _), fun j u v hu hv => ?_⟩, h3⟩
      have hj : j < (rs.headD []).length := (List.getElem?_eq_some_iff.mp hv).1
      rw [List.getElem?_append_left (by have := h2.1; omega)] at hu
      exact h2.2 j u v hu hv
    | bump a b y k1 k2 k3 k4 k5 =>
      have hs := h1.rIns x
      rw [k2] at hs ⊢
      refine ⟨hs, ?_, tab_tIns rs y h3⟩
      show Over (a ++ x :: b) ((tIns y rs).1.headD [])
      rw [tIns_head]
      rw [k1] at h2
      exact over_bump h2 k4 k5

-- part TD
/-- the reading word: the rows from below -/
noncomputable def rwd : Tbl → List Int
  | [] => []
  | r :: rs => rwd rs ++ r.map (·.2)
def AllSorted (T : Tbl) : Prop := ∀ r ∈ T, SortedK r
theorem Tab.sorted : ∀ {T : Tbl}, Tab T → AllSorted T
  | [], _ => fun r h => by cases h
  | r :: rs, ⟨h1, _, h3⟩ => fun s hs => by
    rcases List.mem_cons.mp hs with e | hs
    · rw [e]; exact h1
    · exact Tab.sorted h3 s hs
theorem rwd_tIns : ∀ (T : Tbl) (x : Itm), AllSorted T → Kn (rwd (tIns x T).1) (rwd T ++ [x.2])
  | [], x, _ => .refl _
  | r :: rs, x, h => by
    rw [tIns]
    cases insC x r with
    | app k1 k2 k3 =>
      rw [k1]
      show Kn (rwd rs ++ (r ++ [x]).map (·.2)) (rwd rs ++ r.map (·.2) ++ [x.2])
      rw [List.map_append, List.append_assoc]
      exact .refl _
    | bump a b y k1 k2 k3 k4 k5 =>
      rw [k2]
      show Kn (rwd (tIns y rs).1 ++ (a ++ x :: b).map (·.2)) (rwd rs ++ r.map (·.2) ++ [x.2])
      have ih := (rwd_tIns rs y fun s hs => h s (.tail _ hs)).right ((a ++ x :: b).map (·.2))
      refine ih.trans ?_
      have hr := h r (.head _)
      rw [k1] at hr
      obtain ⟨s1, s2, s3, s4, s5⟩ := hr.split
      have hk := row_kn (a := a.map fun p : Itm => p.2) (b := b.map fun p : Itm => p.2) (x := x.2) (y := y.2) (fun z hz => by
        obtain ⟨p, hp, rfl⟩ := List.mem_map.mp hz; exact k4 p hp) k5 (fun z hz => by
        obtain ⟨p, hp, rfl⟩ := List.mem_map.mp hz; exact s4 p hp) s1 s2
      have hk2 := (hk.symm).left (rwd rs)
      rw [k1]
      simpa using hk2

/-- the first column, from below -/
noncomputable def colw : Tbl → List Int
  | [] => []
  | [] :: rs => colw rs
  | (a :: r) :: rs => colw rs ++ [a.2]
noncomputable def tlT (T : Tbl) : Tbl := T.map List.tail
noncomputable def rowsum (k : Nat) (T : Tbl) : Nat := ((T.take k).map List.length).sum

theorem split_col : ∀ (T : Tbl) (s : List Int), s.Sublist (rwd T) → ∃ d s' : List Int, d.Sublist (colw T) ∧ s'.Sublist (rwd (tlT T)) ∧ s.length = d.length + s'.length ∧ d.Sublist s ∧ s'.Sublist s
  | [], s, h => ⟨[], [], .slnil, .slnil, by rw [List.sublist_nil.mp h]; rfl, List.nil_sublist _, List.nil_sublist _⟩
  | r :: rs, s, h => by
    obtain ⟨s1, s2, rfl, h1, h2⟩ := List.sublist_append_iff.mp h
    obtain ⟨d, s', k1, k2, k3, k4, k5⟩ := split_col rs s1 h1
    cases r with
    | nil =>
      obtain rfl := List.sublist_nil.mp h2
      refine ⟨d, s', k1, ?_, by simpa using k3, by simpa using k4, by simpa using k5⟩
      show s'.Sublist (rwd (tlT rs) ++ [])
      simpa using k2
    | cons a r =>
      rcases List.sublist_cons_iff.mp h2 with h3 | ⟨s3, e, h3⟩
      · refine ⟨d, s' ++ s2, k1.trans (List.sublist_append_left _ _), k2.append h3, by simp; omega, k4.trans (List.sublist_append_left _ _), k5.append (List.Sublist.refl _)⟩
      · subst e
        refine ⟨d ++ [a.2], s' ++ s3, k1.append (List.Sublist.refl _), k2.append h3, by simp; omega, k4.append (by simp), k5.append (List.sublist_cons_self _ _)⟩

theorem colw_above : ∀ {rs : Tbl} {r : List Itm}, Over r (rs.headD []) → Tab rs → ∀ z ∈ colw rs, ∃ a, r.head? = some a ∧ z > a.2
  | [], _, _, _, z, h => by cases h
  | s :: rs, r, ho, ⟨h1, h2, h3⟩, z, hz => by
    cases s with
    | nil =>
      obtain ⟨a, ha, _⟩ := colw_above h2 h3 z hz
      cases ha
    | cons b s =>
      have ho' : Over r (b :: s) := ho
      cases r with
      | nil => have := ho'.1; simp at this
      | cons a r =>
        have hab : a.2 < b.2 := ho'.2 0 a b rfl rfl
        refine ⟨a, rfl, ?_⟩
        rcases List.mem_append.mp hz with hz | hz
        · obtain ⟨b', e, h⟩ := colw_above h2 h3 z hz
          cases e
          omega
        · simp at hz; omega
theorem colw_fall : ∀ {T : Tbl}, Tab T → Fall (colw T)
  | [], _ => .nil
  | [] :: rs, h => colw_fall (T := rs) h.2.2
  | (a :: r) :: rs, h => by
    refine List.pairwise_append.mpr ⟨colw_fall h.2.2, by simp, fun z hz u hu => ?_⟩
    obtain ⟨a', e, k⟩ := colw_above h.2.1 h.2.2 z hz
    cases e
    simp at hu
    omega
theorem SortedK.tail {r : List Itm} (h : SortedK r) : SortedK r.tail := by
  cases r with
  | nil => exact h
  | cons a r => exact (List.pairwise_cons.mp h).2
theorem Over.tail {r s : List Itm} (h : Over r s) : Over r.tail s.tail := by
  cases s with
  | nil => exact over_nil _
  | cons b s =>
    cases r with
    | nil => have := h.1; simp at this
    | cons a r => exact ⟨by simpa using h.1, fun j x y h1 h2 => h.2 (j + 1) x y (by simpa using h1) (by simpa using h2)⟩
theorem tab_tl : ∀ {T : Tbl}, Tab T → Tab (tlT T)
  | [], _ => True.intro
  | r :: rs, ⟨h1, h2, h3⟩ => by
    refine ⟨h1.tail, ?_, tab_tl h3⟩
    have := h2.tail
    cases rs with
    | nil => exact over_nil _
    | cons s rs => exact this
theorem rowsum_cons (k : Nat) (r : List Itm) (rs : Tbl) : rowsum (k + 1) (r :: rs) = r.length + rowsum k rs := by simp [rowsum]
theorem rowsum_empty : ∀ (k : Nat) (T : Tbl), (∀ r ∈ T, r = []) → rowsum k T = 0
  | 0, T, _ => by simp [rowsum]
  | k + 1, [], _ => rfl
  | k + 1, r :: rs, h => by rw [rowsum_cons, h r (.head _), rowsum_empty k rs fun s hs => h s (.tail _ hs)]; rfl
theorem below_empty : ∀ {rs : Tbl}, Over [] (rs.headD []) → Tab rs → ∀ r ∈ rs, r = []
  | [], _, _, r, h => by cases h
  | s :: rs, ho, ⟨_, h2, h3⟩, r, hr => by
    have hs : s = [] := by
      have : s.length ≤ 0 := ho.1
      exact List.length_eq_zero_iff.mp (by omega)
    subst hs
    rcases List.mem_cons.mp hr with e | hr
    · exact e
    · exact below_empty h2 h3 r hr
theorem colw_empty : ∀ {T : Tbl}, (∀ r ∈ T, r = []) → colw T = []
  | [], _ => rfl
  | r :: rs, h => by
    obtain rfl := h r (.head _)
    show colw rs = []
    exact colw_empty (T := rs) fun s hs => h s (.tail _ hs)
theorem rwd_empty : ∀ {T : Tbl}, (∀ r ∈ T, r.length ≤ 0) → rwd T = []
  | [], _ => rfl
  | r :: rs, h => by
    obtain rfl : r = [] := List.length_eq_zero_iff.mp (by have := h r (.head _); omega)
    show rwd rs ++ [] = []
    rw [rwd_empty (T := rs) fun s hs => h s (.tail _ hs)]; rfl
theorem rowsum_split : ∀ (k : Nat) {T : Tbl}, Tab T → rowsum k T = min k (colw T).length + rowsum k (tlT T)
  | 0, T, _ => by simp [rowsum]
  | k + 1, [], _ => rfl
  | k + 1, [] :: rs, h => by
    have he : ∀ r ∈ ([] :: rs : Tbl), r = [] := fun r hr => by
      rcases List.mem_cons.mp hr with e | hr
      · exact e
      · exact below_empty h.2.1 h.2.2 r hr
    rw [rowsum_empty _ _ he, colw_empty he, rowsum_empty _ (tlT _) fun r hr => by
      obtain ⟨s, hs, rfl⟩ := List.mem_map.mp hr
      rw [he s hs]; rfl]
    simp
  | k + 1, (a :: r) :: rs, h => by
    have ih := rowsum_split k h.2.2
    show rowsum (k + 1) ((a :: r) :: rs) = min (k + 1) (colw rs ++ [a.2]).length + rowsum (k + 1) (r :: tlT rs)
    rw [rowsum_cons, rowsum_cons, ih]
    simp
    omega

theorem Good.sub {k : Nat} {s s' : List Int} (h : Good k s) (hs : s'.Sublist s) : Good k s' := fun c hc hf => h c (hc.trans hs) hf
theorem good_le : ∀ (n : Nat) {T : Tbl} {k : Nat} {s : List Int}, Tab T → (∀ r ∈ T, r.length ≤ n) → s.Sublist (rwd T) → Good k s → s.length ≤ rowsum k T
  | 0, T, k, s, _, hn, hs, _ => by
    have : rwd T = [] := rwd_empty hn
    rw [this] at hs
    rw [List.sublist_nil.mp hs]
    exact Nat.zero_le _
  | n + 1, T, k, s, hT, hn, hs, hg => by
    obtain ⟨d, s', h1, h2, h3, h4, h5⟩ := split_col T s hs
    have e1 : d.length ≤ k := hg d h4 ((colw_fall hT).sublist h1)
    have e2 : d.length ≤ (colw T).length := h1.length_le
    have e3 := good_le n (tab_tl hT) (fun r hr => by
      obtain ⟨q, hq, rfl⟩ := List.mem_map.mp hr
      have := hn q hq
      rw [List.length_tail]; (clear h3 e1 e2; omega)) h2 (hg.sub h5)
    rw [rowsum_split k hT]
    omega
theorem fall_sorted {c : List Int} (h1 : Fall c) (h2 : c.Pairwise (· ≤ ·)) : c.length ≤ 1 := by
  match c, h1, h2 with
  | [], _, _ => simp
  | [a], _, _ => simp
  | a :: b :: c, h1, h2 =>
    have e1 := (List.pairwise_cons.mp h1).1 b (.head _)
    have e2 := (List.pairwise_cons.mp h2).1 b (.head _)
    omega
theorem fall_rows : ∀ (T : Tbl) (c : List Int), AllSorted T → c.Sublist (rwd T) → Fall c → c.length ≤ T.length
  | [], c, _, hc, _ => by rw [List.sublist_nil.mp hc]; exact Nat.le_refl _
  | r :: rs, c, h, hc, hf => by
    obtain ⟨c1, c2, rfl, h1, h2⟩ := List.sublist_append_iff.mp hc
    have hf' := List.pairwise_append.mp hf
    have e1 := fall_rows rs c1 (fun s hs => h s (.tail _ hs)) h1 hf'.1
    have e2 := fall_sorted hf'.2.1 (List.Pairwise.sublist h2 (h r (.head _)))
    simp
    omega
theorem rwd_take : ∀ (k : Nat) (T : Tbl), (rwd (T.take k)).Sublist (rwd T)
  | 0, T => by simp [rwd]
  | k + 1, [] => by simp
  | k + 1, r :: rs => (rwd_take k rs).append (List.Sublist.refl _)
theorem rwd_len : ∀ T : Tbl, (rwd T).length = (T.map List.length).sum
  | [] => rfl
  | r :: rs => by
    show (rwd rs ++ r.map (·.2)).length = _
    rw [List.length_append, rwd_len rs]
    simp
    omega
/-- Greene's numbers of a tableau -/
theorem greene_tab {T : Tbl} (hT : Tab T) (k : Nat) : Has (rwd T) k (rowsum k T) ∧ ∀ m, Has (rwd T) k m → m ≤ rowsum k T := by
  constructor
  · refine ⟨rwd (T.take k), rwd_take k T, fun c hc hf => ?_, rwd_len _⟩
    have := fall_rows (T.take k) c (fun r hr => hT.sorted r (List.mem_of_mem_take hr)) hc hf
    rw [List.length_take] at this
    omega
  · rintro m ⟨s, h1, h2, rfl⟩
    obtain ⟨n, hn⟩ : ∃ n, ∀ r ∈ T, r.length ≤ n := ⟨(T.map List.length).sum, fun r hr => by
      clear hT h1
      induction T with
      | nil => cases hr
      | cons q T ih =>
        rw [List.map_cons, List.sum_cons]
        rcases List.mem_cons.mp hr with e | hr
        · rw [e]; omega
        · have := ih hr; omega⟩
    exact good_le n hT hn h1 h2

/-- what is at most t -/
noncomputable def flt (t : Int) (T : Tbl) : Tbl := T.map fun r => r.filter fun p => decide (p.2 ≤ t)
theorem rwd_flt (t : Int) : ∀ T : Tbl, rwd (flt t T) = (rwd T).filter fun x => decide (x ≤ t)
  | [] => rfl
  | r :: rs => by
    show rwd (flt t rs) ++ (r.filter _).map (·.2) = (rwd rs ++ r.map (·.2)).filter _
    rw [List.filter_append, rwd_flt t rs, List.filter_map]
    rfl
theorem over_cons {a b : Itm} {r s : List Itm} : Over (a :: r) (b :: s) ↔ a.2 < b.2 ∧ Over r s := by
  constructor
  · intro h
    exact ⟨h.2 0 a b rfl rfl, h.tail⟩
  · rintro ⟨h1, h2, h3⟩
    refine ⟨by simpa using h2, fun j x y hx hy => ?_⟩
    cases j with
    | zero => simp at hx hy; subst hx hy; exact h1
    | succ j => exact h3 j x y (by simpa using hx) (by simpa using hy)
theorem over_filter (t : Int) : ∀ {r s : List Itm}, SortedK s → Over r s → Over (r.filter fun p => decide (p.2 ≤ t)) (s.filter fun p => decide (p.2 ≤ t))
  | r, [], _, _ => over_nil _
  | [], b :: s, _, h => by have := h.1; simp at this
  | a :: r, b :: s, hs, h => by
    obtain ⟨h1, h2⟩ := over_cons.mp h
    by_cases hb : b.2 ≤ t
    · have ha : a.2 ≤ t := by omega
      rw [List.filter_cons, List.filter_cons, if_pos (by simpa using ha), if_pos (by simpa using hb)]
      exact over_cons.mpr ⟨h1, over_filter t hs.tail h2⟩
    · have : (b :: s).filter (fun p => decide (p.2 ≤ t)) = [] := by
        refine List.filter_eq_nil_iff.mpr fun z hz => ?_
        rcases List.mem_cons.mp hz with e | hz
        · subst e; simpa using hb
        · have : b.2 ≤ z.2 := (List.pairwise_cons.mp hs).1 z.2 (List.mem_map.mpr ⟨z, hz, rfl⟩)
          simp; omega
      rw [this]
      exact over_nil _
theorem SortedK.filter {r : List Itm} (h : SortedK r) (t : Int) : SortedK (r.filter fun p => decide (p.2 ≤ t)) := by
  unfold SortedK at h ⊢
  exact List.Pairwise.sublist (List.Sublist.map _ List.filter_sublist) h
theorem tab_flt (t : Int) : ∀ {T : Tbl}, Tab T → Tab (flt t T)
  | [], _ => True.intro
  | r :: rs, ⟨h1, h2, h3⟩ => by
    refine ⟨h1.filter t, ?_, tab_flt t h3⟩
    cases rs with
    | nil => exact over_nil _
    | cons s rs => exact over_filter t h3.1 h2

theorem rowsum_succ (i : Nat) (T : Tbl) : rowsum (i + 1) T = rowsum i T + (T.getD i []).length := by
  unfold rowsum
  rw [List.take_add_one, List.map_append, List.sum_append]
  cases e : T[i]? <;> simp [List.getD, e]
theorem flt_getD (t : Int) (T : Tbl) (i : Nat) : (flt t T).getD i [] = (T.getD i []).filter fun p => decide (p.2 ≤ t) := by
  unfold flt List.getD
  rw [List.getElem?_map]
  cases T[i]? <;> rfl
theorem sorted_eq : ∀ (a b : List Int), a.Pairwise (· ≤ ·) → b.Pairwise (· ≤ ·) → (∀ t : Int, (a.filter fun x => decide (x ≤ t)).length = (b.filter fun x => decide (x ≤ t)).length) → a = b
  | [], [], _, _, _ => rfl
  | [], y :: b, _, _, h => by have := h y; simp at this
  | x :: a, [], _, _, h => by have := h x; simp at this
  | x :: a, y :: b, ha, hb, h => by
    have key : ∀ (x y : Int) (a b : List Int), (y :: b).Pairwise (· ≤ ·) → ((x :: a).filter fun z => decide (z ≤ x)).length = ((y :: b).filter fun z => decide (z ≤ x)).length → y ≤ x := by
      intro x y a b hb h
      refine Classical.byContradiction fun hn => ?_
      have : (y :: b).filter (fun z => decide (z ≤ x)) = [] := by
        refine List.filter_eq_nil_iff.mpr fun z hz => ?_
        rcases List.mem_cons.mp hz with e | hz
        · subst e; simpa using hn
        · have := (List.pairwise_cons.mp hb).1 z hz
          simp; (clear h; omega)
      rw [this] at h
      simp at h
    have e1 := key x y a b hb (h x)
    have e2 := key y x b a ha (h y).symm
    obtain rfl : x = y := by omega
    rw [sorted_eq a b (List.pairwise_cons.mp ha).2 (List.pairwise_cons.mp hb).2 fun t => by
      have := h t
      by_cases hx : x ≤ t
      · simpa [List.filter_cons, hx] using this
      · simpa [List.filter_cons, hx] using this]
/-- rows in order are told by their counts -/
theorem rows_eq {T T' : Tbl} (h1 : AllSorted T) (h2 : AllSorted T') (n1 : ∀ r ∈ T, r ≠ []) (n2 : ∀ r ∈ T', r ≠ []) (h : ∀ (t : Int) (k : Nat), rowsum k (flt t T) = rowsum k (flt t T')) :
    T.map (fun r => r.map (·.2)) = T'.map fun r => r.map (·.2) := by
  have sd : ∀ {T : Tbl}, AllSorted T → ∀ i, SortedK (T.getD i []) := fun {T} h i => by
    unfold List.getD
    cases e : T[i]? with
    | none => exact .nil
    | some r => exact h r (List.mem_of_getElem? e)
  have hi : ∀ i, (T.getD i []).map (·.2) = (T'.getD i []).map (·.2) := fun i => by
    refine sorted_eq _ _ (sd h1 i) (sd h2 i) fun t => ?_
    have e1 := h t (i + 1)
    rw [rowsum_succ, rowsum_succ, h t i, flt_getD, flt_getD] at e1
    rw [List.filter_map, List.filter_map, List.length_map, List.length_map]
    exact Nat.add_left_cancel e1
  have hne : ∀ {T : Tbl}, (∀ r ∈ T, r ≠ []) → ∀ i, i < T.length ↔ (T.getD i []).map (·.2) ≠ [] := fun {T} hn i => by
    unfold List.getD
    cases e : T[i]? with
    | none =>
      have := List.getElem?_eq_none_iff.mp e
      simp; exact this
    | some r =>
      have := (List.getElem?_eq_some_iff.mp e).1
      have hr := hn r (List.mem_of_getElem? e)
      simpa [this] using hr
  have hl : T.length = T'.length := by
    rcases Nat.lt_trichotomy T.length T'.length with k | k | k
    · exact absurd ((hne n1 T.length).mpr (by rw [hi]; exact (hne n2 _).mp k)) (Nat.lt_irrefl _)
    · exact k
    · exact absurd ((hne n2 T'.length).mpr (by rw [← hi]; exact (hne n1 _).mp k)) (Nat.lt_irrefl _)
  refine List.ext_getElem (by simpa using hl) fun i p q => ?_
  have := hi i
  rw [List.length_map] at p q
  simpa [List.getD, p, q] using this

-- part TE
theorem bR_spec {xs : List Int} {x : Int} {p : Nat} : ∀ (n lo hi : Nat), lo ≤ p → p ≤ hi → hi - lo ≤ n → (∀ i, i < p → xs.getD i 0 ≤ x) → (∀ i, p ≤ i → i < hi → x < xs.getD i 0) → bR xs x n lo hi = p
  | 0, lo, hi, h1, h2, h3, _, _ => by rw [bR]; omega
  | n + 1, lo, hi, h1, h2, h3, h4, h5 => by
    by_cases hl : lo < hi
    · rw [bR_go hl]
      by_cases hm : (lo + hi) / 2 < p
      · rw [if_neg (by have := h4 _ hm; (clear h1 h2 h3 hl hm; omega))]
        exact bR_spec n _ _ (by omega) h2 (by (clear h1 h2 hl hm; omega)) h4 h5
      · rw [if_pos (h5 _ (by omega) (by (clear h1 h2 h3 hm; omega)))]
        exact bR_spec n _ _ h1 (by omega) (by (clear h1 h2 hl hm; omega)) h4 fun i h6 h7 => h5 i h6 (by (clear h1 h2 h3 hm h6; omega))
    · rw [bR_stop hl]; omega
theorem key_getD {r : List Itm} {i : Nat} (h : i < r.length) : (r.map (·.2)).getD i 0 = r[i].2 := by simp [List.getD, h]
theorem spotR_eq {r : List Itm} {x : Itm} {edge : Option Nat} (hs : SortedK r) (he : ∀ e, edge = some e → rPos x r ≤ e) : spotR r x edge = rPos x r := by
  have hpl : rPos x r ≤ r.length := by
    cases insC x r with
    | app k1 k2 k3 => omega
    | bump a b y k1 k2 k3 k4 k5 => rw [k3, k1]; simp
  unfold spotR
  have hh : rPos x r ≤ hiOf edge r ∧ hiOf edge r ≤ r.length := by
    unfold hiOf
    cases edge with
    | none => exact ⟨hpl, Nat.le_refl _⟩
    | some e => exact ⟨by have := he e rfl; simp; omega, by simp; omega⟩
  refine bR_spec _ _ _ (Nat.zero_le _) hh.1 (by omega) (fun i hi => ?_) fun i h1 h2 => ?_
  · rw [key_getD (by omega)]
    cases insC x r with
    | app k1 k2 k3 => exact k3 _ (List.getElem_mem _)
    | bump a b y k1 k2 k3 k4 k5 =>
      rw [k3] at hi
      refine k4 _ ?_
      have : r[i]? = a[i]? := by rw [k1, List.getElem?_append_left hi]
      rw [List.getElem?_eq_getElem (by omega)] at this
      exact List.mem_of_getElem? this.symm
  · rw [key_getD (by omega)]
    cases insC x r with
    | app k1 k2 k3 => omega
    | bump a b y k1 k2 k3 k4 k5 =>
      rw [k3] at h1
      have e : (y :: b)[i - a.length]? = some r[i] := by
        rw [← List.getElem?_append_right (l₁ := a) h1, ← k1]
        exact List.getElem?_eq_getElem _
      rw [k1] at hs
      obtain ⟨_, _, _, s4, _⟩ := hs.split
      rcases List.mem_cons.mp (List.mem_of_getElem? e) with e2 | e2
      · rw [e2]; exact k5
      · have := s4 _ e2; omega
theorem insAt_app (r : List Itm) (x : Itm) : insAt r r.length x = r ++ [x] := by simp [insAt]
theorem insAt_mid (a b : List Itm) (x y : Itm) : insAt (a ++ y :: b) a.length x = a ++ x :: y :: b := by simp [insAt]

noncomputable def addM (M : Tbl) (l : Nat) (mark : Int) : Tbl := (growT l M).set l ((growT l M).getD l [] ++ [(0, mark)])

theorem insGo_eq (mark : Int) : ∀ (T U M : Tbl) (f : Nat) (x : Itm) (edge : Option Nat), Tab T → M.length = (U ++ T).length → T.length < f → (∀ e, edge = some e → rPos x (T.headD []) ≤ e) →
    insGo mark f U.length (U ++ T) M x edge = (U ++ (tIns x T).1, addM M (U.length + (tIns x T).2) mark)
  | T, U, M, 0, x, edge, _, _, h, _ => absurd h (Nat.not_lt_zero _)
  | [], U, M, f + 1, x, edge, hT, hM, hf, he => by
    rw [insGo]
    have e1 : growT U.length (U ++ []) = U ++ [[]] := by unfold growT; rw [if_pos (by simp)]; simp
    have e2 : (U ++ [[]] : Tbl).getD U.length [] = [] := by simp [List.getD]
    have e3 : spotR [] x edge = 0 := by
      rw [spotR_eq (show SortedK [] from List.Pairwise.nil) he]; rfl
    simp only [e1, e2, e3]
    have e4 : insAt [] 0 x = [x] := rfl
    rw [e4, if_pos (show 0 + 1 = [x].length from rfl)]
    have e5 : (U ++ [[]] : Tbl).set U.length [x] = U ++ [[x]] := by simp
    rw [e5]
    rfl
  | r :: rs, U, M, f + 1, x, edge, ⟨h1, h2, h3⟩, hM, hf, he => by
    rw [insGo]
    have e1 : growT U.length (U ++ r :: rs) = U ++ r :: rs := by unfold growT; rw [if_neg (by simp)]
    have e2 : (U ++ r :: rs : Tbl).getD U.length [] = r := by simp [List.getD]
    have e3 : spotR r x edge = rPos x r := spotR_eq h1 he
    simp only [e1, e2, e3]
    rw [tIns]
    cases insC x r with
    | app k1 k2 k3 =>
      rw [k1, k2, insAt_app, if_pos (by simp)]
      have e5 : (U ++ r :: rs : Tbl).set U.length (r ++ [x]) = U ++ (r ++ [x]) :: rs := by simp
      rw [e5]
      rfl
    | bump a b y k1 k2 k3 k4 k5 =>
      rw [k2, k3]
      rw [k1, insAt_mid, if_neg (by simp)]
      have e5 : (a ++ x :: y :: b).eraseIdx (a.length + 1) = a ++ x :: b := by
        rw [List.eraseIdx_append_of_length_le (by (clear hM hf e3 k3 k5; omega))]
        simp
      have e6 : (a ++ x :: y :: b).getD (a.length + 1) (0, 0) = y := by simp [List.getD]
      rw [e5, e6]
      have e7 : (U ++ (a ++ y :: b) :: rs : Tbl).set U.length (a ++ x :: b) = (U ++ [a ++ x :: b]) ++ rs := by simp
      have e8 : growT U.length M = M := by unfold growT; rw [if_neg (by rw [hM]; simp)]
      rw [e7, e8]
      have ih := insGo_eq mark rs (U ++ [a ++ x :: b]) M f y (some a.length) h3 (by rw [hM]; simp) (by simp at hf; omega) (fun e h => by
        cases h
        rw [k1] at h2
        exact pos_le (x := x) h2)
      rw [List.length_append] at ih
      refine ih.trans ?_
      have e9 : U.length + [a ++ x :: b].length + (tIns y rs).2 = U.length + ((tIns y rs).2 + 1) := by simp; (clear hM hf e3 k3 k5; omega)
      rw [e9]
      simp

/-! lengths -/
theorem tIns_level : ∀ (T : Tbl) (x : Itm), (tIns x T).2 ≤ T.length ∧ (tIns x T).1.length = if (tIns x T).2 = T.length then T.length + 1 else T.length
  | [], x => ⟨Nat.le_refl _, rfl⟩
  | r :: rs, x => by
    rw [tIns]
    cases insC x r with
    | app k1 k2 k3 => rw [k1]; exact ⟨Nat.zero_le _, by simp⟩
    | bump a b y k1 k2 k3 k4 k5 =>
      rw [k2]
      obtain ⟨i1, i2⟩ := tIns_level rs y
      refine ⟨by simp; omega, ?_⟩
      show (tIns y rs).1.length + 1 = if (tIns y rs).2 + 1 = rs.length + 1 then rs.length + 1 + 1 else rs.length + 1
      rw [i2]
      by_cases h : (tIns y rs).2 = rs.length
      · rw [if_pos h, if_pos (by (clear k3 k5 i1 i2; omega))]
      · rw [if_neg h, if_neg (by (clear k3 k5 i1 i2; omega))]
theorem tIns_row : ∀ (T : Tbl) (x : Itm) (i : Nat), ((tIns x T).1.getD i []).length = (T.getD i []).length + if i = (tIns x T).2 then 1 else 0
  | [], x, i => by
    cases i <;> simp [tIns, List.getD]
  | r :: rs, x, i => by
    rw [tIns]
    cases insC x r with
    | app k1 k2 k3 => rw [k1]; cases i <;> simp [List.getD]
    | bump a b y k1 k2 k3 k4 k5 =>
      rw [k2]
      cases i with
      | zero => rw [k1]; simp [List.getD]
      | succ i =>
        have := tIns_row rs y i
        simpa [List.getD] using this
theorem addM_row {M : Tbl} {l : Nat} {mark : Int} (hl : l ≤ M.length) (i : Nat) : (addM M l mark).getD i [] = if i = l then M.getD l [] ++ [(0, mark)] else M.getD i [] := by
  have hg : ∀ i, (growT l M).getD i [] = M.getD i [] := fun i => by
    unfold growT
    split
    · unfold List.getD
      rcases Nat.lt_trichotomy i M.length with h | h | h
      · rw [List.getElem?_append_left h]
      · subst h; simp
      · rw [List.getElem?_eq_none (by simp; (clear hl; omega)), List.getElem?_eq_none (by (clear hl; omega))]
    · rfl
  have hgl : l < (growT l M).length := growT_lt hl
  unfold addM
  rw [hg l]
  unfold List.getD
  by_cases h : i = l
  · subst h
    rw [if_pos rfl, List.getElem?_set_self hgl]
    rfl
  · rw [if_neg h, List.getElem?_set_ne (Ne.symm h)]
    exact hg i
theorem addM_len {M : Tbl} {l : Nat} {mark : Int} : (addM M l mark).length = if l = M.length then M.length + 1 else M.length := by
  unfold addM growT
  rw [List.length_set]
  split <;> simp

noncomputable def stP (b : Bool) (st : Tbl × Tbl) (p : Itm) : Tbl × Tbl := ((tIns (itemOf' b p) st.1).1, addM st.2 (tIns (itemOf' b p) st.1).2 p.1)
noncomputable def PQ (b : Bool) (ps : List Itm) : Tbl × Tbl := ps.foldl (stP b) ([], [])
noncomputable def lv (b : Bool) (ps : List Itm) (p : Itm) : Nat := (tIns (itemOf' b p) (PQ b ps).1).2
theorem PQ_snoc (b : Bool) (ps : List Itm) (p : Itm) : PQ b (ps ++ [p]) = ((tIns (itemOf' b p) (PQ b ps).1).1, addM (PQ b ps).2 (lv b ps p) p.1) := by
  unfold PQ; rw [List.foldl_append]; rfl

theorem snoc_ind {α : Type} {C : List α → Prop} (h0 : C []) (h1 : ∀ l a, C l → C (l ++ [a])) (l : List α) : C l := by
  have : ∀ l : List α, C l.reverse := fun l => by
    induction l with
    | nil => exact h0
    | cons a l ih => rw [List.reverse_cons]; exact h1 _ _ ih
  have := this l.reverse
  rwa [List.reverse_reverse] at this

structure Inv (b : Bool) (ps : List Itm) : Prop where
  tab : Tab (PQ b ps).1
  len : (PQ b ps).2.length = (PQ b ps).1.length
  row : ∀ i, ((PQ b ps).2.getD i []).length = ((PQ b ps).1.getD i []).length
  ne : ∀ r ∈ (PQ b ps).1, r ≠ []
  tall : (PQ b ps).1.length ≤ ps.length
  wide : ∀ i, ((PQ b ps).1.getD i []).length ≤ ps.length
theorem inv (b : Bool) (ps : List Itm) : Inv b ps := by
  refine snoc_ind ?_ ?_ ps
  · exact ⟨True.intro, rfl, fun _ => rfl, (fun r h => by cases h), Nat.le_refl _, fun i => by simp [PQ, List.getD]⟩
  · intro ps p I
    obtain ⟨l1, l2⟩ := tIns_level (PQ b ps).1 (itemOf' b p)
    have hrow := tIns_row (PQ b ps).1 (itemOf' b p)
    have hll : lv b ps p ≤ (PQ b ps).2.length := by rw [I.len]; exact l1
    constructor
    · rw [PQ_snoc]; exact tab_tIns _ _ I.tab
    · rw [PQ_snoc]
      show (addM _ _ _).length = (tIns _ _).1.length
      rw [addM_len, l2, I.len]
      rfl
    · intro i
      rw [PQ_snoc]
      show ((addM _ _ _).getD i []).length = ((tIns _ _).1.getD i []).length
      rw [addM_row hll, hrow i]
      show _ = _ + if i = lv b ps p then 1 else 0
      split
      · rename_i h; rw [h, List.length_append, I.row]; rfl
      · rw [I.row]; rfl
    · intro r hr
      rw [PQ_snoc] at hr
      obtain ⟨i, hi, e⟩ := List.mem_iff_getElem.mp hr
      intro hn
      have h3 := hrow i
      have h4 : (tIns (itemOf' b p) (PQ b ps).1).1.getD i [] = r := by simp [List.getD, hi]; exact e
      rw [h4, hn] at h3
      have h5 : ¬ i = (tIns (itemOf' b p) (PQ b ps).1).2 := fun h => by rw [if_pos h] at h3; simp at h3
      rw [if_neg h5] at h3
      have hi' : i < (tIns (itemOf' b p) (PQ b ps).1).1.length := hi
      rw [l2] at hi'
      have h6 : i < (PQ b ps).1.length := by split at hi' <;> omega
      have h7 : (PQ b ps).1.getD i [] = (PQ b ps).1[i] := by simp [List.getD, h6]
      rw [h7] at h3
      exact I.ne _ (List.getElem_mem h6) (List.length_eq_zero_iff.mp (by simpa using h3.symm))
    · rw [PQ_snoc, List.length_append]
      show (tIns _ _).1.length ≤ _
      rw [l2]
      have := I.tall
      simp
      split <;> (clear l1 l2 hll; omega)
    · intro i
      rw [PQ_snoc, List.length_append]
      show ((tIns _ _).1.getD i []).length ≤ _
      rw [hrow i]
      have := I.wide i
      rw [List.length_singleton]
      split <;> (clear l1 l2 hll; omega)
theorem rowsM_PQ (b : Bool) (pairs : List Itm) : rowsM b pairs = PQ b pairs := by
  have key : ∀ (ps : List Itm), ps.length ≤ pairs.length → ps.foldl (stepP b pairs.length) ([], []) = PQ b ps := by
    intro ps
    refine snoc_ind (C := fun ps => ps.length ≤ pairs.length → ps.foldl (stepP b pairs.length) ([], []) = PQ b ps) (fun _ => rfl) (fun ps p ih h => ?_) ps
    rw [List.length_append] at h
    rw [List.foldl_append, ih (by omega), PQ_snoc]
    have I := inv b ps
    show insGo p.1 pairs.length 0 _ _ _ none = _
    have := insGo_eq p.1 (PQ b ps).1 [] (PQ b ps).2 pairs.length (itemOf' b p) none I.tab (by simpa using I.len) (by have := I.tall; simp at h; omega) (fun e h => by cases h)
    simp at this
    rw [this]
    simp [lv]
  rw [rowsM_eq]
  exact key pairs (Nat.le_refl _)

-- part TF
theorem itemOf_key (b : Bool) (p : Itm) : (itemOf' b p).2 = p.2 := by cases b <;> rfl
theorem kn_PQ (b : Bool) (ps : List Itm) : Kn (rwd (PQ b ps).1) (ps.map fun p => p.2) := by
  refine snoc_ind (C := fun ps => Kn (rwd (PQ b ps).1) (ps.map fun p => p.2)) (.refl _) (fun ps p ih => ?_) ps
  rw [PQ_snoc, List.map_append]
  have h := rwd_tIns (PQ b ps).1 (itemOf' b p) (inv b ps).tab.sorted
  rw [itemOf_key] at h
  exact h.trans (ih.right [p.2])

/-- Greene's number -/
def G (w : List Int) (k m : Nat) : Prop := Has w k m ∧ ∀ m', Has w k m' → m' ≤ m
theorem G.eq {w : List Int} {k m m' : Nat} (h : G w k m) (h' : G w k m') : m = m' := Nat.le_antisymm (h'.2 _ h.1) (h.2 _ h'.1)
theorem G.of {w w' : List Int} {k m : Nat} (h : G w k m) (i : ∀ m, Has w k m ↔ Has w' k m) : G w' k m := ⟨(i m).mp h.1, fun m' h' => h.2 m' ((i m').mpr h')⟩
theorem G_tab {T : Tbl} {w : List Int} (hT : Tab T) (hk : Kn (rwd T) w) (k : Nat) : G w k (rowsum k T) := G.of (greene_tab hT k) fun m => has_kn hk k m
theorem G_flt (b : Bool) (ps : List Itm) (t : Int) (k : Nat) : G ((ps.map fun p => p.2).filter fun x => decide (x ≤ t)) k (rowsum k (flt t (PQ b ps).1)) := by
  refine G_tab (tab_flt t (inv b ps).tab) ?_ k
  rw [rwd_flt]
  exact (kn_PQ b ps).filter t
theorem G_all (b : Bool) (ps : List Itm) (k : Nat) : G (ps.map fun p => p.2) k (rowsum k (PQ b ps).1) := G_tab (inv b ps).tab (kn_PQ b ps) k

/-! the marks -/
def Asc (ps : List Itm) : Prop := ps.Pairwise fun p q => p.1 ≤ q.1
theorem Asc.snoc {ps : List Itm} {p : Itm} (h : Asc (ps ++ [p])) : Asc ps ∧ ∀ q ∈ ps, q.1 ≤ p.1 := by
  obtain ⟨h1, _, h3⟩ := List.pairwise_append.mp h
  exact ⟨h1, fun q hq => h3 q hq p (by simp)⟩
theorem lv_le (b : Bool) (ps : List Itm) (p : Itm) : lv b ps p ≤ (PQ b ps).2.length := by
  rw [(inv b ps).len]
  exact (tIns_level _ _).1
theorem Q_row (b : Bool) (ps : List Itm) (p : Itm) (i : Nat) : (PQ b (ps ++ [p])).2.getD i [] = if i = lv b ps p then (PQ b ps).2.getD i [] ++ [(0, p.1)] else (PQ b ps).2.getD i [] := by
  rw [PQ_snoc]
  show (addM _ _ _).getD i [] = _
  rw [addM_row (lv_le b ps p)]
  by_cases h : i = lv b ps p
  · rw [if_pos h, if_pos h, h]
  · rw [if_neg h, if_neg h]
theorem Q_from (b : Bool) (ps : List Itm) : ∀ i, ∀ z ∈ (PQ b ps).2.getD i [], z.1 = 0 ∧ ∃ p ∈ ps, z.2 = p.1 := by
  refine snoc_ind (C := fun ps => ∀ i, ∀ z ∈ (PQ b ps).2.getD i [], z.1 = 0 ∧ ∃ p ∈ ps, z.2 = p.1) (fun i z h => by simp [PQ, List.getD] at h) (fun ps p ih i z hz => ?_) ps
  rw [Q_row] at hz
  split at hz
  · rcases List.mem_append.mp hz with hz | hz
    · obtain ⟨h1, q, h2, h3⟩ := ih i z hz
      exact ⟨h1, q, List.mem_append_left _ h2, h3⟩
    · simp at hz; subst hz; exact ⟨rfl, p, by simp, rfl⟩
  · obtain ⟨h1, q, h2, h3⟩ := ih i z hz
    exact ⟨h1, q, List.mem_append_left _ h2, h3⟩
theorem Q_sorted (b : Bool) (ps : List Itm) : Asc ps → ∀ i, SortedK ((PQ b ps).2.getD i []) := by
  refine snoc_ind (C := fun ps => Asc ps → ∀ i, SortedK ((PQ b ps).2.getD i [])) (fun _ i => by simp [PQ, List.getD, SortedK]) (fun ps p ih ha i => ?_) ps
  obtain ⟨h1, h2⟩ := ha.snoc
  rw [Q_row]
  split
  · refine (ih h1 i).app fun z hz => ?_
    obtain ⟨_, q, hq, e⟩ := Q_from b ps i z hz
    rw [e]; exact h2 q hq
  · exact ih h1 i
theorem Q_count (b : Bool) (t : Int) (ps : List Itm) : Asc ps → ∀ i, (((PQ b ps).2.getD i []).filter fun z => decide (z.2 ≤ t)).length = ((PQ b (ps.filter fun p => decide (p.1 ≤ t))).1.getD i []).length := by
  refine snoc_ind (C := fun ps => Asc ps → ∀ i, (((PQ b ps).2.getD i []).filter fun z => decide (z.2 ≤ t)).length = ((PQ b (ps.filter fun p => decide (p.1 ≤ t))).1.getD i []).length) (fun _ i => by simp [PQ, List.getD]) (fun ps p ih ha i => ?_) ps
  obtain ⟨h1, h2⟩ := ha.snoc
  by_cases hp : p.1 ≤ t
  · have e : (ps ++ [p]).filter (fun p => decide (p.1 ≤ t)) = ps ++ [p] := by
      refine List.filter_eq_self.mpr fun q hq => ?_
      rcases List.mem_append.mp hq with hq | hq
      · have := h2 q hq; simp; omega
      · simp at hq; subst hq; simpa using hp
    rw [e, ← (inv b (ps ++ [p])).row i]
    rw [List.filter_eq_self.mpr fun z hz => ?_]
    obtain ⟨_, q, hq, e2⟩ := Q_from b (ps ++ [p]) i z hz
    rw [e2]
    rcases List.mem_append.mp hq with hq | hq
    · have := h2 q hq; simp; omega
    · simp at hq; subst hq; simpa using hp
  · have e : (ps ++ [p]).filter (fun p => decide (p.1 ≤ t)) = ps.filter fun p => decide (p.1 ≤ t) := by
      rw [List.filter_append]; simp [hp]
    rw [e, ← ih h1 i, Q_row]
    split
    · rw [List.filter_append]; simp [hp]
    · rfl
theorem rowsum_congr {T T' : Tbl} (h : ∀ i, (T.getD i []).length = (T'.getD i []).length) : ∀ k, rowsum k T = rowsum k T'
  | 0 => by simp [rowsum]
  | k + 1 => by rw [rowsum_succ, rowsum_succ, rowsum_congr h k, h k]

/-! the turn -/
def lexle (p q : Itm) : Prop := p.1 < q.1 ∨ (p.1 = q.1 ∧ p.2 ≤ q.2)
def Lex (ps : List Itm) : Prop := ps.Pairwise lexle
noncomputable def swp (p : Itm) : Itm := (p.2, p.1)
theorem swp_swp (p : Itm) : swp (swp p) = p := rfl
theorem map_swp (l : List Itm) : (l.map swp).map swp = l := by
  rw [List.map_map]
  exact List.map_id _
theorem Lex.asc {ps : List Itm} (h : Lex ps) : Asc ps := List.Pairwise.imp (fun {p q} h => by rcases h with h | h <;> omega) h
theorem lex_eq {a b : List Itm} (hp : a.Perm b) (ha : Lex a) (hb : Lex b) : a = b :=
  List.Perm.eq_of_pairwise (fun x y _ _ h1 h2 => by
    rcases h1 with h1 | h1 <;> rcases h2 with h2 | h2
    · omega
    · omega
    · omega
    · exact Prod.ext h1.1 (by omega)) ha hb hp
theorem sym_has {ps as : List Itm} (hp : Lex ps) (ha : Lex as) (h : as.Perm (ps.map swp)) {k m : Nat} (H : Has (ps.map fun p => p.2) k m) : Has (as.map fun p => p.2) k m := by
  obtain ⟨s, hs, hg, hl⟩ := H
  obtain ⟨S, hS, rfl⟩ := List.sublist_map_iff.mp hs
  obtain ⟨L, hL1, hL2⟩ := List.exists_perm_sublist (hS.map swp) h.symm
  refine ⟨L.map fun p => p.2, hL2.map _, fun c hc hf => ?_, ?_⟩
  · obtain ⟨C, hC, rfl⟩ := List.sublist_map_iff.mp hc
    have hCl : Lex C := List.Pairwise.sublist (hC.trans hL2) ha
    have hCf : C.Pairwise fun p q => p.2 > q.2 := List.pairwise_map.mp hf
    have hCb : C.Pairwise fun p q => p.1 < q.1 ∧ p.2 > q.2 := by
      have := List.Pairwise.and hCl hCf
      refine List.Pairwise.imp (fun {p q} h => ?_) this
      obtain ⟨h1 | h1, h2⟩ := h
      · exact ⟨h1, h2⟩
      · omega
    obtain ⟨C', hC1, hC2⟩ := List.exists_perm_sublist hC hL1
    obtain ⟨E, hE, rfl⟩ := List.sublist_map_iff.mp hC2
    have hD : Lex (C.map swp).reverse := by
      unfold Lex
      rw [List.pairwise_reverse, List.pairwise_map]
      exact List.Pairwise.imp (fun {p q} h => .inl h.2) hCb
    have hED : E.Perm (C.map swp).reverse := by
      have := hC1.map swp
      rw [map_swp] at this
      exact this.trans (List.reverse_perm _).symm
    have e := lex_eq hED (List.Pairwise.sublist (hE.trans hS) hp) hD
    have := hg (E.map fun p => p.2) (hE.map _) (by
      rw [e]
      unfold Fall
      rw [List.pairwise_map, List.pairwise_reverse, List.pairwise_map]
      exact List.Pairwise.imp (fun {p q} h => h.1) hCb)
    rw [e] at this
    simpa using this
  · have := hL1.length_eq
    simp at this hl ⊢
    omega
theorem perm_swap {ps as : List Itm} (h : as.Perm (ps.map swp)) : ps.Perm (as.map swp) := by
  have := h.map swp
  rw [map_swp] at this
  exact this.symm
/-- the marks of the one are the numbers of the other -/
theorem sym_tab {ps as : List Itm} (b b' : Bool) (hp : Lex ps) (ha : Lex as) (h : as.Perm (ps.map swp)) : (PQ b ps).2.map (fun r => r.map (·.2)) = (PQ b' as).1.map fun r => r.map (·.2) := by
  have I := inv b ps
  refine rows_eq (fun r hr => ?_) (inv b' as).tab.sorted (fun r hr hn => ?_) (inv b' as).ne fun t k => ?_
  · obtain ⟨i, hi, e⟩ := List.mem_iff_getElem.mp hr
    have := Q_sorted b ps hp.asc i
    simpa [List.getD, hi, e] using this
  · obtain ⟨i, hi, e⟩ := List.mem_iff_getElem.mp hr
    have h1 := I.row i
    have hi' : i < (PQ b ps).1.length := by rw [← I.len]; exact hi
    simp [List.getD, hi, hi', e, hn] at h1
    exact I.ne _ (List.getElem_mem hi') (List.length_eq_zero_iff.mp h1.symm)
  · have e1 : rowsum k (flt t (PQ b ps).2) = rowsum k (PQ b (ps.filter fun p => decide (p.1 ≤ t))).1 := rowsum_congr (fun i => by rw [flt_getD]; exact Q_count b t ps hp.asc i) k
    rw [e1]
    have g1 := G_all b (ps.filter fun p => decide (p.1 ≤ t)) k
    have g2 := G_flt b' as t k
    have hf1 : Lex (ps.filter fun p => decide (p.1 ≤ t)) := List.Pairwise.sublist List.filter_sublist hp
    have hf2 : Lex (as.filter fun p => decide (p.2 ≤ t)) := List.Pairwise.sublist List.filter_sublist ha
    have hpf : (as.filter fun p => decide (p.2 ≤ t)).Perm ((ps.filter fun p => decide (p.1 ≤ t)).map swp) := by
      have := h.filter fun p => decide (p.2 ≤ t)
      rw [List.filter_map] at this
      exact this
    have e2 : (as.map fun p => p.2).filter (fun x => decide (x ≤ t)) = (as.filter fun p => decide (p.2 ≤ t)).map fun p => p.2 := by rw [List.filter_map]; rfl
    rw [e2] at g2
    exact (g1.of fun m => ⟨sym_has hf1 hf2 hpf, sym_has hf2 hf1 (perm_swap hpf)⟩).eq g2

-- part TG
theorem bL_spec {xs : List Int} {x : Int} {p : Nat} : ∀ (n lo hi : Nat), lo ≤ p → p ≤ hi → hi - lo ≤ n → (∀ i, i < p → xs.getD i 0 < x) → (∀ i, p ≤ i → i < hi → x ≤ xs.getD i 0) → bL xs x n lo hi = p
  | 0, lo, hi, h1, h2, h3, _, _ => by rw [bL]; omega
  | n + 1, lo, hi, h1, h2, h3, h4, h5 => by
    by_cases hl : lo < hi
    · rw [bL_go hl]
      by_cases hm : (lo + hi) / 2 < p
      · rw [if_pos (h4 _ hm)]
        exact bL_spec n _ _ (by omega) h2 (by (clear h1 h2 hl hm; omega)) h4 h5
      · rw [if_neg (by have := h5 ((lo + hi) / 2) (by omega) (by (clear h1 h2 h3 hm; omega)); (clear h1 h2 h3 hl hm; omega))]
        exact bL_spec n _ _ h1 (by omega) (by (clear h1 h2 hl hm; omega)) h4 fun i h6 h7 => h5 i h6 (by (clear h1 h2 h3 hm h6; omega))
    · rw [bL_stop hl]; omega

/-- one row on the way up -/
noncomputable def upStep (row : List Itm) (item : Itm) (lo : Nat) : Option (List Itm × Itm × Nat) :=
  let there := bL (row.map (·.2)) item.2 row.length lo row.length
  let row1 := insAt row there item
  if 1 ≤ lo ∧ lo ≤ row.length then some (row1.eraseIdx (there - 1), row1.getD (there - 1) (0, 0), there) else none
noncomputable def upG : Nat → Tbl → Itm → Nat → Option (Tbl × Itm × Nat)
  | 0, rows, item, lo => some (rows, item, lo)
  | u + 1, rows, item, lo => match upStep (rows.getD u []) item lo with
    | none => none
    | some s => upG u (rows.set u s.1) s.2.1 s.2.2
theorem upGo_eq : ∀ (u : Nat) (rows : Tbl) (item : Itm) (lo : Nat), upGo u rows item lo = (upG u rows item lo).map fun q => (q.1, q.2.1)
  | 0, rows, item, lo => rfl
  | u + 1, rows, item, lo => by
    rw [upGo, upG]
    unfold upStep
    by_cases h : 1 ≤ lo ∧ lo ≤ (rows.getD u []).length
    · simp only [if_pos h]
      exact upGo_eq u _ _ _
    · simp only [if_neg h]
      rfl
theorem upG_cons : ∀ (u : Nat) (r : List Itm) (R : Tbl) (item : Itm) (lo : Nat) {R' : Tbl} {it : Itm} {lo' : Nat} {s : List Itm × Itm × Nat}, upG u R item lo = some (R', it, lo') → upStep r it lo' = some s → upG (u + 1) (r :: R) item lo = some (s.1 :: R', s.2.1, s.2.2)
  | 0, r, R, item, lo, R', it, lo', s, h1, h2 => by
    rw [upG] at h1
    cases h1
    rw [upG]
    have : (r :: R).getD 0 [] = r := rfl
    rw [this, h2]
    rfl
  | u + 1, r, R, item, lo, R', it, lo', s, h1, h2 => by
    rw [upG] at h1
    rw [upG]
    have : (r :: R).getD (u + 1) [] = R.getD u [] := by simp [List.getD]
    rw [this]
    cases e : upStep (R.getD u []) item lo with
    | none => rw [e] at h1; cases h1
    | some q =>
      rw [e] at h1
      exact upG_cons u r _ _ _ h1 h2
theorem upStep_eq {a b : List Itm} {x y : Itm} {q : Nat} (h1 : ∀ z ∈ a, z.2 ≤ x.2) (h2 : x.2 < y.2) (h3 : ∀ z ∈ b, y.2 ≤ z.2) (hq : q ≤ a.length) : upStep (a ++ x :: b) y (q + 1) = some (a ++ y :: b, x, a.length + 1) := by
  have hb : bL ((a ++ x :: b).map (·.2)) y.2 (a ++ x :: b).length (q + 1) (a ++ x :: b).length = a.length + 1 := by
    refine bL_spec _ _ _ (by omega) (by simp) (by (clear h2 hq; omega)) (fun i hi => ?_) fun i hi hl => ?_
    · have hil : i < (a ++ x :: b).length := by simp; (clear h2 hq; omega)
      rw [key_getD hil]
      have e : (a ++ x :: b)[i]? = some (a ++ x :: b)[i] := List.getElem?_eq_getElem hil
      rcases Nat.lt_or_ge i a.length with h | h
      · rw [List.getElem?_append_left h] at e
        have := h1 _ (List.mem_of_getElem? e)
        omega
      · obtain rfl : i = a.length := by (clear h2 hq; omega)
        simp
        exact h2
    · rw [key_getD hl]
      have e : (a ++ x :: b)[i]? = some (a ++ x :: b)[i] := List.getElem?_eq_getElem hl
      rw [List.getElem?_append_right (by omega)] at e
      obtain ⟨j, hj⟩ : ∃ j, i - a.length = j + 1 := ⟨i - a.length - 1, by (clear h2 hq; omega)⟩
      rw [hj, List.getElem?_cons_succ] at e
      exact h3 _ (List.mem_of_getElem? e)
  unfold upStep
  rw [hb]
  have e1 : insAt (a ++ x :: b) (a.length + 1) y = a ++ x :: y :: b := by
    have := insAt_mid (a ++ [x]) b y (0, 0)
    unfold insAt
    have h1 : (a ++ x :: b) = (a ++ [x]) ++ b := by simp
    have h2 : a.length + 1 = (a ++ [x]).length := by simp
    rw [h1, h2, List.take_left, List.drop_left]
    simp
  simp only [e1]
  rw [if_pos ⟨by (clear h2 hq hb; omega), by simp; (clear h2 hb; omega)⟩]
  have e2 : (a ++ x :: y :: b).eraseIdx (a.length + 1 - 1) = a ++ y :: b := by
    rw [List.eraseIdx_append_of_length_le (by (clear h2 hq hb; omega))]
    simp
  have e3 : (a ++ x :: y :: b).getD (a.length + 1 - 1) (0, 0) = x := by simp [List.getD]
  rw [e2, e3]

/-- the way up undoes the way down -/
theorem back_up : ∀ (T : Tbl) (x : Itm) (e : Nat), Tab T → ∃ e', T.length + e' = (tIns x T).1.length + e ∧ ((tIns x T).1 ++ List.replicate e []).getD (tIns x T).2 [] ≠ [] ∧
    upG (tIns x T).2 (((tIns x T).1 ++ List.replicate e []).set (tIns x T).2 (((tIns x T).1 ++ List.replicate e []).getD (tIns x T).2 []).dropLast)
      ((((tIns x T).1 ++ List.replicate e []).getD (tIns x T).2 []).getD ((((tIns x T).1 ++ List.replicate e []).getD (tIns x T).2 []).length - 1) (0, 0))
      (((tIns x T).1 ++ List.replicate e []).getD (tIns x T).2 []).length = some (T ++ List.replicate e' [], x, rPos x (T.headD []) + 1)
  | [], x, e, _ => ⟨e + 1, by simp [tIns]; omega, by simp [tIns, List.getD], by simp [tIns, List.getD, upG, rPos, List.replicate_succ]⟩
  | r :: rs, x, e, ⟨h1, h2, h3⟩ => by
    rw [tIns]
    cases insC x r with
    | app k1 k2 k3 =>
      rw [k1]
      refine ⟨e, rfl, by simp [List.getD], ?_⟩
      simp [List.getD, upG, k2]
    | bump a b y k1 k2 k3 k4 k5 =>
      rw [k2]
      obtain ⟨e', i1, i2, i3⟩ := back_up rs y e h3
      have hs := h1
      rw [k1] at hs h2
      obtain ⟨_, _, _, s4, _⟩ := hs.split
      refine ⟨e', by simp; (clear k3 k5; omega), by simpa [List.getD] using i2, ?_⟩
      have hst := upStep_eq k4 k5 s4 (pos_le (x := x) h2)
      have := upG_cons _ (a ++ x :: b) _ _ _ i3 hst
      have e4 : rPos x ((r :: rs).headD []) = a.length := k3
      rw [e4, k1]
      simpa [List.getD] using this

/-- a greater letter after a lesser one ends no lower -/
theorem level_le : ∀ (T : Tbl) (x x' : Itm), AllSorted T → x.2 ≤ x'.2 → (tIns x' (tIns x T).1).2 ≤ (tIns x T).2
  | [], x, x', _, h => by
    have : (tIns x' [[x]]).2 = 0 := by
      have hr : rIns x' [x] = ([x, x'], none) := by
        rw [rIns, if_neg (by omega)]; rfl
      rw [tIns, hr]
    show (tIns x' [[x]]).2 ≤ 0
    omega
  | r :: rs, x, x', hs, h => by
    have hr := hs r (.head _)
    have hr' := hr.rIns x
    rw [tIns.eq_2 x]
    cases insC x r with
    | app k1 k2 k3 =>
      rw [k1]
      show (tIns x' ((r ++ [x]) :: rs)).2 ≤ 0
      rw [tIns]
      cases insC x' (r ++ [x]) with
      | app j1 j2 j3 => rw [j1]; exact Nat.le_refl _
      | bump a b y j1 j2 j3 j4 j5 =>
        have hy : y ∈ r ++ [x] := by rw [j1]; simp
        rcases List.mem_append.mp hy with hy | hy
        · have := k3 y hy; omega
        · simp at hy; subst hy; omega
    | bump a b y k1 k2 k3 k4 k5 =>
      rw [k2]
      show (tIns x' ((a ++ x :: b) :: (tIns y rs).1)).2 ≤ (tIns y rs).2 + 1
      rw [tIns]
      cases insC x' (a ++ x :: b) with
      | app j1 j2 j3 => rw [j1]; exact Nat.zero_le _
      | bump a' b' y' j1 j2 j3 j4 j5 =>
        rw [j2]
        have hy : y' ∈ a ++ x :: b := by rw [j1]; simp
        have hyy : y.2 ≤ y'.2 := by
          rw [k1] at hr
          obtain ⟨_, _, _, s4, _⟩ := hr.split
          rcases List.mem_append.mp hy with hy | hy
          · have := k4 y' hy; (clear k3 k5 j3; omega)
          · rcases List.mem_cons.mp hy with e | hy
            · subst e; omega
            · exact s4 y' hy
        have := level_le rs y y' (fun s hs' => hs s (.tail _ hs')) hyy
        show (tIns y' (tIns y rs).1).2 + 1 ≤ _
        (clear h k3 k5 j3 j5 hyy; omega)
theorem lv_up (b : Bool) (ps : List Itm) (q p : Itm) (h : q.2 ≤ p.2) : lv b (ps ++ [q]) p ≤ lv b ps q := by
  unfold lv
  rw [PQ_snoc]
  exact level_le _ _ _ (inv b ps).tab.sorted (by rw [itemOf_key, itemOf_key]; exact h)
theorem lastOf_mem {row : List Itm} {v : Int} (h : lastOf row = some v) : ∃ z ∈ row, z.2 = v := by
  unfold lastOf at h
  obtain ⟨z, hz, e⟩ := Option.map_eq_some_iff.mp h
  exact ⟨z, List.mem_of_getLast? hz, e⟩
theorem not_end (b : Bool) (ps : List Itm) : ∀ p, Lex (ps ++ [p]) → ∀ i, i < lv b ps p → lastOf ((PQ b ps).2.getD i []) ≠ some p.1 := by
  refine snoc_ind (C := fun ps => ∀ p, Lex (ps ++ [p]) → ∀ i, i < lv b ps p → lastOf ((PQ b ps).2.getD i []) ≠ some p.1) (fun p _ i hi => ?_) (fun ps q ih p hl i hi hn => ?_) ps
  · exact absurd hi (Nat.not_lt_zero _)
  · obtain ⟨l1, _, l3⟩ := List.pairwise_append.mp hl
    have hqp : lexle q p := l3 q (by simp) p (by simp)
    rcases hqp with h | ⟨h, h'⟩
    · obtain ⟨z, hz, e⟩ := lastOf_mem hn
      obtain ⟨_, p', hp', e'⟩ := Q_from b _ i z hz
      have : p'.1 ≤ q.1 := by
        rcases List.mem_append.mp hp' with hp' | hp'
        · exact (Lex.asc l1).snoc.2 p' hp'
        · simp at hp'; subst hp'; exact Int.le_refl _
      (clear hi; omega)
    · have hu := lv_up b ps q p h'
      rw [Q_row, if_neg (by omega)] at hn
      exact ih q l1 i (by omega) (by rw [hn, h])

theorem getD_app {α : Type} {l : List (List α)} {e i : Nat} : (l ++ List.replicate e []).getD i [] = l.getD i [] := by
  unfold List.getD
  rcases Nat.lt_or_ge i l.length with h | h
  · rw [List.getElem?_append_left h]
  · rw [List.getElem?_append_right h, List.getElem?_eq_none h, List.getElem?_replicate]
    split <;> rfl
/-- the mark comes off -/
theorem addM_back {M : Tbl} {l e : Nat} {mark : Int} (hl : l ≤ M.length) : ∃ e', M.length + e' = (addM M l mark).length + e ∧
    ((addM M l mark) ++ List.replicate e []).set l (((addM M l mark) ++ List.replicate e []).getD l []).dropLast = M ++ List.replicate e' [] := by
  have hr : ((addM M l mark) ++ List.replicate e []).getD l [] = M.getD l [] ++ [(0, mark)] := by
    rw [getD_app, addM_row hl, if_pos rfl]
  rw [hr, List.dropLast_concat, addM_len]
  have hlt : l < (growT l M).length := growT_lt hl
  by_cases h : l = M.length
  · refine ⟨e + 1, by rw [if_pos h]; omega, ?_⟩
    have e1 : growT l M = M ++ [[]] := by unfold growT; rw [if_pos h]
    unfold addM
    rw [e1]
    have e2 : M.getD l [] = [] := by subst h; simp [List.getD]
    rw [e2]
    subst h
    simp [List.replicate_succ]
  · refine ⟨e, by rw [if_neg h], ?_⟩
    have e1 : growT l M = M := by unfold growT; rw [if_neg h]
    have hl' : l < M.length := by omega
    unfold addM
    rw [e1, List.set_append_left _ _ (by simpa using hl'), List.set_set]
    have : M.getD l [] = M[l] := by simp [List.getD, hl']
    rw [this, List.set_getElem_self]

theorem back_step (b : Bool) {ps : List Itm} {p : Itm} (hl : Lex (ps ++ [p])) (e : Nat) : ∃ e', backStep ((PQ b (ps ++ [p])).1 ++ List.replicate e []) ((PQ b (ps ++ [p])).2 ++ List.replicate e []) = some (p.1, itemOf' b p, (PQ b ps).1 ++ List.replicate e' [], (PQ b ps).2 ++ List.replicate e' []) := by
  have I := inv b ps
  have hlv := lv_le b ps p
  obtain ⟨e1, a1, a2, a3⟩ := back_up (PQ b ps).1 (itemOf' b p) e I.tab
  obtain ⟨e2, b1, b2⟩ := addM_back (M := (PQ b ps).2) (l := lv b ps p) (e := e) (mark := p.1) hlv
  have hlen2 := (inv b (ps ++ [p])).len
  rw [PQ_snoc] at hlen2
  have he : e2 = e1 := by
    have h1 : (addM (PQ b ps).2 (lv b ps p) p.1).length = (tIns (itemOf' b p) (PQ b ps).1).1.length := hlen2
    have := I.len
    omega
  subst he
  refine ⟨e2, ?_⟩
  have hasc := (Lex.asc hl).snoc.2
  have hrow : ∀ i, ((PQ b (ps ++ [p])).2 ++ List.replicate e []).getD i [] = if i = lv b ps p then (PQ b ps).2.getD i [] ++ [(0, p.1)] else (PQ b ps).2.getD i [] := fun i => by
    rw [getD_app, Q_row]
  have hlast : lastOf (((PQ b (ps ++ [p])).2 ++ List.replicate e []).getD (lv b ps p) []) = some p.1 := by
    rw [hrow, if_pos rfl]
    simp [lastOf]
  have hlt : lv b ps p < ((PQ b (ps ++ [p])).2 ++ List.replicate e []).length := by
    rw [PQ_snoc, List.length_append]
    show lv b ps p < (addM _ _ _).length + _
    rw [addM_len]
    split <;> (clear b1 hlen2 a1; omega)
  have hget : ∀ i (h : i < ((PQ b (ps ++ [p])).2 ++ List.replicate e []).length), ((PQ b (ps ++ [p])).2 ++ List.replicate e [])[i] = ((PQ b (ps ++ [p])).2 ++ List.replicate e []).getD i [] := fun i h => by
    rw [List.getD, List.getElem?_eq_getElem h]; rfl
  have htop : topOf (((PQ b (ps ++ [p])).2 ++ List.replicate e []).filterMap lastOf) = some p.1 := by
    refine topOf_max (List.mem_filterMap.mpr ⟨_, List.getElem_mem hlt, by rw [hget, hlast]⟩) fun v hv => ?_
    obtain ⟨row, hr, hv⟩ := List.mem_filterMap.mp hv
    obtain ⟨i, hi, er⟩ := List.mem_iff_getElem.mp hr
    rw [hget i hi, getD_app] at er
    obtain ⟨z, hz, ez⟩ := lastOf_mem hv
    rw [← er] at hz
    obtain ⟨_, q, hq, eq⟩ := Q_from b _ i z hz
    rcases List.mem_append.mp hq with hq | hq
    · have := hasc q hq; (clear hlv b1 hlen2 a1 hlt hi; omega)
    · simp at hq; subst hq; omega
  have hfind : (((PQ b (ps ++ [p])).2 ++ List.replicate e []).findIdx fun row => lastOf row == some p.1) = lv b ps p := by
    refine (List.findIdx_eq hlt).mpr ⟨by rw [hget, hlast]; simp, fun j hj => ?_⟩
    rw [hget j (by (clear hlv b1 hlen2 a1; omega)), hrow, if_neg (by (clear hlv b1 hlen2 a1 hlt; omega))]
    have := not_end b ps p hl j hj
    simpa using this
  have hP1 : (PQ b (ps ++ [p])).1 = (tIns (itemOf' b p) (PQ b ps).1).1 := by rw [PQ_snoc]
  have hP2 : (PQ b (ps ++ [p])).2 = addM (PQ b ps).2 (lv b ps p) p.1 := by rw [PQ_snoc]
  unfold backStep
  rw [htop]
  dsimp only
  rw [hfind, hP1, hP2]
  have a2' : ((tIns (itemOf' b p) (PQ b ps).1).1 ++ List.replicate e []).getD (lv b ps p) [] ≠ [] := a2
  have hltP : lv b ps p < ((tIns (itemOf' b p) (PQ b ps).1).1 ++ List.replicate e []).length := by
    have h1 : (addM (PQ b ps).2 (lv b ps p) p.1).length = (tIns (itemOf' b p) (PQ b ps).1).1.length := hlen2
    rw [hP2, List.length_append, h1, ← List.length_append] at hlt
    exact hlt
  rw [if_pos ⟨hltP, a2'⟩, upGo_eq]
  have a3' : upG (lv b ps p) _ _ _ = _ := a3
  unfold lv at a3' ⊢
  rw [a3]
  show some (p.1, itemOf' b p, (PQ b ps).1 ++ List.replicate e2 [], _) = _
  have b2' : ((addM (PQ b ps).2 (tIns (itemOf' b p) (PQ b ps).1).2 p.1) ++ List.replicate e []).set (tIns (itemOf' b p) (PQ b ps).1).2 (((addM (PQ b ps).2 (tIns (itemOf' b p) (PQ b ps).1).2 p.1) ++ List.replicate e []).getD (tIns (itemOf' b p) (PQ b ps).1).2 []).dropLast = (PQ b ps).2 ++ List.replicate e2 [] := b2
  rw [b2']
theorem back_loop (b : Bool) (ps : List Itm) : Lex ps → ∀ (e : Nat) (acc : List (Int × Itm)), backLoop ps.length ((PQ b ps).1 ++ List.replicate e []) ((PQ b ps).2 ++ List.replicate e []) acc = some (acc ++ (ps.map fun p => (p.1, itemOf' b p)).reverse) := by
  refine snoc_ind (C := fun ps => Lex ps → ∀ (e : Nat) (acc : List (Int × Itm)), backLoop ps.length ((PQ b ps).1 ++ List.replicate e []) ((PQ b ps).2 ++ List.replicate e []) acc = some (acc ++ (ps.map fun p => (p.1, itemOf' b p)).reverse)) (fun _ e acc => by simp [backLoop]) (fun ps p ih hl e acc => ?_) ps
  obtain ⟨e', he⟩ := back_step b hl e
  rw [List.length_append, List.length_singleton, backLoop, he]
  dsimp only
  rw [ih (List.pairwise_append.mp hl).1]
  simp
theorem back_all (b : Bool) {ps : List Itm} (h : Lex ps) : backLoop ps.length (PQ b ps).1 (PQ b ps).2 [] = some (ps.map fun p => (p.1, itemOf' b p)).reverse := by
  have := back_loop b ps h 0 []
  simpa using this

-- part TH
/-! columns -/
noncomputable def cIns (x : Int) : List Itm → List Itm × Option Int
  | [] => ([(0, x)], none)
  | y :: ys => if y.2 < x then (y :: (cIns x ys).1, (cIns x ys).2) else ((0, x) :: ys, some y.2)
noncomputable def cPos (x : Int) : List Itm → Nat
  | [] => 0
  | y :: ys => if y.2 < x then cPos x ys + 1 else 0
noncomputable def cT (x : Int) : Tbl → Tbl
  | [] => [[(0, x)]]
  | c :: cs => match (cIns x c).2 with
    | none => (cIns x c).1 :: cs
    | some y => (cIns x c).1 :: cT y cs
inductive ColC (x : Int) (c : List Itm) : Prop
  | app : cIns x c = (c ++ [(0, x)], none) → cPos x c = c.length → (∀ z ∈ c, z.2 < x) → ColC x c
  | bump (a b : List Itm) (y : Itm) : c = a ++ y :: b → cIns x c = (a ++ (0, x) :: b, some y.2) → cPos x c = a.length → (∀ z ∈ a, z.2 < x) → x ≤ y.2 → ColC x c
theorem colC (x : Int) : ∀ c : List Itm, ColC x c
  | [] => .app rfl rfl (by simp)
  | y :: ys => by
    by_cases h : y.2 < x
    · cases colC x ys with
      | app h1 h2 h3 =>
        refine .app (by rw [cIns, if_pos h, h1]; rfl) (by rw [cPos, if_pos h, h2]; rfl) fun z hz => ?_
        rcases List.mem_cons.mp hz with e | hz
        · subst e; exact h
        · exact h3 z hz
      | bump a b w h1 h2 h3 h4 h5 =>
        refine .bump (y :: a) b w (by rw [h1]; rfl) (by rw [cIns, if_pos h, h2]; rfl) (by rw [cPos, if_pos h, h3]; rfl) (fun z hz => ?_) h5
        rcases List.mem_cons.mp hz with e | hz
        · subst e; exact h
        · exact h4 z hz
    · exact .bump [] ys y rfl (by rw [cIns, if_neg h]; rfl) (by rw [cPos, if_neg h]; rfl) (by simp) (by omega)

def Strict (c : List Itm) : Prop := c.Pairwise fun p q => p.2 < q.2
theorem Strict.split {a b : List Itm} {y : Itm} (h : Strict (a ++ y :: b)) : Strict a ∧ Strict b ∧ (∀ z ∈ a, z.2 < y.2) ∧ (∀ z ∈ b, y.2 < z.2) ∧ ∀ z ∈ a, ∀ u ∈ b, z.2 < u.2 := by
  unfold Strict at h
  rw [List.pairwise_append, List.pairwise_cons] at h
  obtain ⟨h1, ⟨h2, h3⟩, h4⟩ := h
  exact ⟨h1, h3, fun z hz => h4 z hz y (.head _), h2, fun z hz u hu => h4 z hz u (.tail _ hu)⟩
theorem Strict.join {a b : List Itm} {y : Itm} (h1 : Strict a) (h2 : Strict b) (h3 : ∀ z ∈ a, z.2 < y.2) (h4 : ∀ z ∈ b, y.2 < z.2) : Strict (a ++ y :: b) := by
  unfold Strict
  rw [List.pairwise_append, List.pairwise_cons]
  refine ⟨h1, ⟨h4, h2⟩, fun u hu v hv => ?_⟩
  rcases List.mem_cons.mp hv with e | hv
  · rw [e]; exact h3 u hu
  · exact Int.lt_trans (h3 u hu) (h4 v hv)
theorem Strict.cIns {c : List Itm} (x : Int) (h : Strict c) : Strict (cIns x c).1 := by
  cases colC x c with
  | app h1 h2 h3 =>
    rw [h1]
    exact Strict.join (y := (0, x)) h .nil h3 (by simp)
  | bump a b y h1 h2 h3 h4 h5 =>
    rw [h2]
    rw [h1] at h
    obtain ⟨k1, k2, k3, k4, k5⟩ := h.split
    exact Strict.join (y := (0, x)) k1 k2 h4 fun z hz => by have := k4 z hz; show x < z.2; (clear h3; omega)

/-- one column stands left of another -/
def CO (c d : List Itm) : Prop := d.length ≤ c.length ∧ ∀ (j : Nat) (x y : Itm), c[j]? = some x → d[j]? = some y → x.2 ≤ y.2
def CTab : Tbl → Prop
  | [] => True
  | c :: cs => Strict c ∧ CO c (cs.headD []) ∧ CTab cs
theorem co_nil (c : List Itm) : CO c [] := ⟨Nat.zero_le _, fun j x y _ h => by simp at h⟩
theorem cpos_le {a b d : List Itm} {y : Itm} (ho : CO (a ++ y :: b) d) : cPos y.2 d ≤ a.length := by
  have hp : (a ++ y :: b)[a.length]? = some y := by simp
  cases colC y.2 d with
  | app h1 h2 h3 =>
    rw [h2]
    refine Classical.byContradiction fun hn => ?_
    have hl : a.length < d.length := by omega
    have := ho.2 a.length y d[a.length] hp (List.getElem?_eq_getElem hl)
    have := h3 _ (List.getElem_mem hl)
    omega
  | bump a2 b2 y2 h1 h2 h3 h4 h5 =>
    rw [h3]
    refine Classical.byContradiction fun hn => ?_
    have hl : a.length < a2.length := by (clear h3 h5; omega)
    have e : d[a.length]? = some a2[a.length] := by rw [h1, List.getElem?_append_left hl]; exact List.getElem?_eq_getElem hl
    have := ho.2 a.length y _ hp e
    have := h4 _ (List.getElem_mem hl)
    omega
theorem co_bump {a b d : List Itm} {y : Itm} {x : Int} (ho : CO (a ++ y :: b) d) (ha : ∀ z ∈ a, z.2 < x) (hxy : x ≤ y.2) : CO (a ++ (0, x) :: b) (cIns y.2 d).1 := by
  have hp := cpos_le ho
  obtain ⟨ho1, ho2⟩ := ho
  have hle : ∀ (j : Nat) (u : Itm), (a ++ (0, x) :: b)[j]? = some u → ∃ u', (a ++ y :: b)[j]? = some u' ∧ u.2 ≤ u'.2 := by
    intro j u hu
    rcases Nat.lt_trichotomy j a.length with h | h | h
    · rw [List.getElem?_append_left h] at hu
      exact ⟨u, by rw [List.getElem?_append_left h]; exact hu, Int.le_refl _⟩
    · subst h
      simp at hu
      subst hu
      exact ⟨y, by simp, hxy⟩
    · rw [List.getElem?_append_right (by (clear hxy hp ho1; omega))] at hu
      obtain ⟨i, hi⟩ : ∃ i, j - a.length = i + 1 := ⟨j - a.length - 1, by (clear hxy hp ho1; omega)⟩
      rw [hi, List.getElem?_cons_succ] at hu
      exact ⟨u, by rw [List.getElem?_append_right (by (clear hxy hp ho1 hi; omega)), hi, List.getElem?_cons_succ]; exact hu, Int.le_refl _⟩
  have hat : ∀ (j : Nat) (u : Itm), j ≤ a.length → (a ++ (0, x) :: b)[j]? = some u → u.2 ≤ x := by
    intro j u hj hu
    rcases Nat.lt_or_eq_of_le hj with h | h
    · rw [List.getElem?_append_left h] at hu
      exact Int.le_of_lt (ha u (List.mem_of_getElem? hu))
    · subst h; simp at hu; subst hu; exact Int.le_refl _
  have hlen : (a ++ (0, x) :: b).length = (a ++ y :: b).length := by simp
  cases colC y.2 d with
  | app h1 h2 h3 =>
    rw [h1]
    refine ⟨by rw [List.length_append, hlen]; simp at ho1 ⊢; (clear hxy hlen ho1; omega), fun j u v hu hv => ?_⟩
    by_cases hj : j < d.length
    · rw [List.getElem?_append_left hj] at hv
      obtain ⟨u', e1, e2⟩ := hle j u hu
      have := ho2 j u' v e1 hv
      (clear hxy hp ho1 hlen h2 hj; omega)
    · rw [List.getElem?_append_right (by (clear hxy hp ho1 hlen h2; omega))] at hv
      have hj' : j - d.length = 0 := by
        refine Classical.byContradiction fun hn => ?_
        rw [List.getElem?_eq_none (by simp; (clear hxy hp ho1 hlen h2 hj; omega))] at hv; cases hv
      rw [hj'] at hv
      simp at hv
      subst hv
      have := hat j u (by (clear hxy ho1 hlen hj; omega)) hu
      show u.2 ≤ y.2
      (clear hp ho1 hlen h2 hj hj'; omega)
  | bump a2 b2 y2 h1 h2 h3 h4 h5 =>
    rw [h2]
    have hl2 : (a2 ++ (0, y.2) :: b2).length = d.length := by rw [h1]; simp
    refine ⟨by rw [hlen, hl2]; exact ho1, fun j u v hu hv => ?_⟩
    rcases Nat.lt_trichotomy j a2.length with h | h | h
    · rw [List.getElem?_append_left h] at hv
      obtain ⟨u', e1, e2⟩ := hle j u hu
      have := ho2 j u' v e1 (by rw [h1, List.getElem?_append_left h]; exact hv)
      (clear hxy hp ho1 hlen h3 h5 hl2 h; omega)
    · subst h
      simp at hv
      subst hv
      have := hat _ u (by (clear hxy ho1 hlen h5 hl2; omega)) hu
      show u.2 ≤ y.2
      (clear hp ho1 hlen h3 h5 hl2; omega)
    · rw [List.getElem?_append_right (by (clear hxy hp ho1 hlen h3 h5 hl2; omega))] at hv
      obtain ⟨i, hi⟩ : ∃ i, j - a2.length = i + 1 := ⟨j - a2.length - 1, by (clear hxy hp ho1 hlen h3 h5 hl2; omega)⟩
      rw [hi, List.getElem?_cons_succ] at hv
      obtain ⟨u', e1, e2⟩ := hle j u hu
      have := ho2 j u' v e1 (by rw [h1, List.getElem?_append_right (by (clear hxy hp ho1 hlen h3 h5 hl2 hi e2; omega)), hi, List.getElem?_cons_succ]; exact hv)
      (clear hxy hp ho1 hlen h3 h5 hl2 h hi; omega)
theorem cT_head (x : Int) (T : Tbl) : (cT x T).headD [] = (cIns x (T.headD [])).1 := by
  cases T with
  | nil => rfl
  | cons r rs =>
    rw [cT]
    split <;> rfl
theorem ctab_cT : ∀ (T : Tbl) (x : Int), CTab T → CTab (cT x T)
  | [], x, _ => by
    show CTab [[(0, x)]]
    exact ⟨List.pairwise_singleton _ _, co_nil _, True.intro⟩
  | c :: cs, x, ⟨h1, h2, h3⟩ => by
    rw [cT]
    have hs := h1.cIns x
    cases colC x c with
    | app k1 k2 k3 =>
      rw [k1] at hs ⊢
      refine ⟨hs, ⟨Nat.le_trans h2.1 (by rw [List.length_append]; exact Nat.le_add_right _ _), fun j u v hu hv => ?_⟩, h3⟩
      have hj : j < (cs.headD []).length := (List.getElem?_eq_some_iff.mp hv).1
      rw [List.getElem?_append_left (by have := h2.1; omega)] at hu
      exact h2.2 j u v hu hv
    | bump a b y k1 k2 k3 k4 k5 =>
      rw [k2] at hs ⊢
      refine ⟨hs, ?_, ctab_cT cs y.2 h3⟩
      show CO (a ++ (0, x) :: b) ((cT y.2 cs).headD [])
      rw [cT_head]
      rw [k1] at h2
      exact co_bump h2 k4 k5

/-! the column word -/
noncomputable def cw : Tbl → List Int
  | [] => []
  | c :: cs => (c.map (·.2)).reverse ++ cw cs
theorem Strict.fall {c : List Itm} (h : Strict c) : Fall (c.map (·.2)).reverse := by
  unfold Fall
  rw [List.pairwise_reverse, List.pairwise_map]
  exact h
theorem CTab.strict : ∀ {T : Tbl}, CTab T → ∀ c ∈ T, Strict c
  | [], _ => fun r h => by cases h
  | r :: rs, ⟨h1, _, h3⟩ => fun s hs => by
    rcases List.mem_cons.mp hs with e | hs
    · rw [e]; exact h1
    · exact CTab.strict h3 s hs
theorem cw_cT : ∀ (T : Tbl) (x : Int), CTab T → Kn (x :: cw T) (cw (cT x T))
  | [], x, _ => .refl _
  | c :: cs, x, ⟨h1, h2, h3⟩ => by
    rw [cT]
    cases colC x c with
    | app k1 k2 k3 =>
      rw [k1]
      show Kn (x :: ((c.map (·.2)).reverse ++ cw cs)) (((c ++ [(0, x)]).map fun p : Itm => p.2).reverse ++ cw cs)
      simp
      exact .refl _
    | bump a b y k1 k2 k3 k4 k5 =>
      rw [k2]
      show Kn (x :: ((c.map (·.2)).reverse ++ cw cs)) (((a ++ (0, x) :: b).map fun p : Itm => p.2).reverse ++ cw (cT y.2 cs))
      have ih := (cw_cT cs y.2 h3).left ((a ++ (0, x) :: b).map fun p : Itm => p.2).reverse
      refine Kn.trans ?_ ih
      rw [k1] at h1
      obtain ⟨s1, s2, s3, s4, s5⟩ := h1.split
      have hk := col_kn (d := (b.map fun p : Itm => p.2).reverse) (e := (a.map fun p : Itm => p.2).reverse) (x := x) (y := y.2) s2.fall s1.fall (fun z hz => by
        obtain ⟨p, hp, rfl⟩ := List.mem_map.mp (List.mem_reverse.mp hz); exact s4 p hp) (fun z hz => by
        obtain ⟨p, hp, rfl⟩ := List.mem_map.mp (List.mem_reverse.mp hz); exact k4 p hp) k5
      have hk2 := hk.right (cw cs)
      rw [k1]
      simpa using hk2

noncomputable def CT (w : List Int) : Tbl := w.foldr cT []
theorem ctab_CT : ∀ w, CTab (CT w)
  | [] => True.intro
  | x :: w => ctab_cT _ x (ctab_CT w)
theorem kn_CT : ∀ w, Kn (cw (CT w)) w
  | [] => .refl _
  | x :: w => ((cw_cT (CT w) x (ctab_CT w)).symm).trans ((kn_CT w).left [x])

/-! Greene's numbers of the columns -/
noncomputable def colsum (k : Nat) (C : Tbl) : Nat := (C.map fun c => min k c.length).sum
theorem cgood_le : ∀ {C : Tbl} {k : Nat} {s : List Int}, (∀ c ∈ C, Strict c) → s.Sublist (cw C) → Good k s → s.length ≤ colsum k C
  | [], k, s, _, hs, _ => by rw [List.sublist_nil.mp hs]; exact Nat.zero_le _
  | c :: cs, k, s, h, hs, hg => by
    obtain ⟨s1, s2, rfl, h1, h2⟩ := List.sublist_append_iff.mp hs
    have e1 := hg s1 (List.sublist_append_left _ _) ((h c (.head _)).fall.sublist h1)
    have e2 : s1.length ≤ c.length := by simpa using h1.length_le
    have e3 := cgood_le (fun d hd => h d (.tail _ hd)) h2 (hg.sub (List.sublist_append_right _ _))
    show _ ≤ min k c.length + colsum k cs
    rw [List.length_append]
    omega
/-- the first row -/
noncomputable def row1 : Tbl → List Int
  | [] => []
  | [] :: cs => row1 cs
  | (a :: _) :: cs => a.2 :: row1 cs
theorem split_row : ∀ (C : Tbl) (s : List Int), s.Sublist (cw C) → ∃ e s' : List Int, e.Sublist (row1 C) ∧ s'.Sublist (cw (tlT C)) ∧ s.length = e.length + s'.length ∧ e.Sublist s ∧ s'.Sublist s
  | [], s, h => ⟨[], [], .slnil, .slnil, by rw [List.sublist_nil.mp h]; rfl, List.nil_sublist _, List.nil_sublist _⟩
  | c :: cs, s, h => by
    obtain ⟨s1, s2, rfl, h1, h2⟩ := List.sublist_append_iff.mp h
    obtain ⟨e, s', k1, k2, k3, k4, k5⟩ := split_row cs s2 h2
    cases c with
    | nil =>
      obtain rfl := List.sublist_nil.mp h1
      exact ⟨e, s', k1, k2, by simpa using k3, k4, k5⟩
    | cons a r =>
      have h1' : s1.Sublist ((r.map fun p : Itm => p.2).reverse ++ [a.2]) := by simpa using h1
      obtain ⟨d, e0, rfl, h3, h4⟩ := List.sublist_append_iff.mp h1'
      refine ⟨e0 ++ e, d ++ s', ?_, h3.append k2, by simp; omega, (List.sublist_append_right _ _).append k4, (List.sublist_append_left _ _).append k5⟩
      exact h4.append k1
theorem co_tail {c d : List Itm} (h : CO c d) : CO c.tail d.tail := by
  cases d with
  | nil => exact co_nil _
  | cons b s =>
    cases c with
    | nil => have := h.1; simp at this
    | cons a r => exact ⟨by simpa using h.1, fun j x y h1 h2 => h.2 (j + 1) x y (by simpa using h1) (by simpa using h2)⟩
theorem ctab_tl : ∀ {T : Tbl}, CTab T → CTab (tlT T)
  | [], _ => True.intro
  | r :: rs, ⟨h1, h2, h3⟩ => by
    refine ⟨List.Pairwise.sublist (List.tail_sublist r) h1, ?_, ctab_tl h3⟩
    have := co_tail h2
    cases rs with
    | nil => exact co_nil _
    | cons s rs => exact this
theorem row1_above : ∀ {cs : Tbl} {c : List Itm}, CO c (cs.headD []) → CTab cs → ∀ z ∈ row1 cs, ∃ a, c.head? = some a ∧ a.2 ≤ z
  | [], _, _, _, z, h => by cases h
  | d :: cs, c, ho, ⟨h1, h2, h3⟩, z, hz => by
    cases d with
    | nil =>
      obtain ⟨a, ha, _⟩ := row1_above h2 h3 z hz
      cases ha
    | cons b s =>
      have ho' : CO c (b :: s) := ho
      cases c with
      | nil => have := ho'.1; simp at this
      | cons a r =>
        have hab : a.2 ≤ b.2 := ho'.2 0 a b rfl rfl
        refine ⟨a, rfl, ?_⟩
        rcases List.mem_cons.mp hz with e | hz
        · omega
        · obtain ⟨b', e, h⟩ := row1_above h2 h3 z hz
          cases e
          omega
theorem row1_sorted : ∀ {C : Tbl}, CTab C → (row1 C).Pairwise (· ≤ ·)
  | [], _ => .nil
  | [] :: cs, h => row1_sorted (C := cs) h.2.2
  | (a :: r) :: cs, h => by
    refine List.pairwise_cons.mpr ⟨fun z hz => ?_, row1_sorted h.2.2⟩
    obtain ⟨a', e, k⟩ := row1_above h.2.1 h.2.2 z hz
    cases e
    exact k
theorem cfall : ∀ (k : Nat) {C : Tbl} {c : List Int}, CTab C → (∀ d ∈ C, d.length ≤ k) → c.Sublist (cw C) → Fall c → c.length ≤ k
  | 0, C, c, hC, hk, hc, hf => by
    have : cw C = [] := by
      clear hC hc
      induction C with
      | nil => rfl
      | cons d C ih =>
        obtain rfl : d = [] := List.length_eq_zero_iff.mp (by have := hk d (.head _); omega)
        exact ih fun e he => hk e (.tail _ he)
    rw [this] at hc
    rw [List.sublist_nil.mp hc]
    exact Nat.le_refl _
  | k + 1, C, c, hC, hk, hc, hf => by
    obtain ⟨e, s', h1, h2, h3, h4, h5⟩ := split_row C c hc
    have e1 := fall_sorted (hf.sublist h4) (List.Pairwise.sublist h1 (row1_sorted hC))
    have e2 := cfall k (ctab_tl hC) (fun r hr => by
      obtain ⟨q, hq, rfl⟩ := List.mem_map.mp hr
      have := hk q hq
      rw [List.length_tail]; (clear h3 e1; omega)) h2 (hf.sublist h5)
    omega
theorem ctab_take (k : Nat) : ∀ {T : Tbl}, CTab T → CTab (T.map (List.take k))
  | [], _ => True.intro
  | c :: cs, ⟨h1, h2, h3⟩ => by
    refine ⟨List.Pairwise.sublist (List.take_sublist _ _) h1, ?_, ctab_take k h3⟩
    have hh : ((cs.map (List.take k)).headD []) = (cs.headD []).take k := by cases cs <;> simp
    rw [hh]
    refine ⟨by rw [List.length_take, List.length_take]; have := h2.1; omega, fun j u v hu hv => ?_⟩
    rw [List.getElem?_take] at hu hv
    split at hu
    · rename_i hj
      rw [if_pos hj] at hv
      exact h2.2 j u v hu hv
    · cases hu
theorem cw_take (k : Nat) : ∀ C : Tbl, (cw (C.map (List.take k))).Sublist (cw C)
  | [] => .slnil
  | c :: cs => ((((List.take_sublist k c).map _).reverse)).append (cw_take k cs)
theorem cw_len (k : Nat) : ∀ C : Tbl, (cw (C.map (List.take k))).length = colsum k C
  | [] => rfl
  | c :: cs => by
    show (((c.take k).map (·.2)).reverse ++ cw (cs.map (List.take k))).length = min k c.length + colsum k cs
    rw [List.length_append, cw_len k cs]
    simp
theorem greene_col {C : Tbl} (hC : CTab C) (k : Nat) : G (cw C) k (colsum k C) := by
  refine ⟨⟨_, cw_take k C, fun c hc hf => cfall k (ctab_take k hC) (fun d hd => ?_) hc hf, cw_len k C⟩, ?_⟩
  · obtain ⟨q, _, rfl⟩ := List.mem_map.mp hd
    rw [List.length_take]; omega
  · rintro m ⟨s, h1, h2, rfl⟩
    exact cgood_le hC.strict h1 h2

theorem cw_flt (t : Int) : ∀ T : Tbl, cw (flt t T) = (cw T).filter fun x => decide (x ≤ t)
  | [] => rfl
  | r :: rs => by
    show ((r.filter _).map (·.2)).reverse ++ cw (flt t rs) = ((r.map (·.2)).reverse ++ cw rs).filter _
    rw [List.filter_append, cw_flt t rs, List.filter_reverse, List.filter_map]
    rfl
theorem co_cons {a b : Itm} {r s : List Itm} : CO (a :: r) (b :: s) ↔ a.2 ≤ b.2 ∧ CO r s := by
  constructor
  · intro h
    exact ⟨h.2 0 a b rfl rfl, co_tail h⟩
  · rintro ⟨h1, h2, h3⟩
    refine ⟨by simpa using h2, fun j x y hx hy => ?_⟩
    cases j with
    | zero => simp at hx hy; subst hx hy; exact h1
    | succ j => exact h3 j x y (by simpa using hx) (by simpa using hy)
theorem co_filter (t : Int) : ∀ {r s : List Itm}, Strict s → CO r s → CO (r.filter fun p => decide (p.2 ≤ t)) (s.filter fun p => decide (p.2 ≤ t))
  | r, [], _, _ => co_nil _
  | [], b :: s, _, h => by have := h.1; simp at this
  | a :: r, b :: s, hs, h => by
    obtain ⟨h1, h2⟩ := co_cons.mp h
    by_cases hb : b.2 ≤ t
    · have ha : a.2 ≤ t := by omega
      rw [List.filter_cons, List.filter_cons, if_pos (by simpa using ha), if_pos (by simpa using hb)]
      exact co_cons.mpr ⟨h1, co_filter t (List.pairwise_cons.mp hs).2 h2⟩
    · have : (b :: s).filter (fun p => decide (p.2 ≤ t)) = [] := by
        refine List.filter_eq_nil_iff.mpr fun z hz => ?_
        rcases List.mem_cons.mp hz with e | hz
        · subst e; simpa using hb
        · have : b.2 < z.2 := (List.pairwise_cons.mp hs).1 z hz
          simp; omega
      rw [this]
      exact co_nil _
theorem ctab_flt (t : Int) : ∀ {T : Tbl}, CTab T → CTab (flt t T)
  | [], _ => True.intro
  | r :: rs, ⟨h1, h2, h3⟩ => by
    refine ⟨List.Pairwise.sublist List.filter_sublist h1, ?_, ctab_flt t h3⟩
    cases rs with
    | nil => exact co_nil _
    | cons s rs => exact co_filter t h3.1 h2
theorem G_CT (w : List Int) (t : Int) (k : Nat) : G (w.filter fun x => decide (x ≤ t)) k (colsum k (flt t (CT w))) := by
  refine (greene_col (ctab_flt t (ctab_CT w)) k).of fun m => has_kn ?_ k m
  rw [cw_flt]
  exact (kn_CT w).filter t

/-! the columns read as rows -/
noncomputable def rl (l : Nat) (C : Tbl) : List Itm := C.filterMap fun c => c[l]?
theorem rl_cons (l : Nat) (c : List Itm) (cs : Tbl) : rl l (c :: cs) = (c[l]?).toList ++ rl l cs := by
  unfold rl
  rw [List.filterMap_cons]
  cases c[l]? <;> rfl
theorem strict_count (t : Int) : ∀ {c : List Itm} {l : Nat} {v : Itm}, Strict c → c[l]? = some v → (v.2 ≤ t ↔ l < (c.filter fun p => decide (p.2 ≤ t)).length)
  | [], l, v, _, h => by simp at h
  | a :: c, l, v, hs, h => by
    obtain ⟨h1, h2⟩ := List.pairwise_cons.mp hs
    by_cases ha : a.2 ≤ t
    · rw [List.filter_cons, if_pos (by simpa using ha)]
      cases l with
      | zero => simp at h; subst h; simpa using ha
      | succ l =>
        have := strict_count t (l := l) h2 (by simpa using h)
        rw [this, List.length_cons]
        omega
    · have hn : (a :: c).filter (fun p => decide (p.2 ≤ t)) = [] := by
        refine List.filter_eq_nil_iff.mpr fun z hz => ?_
        rcases List.mem_cons.mp hz with e | hz
        · subst e; simpa using ha
        · have := h1 z hz
          simp; omega
      rw [hn]
      have hv : a.2 ≤ v.2 := by
        cases l with
        | zero => simp at h; subst h; exact Int.le_refl _
        | succ l => exact Int.le_of_lt (h1 v (List.mem_of_getElem? (by simpa using h)))
      simp
      omega
theorem rl_count (t : Int) (l : Nat) : ∀ {C : Tbl}, (∀ c ∈ C, Strict c) → ((rl l C).filter fun p => decide (p.2 ≤ t)).length = (C.map fun c => if l < (c.filter fun p => decide (p.2 ≤ t)).length then 1 else 0).sum
  | [], _ => rfl
  | c :: cs, h => by
    rw [rl_cons, List.filter_append, List.length_append, rl_count t l fun d hd => h d (.tail _ hd), List.map_cons, List.sum_cons]
    congr 1
    cases e : c[l]? with
    | none =>
      have h1 := List.getElem?_eq_none_iff.mp e
      have h2 := List.length_filter_le (fun p : Itm => decide (p.2 ≤ t)) c
      rw [if_neg (by omega)]; rfl
    | some v =>
      have := strict_count t (h c (.head _)) e
      by_cases hv : v.2 ≤ t
      · rw [if_pos (this.mp hv)]; simp [hv]
      · rw [if_neg (fun x => hv (this.mpr x))]; simp [hv]
theorem colsum_succ (k : Nat) : ∀ C : Tbl, colsum (k + 1) C = colsum k C + (C.map fun c => if k < c.length then 1 else 0).sum
  | [] => rfl
  | c :: cs => by
    have ih := colsum_succ k cs
    unfold colsum at ih ⊢
    rw [List.map_cons, List.sum_cons, List.map_cons, List.sum_cons, List.map_cons, List.sum_cons, ih]
    split <;> (clear ih; omega)
theorem co_len : ∀ {cs : Tbl} {c : List Itm}, CO c (cs.headD []) → CTab cs → ∀ d ∈ cs, d.length ≤ c.length
  | [], _, _, _, d, h => by cases h
  | e :: cs, c, ho, ⟨h1, h2, h3⟩, d, hd => by
    have := ho.1
    rcases List.mem_cons.mp hd with e1 | hd
    · rw [e1]; exact this
    · have h4 := co_len h2 h3 d hd
      exact Nat.le_trans h4 this
theorem turn_getD {C : Tbl} (hC : CTab C) (l : Nat) : (turnM C).getD l [] = rl l C := by
  unfold turnM List.getD
  rw [List.getElem?_map]
  by_cases h : l < (C.getD 0 []).length
  · have h' : l < (C[0]?.getD []).length := h
    rw [List.getElem?_range h']; rfl
  · have h' : ¬ l < (C[0]?.getD []).length := h
    rw [List.getElem?_eq_none (by simp at h' ⊢; exact h')]
    show [] = rl l C
    unfold rl
    refine (List.filterMap_eq_nil_iff.mpr fun c hc => ?_).symm
    refine List.getElem?_eq_none ?_
    cases C with
    | nil => cases hc
    | cons d C =>
      have h'' : ¬ l < d.length := h
      rcases List.mem_cons.mp hc with e | hc
      · rw [e]; (clear h h'; omega)
      · have := co_len hC.2.1 hC.2.2 c hc; (clear h h'; omega)
theorem turn_count {C : Tbl} (hC : CTab C) (t : Int) : ∀ k, rowsum k (flt t (turnM C)) = colsum k (flt t C)
  | 0 => by
    simp [rowsum, colsum]
    induction flt t C with
    | nil => rfl
    | cons c cs ih => simpa using ih
  | k + 1 => by
    rw [rowsum_succ, colsum_succ, turn_count hC t k, flt_getD, turn_getD hC, rl_count t k hC.strict]
    unfold flt
    rw [List.map_map]
    rfl
theorem rl_sorted : ∀ {C : Tbl}, CTab C → ∀ l, SortedK (rl l C)
  | [], _, l => .nil
  | c :: cs, ⟨h1, h2, h3⟩, l => by
    have ih := rl_sorted h3 l
    rw [rl_cons]
    cases e : c[l]? with
    | none => exact ih
    | some v =>
      show SortedK (v :: rl l cs)
      refine List.pairwise_cons.mpr ⟨fun z hz => ?_, ih⟩
      obtain ⟨p, hp, rfl⟩ := List.mem_map.mp hz
      have key : ∀ {cs : Tbl} {c : List Itm} {v : Itm}, CO c (cs.headD []) → CTab cs → c[l]? = some v → ∀ p ∈ rl l cs, v.2 ≤ p.2 := by
        intro cs
        induction cs with
        | nil => intro c v _ _ _ p hp; cases hp
        | cons d cs ih =>
          intro c v ho hC hv p hp
          rw [rl_cons] at hp
          have ho' : CO c d := ho
          cases e2 : d[l]? with
          | none =>
            rw [e2] at hp
            have hl := List.getElem?_eq_none_iff.mp e2
            have hp' : p ∈ rl l cs := hp
            obtain ⟨q, hq, hqp⟩ := List.mem_filterMap.mp hp'
            have := co_len hC.2.1 hC.2.2 q hq
            have := (List.getElem?_eq_some_iff.mp hqp).1
            omega
          | some u =>
            rw [e2] at hp
            have huv := ho'.2 l v u hv e2
            rcases List.mem_append.mp hp with hp | hp
            · simp at hp; subst hp; exact huv
            · have := ih hC.2.1 hC.2.2 e2 p hp
              omega
      exact key h2 h3 e p hp
theorem turn_keys {w : List Int} (b : Bool) {ps : List Itm} (hw : ps.map (fun p => p.2) = w) : (turnM (CT w)).map (fun r => r.map (·.2)) = (PQ b ps).1.map fun r => r.map (·.2) := by
  have hC := ctab_CT w
  have hmem : ∀ r ∈ turnM (CT w), ∃ l, l < ((CT w).getD 0 []).length ∧ r = rl l (CT w) := fun r hr => by
    obtain ⟨l, hl, e⟩ := List.mem_map.mp hr
    exact ⟨l, List.mem_range.mp hl, e.symm⟩
  refine rows_eq (fun r hr => ?_) (inv b ps).tab.sorted (fun r hr hn => ?_) (inv b ps).ne fun t k => ?_
  · obtain ⟨l, _, rfl⟩ := hmem r hr
    exact rl_sorted hC l
  · obtain ⟨l, hl, rfl⟩ := hmem r hr
    cases e : CT w with
    | nil => rw [e] at hl; exact Nat.not_lt_zero _ hl
    | cons c cs =>
      rw [e] at hl hn
      have hl' : l < c.length := hl
      rw [rl_cons, List.getElem?_eq_getElem hl'] at hn
      cases hn
  · rw [turn_count hC]
    have g1 := G_CT w t k
    rw [← hw] at g1 ⊢
    exact g1.eq (G_flt b ps t k)

/-! the model of the columns -/
theorem bL_col {c : List Itm} {x : Int} {edge : Option Nat} (hs : Strict c) (he : ∀ e, edge = some e → cPos x c ≤ e) : bL (c.map (·.2)) x (c.map (·.2)).length 0 (hiOf edge c) = cPos x c := by
  have hpl : cPos x c ≤ c.length := by
    cases colC x c with
    | app k1 k2 k3 => omega
    | bump a b y k1 k2 k3 k4 k5 => rw [k3, k1]; simp
  have hh : cPos x c ≤ hiOf edge c ∧ hiOf edge c ≤ c.length := by
    unfold hiOf
    cases edge with
    | none => exact ⟨hpl, Nat.le_refl _⟩
    | some e => exact ⟨by have := he e rfl; simp; omega, by simp; omega⟩
  refine bL_spec _ _ _ (Nat.zero_le _) hh.1 (by rw [List.length_map]; omega) (fun i hi => ?_) fun i h1 h2 => ?_
  · rw [key_getD (by omega)]
    cases colC x c with
    | app k1 k2 k3 => exact k3 _ (List.getElem_mem _)
    | bump a b y k1 k2 k3 k4 k5 =>
      rw [k3] at hi
      refine k4 _ ?_
      have : c[i]? = a[i]? := by rw [k1, List.getElem?_append_left hi]
      rw [List.getElem?_eq_getElem (by omega)] at this
      exact List.mem_of_getElem? this.symm
  · rw [key_getD (by omega)]
    cases colC x c with
    | app k1 k2 k3 => omega
    | bump a b y k1 k2 k3 k4 k5 =>
      rw [k3] at h1
      have e : (y :: b)[i - a.length]? = some c[i] := by
        rw [← List.getElem?_append_right (l₁ := a) h1, ← k1]
        exact List.getElem?_eq_getElem _
      rw [k1] at hs
      obtain ⟨_, _, _, s4, _⟩ := hs.split
      rcases List.mem_cons.mp (List.mem_of_getElem? e) with e2 | e2
      · rw [e2]; exact k5
      · have := s4 _ e2; omega
theorem colGo_eq : ∀ (T U : Tbl) (f : Nat) (x : Int) (edge : Option Nat), CTab T → T.length < f → (∀ e, edge = some e → cPos x (T.headD []) ≤ e) → colGo f U.length (U ++ T) x edge = U ++ cT x T
  | T, U, 0, x, edge, _, h, _ => absurd h (Nat.not_lt_zero _)
  | [], U, f + 1, x, edge, hT, hf, he => by
    rw [colGo]
    have e1 : growT U.length (U ++ []) = U ++ [[]] := by unfold growT; rw [if_pos (by simp)]; simp
    have e2 : (U ++ [[]] : Tbl).getD U.length [] = [] := by simp [List.getD]
    have e3 : bL (([] : List Itm).map (·.2)) x (([] : List Itm).map (·.2)).length 0 (hiOf edge []) = 0 := by
      rw [bL_col (show Strict [] from List.Pairwise.nil) he]; rfl
    simp only [e1, e2, e3]
    have e4 : insAt [] 0 (0, x) = [(0, x)] := rfl
    rw [e4, if_pos (show 0 + 1 = [((0 : Int), x)].length from rfl)]
    simp [cT]
  | c :: cs, U, f + 1, x, edge, ⟨h1, h2, h3⟩, hf, he => by
    rw [colGo]
    have e1 : growT U.length (U ++ c :: cs) = U ++ c :: cs := by unfold growT; rw [if_neg (by simp)]
    have e2 : (U ++ c :: cs : Tbl).getD U.length [] = c := by simp [List.getD]
    have e3 : bL (c.map (·.2)) x (c.map (·.2)).length 0 (hiOf edge c) = cPos x c := bL_col h1 he
    simp only [e1, e2, e3]
    rw [cT]
    cases colC x c with
    | app k1 k2 k3 =>
      rw [k1, k2, insAt_app, if_pos (by simp)]
      simp
    | bump a b y k1 k2 k3 k4 k5 =>
      rw [k2, k3]
      rw [k1, insAt_mid, if_neg (by simp)]
      have e5 : (a ++ (0, x) :: y :: b).eraseIdx (a.length + 1) = a ++ (0, x) :: b := by
        rw [List.eraseIdx_append_of_length_le (by (clear hf e3 k3 k5; omega))]
        simp
      have e6 : (a ++ (0, x) :: y :: b).getD (a.length + 1) (0, 0) = y := by simp [List.getD]
      rw [e5, e6]
      have e7 : (U ++ (a ++ y :: b) :: cs : Tbl).set U.length (a ++ (0, x) :: b) = (U ++ [a ++ (0, x) :: b]) ++ cs := by simp
      rw [e7]
      have ih := colGo_eq cs (U ++ [a ++ (0, x) :: b]) f y.2 (some a.length) h3 (by simp at hf; omega) (fun e h => by
        cases h
        rw [k1] at h2
        exact cpos_le h2)
      rw [List.length_append] at ih
      refine ih.trans ?_
      simp
theorem cT_len : ∀ (T : Tbl) (x : Int), (cT x T).length ≤ T.length + 1 ∧ 0 < (cT x T).length
  | [], x => ⟨Nat.le_refl _, Nat.one_pos⟩
  | c :: cs, x => by
    rw [cT]
    cases colC x c with
    | app k1 k2 k3 => rw [k1]; exact ⟨by simp, by simp⟩
    | bump a b y k1 k2 k3 k4 k5 =>
      rw [k2]
      have := (cT_len cs y.2).1
      exact ⟨by simp; omega, by simp⟩
theorem CT_len : ∀ w : List Int, (CT w).length ≤ w.length
  | [] => Nat.le_refl _
  | x :: w => by
    have h1 := (cT_len (CT w) x).1
    have h2 := CT_len w
    show (cT x (CT w)).length ≤ w.length + 1
    omega
theorem colsM_CT (word : List Int) : colsM word = CT word := by
  unfold colsM
  rw [List.foldl_reverse]
  have key : ∀ w : List Int, w.length ≤ word.length → w.foldr (fun x st => colStep word.length st x) [] = CT w := by
    intro w
    induction w with
    | nil => intro _; rfl
    | cons x w ih =>
      intro h
      rw [List.length_cons] at h
      rw [List.foldr_cons, ih (by omega)]
      have := colGo_eq (CT w) [] word.length x none (ctab_CT w) (by have := CT_len w; omega) (fun e h => by cases h)
      exact this
  exact key word (Nat.le_refl _)

-- part TI
theorem fm : ∀ (l : List Int) (a : Int), (l.foldl max a = a ∨ l.foldl max a ∈ l) ∧ a ≤ l.foldl max a ∧ ∀ z ∈ l, z ≤ l.foldl max a
  | [], a => ⟨.inl rfl, Int.le_refl _, fun z h => by cases h⟩
  | b :: l, a => by
    obtain ⟨h1, h2, h3⟩ := fm l (max a b)
    rw [List.foldl_cons]
    refine ⟨?_, by omega, fun z hz => ?_⟩
    · rcases h1 with h | h
      · rcases Int.le_total a b with k | k
        · right; rw [h, Int.max_eq_right k]; exact .head _
        · left; rw [h, Int.max_eq_left k]
      · right; exact .tail _ h
    · rcases List.mem_cons.mp hz with e | hz
      · subst e; omega
      · exact h3 z hz

noncomputable def mkC (ch : List Itm) (s : List Int) : List Itm := s.foldl (fun ch x => ch ++ [(x, fallOf ch x)]) ch
theorem mkC_snoc (ch : List Itm) (s : List Int) (x : Int) : mkC ch (s ++ [x]) = mkC ch s ++ [(x, fallOf (mkC ch s) x)] := by
  unfold mkC; rw [List.foldl_append]; rfl
theorem mkC_len (ch : List Itm) : ∀ s : List Int, (mkC ch s).length = ch.length + s.length := fun s => by
  refine snoc_ind (C := fun s => (mkC ch s).length = ch.length + s.length) rfl (fun s x ih => ?_) s
  rw [mkC_snoc, List.length_append, ih, List.length_append]
  simp [Nat.add_assoc]

theorem choices_sem : ∀ (w : List Int) (ch : List Itm) (best : List Int),
    (∀ s : List Int, s.Sublist w → (deepOf (mkC ch s)).toNat < best.length → ((mkC ch s).length : Int) ≤ (choicesM w ch best).getD (deepOf (mkC ch s)).toNat 0) ∧
    (∀ d, d < best.length → (choicesM w ch best).getD d 0 = best.getD d 0 ∨ ∃ s : List Int, s.Sublist w ∧ (deepOf (mkC ch s)).toNat = d ∧ (choicesM w ch best).getD d 0 = ((mkC ch s).length : Int)) ∧
    ∀ d, d < best.length → best.getD d 0 ≤ (choicesM w ch best).getD d 0
  | [], ch, best => by
    have hg : ∀ d, d < best.length → (choicesM [] ch best).getD d 0 = if d = (deepOf ch).toNat then max (best.getD (deepOf ch).toNat 0) ch.length else best.getD d 0 := fun d hd => by
      rw [choicesM]
      unfold List.getD
      by_cases h : d = (deepOf ch).toNat
      · subst h
        rw [List.getElem?_set_self hd, if_pos rfl]; rfl
      · rw [List.getElem?_set_ne (Ne.symm h), if_neg h]
    refine ⟨fun s hs hd => ?_, fun d hd => ?_, fun d hd => ?_⟩
    · obtain rfl := List.sublist_nil.mp hs
      have hd' : (deepOf ch).toNat < best.length := hd
      show (ch.length : Int) ≤ (choicesM [] ch best).getD (deepOf ch).toNat 0
      rw [hg _ hd', if_pos rfl]
      exact Int.le_max_right _ _
    · rw [hg d hd]
      by_cases h : d = (deepOf ch).toNat
      · rw [if_pos h]
        rcases Int.le_total (best.getD (deepOf ch).toNat 0) ch.length with k | k
        · exact .inr ⟨[], List.Sublist.refl _, h.symm, Int.max_eq_right k⟩
        · left; rw [h]; exact Int.max_eq_left k
      · rw [if_neg h]; exact .inl rfl
    · rw [hg d hd]
      by_cases h : d = (deepOf ch).toNat
      · rw [if_pos h, h]; exact Int.le_max_left _ _
      · rw [if_neg h]; exact Int.le_refl _
  | x :: r, ch, best => by
    obtain ⟨a1, a2, a3⟩ := choices_sem r ch best
    obtain ⟨b1, b2, b3⟩ := choices_sem r (ch ++ [(x, fallOf ch x)]) (choicesM r ch best)
    rw [choicesM_len] at b1 b2 b3
    rw [choicesM]
    refine ⟨fun s hs hd => ?_, fun d hd => ?_, fun d hd => Int.le_trans (a3 d hd) (b3 d hd)⟩
    · rcases List.sublist_cons_iff.mp hs with h | ⟨s', e, h⟩
      · exact Int.le_trans (a1 s h hd) (b3 _ hd)
      · subst e; exact b1 s' h hd
    · rcases b2 d hd with h | ⟨s, h1, h2, h3⟩
      · rw [h]
        rcases a2 d hd with k | ⟨s, k1, k2, k3⟩
        · exact .inl k
        · exact .inr ⟨s, .cons _ k1, k2, k3⟩
      · exact .inr ⟨x :: s, .cons_cons _ h1, h2, h3⟩

theorem fall_last {c : List Int} {y : Int} (h : Fall c) (hl : c.getLast? = some y) : ∀ z ∈ c, y ≤ z := fun z hz => by
  obtain ⟨c', rfl⟩ := List.getLast?_eq_some_iff.mp hl
  rcases List.mem_append.mp hz with hz | hz
  · exact Int.le_of_lt ((List.pairwise_append.mp h).2.2 z hz y (by simp))
  · simp at hz; omega
theorem mkC_from (s : List Int) : ∀ p ∈ mkC [] s, ∃ c : List Int, c.Sublist s ∧ Fall c ∧ c.getLast? = some p.1 ∧ (c.length : Int) = p.2 := by
  refine snoc_ind (C := fun s => ∀ p ∈ mkC [] s, ∃ c : List Int, c.Sublist s ∧ Fall c ∧ c.getLast? = some p.1 ∧ (c.length : Int) = p.2) (fun p hp => by cases hp) (fun s x ih p hp => ?_) s
  rw [mkC_snoc] at hp
  rcases List.mem_append.mp hp with hp | hp
  · obtain ⟨c, h1, h2, h3, h4⟩ := ih p hp
    exact ⟨c, h1.trans (List.sublist_append_left _ _), h2, h3, h4⟩
  · simp at hp
    subst hp
    obtain ⟨f1, f2, f3⟩ := fm (((mkC [] s).filter fun p => decide (x < p.1)).map (·.2)) 0
    rcases f1 with e | e
    · refine ⟨[x], List.sublist_append_right _ _, by simp [Fall], rfl, ?_⟩
      unfold fallOf
      rw [e]; rfl
    · obtain ⟨q, hq, eq⟩ := List.mem_map.mp e
      obtain ⟨hq1, hq2⟩ := List.mem_filter.mp hq
      have hxq : x < q.1 := by simpa using hq2
      obtain ⟨c, h1, h2, h3, h4⟩ := ih q hq1
      refine ⟨c ++ [x], h1.append (List.Sublist.refl _), List.pairwise_append.mpr ⟨h2, by simp, fun z hz u hu => ?_⟩, by simp, ?_⟩
      · have := fall_last h2 h3 z hz
        simp at hu
        (clear f2 eq h4; omega)
      · unfold fallOf
        rw [← eq, ← h4]
        simp
        (clear f2 eq hxq h4; omega)
theorem mkC_to (s : List Int) : ∀ (c : List Int) (v : Int), c.Sublist s → Fall c → c.getLast? = some v → ∃ p ∈ mkC [] s, p.1 = v ∧ (c.length : Int) ≤ p.2 := by
  refine snoc_ind (C := fun s => ∀ (c : List Int) (v : Int), c.Sublist s → Fall c → c.getLast? = some v → ∃ p ∈ mkC [] s, p.1 = v ∧ (c.length : Int) ≤ p.2) (fun c v h _ hl => by rw [List.sublist_nil.mp h] at hl; cases hl) (fun s x ih c v hc hf hl => ?_) s
  rw [mkC_snoc]
  obtain ⟨c1, c2, rfl, h1, h2⟩ := List.sublist_append_iff.mp hc
  rcases sub1 h2 with e | e
  · subst e
    rw [List.append_nil] at hf hl ⊢
    obtain ⟨p, hp, k1, k2⟩ := ih c1 v h1 hf hl
    exact ⟨p, List.mem_append_left _ hp, k1, k2⟩
  · subst e
    have hv : x = v := by simpa using hl
    refine ⟨(x, fallOf (mkC [] s) x), List.mem_append_right _ (.head _), hv, ?_⟩
    obtain ⟨f1, f2, f3⟩ := fm (((mkC [] s).filter fun p => decide (x < p.1)).map (·.2)) 0
    show _ ≤ 1 + ((((mkC [] s).filter fun p => decide (x < p.1)).map (·.2)).foldl max 0)
    obtain ⟨g1, _, g3⟩ := List.pairwise_append.mp hf
    cases e : c1.getLast? with
    | none =>
      rw [List.getLast?_eq_none_iff.mp e]
      show (1 : Int) ≤ _
      omega
    | some y =>
      obtain ⟨p, hp, k1, k2⟩ := ih c1 y h1 g1 e
      have hyx : y > x := g3 y (List.mem_of_getLast? e) x (by simp)
      have := f3 p.2 (List.mem_map.mpr ⟨p, List.mem_filter.mpr ⟨hp, by simp; (clear hv f1 f2 k2; omega)⟩, rfl⟩)
      rw [List.length_append]
      simp at this ⊢
      (clear hv f1 f2 k1 hyx; omega)
theorem good_iff (k : Nat) (s : List Int) : Good k s ↔ deepOf (mkC [] s) ≤ k := by
  obtain ⟨f1, f2, f3⟩ := fm ((mkC [] s).map (·.2)) 0
  constructor
  · intro h
    unfold deepOf
    rcases f1 with e | e
    · rw [e]; omega
    · obtain ⟨p, hp, ep⟩ := List.mem_map.mp e
      obtain ⟨c, h1, h2, h3, h4⟩ := mkC_from s p hp
      have := h c h1 h2
      rw [← ep, ← h4]
      (clear f2 ep h4; omega)
  · intro h c hc hf
    cases e : c.getLast? with
    | none => rw [List.getLast?_eq_none_iff.mp e]; exact Nat.zero_le _
    | some v =>
      obtain ⟨p, hp, k1, k2⟩ := mkC_to s c v hc hf e
      have := f3 p.2 (List.mem_map.mpr ⟨p, hp, rfl⟩)
      unfold deepOf at h
      omega
theorem deep_nonneg (s : List Int) : 0 ≤ deepOf (mkC [] s) := (fm _ 0).2.1

theorem best_at {w : List Int} {n k S : Nat} (hn : w.length = n) (hk : k ≤ n) (h : G w k S) :
    (S : Int) ∈ (choicesM w [] (List.replicate (n + 1) 0)).take (k + 1) ∧ ∀ a ∈ (choicesM w [] (List.replicate (n + 1) 0)).take (k + 1), a ≤ (S : Int) := by
  obtain ⟨a1, a2, a3⟩ := choices_sem w [] (List.replicate (n + 1) 0)
  rw [List.length_replicate] at a1 a2 a3
  have hlen : (choicesM w [] (List.replicate (n + 1) 0)).length = n + 1 := by rw [choicesM_len, List.length_replicate]
  have hle : ∀ d, d ≤ k → (choicesM w [] (List.replicate (n + 1) 0)).getD d 0 ≤ (S : Int) := fun d hd => by
    rcases a2 d (by (clear hn hlen; omega)) with e | ⟨s, h1, h2, h3⟩
    · rw [e]
      have : (List.replicate (n + 1) (0 : Int)).getD d 0 = 0 := by
        unfold List.getD
        rw [List.getElem?_replicate]
        split <;> rfl
      rw [this]; (clear hn hk hlen hd e this; omega)
    · rw [h3, mkC_len]
      have hg : Good k s := (good_iff k s).mpr (by have := deep_nonneg s; (clear hn hk hlen h3 this; omega))
      have := h.2 s.length ⟨s, h1, hg, rfl⟩
      simp
      omega
  refine ⟨?_, fun a ha => ?_⟩
  · obtain ⟨s, h1, h2, h3⟩ := h.1
    have hd := (good_iff k s).mp h2
    have hd0 := deep_nonneg s
    have hD : (deepOf (mkC [] s)).toNat ≤ k := by (clear hn hk hlen h3 hd0; omega)
    have e1 := a1 s h1 (by (clear hn hlen h3 hd hd0; omega))
    have e2 := hle _ hD
    rw [mkC_len, h3] at e1
    have e3 : (choicesM w [] (List.replicate (n + 1) 0)).getD (deepOf (mkC [] s)).toNat 0 = (S : Int) := by
      simp at e1 e2 ⊢
      (clear hn hk hlen h3 hd hd0 hD; omega)
    rw [← e3]
    generalize hd' : (deepOf (mkC [] s)).toNat = d at *
    generalize choicesM w [] (List.replicate (n + 1) 0) = res at *
    have hdl : d < res.length := by (clear hn h3 hd hd0 hd' e1 e2 e3; omega)
    refine List.mem_of_getElem? (i := d) ?_
    rw [List.getElem?_take_of_lt (by (clear hn hk h3 hd hd0 hd' hlen e1 e2 e3 hdl; omega)), List.getElem?_eq_getElem hdl]
    simp [List.getD, hdl]
  · obtain ⟨i, hi, e⟩ := List.mem_iff_getElem.mp ha
    rw [List.length_take] at hi
    have := hle i (by (clear hn hk hlen e; omega))
    rw [List.getElem_take] at e
    rw [← e]
    have hil : i < (choicesM w [] (List.replicate (n + 1) 0)).length := by (clear hn hk hlen e this; omega)
    simpa [List.getD, hil] using this

/-! joining -/
theorem tab_fair : ∀ {T : Tbl}, Tab T → FairT T
  | [], _ => ⟨fun i row h => by simp at h, fun i over row h => by simp at h⟩
  | r :: rs, ⟨h1, h2, h3⟩ => by
    obtain ⟨k1, k2⟩ := tab_fair h3
    refine ⟨fun i row h => ?_, fun i over row h4 h5 => ?_⟩
    · cases i with
      | zero => simp at h; subst h; exact h1
      | succ i => exact k1 i row (by simpa using h)
    · cases i with
      | zero =>
        simp at h4
        subst h4
        cases rs with
        | nil => simp at h5
        | cons s rs => simp at h5; subst h5; exact h2
      | succ i => exact k2 i over row (by simpa using h4) (by simpa using h5)
theorem fair_keys {T T' : Tbl} (e : T.map (fun r => r.map (·.2)) = T'.map fun r => r.map (·.2)) (h : FairT T) : FairT T' := by
  have key : ∀ (i : Nat) (row : List Itm), T'[i]? = some row → ∃ row', T[i]? = some row' ∧ row'.map (·.2) = row.map (·.2) := fun i row hr => by
    have := congrArg (fun l => l[i]?) e
    simp only [List.getElem?_map, hr] at this
    cases e2 : T[i]? with
    | none => rw [e2] at this; cases this
    | some row' => rw [e2] at this; exact ⟨row', rfl, Option.some.inj this⟩
  have at_ : ∀ {a b : List Itm} {j : Nat} {y : Itm}, a.map (·.2) = b.map (·.2) → b[j]? = some y → ∃ x, a[j]? = some x ∧ x.2 = y.2 := fun {a b j y} e hy => by
    have := congrArg (fun l => l[j]?) e
    simp only [List.getElem?_map, hy] at this
    cases e2 : a[j]? with
    | none => rw [e2] at this; cases this
    | some x => rw [e2] at this; exact ⟨x, rfl, Option.some.inj this⟩
  refine ⟨fun i row hr => ?_, fun i over row h1 h2 => ?_⟩
  · obtain ⟨row', h3, h4⟩ := key i row hr
    rw [← h4]; exact h.1 i row' h3
  · obtain ⟨over', a1, a2⟩ := key i over h1
    obtain ⟨row', b1, b2⟩ := key (i + 1) row h2
    obtain ⟨c1, c2⟩ := h.2 i over' row' a1 b1
    have l1 := congrArg List.length a2
    have l2 := congrArg List.length b2
    rw [List.length_map, List.length_map] at l1 l2
    refine ⟨by omega, fun j x y hx hy => ?_⟩
    obtain ⟨x', d1, d2⟩ := at_ a2 hx
    obtain ⟨y', d3, d4⟩ := at_ b2 hy
    have := c2 j x' y' d1 d3
    (clear c1 l1 l2; omega)

def Zero (T : Tbl) : Prop := ∀ r ∈ T, ∀ z ∈ r, z.1 = 0
theorem zero_map {T : Tbl} (h : Zero T) : T.map (fun r => r.map fun p => ((0 : Int), p.2)) = T := by
  have : ∀ r ∈ T, (r.map fun p => ((0 : Int), p.2)) = r := fun r hr => by
    have : ∀ z ∈ r, ((0 : Int), z.2) = z := fun z hz => Prod.ext (h r hr z hz).symm rfl
    exact (List.map_congr_left this).trans (List.map_id _)
  exact (List.map_congr_left this).trans (List.map_id _)
theorem zero_eq {T T' : Tbl} (h : Zero T) (h' : Zero T') (e : T.map (fun r => r.map (·.2)) = T'.map fun r => r.map (·.2)) : T = T' := by
  have key : ∀ T : Tbl, T.map (fun r => r.map fun p => ((0 : Int), p.2)) = (T.map fun r => r.map (·.2)).map fun r => r.map fun v => ((0 : Int), v) := fun T => by
    rw [List.map_map]
    refine List.map_congr_left fun r _ => ?_
    simp
  rw [← zero_map h, ← zero_map h', key, key, e]
theorem tIns_zero : ∀ {T : Tbl} {x : Itm}, Zero T → x.1 = 0 → Zero (tIns x T).1
  | [], x, _, hx => fun r hr z hz => by
    have hr' : r ∈ [[x]] := hr
    simp at hr'
    subst hr'
    simp at hz
    subst hz
    exact hx
  | r :: rs, x, h, hx => by
    rw [tIns]
    cases insC x r with
    | app k1 k2 k3 =>
      rw [k1]
      intro s hs z hz
      rcases List.mem_cons.mp hs with e | hs
      · subst e
        rcases List.mem_append.mp hz with hz | hz
        · exact h r (.head _) z hz
        · simp at hz; subst hz; exact hx
      · exact h s (.tail _ hs) z hz
    | bump a b y k1 k2 k3 k4 k5 =>
      rw [k2]
      have hr := h r (.head _)
      rw [k1] at hr
      intro s hs z hz
      rcases List.mem_cons.mp hs with e | hs
      · subst e
        rcases List.mem_append.mp hz with hz | hz
        · exact hr z (List.mem_append_left _ hz)
        · rcases List.mem_cons.mp hz with e | hz
          · subst e; exact hx
          · exact hr z (List.mem_append_right _ (.tail _ hz))
      · exact tIns_zero (fun s hs => h s (.tail _ hs)) (hr y (by simp)) s hs z hz
theorem P_zero (ps : List Itm) : Zero (PQ false ps).1 := by
  refine snoc_ind (C := fun ps => Zero (PQ false ps).1) (fun r hr => by cases hr) (fun ps p ih => ?_) ps
  rw [PQ_snoc]
  exact tIns_zero ih rfl
theorem Q_zero (b : Bool) (ps : List Itm) : Zero (PQ b ps).2 := fun r hr z hz => by
  obtain ⟨i, hi, e⟩ := List.mem_iff_getElem.mp hr
  refine (Q_from b ps i z ?_).1
  simpa [List.getD, hi, e] using hz
theorem cIns_zero {c : List Itm} {x : Int} (h : ∀ z ∈ c, z.1 = 0) : ∀ z ∈ (cIns x c).1, z.1 = 0 := fun z hz => by
  cases colC x c with
  | app h1 h2 h3 =>
    rw [h1] at hz
    rcases List.mem_append.mp hz with hz | hz
    · exact h z hz
    · simp at hz; subst hz; rfl
  | bump a b y h1 h2 h3 h4 h5 =>
    rw [h2] at hz
    rw [h1] at h
    rcases List.mem_append.mp hz with hz | hz
    · exact h z (List.mem_append_left _ hz)
    · rcases List.mem_cons.mp hz with e | hz
      · subst e; rfl
      · exact h z (List.mem_append_right _ (.tail _ hz))
theorem cT_zero : ∀ {T : Tbl} {x : Int}, Zero T → Zero (cT x T)
  | [], x, _ => fun r hr z hz => by
    have hr' : r ∈ [[((0 : Int), x)]] := hr
    simp at hr'
    subst hr'
    simp at hz
    subst hz
    rfl
  | c :: cs, x, h => by
    have hc := cIns_zero (x := x) (h c (.head _))
    rw [cT]
    cases colC x c with
    | app k1 k2 k3 =>
      rw [k1] at hc ⊢
      intro s hs z hz
      rcases List.mem_cons.mp hs with e | hs
      · rw [e] at hz; exact hc z hz
      · exact h s (.tail _ hs) z hz
    | bump a b y k1 k2 k3 k4 k5 =>
      rw [k2] at hc ⊢
      intro s hs z hz
      rcases List.mem_cons.mp hs with e | hs
      · rw [e] at hz; exact hc z hz
      · exact cT_zero (fun s hs => h s (.tail _ hs)) s hs z hz
theorem CT_zero : ∀ w : List Int, Zero (CT w)
  | [] => fun r hr => by cases hr
  | x :: w => cT_zero (CT_zero w)
theorem turn_zero {C : Tbl} (h : Zero C) : Zero (turnM C) := fun r hr z hz => by
  obtain ⟨l, _, rfl⟩ := List.mem_map.mp hr
  obtain ⟨c, hc, e⟩ := List.mem_filterMap.mp hz
  exact h c hc z (List.mem_of_getElem? e)
theorem sum_cast : ∀ T : Tbl, (T.map fun r => (r.length : Int)).sum = ((T.map List.length).sum : Nat)
  | [] => rfl
  | r :: rs => by
    rw [List.map_cons, List.sum_cons, sum_cast rs, List.map_cons, List.sum_cons]
    simp
theorem lex_of {ps : List Itm} (hb : ∀ p ∈ ps, 0 ≤ p.2 ∧ p.2 < 4) (h : ps.Pairwise fun p q => pk p ≤ pk q) : Lex ps := by
  refine List.Pairwise.imp_of_mem (fun {p q} hp hq h => ?_) h
  have h1 := hb p hp
  have h2 := hb q hq
  unfold pk at h
  unfold lexle
  omega

theorem plain_law : PlainLaw := by
  intro pairs around h3 h7 hb hs hp ha
  have hsw : (pairs.map fun p => (p.2, p.1)) = pairs.map swp := rfl
  rw [hsw] at hp
  have L1 : Lex pairs := lex_of (fun p hp => (hb p hp).2) hs
  have L2 : Lex around := lex_of (fun p hpa => by
    obtain ⟨q, hqm, e⟩ := List.mem_map.mp (hp.mem_iff.mp hpa)
    rw [← e]
    exact (hb q hqm).1) ha
  have hp' := perm_swap hp
  have I := inv false pairs
  have I2 := inv true around
  have hal : around.length = pairs.length := by rw [hp.length_eq, List.length_map]
  have sy1 := sym_tab false true L1 L2 hp
  have sy2 := sym_tab true false L2 L1 hp'
  have hw1 : ∀ r ∈ (PQ false pairs).1, r.length ≤ 7 := fun r hr => by
    obtain ⟨i, hi, e⟩ := List.mem_iff_getElem.mp hr
    have := I.wide i
    simp [List.getD, hi, e] at this
    (clear h3 hal; omega)
  have hw2 : ∀ r ∈ (PQ false pairs).2, r.length ≤ 7 := fun r hr => by
    obtain ⟨i, hi, e⟩ := List.mem_iff_getElem.mp hr
    have h1 := I.wide i
    rw [← I.row i] at h1
    simp [List.getD, hi, e] at h1
    (clear h3 hal; omega)
  constructor
  · rw [rowsM_PQ]; exact tab_fair I.tab
  · rw [rowsM_PQ]; exact fair_keys sy1.symm (tab_fair I2.tab)
  · rw [rowsM_PQ]; exact I.len
  · rw [rowsM_PQ]; exact Nat.le_trans I.tall h7
  · rw [rowsM_PQ]; exact ⟨hw1, hw2⟩
  · rw [rowsM_PQ]; exact back_all false L1
  · rw [rowsM_PQ, rowsM_PQ]; exact zero_eq (Q_zero _ _) (P_zero _) sy2
  · rw [rowsM_PQ, rowsM_PQ]
    refine zero_eq (fun r hr z hz => ?_) (Q_zero _ _) ?_
    · obtain ⟨r', _, rfl⟩ := List.mem_map.mp hr
      obtain ⟨p, _, rfl⟩ := List.mem_map.mp hz
      rfl
    · rw [sy1, List.map_map]
      refine List.map_congr_left fun r _ => ?_
      simp
  · rw [rowsM_PQ]; exact back_all true L2
  · rw [rowsM_PQ, colsM_CT]
    exact zero_eq (turn_zero (CT_zero _)) (P_zero _) (turn_keys false rfl)
  · rw [colsM_CT]
    cases e : pairs.map (·.2) with
    | nil =>
      have e2 : (pairs.map (·.2)).length = 0 := by rw [e]; rfl
      rw [List.length_map] at e2
      (clear h7 hal; omega)
    | cons x w => exact (cT_len (CT w) x).2
  · intro k hk
    rw [rowsM_PQ, sum_cast]
    exact best_at (List.length_map _) hk (G_all false pairs k)
end Mine
open PySem PySem.W PyProof.Rows PySem.Calls
namespace Mine

-- part J0
theorem law_join {K : Frag} {w : World} {name qual : Str} {params : Arguments} {body : List Stmt} {scope : Scope} {dV kV doc pm cdv ct oc : Value} {an od : Option Addr} {osl : Array (Option Value)}
    (h1 : K.lookup 89 = some ⟨oc, od, .func (fnOf name qual params body scope dV kV doc pm an cdv ct), osl⟩)
    (h2 : ∃ (name qual : Str) (params : Arguments) (body : List Stmt) (scope : Scope) (dV kV doc pm cdv ct oc : Value) (an od : Option Addr) (osl : Array (Option Value)), K.lookup 89 = some ⟨oc, od, .func (fnOf name qual params body scope dV kV doc pm an cdv ct), osl⟩ ∧ LawBody w body scope) : LawBody w body scope := by
  obtain ⟨_, _, _, _, _, _, _, _, _, _, _, _, _, _, _, h3, h4⟩ := h2
  cases h1.symm.trans h3
  exact h4
local macro_rules | `(tactic| k_qdec) => `(tactic| decide +kernel)
set_option pp.deepTerms false in
set_option pp.maxSteps 2000 in
set_option maxRecDepth 100000 in
set_option maxHeartbeats 8000000 in
theorem joined (HP : PlainLaw) : PySem.Challenge.rw_sc0001_01.Holds := hd (by
  k_go0
  (rename World => w; rename Fr _ _ _ _ => F; rename News _ _ _ _ => N0; rename Frag.In _ _ => KX; rename Top _ _ _ _ _ _ => T; rename IntsAre _ _ => hI; rename Heap.IsList _ _ _ => hL; rename ¬ _ < _ => hn)
  have hb := law_join (K := Mine.hd.heap_39 w.params) (by k_is) (law_at w)
  refine' hb.2 (A := callerA) ⟨KX, T⟩ ⟨rfl, by decide +kernel, by decide +kernel⟩ F N0 ?d1 ?d2 ?d3 HP hL hI ?hn ?ret
  case d1 => assumption
  case d2 => assumption
  case d3 => assumption
  case hn => omega
  case ret =>
    intro h' tk ext
    dsimp only
    refine ⟨.inl ⟨.bool true, .bool true, [], rfl, fun _ => rfl, .bool _, ?post, fun _ => ⟨List.nodup_nil, fun a ha => by cases ha⟩⟩, ext, rfl, by assumption⟩
    with_unfolding_all rfl)
end Mine

theorem PySem.Challenge.cw_sc0001_01_holds : PySem.Challenge.rw_sc0001_01.Holds :=
  Mine.joined Mine.plain_law
