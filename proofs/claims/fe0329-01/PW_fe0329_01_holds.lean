import PyProof.Rows.All
import Wide.All
import OpenK.AllK
import Wide.FinOn
import PySem.Challenge.RW_fe0329_01
open PySem PySem.W PySem.Calls PyProof.Rows PySem.Spec
set_option Elab.async false
set_option maxRecDepth 100000
set_option rowWalk.seconds 0
namespace Mine
set_option maxHeartbeats 8000000 in
open_top hd for PySem.Challenge.rw_fe0329_01
end Mine
namespace Mine
/-- a def's contract: from every calling frame, with the ledger `news`, the call gives back a value and new objects that `Ret` tells -/
def Tl (j : Nat) (w : World) (mean : ExcName → Option Value) (mg mb : Str → Option Value) (f : Addr) (news : List (Addr × Obj)) (args : List Value) (Ret : Value → List (Addr × Obj) → Prop) : Prop :=
  ∀ (dp un : Nat) (gd : Option (List Code)) (cn : Str) (cs : Scope) (a : Addr) (ccd : Value) (cl : List (Str × Addr)) (outer : List Env) (A₀ : Around) (base h₀ : Heap) (L : Addr) (m : Str → Option Value) (s : Shared) (Q E : Value → Shared → Prop),
    Below A₀ base outer h₀ → Fr h₀ L s.heap m → (hd.heap_39 w.params).In h₀ → News h₀ L s.heap news → Top hd.view_39 (looseW hd.view_39 []) mean mg mb h₀ → cs.kind = .function → dp + j < recursionLimit → un + 30 * j < cLine →
    (∀ r tl h' tk', Fr h₀ L h' m → News h₀ L h' (tl ++ news) → (∀ q ∈ news, ∀ p ∈ tl, q.1 < p.1) → Ret r tl → Q r { s with heap := h', toks := tk' }) →
    wpAny (model PySem.Challenge.rw_fe0329_01.row.prog w) (ktrTop dp un gd cn cs L a ccd cl outer) (call (.ref f) args) Q E s

def Val (v : Value) : Option Int → Prop
  | none => v = .none
  | some i => ∃ t, v = .int i t

theorem tl_use {j : Nat} {w : World} {mean : ExcName → Option Value} {mg mb : Str → Option Value} {f : Addr} {news pre : List (Addr × Obj)} {args : List Value} {Ret : Value → List (Addr × Obj) → Prop} (C : Tl j w mean mg mb f (pre ++ news) args Ret)
    {dp un : Nat} {gd : Option (List Code)} {cn : Str} {cs : Scope} {a : Addr} {ccd : Value} {cl : List (Str × Addr)} {outer : List Env} {A₀ : Around} {base h₀ : Heap} {L : Addr} {m : Str → Option Value} {s : Shared} {Q E : Value → Shared → Prop}
    (B : Below A₀ base outer h₀) (F : Fr h₀ L s.heap m) (X : (hd.heap_39 w.params).In h₀) (N : News h₀ L s.heap news) (T : Top hd.view_39 (looseW hd.view_39 []) mean mg mb h₀) (hpre : ∀ p ∈ pre, p ∈ news) (hk : cs.kind = .function) (hd : dp + j < recursionLimit) (hu : un + 30 * j < cLine)
    (ret : ∀ r tl h' tk', Fr h₀ L h' m → News h₀ L h' (tl ++ news) → (∀ q ∈ news, ∀ p ∈ tl, q.1 < p.1) → Ret r tl → Q r { s with heap := h', toks := tk' }) :
    wpAny (model PySem.Challenge.rw_fe0329_01.row.prog w) (ktrTop dp un gd cn cs L a ccd cl outer) (call (.ref f) args) Q E s := by
  refine C dp un gd cn cs a ccd cl outer A₀ base h₀ L m s Q E B F X (fun p hp => ?_) T hk hd hu fun r tl h' tk' F' N' hl hr => ret r tl h' tk' F' (fun p hp => N' p ?_) (fun q hq p hp => hl q (List.mem_append.mpr (.inr hq)) p hp) hr
  · rcases List.mem_append.mp hp with h | h
    · exact N p (hpre p h)
    · exact N p h
  · rcases List.mem_append.mp hp with h | h
    · exact List.mem_append.mpr (.inl h)
    · exact List.mem_append.mpr (.inr (List.mem_append.mpr (.inr h)))
/-- the same for a call straight from the outermost frame (a def that catches: the frames below it take notes) -/
def Tl0 (j : Nat) (w : World) (mean : ExcName → Option Value) (mg mb : Str → Option Value) (f : Addr) (news : List (Addr × Obj)) (args : List Value) (Ret : Value → List (Addr × Obj) → Prop) : Prop :=
  ∀ (dp un : Nat) (gd : Option (List Code)) (cn : Str) (cs : Scope) (a : Addr) (ccd : Value) (A₀ : Around) (base h₀ : Heap) (L : Addr) (m : Str → Option Value) (s : Shared) (Q E : Value → Shared → Prop),
    Below A₀ base [] h₀ → Fr h₀ L s.heap m → (hd.heap_39 w.params).In h₀ → News h₀ L s.heap news → Top hd.view_39 (looseW hd.view_39 []) mean mg mb h₀ → cs.kind = .function → dp + j < recursionLimit → un + 30 * j < cLine →
    (hd.heap_39 w.params).In base → Top hd.view_39 (looseW hd.view_39 []) mean mg mb base →
    (∀ r tl h' tk', Fr h₀ L h' m → News h₀ L h' (tl ++ news) → (∀ q ∈ news, ∀ p ∈ tl, q.1 < p.1) → Ret r tl → Q r { s with heap := h', toks := tk' }) →
    wpAny (model PySem.Challenge.rw_fe0329_01.row.prog w) { handled := none, depth := dp, frames := some [envOf cn cs L a ccd], guards := gd, units := un } (call (.ref f) args) Q E s
/-- a contract whose new objects are merely other ones than the ledger's -/
def TlN (j : Nat) (w : World) (mean : ExcName → Option Value) (mg mb : Str → Option Value) (f : Addr) (news : List (Addr × Obj)) (args : List Value) (Ret : Value → List (Addr × Obj) → Prop) : Prop :=
  ∀ (dp un : Nat) (gd : Option (List Code)) (cn : Str) (cs : Scope) (a : Addr) (ccd : Value) (cl : List (Str × Addr)) (outer : List Env) (A₀ : Around) (base h₀ : Heap) (L : Addr) (m : Str → Option Value) (s : Shared) (Q E : Value → Shared → Prop),
    Below A₀ base outer h₀ → Fr h₀ L s.heap m → (hd.heap_39 w.params).In h₀ → News h₀ L s.heap news → Top hd.view_39 (looseW hd.view_39 []) mean mg mb h₀ → cs.kind = .function → dp + j < recursionLimit → un + 30 * j < cLine →
    (∀ r tl h' tk', Fr h₀ L h' m → News h₀ L h' (tl ++ news) → (∀ q ∈ news, ∀ p ∈ tl, q.1 ≠ p.1) → Ret r tl → Q r { s with heap := h', toks := tk' }) →
    wpAny (model PySem.Challenge.rw_fe0329_01.row.prog w) (ktrTop dp un gd cn cs L a ccd cl outer) (call (.ref f) args) Q E s
theorem tlN_use {j : Nat} {w : World} {mean : ExcName → Option Value} {mg mb : Str → Option Value} {f : Addr} {news pre : List (Addr × Obj)} {args : List Value} {Ret : Value → List (Addr × Obj) → Prop} (C : TlN j w mean mg mb f (pre ++ news) args Ret)
    {dp un : Nat} {gd : Option (List Code)} {cn : Str} {cs : Scope} {a : Addr} {ccd : Value} {cl : List (Str × Addr)} {outer : List Env} {A₀ : Around} {base h₀ : Heap} {L : Addr} {m : Str → Option Value} {s : Shared} {Q E : Value → Shared → Prop}
    (B : Below A₀ base outer h₀) (F : Fr h₀ L s.heap m) (X : (hd.heap_39 w.params).In h₀) (N : News h₀ L s.heap news) (T : Top hd.view_39 (looseW hd.view_39 []) mean mg mb h₀) (hpre : ∀ p ∈ pre, p ∈ news) (hk : cs.kind = .function) (hd : dp + j < recursionLimit) (hu : un + 30 * j < cLine)
    (ret : ∀ r tl h' tk', Fr h₀ L h' m → News h₀ L h' (tl ++ news) → (∀ q ∈ news, ∀ p ∈ tl, q.1 ≠ p.1) → Ret r tl → Q r { s with heap := h', toks := tk' }) :
    wpAny (model PySem.Challenge.rw_fe0329_01.row.prog w) (ktrTop dp un gd cn cs L a ccd cl outer) (call (.ref f) args) Q E s := by
  refine C dp un gd cn cs a ccd cl outer A₀ base h₀ L m s Q E B F X (fun p hp => ?_) T hk hd hu fun r tl h' tk' F' N' hl hr => ret r tl h' tk' F' (fun p hp => N' p ?_) (fun q hq p hp => hl q (List.mem_append.mpr (.inr hq)) p hp) hr
  · rcases List.mem_append.mp hp with h | h
    · exact N p (hpre p h)
    · exact N p h
  · rcases List.mem_append.mp hp with h | h
    · exact List.mem_append.mpr (.inl h)
    · exact List.mem_append.mpr (.inr (List.mem_append.mpr (.inr h)))

theorem fr_with {h₀ h : Heap} {L : Addr} {m : Str → Option Value} {x : Str} {v : Value} (F : Fr h₀ L h m) (e : m x = some v) : Fr h₀ L h (fun y => if y = x then some v else m y) := by
  have : (fun y => if y = x then some v else m y) = m := by
    funext y
    by_cases q : y = x
    · rw [if_pos q, q, e]
    · rw [if_neg q]
  rw [this]
  exact F

section
variable {prog : Program} {w : World} {A : Around} {E : Value → Shared → Prop} {s : Shared} {env : Env} {h₀ : Heap} {x : Str} {body : List Stmt} {Q : Flow → Shared → Prop}
/-- a loop over a range, any step, by a word over the turn's number, the frame and the ledger -/
theorem rng_loop {r : Addr} {a b st : Int} {t u v : Tok} {n : Nat} {m₀ : Str → Option Value} {news : List (Addr × Obj)} (J : Nat → (Str → Option Value) → List (Addr × Obj) → Prop)
    (hh : A.handled = none) (hr : IsRange s.heap r a b st t u v) (hsmall : Builtin.Range.small a b st = true) (hsz : Builtin.Range.rangeSize a b st = (n : Int)) (F : Fr h₀ env.locals s.heap m₀) (N : News h₀ env.locals s.heap news) (hj : J 0 m₀ news)
    (turn : ∀ i t m₁ nx h tk own, i < n → OwnOff own (nx.map (·.1)) → J i m₁ nx → Fr h₀ env.locals h (fun y => if y = x then some (.int (a + (i : Nat) * st) t) else m₁ y) → News h₀ env.locals h (nx ++ own) →
      wpAny (model prog w) A (execs body env) (InvPostG h₀ env.locals (J (i + 1)) own { s with heap := h, toks := tk } Q) E { s with heap := h, toks := tk })
    (done : ∀ m₁ nx h tk, J n m₁ nx → Fr h₀ env.locals h m₁ → News h₀ env.locals h nx → Q .next { s with heap := h, toks := tk }) :
    wpAny (model prog w) A (pyIter (.ref r)) (fun it s₂ => LoopAtV prog w A h₀ env x body Q E it s₂) E s := by
  refine wpAny_pyIter_range hr hsmall ?_
  have fresh : h₀.get? s.heap.objs.size = none := next_is_new F
  refine kdr_loop J (Walks.range hh s.heap.objs.size a st n) (fun _ h => h) (fun _ h => h) ?_ ?_ ?_ ?_ ?_ (F.push _) (fun p hp => ⟨Heap.get?_push_of_some _ (N p hp).1, (N p hp).2⟩) hj ?_ done
  · intro i h hi b hb
    obtain rfl := List.mem_singleton.mp hb
    exact ⟨_, hi⟩
  · exact fun hm => Nat.lt_irrefl _ (List.mem_singleton.mp hm ▸ F.ns.lt)
  · intro b hb
    obtain rfl := List.mem_singleton.mp hb
    exact fresh
  · exact fun p hp hI => Nat.lt_irrefl _ (List.mem_singleton.mp hI ▸ Heap.lt_size (N p hp).1)
  · show IsRangeIter _ _ _ _ _
    rw [hsz]
    simpa using Heap.get?_push_size _ rfl
  · rintro i v m₁ nx h tk own hi ⟨t, rfl⟩ ho hJ F₁ N₁
    exact turn i t m₁ nx h tk own hi ho hJ F₁ N₁
end
theorem fr_with2 {h₀ h : Heap} {L : Addr} {m : Str → Option Value} {x z : Str} {u : Option Value} {v : Value} (F : Fr h₀ L h (fun y => if y = z then u else m y)) (hne : x ≠ z) (e : m x = some v) : Fr h₀ L h (fun y => if y = x then some v else if y = z then u else m y) :=
  fr_with F (by rw [if_neg hne]; exact e)

def digs (n : Int) : Nat → List Int
  | 0 => []
  | k + 1 => (n / 256 ^ k % 256) :: digs n k


theorem fdiv_step (n : Int) (i : Nat) : (n / 256 ^ i).fdiv 256 = n / 256 ^ (i + 1) := by
  rw [Int.fdiv_eq_ediv_of_nonneg _ (by decide), Int.ediv_ediv_of_nonneg (Int.le_of_lt (Int.pow_pos (by decide))), Int.pow_succ]

/-- the least number of octets that hold n (below 256 ^ 9) -/
def least (n : Int) : Int :=
  if n < 1 then 0 else if n < 256 then 1 else if n < 65536 then 2 else if n < 16777216 then 3 else if n < 4294967296 then 4 else if n < 1099511627776 then 5
  else if n < 281474976710656 then 6 else if n < 72057594037927936 then 7 else if n < 18446744073709551616 then 8 else 9



/-- what the law's rows hold, as data -/
def refD : Dat := .list [.str (PySem.Str.ofString "refused")]
def numD : Option Int → Dat
  | none => .none
  | some i => .int i
def rowD (w : Int) : Option Int → Dat
  | none => .list []
  | some i => .list ((digs i w.toNat).map .int)
def sizeD (u c : Option Int) (w : Int) : Dat := .list [.str (PySem.Str.ofString "size"), .int w, numD u, numD c, rowD w u, rowD w c]
theorem ints_dat {news : List (Addr × Obj)} {vs : List Value} {ns : List Int} (h : IntsAre vs ns) : DatAll news vs (ns.map .int) := by
  induction h with
  | nil => exact .nil
  | cons n t _ ih => exact .cons (.int n t) ih
theorem val_dat {news : List (Addr × Obj)} {v : Value} : ∀ {o : Option Int}, Val v o → DatIn news v (numD o)
  | none, h => by rw [show v = .none from h]; exact .none
  | some _, ⟨_, h⟩ => by rw [h]; exact .int _ _
/-- a size fits into w octets -/
def Fits (o : Option Int) (w : Int) : Prop := ∀ i, o = some i → 0 ≤ i ∧ i < 256 ^ w.toNat

/-- the width that is due: the told one, or the least; none where the pair is refused -/
def okI (lo hi : Int) (g : Option Int) : Option Int :=
  if lo < 0 then none else match g with
  | none => some (least hi)
  | some w => if w < 0 ∨ 256 ^ w.toNat ≤ hi then none else some w
def okW : Option Int → Option Int → Option Int → Option Int
  | none, none, _ => none
  | some a, none, g => okI a a g
  | none, some b, g => okI b b g
  | some a, some b, g => okI (min a b) (max a b) g

section
variable {prog : Program} {w : World} {A : Around} {E : Value → Shared → Prop} {s : Shared} {h₀ : Heap} {L l : Addr} {news : List (Addr × Obj)}
/-- an item of a written list, as it lies there -/
theorem item_at {value slice : PySem.Expr} {vs : List Value} {n : Nat} {k : Int} {u : Tok} {v : Value} {Q : Value → Shared → Prop} (N : News h₀ L s.heap news) (hm : (l, listOf vs.toArray n) ∈ news) (h0 : 0 ≤ k) (hhi : k < 2 ^ 63) (hx : vs[k.toNat]? = some v) (h : Q v s)
    (hs : subscripted slice false (.ref l) (.int k u) = operate [.ref l, .int k u] (getItem (.ref l) (.int k u)) := by with_unfolding_all rfl) :
    wpAny (model prog w) A (subscriptTail value slice (.ref l) (.int k u)) Q E s := by
  have hl : s.heap.IsList l vs.toArray := ⟨_, (N _ hm).1, rfl, n, rfl⟩
  exact tail_any hl.typeIs slot_list_getitem.lookup (wpAny_getItem_list hl h0 hhi (by simpa using hx) h) hs
end
theorem three_sub {l : Addr} {o1 : Obj} {led : List (Addr × Obj)} {e2 e3 e4 : Addr × Obj} : ∀ z ∈ [(l, o1)] ++ led, z ∈ (l, o1) :: e2 :: e3 :: e4 :: led := by
  intro z hz
  rcases List.mem_cons.mp hz with rfl | hz
  · exact List.mem_cons_self
  · exact List.mem_cons_of_mem _ (List.mem_cons_of_mem _ (List.mem_cons_of_mem _ (List.mem_cons_of_mem _ hz)))
section
variable {l d1 d2 : Addr}
theorem size_all {w : Int} {vu vc : Value} {t t' : Tok} {n1 n2 : Nat} {ys1 ys2 : List Value} {u c : Option Int} {ns1 ns2 : List Int} {o : Obj} (hu : Val vu u) (hc : Val vc c) (h1 : IntsAre ys1 ns1) (e1 : rowD w u = .list (ns1.map .int)) (h2 : IntsAre ys2 ns2) (e2 : rowD w c = .list (ns2.map .int)) :
    DatAll [(l, o), (d2, listOf ys2.toArray n2), (d1, listOf ys1.toArray n1)] [.str (PySem.Str.ofString "size") t, .int w t', vu, vc, .ref d1, .ref d2] [.str (PySem.Str.ofString "size"), .int w, numD u, numD c, rowD w u, rowD w c] := by
  rw [e1, e2]
  exact .cons (.str _ _) (.cons (.int _ _) (.cons (val_dat hu) (.cons (val_dat hc) (.cons (.list (List.mem_cons_of_mem _ (List.mem_cons_of_mem _ List.mem_cons_self)) (ints_dat h1)) (.cons (.list (List.mem_cons_of_mem _ List.mem_cons_self) (ints_dat h2)) .nil)))))
theorem told_dat {w : Int} {vu vc : Value} {t t' : Tok} {n n1 n2 : Nat} {ys1 ys2 : List Value} {u c : Option Int} {ns1 ns2 : List Int} (hu : Val vu u) (hc : Val vc c) (h1 : IntsAre ys1 ns1) (e1 : rowD w u = .list (ns1.map .int)) (h2 : IntsAre ys2 ns2) (e2 : rowD w c = .list (ns2.map .int)) :
    DatIn [(l, listOf [.str (PySem.Str.ofString "size") t, .int w t', vu, vc, .ref d1, .ref d2].toArray n), (d2, listOf ys2.toArray n2), (d1, listOf ys1.toArray n1)] (.ref l) (sizeD u c w) :=
  .list List.mem_cons_self (size_all hu hc h1 e1 h2 e2)
end
end Mine
namespace Mine
def DigJ (n : Int) (news : List (Addr × Obj)) (i : Nat) (m : Str → Option Value) (nx : List (Addr × Obj)) : Prop :=
  ∃ a vs k t, nx = (a, listOf vs.toArray k) :: news ∧ IntsAre vs (digs n i) ∧ m (Str.ofString "row") = some (.ref a) ∧ m (Str.ofString "number") = some (.int (n / 256 ^ i) t) ∧ (∀ q ∈ news, q.1 < a)

theorem digs_length (n : Int) : ∀ k, (digs n k).length = k
  | 0 => rfl
  | k + 1 => by rw [digs, List.length_cons, digs_length n k]
theorem digs_step (n : Int) (i : Nat) : [(n / 256 ^ i).fmod 256] ++ digs n i = digs n (i + 1) := by
  rw [Int.fmod_eq_emod_of_nonneg _ (by decide)]; rfl
local macro_rules | `(tactic| walk_at "binaryOp Add ref ref") => `(tactic| (k_here; (with_reducible show wpAny _ _ (binaryOp _ (Value.ref _) (Value.ref _)) _ _ _); k_dflt (refine' kmk_add_ints ?F ?N ?a ?b ?i ?j ?_ ?z; (case F => k_asm); (case N => k_asm); (case a => kmk_list); (case b => kmk_list); (case i => l_ints); (case j => l_ints); (case z => (simp only [sizeLine_eq, List.length_cons, List.length_nil]; omega))); intro D' ws' h' F' N' l1 hI'; (try k_lt l1); (try k_sweep)))
set_option maxHeartbeats 4000000 in
theorem digits_c {w : World} {mean : ExcName → Option Value} {mg mb : Str → Option Value} {news : List (Addr × Obj)} {n wd : Int} {t t2 : Tok} (h2 : 0 ≤ wd) (h3 : wd ≤ 9) :
    Tl 2 w mean mg mb 85 news [.int n t, .int wd t2] (fun r tl => ∃ a vs k, r = .ref a ∧ tl = [(a, listOf vs.toArray k)] ∧ IntsAre vs (digs n wd.toNat)) := by
  unfold Tl
  w_on
  k_fill
  intro dp un gd cn cs a ccd cl outer A₀ base h₀ L m s Q E B F X N T hk hd hu hret
  refine wpAny_call ?_
  k_dflt ktr_enter
  repeat' (first | (k_unfold; (try dsimp only)) | ((fail_if_success (with_reducible show wpAny _ _ (pyIter (Value.ref _)) _ _ _)); (first | walk1 | (dsimp only; walk1) | (leave1; walk_say "STEP leave1"; try dsimp only) )) | fail "no step")
  rename IsRange _ _ _ _ _ _ _ _ => rg
  rename Fr _ _ _ _ => lF
  rename News _ _ _ _ => lN
  with_unfolding_all refine' rng_loop (n := (wd - 0).toNat) (DigJ n news) (by rfl) rg ?small ?size lF lN ?hj ?turn ?done
  case small => exact small_one (by omega) (by omega) (by omega) (by omega)
  case size => exact rangeSize_nat _ _
  case hj => exact ⟨_, _, _, _, rfl, .nil, rfl, by rw [Int.pow_zero, Int.ediv_one]; rfl, by assumption⟩
  case turn =>
    intro i t' m₁ nx h tk own hi ho hJ F₁ N₁
    obtain ⟨b, vs, k, tt, rfl, hI, er, en, hlt⟩ := hJ
    have F₂ := fr_with2 F₁ (x := Str.ofString "row") (by decide) er
    have F₃ := fr_with F₂ (x := Str.ofString "number") (by rw [if_neg (by decide), if_neg (by decide)]; exact en)
    rw [List.cons_append] at N₁
    clear F₁ F₂ lF lN
    have hlen := digs_length n i
    (try k_fold)
    k_steps
    rename IntsAre _ ([_] ++ digs n i) => hI2
    rw [digs_step] at hI2
    rename Fr _ _ _ _ => Fe
    rename News _ _ _ _ => Ne
    rename _ ∧ _ ∧ AllLt _ _ => hlt2
    refine InvEndG.intro Fe Ne (nx := (_, listOf _ 0) :: news) ⟨_, _, _, _, rfl, hI2, rfl, congrArg some (congrArg (fun z => Value.int z _) (fdiv_step n i)), ?_⟩ ?_ ?_ ?_
    · exact fun q hq => tb_ltOf hlt2.2.2 q (List.mem_append_left _ hq)
    · intro p hp c hc
      rcases List.mem_cons.mp hc with rfl | hc
      · exact Nat.ne_of_lt (tb_ltOf hlt2.2.2 p (List.mem_append_right _ hp))
      · exact ho p hp c (List.mem_cons_of_mem _ hc)
    · intro p hp
      rcases List.mem_cons.mp hp with rfl | hp
      · exact List.mem_cons_self
      · exact List.mem_cons_of_mem _ (List.mem_cons_of_mem _ (List.mem_cons_of_mem _ (List.mem_append_left _ hp)))
    · exact fun p hp => List.mem_cons_of_mem _ (List.mem_cons_of_mem _ (List.mem_cons_of_mem _ (List.mem_append_right _ hp)))
  case done =>
    intro m₁ nx h tk hJ F₁ N₁
    obtain ⟨b, vs, k, tt, rfl, hI, er, en, hlt⟩ := hJ
    have F₂ := fr_with F₁ er
    clear F₁ lF lN
    (try dsimp only)
    (try k_fold)
    k_steps
    exact hret _ [_] _ _ (by k_asm) (by k_asm) (fun q hq p hp => List.mem_singleton.mp hp ▸ hlt q hq) ⟨_, _, _, rfl, rfl, by rw [Int.sub_zero] at hI; exact hI⟩
end Mine
namespace Mine
theorem acc_at (n : Int) : ∀ j : Nat, accUp (fun (_ : Int) (x : Int) => x.fdiv 256) 0 n (j : Int) = n / 256 ^ j
  | 0 => by rw [show ((0 : Nat) : Int) = 0 from rfl, accUp_start, Int.pow_zero, Int.ediv_one]
  | j + 1 => by
    rw [show ((j + 1 : Nat) : Int) = (j : Int) + 1 from rfl, accUp_succ (by omega), acc_at n j, fdiv_step]
set_option maxHeartbeats 4000000 in
theorem least_of {n k : Int} (h0 : 0 ≤ n) (h1 : n < 4722366482869645213696) (hk : 0 ≤ k)
    (all : ∀ j, 0 ≤ j → j < k → decide (0 < accUp (fun (_ : Int) (x : Int) => x.fdiv 256) 0 n j) = true) (last : decide (0 < accUp (fun (_ : Int) (x : Int) => x.fdiv 256) 0 n k) = false) : k = least n := by
  have all' : ∀ j : Nat, (j : Int) < k → 0 < n / 256 ^ j := fun j hj => by
    have := of_decide_eq_true (all j (by omega) hj)
    rwa [acc_at] at this
  have last' : ∀ j : Nat, (j : Int) = k → n / 256 ^ j ≤ 0 := fun j hj => by
    have := of_decide_eq_false (hj ▸ last)
    rw [acc_at] at this
    omega
  have h9 : ¬ 9 < k := fun q => by
    have := all' 9 (by omega)
    simp only [Int.reducePow] at this
    omega
  have c : k = 0 ∨ k = 1 ∨ k = 2 ∨ k = 3 ∨ k = 4 ∨ k = 5 ∨ k = 6 ∨ k = 7 ∨ k = 8 ∨ k = 9 := by omega
  rcases c with rfl | rfl | rfl | rfl | rfl | rfl | rfl | rfl | rfl | rfl
  · have a := last' 0 rfl
    simp only [Int.reducePow] at a
    unfold least
    repeat' split
    all_goals omega
  · have a := last' 1 rfl
    have b := all' 0 (by omega)
    simp only [Int.reducePow] at a b
    unfold least
    repeat' split
    all_goals omega
  · have a := last' 2 rfl
    have b := all' 1 (by omega)
    simp only [Int.reducePow] at a b
    unfold least
    repeat' split
    all_goals omega
  · have a := last' 3 rfl
    have b := all' 2 (by omega)
    simp only [Int.reducePow] at a b
    unfold least
    repeat' split
    all_goals omega
  · have a := last' 4 rfl
    have b := all' 3 (by omega)
    simp only [Int.reducePow] at a b
    unfold least
    repeat' split
    all_goals omega
  · have a := last' 5 rfl
    have b := all' 4 (by omega)
    simp only [Int.reducePow] at a b
    unfold least
    repeat' split
    all_goals omega
  · have a := last' 6 rfl
    have b := all' 5 (by omega)
    simp only [Int.reducePow] at a b
    unfold least
    repeat' split
    all_goals omega
  · have a := last' 7 rfl
    have b := all' 6 (by omega)
    simp only [Int.reducePow] at a b
    unfold least
    repeat' split
    all_goals omega
  · have a := last' 8 rfl
    have b := all' 7 (by omega)
    simp only [Int.reducePow] at a b
    unfold least
    repeat' split
    all_goals omega
  · have b := all' 8 (by omega)
    simp only [Int.reducePow] at b
    unfold least
    repeat' split
    all_goals omega

theorem least_rng {n : Int} (h0 : 0 ≤ n) (h1 : n < 4722366482869645213696) : 0 ≤ least n ∧ least n ≤ 9 ∧ n < 256 ^ (least n).toNat := by
  unfold least
  repeat' split
  all_goals (refine ⟨by decide, by decide, ?_⟩; first | (show n < 1; omega) | (show n < 256; omega) | (show n < 65536; omega) | (show n < 16777216; omega) | (show n < 4294967296; omega) | (show n < 1099511627776; omega) | (show n < 281474976710656; omega) | (show n < 72057594037927936; omega) | (show n < 18446744073709551616; omega) | (show n < 4722366482869645213696; omega))

set_option maxHeartbeats 4000000 in
theorem least_c {w : World} {mean : ExcName → Option Value} {mg mb : Str → Option Value} {news : List (Addr × Obj)} {n : Int} {t : Tok} (h0 : 0 ≤ n) (h1 : n < 4722366482869645213696) :
    Tl 2 w mean mg mb 92 news [.int n t] (fun r tl => tl = [] ∧ ∃ v t, r = .int v t ∧ v = least n ∧ 0 ≤ v ∧ v ≤ 9 ∧ n < 256 ^ v.toNat) := by
  unfold Tl
  w_on
  k_fill
  intro dp un gd cn cs a ccd cl outer A₀ base h₀ L m s Q E B F X N T hk hd hu hret
  refine wpAny_call ?_
  k_dflt ktr_enter
  k_steps
  rename ∀ j : Int, 0 ≤ j → j < _ → _ => hall
  rename decide _ = false => hlast
  rename (0 : Int) ≤ _ => hk0
  have e := least_of h0 h1 hk0 hall hlast
  subst e
  exact hret _ [] _ _ (by k_asm) (by k_asm) (fun _ _ _ h => nomatch h) ⟨rfl, _, _, rfl, rfl, least_rng h0 h1⟩
end Mine
namespace Mine
theorem bytes_ints : ∀ (cs : List UInt8) (vs : List Value), vs.length = cs.length → (∀ (j : Nat) (v : Value), vs[j]? = some v → ∃ c u, cs[j]? = some c ∧ v = .int ((c.toNat : Nat) : Int) u) → IntsAre vs (cs.map fun c => ((c.toNat : Nat) : Int))
  | [], [], _, _ => .nil
  | [], _ :: _, h, _ => by simp at h
  | _ :: _, [], h, _ => by simp at h
  | c :: cs, v :: vs, hl, h => by
    obtain ⟨c', u, e, rfl⟩ := h 0 v rfl
    obtain rfl : c = c' := Option.some.inj e
    exact .cons _ _ (bytes_ints cs vs (by simpa using hl) fun j v hv => h (j + 1) v hv)
theorem paired_eq {vs : List Value} : ∀ {ys : List Value}, Paired (fun (v r : Value) => r = v) vs ys → ys = vs := by
  induction vs with
  | nil => intro ys h; cases h; rfl
  | cons v vs ih => intro ys h; cases h with | cons e r => rw [e, ih r]
theorem filter_all {vs : List Value} : vs.filter (fun _ => true) = vs := by simp

section
variable {prog : Program} {w : World} {A : Around} {E : Value → Shared → Prop} {s₁ : Shared} {h₀ : Heap} {L : Addr} {m : Str → Option Value} {news : List (Addr × Obj)}
theorem comp_bytes {env : Env} {x : Str} {px : Pos} {scope : Scope} {Q : Value → Shared → Prop} {b : Array UInt8} {t : Tok}
    (hh : A.handled = none) (F : Fr h₀ L s₁.heap m) (N : News h₀ L s₁.heap news) (hk : scope.kind = .function) (hl : scope.names.lookup x = some .local) (hd : (x == ("__debug__" : Str)) = false) (hsz : b.size ≤ sizeLine)
    (g : ∀ D ys k h' tk, Fr h₀ L h' m → News h₀ L h' ((D, listOf (List.toArray ys) k) :: news) → (∀ q ∈ news, q.1 ≠ D) → IntsAre ys (KBw.bInts b) → Q (.ref D) { s₁ with heap := h', toks := tk }) :
    wpAny (model prog w) A (pyIter (.bytes b t)) (CompPost prog w A env scope x [] (.Name x px) Q) E s₁ := by
  refine KBw.pyIter_bytes ?_
  have up : ∀ (h' : Heap), (∀ b' o', b' ∉ [s₁.heap.objs.size] → (s₁.heap.push { cls := .type "bytes_iterator", data := .fields #[.bytes b t, .int 0 0] }).get? b' = some o' → h'.get? b' = some o') → ∀ b' o', s₁.heap.get? b' = some o' → h'.get? b' = some o' :=
    fun h' hk b' o' e => hk b' o' (not_iter_of_old e) (Heap.get?_push_of_some _ e)
  refine ⟨fun _ => true, fun v r => r = v, s₁.heap.objs.size, [s₁.heap.objs.size], [s₁.heap.objs.size], b.size, _, _, rfl, KBw.walks hh _ b t, hsz, ⟨_, Heap.get?_push_size _ rfl, rfl, rfl⟩, ?_, ⟨?_, ?_⟩, ?_⟩
  · intro c hc
    show c < (s₁.heap.push _).objs.size
    rw [Heap.size_push, List.mem_singleton.mp hc]
    exact Nat.lt_succ_self _
  · intro C i v s₃ m₃ E' _ _ _ _ _
    exact wpAny_pure ⟨rfl, s₃.heap, s₃.toks, rfl, fun _ _ e => e⟩
  · intro C i v s₃ m₃ E' _ _ hn hm _ _
    exact wpAny_Name (wpAny_loadName_local hk hl hn hm ⟨rfl, s₃.heap, s₃.toks, rfl, fun _ _ e => e⟩) hd
  · intro D h' tk ys vs hnew _ hpl hlen hP hF hkeep
    rw [filter_all] at hF
    have e := paired_eq hF
    have F' : Fr h₀ L h' m := F.keeps (up h' hkeep)
    have N' : News h₀ L h' news := N.grown (up h' hkeep)
    obtain ⟨n, hD⟩ := hpl
    have hDs : s₁.heap.get? D = none := by
      cases q : s₁.heap.get? D with
      | none => rfl
      | some o => rw [Heap.get?_push_of_some _ q] at hnew; cases hnew
    have hL : D ≠ L := by
      rintro rfl
      obtain ⟨o, _, _, ho, _⟩ := F.ns
      rw [hDs] at ho
      cases ho
    have h0D : h₀.get? D = none := by
      cases q : h₀.get? D with
      | none => rfl
      | some o => rw [F.keep _ _ q] at hDs; cases hDs
    have hys : ys.toList = vs := e
    have hyA : ys = vs.toArray := by rw [← hys]
    subst hyA
    refine g D vs n h' tk F' (fun p hp => ?_) (fun q hq e => ?_) ?_
    · rcases List.mem_cons.mp hp with rfl | hp
      · exact ⟨hD, hL, h0D⟩
      · exact N' p hp
    · rw [← e, (N q hq).1] at hDs
      cases hDs
    · refine bytes_ints b.toList vs (by simpa using hlen) fun j v hv => ?_
      obtain ⟨c, u, hc, hv'⟩ := hP j v hv
      exact ⟨c, u, by simpa using hc, hv'⟩
end

set_option maxHeartbeats 4000000 in
theorem row_c {w : World} {mean : ExcName → Option Value} {mg mb : Str → Option Value} {news : List (Addr × Obj)} {b : Array UInt8} {t : Tok} (hsz : b.size ≤ sizeLine) :
    TlN 2 w mean mg mb 97 news [.bytes b t] (fun r tl => ∃ D ys k, r = .ref D ∧ tl = [(D, listOf (List.toArray ys) k)] ∧ IntsAre ys (KBw.bInts b)) := by
  unfold TlN
  w_on
  k_fill
  intro dp un gd cn cs a ccd cl outer A₀ base h₀ L m s Q E B F X N T hk hd hu hret
  refine wpAny_call ?_
  k_dflt ktr_enter
  k_steps
  rename Fr _ _ _ _ => Fe
  rename News _ _ _ _ => Ne
  refine comp_bytes (by rfl) Fe Ne (by rfl) (by rfl) (by decide) hsz ?_
  intro D ys k h' tk' F' N' ne hi
  (try dsimp only)
  k_steps
  exact hret _ [_] _ _ (by k_asm) (by k_asm) (fun q hq p hp => List.mem_singleton.mp hp ▸ ne q hq) ⟨_, _, _, rfl, rfl, hi⟩
end Mine
namespace Mine
theorem worth_bound (n : Int) (h : 0 ≤ n) : ((n.fdiv 5).fdiv 18).fmod (2 ^ Int.toNat 70) + 256 ^ ((n.fdiv 5).fmod 9).toNat - ((n.fdiv 5).fdiv 9).fmod 2 < 256 ^ 9 := by
  have e : (2 : Int) ^ Int.toNat 70 = 1180591620717411303424 := by decide
  rw [e]
  have h1 : ((n.fdiv 5).fdiv 18).fmod 1180591620717411303424 < 1180591620717411303424 := Int.fmod_lt_of_pos _ (by decide)
  have h2 : 0 ≤ ((n.fdiv 5).fdiv 9).fmod 2 := Int.fmod_nonneg_of_pos _ (by decide)
  have h3 : (256 : Int) ^ ((n.fdiv 5).fmod 9).toNat ≤ 256 ^ 8 := by
    have : ((n.fdiv 5).fmod 9) < 9 := Int.fmod_lt_of_pos _ (by decide)
    have h4 : ((n.fdiv 5).fmod 9).toNat ≤ 8 := by omega
    generalize ((n.fdiv 5).fmod 9).toNat = e at h4
    have c : e = 0 ∨ e = 1 ∨ e = 2 ∨ e = 3 ∨ e = 4 ∨ e = 5 ∨ e = 6 ∨ e = 7 ∨ e = 8 := by omega
    rcases c with rfl | rfl | rfl | rfl | rfl | rfl | rfl | rfl | rfl <;> decide
  have e8 : (256 : Int) ^ 8 = 18446744073709551616 := by decide
  have e9 : (256 : Int) ^ 9 = 4722366482869645213696 := by decide
  omega

local macro_rules | `(tactic| walk_at "binaryOp Pow int int") => `(tactic| (k_here; (with_reducible refine pow_int_small ?kb1 ?kb2 ?kb3 ?_); (case kb1 => first | decide | exact Int.fmod_nonneg_of_pos _ (by decide)); (case kb2 => first | decide | exact Int.le_trans (Int.le_of_lt (Int.fmod_lt_of_pos _ (by decide))) (by decide)); (case kb3 => decide)))
set_option maxHeartbeats 4000000 in
theorem worth_c {w : World} {mean : ExcName → Option Value} {mg mb : Str → Option Value} {news : List (Addr × Obj)} {n : Int} {t : Tok} : Tl 2 w mean mg mb 78 news [.int n t] (fun r tl => tl = [] ∧ ∃ o, Val r o ∧ ∀ i, o = some i → i < 4722366482869645213696) := by
  unfold Tl
  w_on
  k_fill
  intro dp un gd cn cs a ccd cl outer A₀ base h₀ L m s Q E B F X N T hk hd hu hret
  refine wpAny_call ?_
  k_dflt ktr_enter
  k_steps
  · exact hret _ [] _ _ (by k_asm) (by k_asm) (fun _ _ _ h => nomatch h) ⟨rfl, none, rfl, fun _ h => nomatch h⟩
  · refine hret _ [] _ _ (by k_asm) (by k_asm) (fun _ _ _ h => nomatch h) ⟨rfl, some _, ⟨_, rfl⟩, fun i h => ?_⟩
    cases h
    have := Int.fmod_nonneg_of_pos (if n < 0 then -n else n) (show (0:Int) < 1000 by decide)
    have e9 : (256 : Int) ^ 9 = 4722366482869645213696 := by decide
    omega
  · refine hret _ [] _ _ (by k_asm) (by k_asm) (fun _ _ _ h => nomatch h) ⟨rfl, some _, ⟨_, rfl⟩, fun i h => ?_⟩
    cases h
    have e9 : (256 : Int) ^ 9 = 4722366482869645213696 := by decide
    have := worth_bound n (by simp at *; omega)
    omega
end Mine
namespace Mine
theorem digs_rev (x : Int) : ∀ k, (KTBy.little k x).reverse = digs x k := by
  intro k
  rw [KTBy.little_eq]
  induction k with
  | zero => rfl
  | succ k ih => rw [List.range_succ, List.map_append, List.reverse_append, ih]; rfl
theorem tb_args (a b c : Value) : argsOk "int.to_bytes" ⟨[a, b], [(PySem.Str.ofString "byteorder", c)]⟩ := by unfold argsOk; kernel_rfl
section
variable {prog : Program} {w : World} {A : Around} {E : Value → Shared → Prop} {s : Shared}
open PySem.Builtin.Int (intBits) in
theorem tb_call {x n : Int} {t u v : Tok} {Q : Value → Shared → Prop} (hn : 0 ≤ n) (hn9 : n ≤ 9) (h0 : 0 ≤ x) (h1 : x < 256 ^ n.toNat)
    (h : ∀ (b : Array UInt8) t' k', KBw.bInts b = digs x n.toNat → b.size ≤ sizeLine → Q (.bytes b t') { s with toks := k' }) :
    wpAny (model prog w) A (call (.builtin "int.to_bytes") [.int x t, .int n u] [(PySem.Str.ofString "byteorder", .str (PySem.Str.ofString "big") v)]) Q E s := by
  obtain ⟨k, rfl⟩ := Int.eq_ofNat_of_zero_le hn
  rw [Int.toNat_natCast] at h1 h
  have hb : intBits x ≤ 8 * k := KTBy.bits_le rfl h0 h1
  have hn' : ¬ x < 0 := by omega
  refine wpAny_call_entry_kw KTBy.slot (typeIs_int s x t) KTBy.entry ?_ (tb_args _ _ _)
  show wpAny _ _ (Builtin.Int.intOfSelf (.int x t) >>= fun y => _) _ _ s
  refine wpAny_bind (wpAny_of_eq (a := x) rfl ?_)
  show wpAny _ _ (Builtin.Int.intBindNamed "to_bytes" ["length", "byteorder", "signed"] 0 2 [.int (k : Int) u] [(PySem.Str.ofString "byteorder", .str (PySem.Str.ofString "big") v)] >>= fun l => _) _ _ s
  refine wpAny_bind (wpAny_of_eq (a := [some (.int (k : Int) u), some (.str (PySem.Str.ofString "big") v), none]) (by kernel_rfl) ?_)
  show wpAny _ _ (Builtin.Int.intIndex "int.to_bytes" (.int (k : Int) u) >>= fun n => _) _ _ s
  refine wpAny_bind (wpAny_of_eq (a := (k : Int)) rfl ?_)
  have b1 : (decide ((k : Int) < -(2 ^ 63 : Int)) || decide ((k : Int) ≥ 2 ^ 63)) = false := by
    rw [decide_eq_false (by omega), decide_eq_false (by omega)]; rfl
  refine KTBy.if_not b1 ?_
  refine wpAny_bind (wpAny_of_eq (a := PySem.Str.ofString "big") (by kernel_rfl) ?_)
  refine wpAny_bind (wpAny_of_eq (a := false) rfl ?_)
  refine wpAny_bind (wpAny_of_eq (a := false) (by kernel_rfl) ?_)
  refine wpAny_ite_false (decide_eq_false (show ¬ ((k : Int) < 0) by omega)) ?_
  refine wpAny_ite_false (decide_eq_false (show ¬ ((k : Int) > 2 ^ 63 - 1 - 33) by omega)) ?_
  refine wpAny_ite_false (decide_eq_false (show ¬ ((k : Int) > (sizeLine : Int)) by rw [sizeLine_eq]; omega)) ?_
  refine KTBy.if_not (by show (decide (x < 0) && !false) = false; rw [decide_eq_false hn']; rfl) ?_
  refine KTBy.if_not (by show (_ && decide ((intBits x : Int) > 8 * (k : Int))) = false; rw [decide_eq_false (show ¬ ((intBits x : Int) > 8 * (k : Int)) by omega), Bool.and_false]) ?_
  have hl : (KTBy.low x k).reverse.length = k := by rw [List.length_reverse, KTBy.low_length]
  refine wpAny_bind (wpAny_mkBytes (wpAny_pure ⟨_, rfl, h _ _ _ ?_ ?_⟩) ?_)
  · show (List.map (fun c : UInt8 => ((c.toNat : Nat) : Int)) (List.reverse (KTBy.low x (Int.toNat (k : Int))))) = digs x k
    rw [Int.toNat_natCast, List.map_reverse, KTBy.low_ints h0 h1, ← KTBy.little_eq, digs_rev]
  · show (List.reverse (KTBy.low x (Int.toNat (k : Int)))).length ≤ sizeLine
    rw [Int.toNat_natCast, hl, sizeLine_eq]; omega
  · show (List.reverse (KTBy.low x (Int.toNat (k : Int)))).length ≤ sizeLine
    rw [Int.toNat_natCast, hl, sizeLine_eq]; omega

/-- a built-in method called with keywords -/
theorem method_kw {env : Env} {pos : Pos} {id : String} {first : List Value} {e : Expr} {rest : List Expr} {kws : List Keyword} {Q : Value → Shared → Prop} {M : Model}
    (h : wpAny M A (spliced (backTo pos (starEach (e :: rest) env))) (fun vs s₁ => wpAny M A (evalAll ((backToKw pos (keywordEach kws env)).map (·.2)))
      (fun kvs s₂ => wpAny M A (call (.builtin id) (first ++ vs) (((backToKw pos (keywordEach kws env)).filterMap (·.1)).zip kvs)) Q E s₂) E s₁) E s)
    (he : backTo pos (starEach (e :: rest) env) = (false, eval e env) :: backTo pos (starEach rest env) := by rfl)
    (hplain : (backTo pos (starEach (e :: rest) env)).any (·.1) = false := by rfl)
    (hall : (backToKw pos (keywordEach kws env)).all (·.1.isSome) = true := by rfl)
    (hkw : (backToKw pos (keywordEach kws env)).any (·.1.isNone) = false := by rfl) :
    wpAny M A (callWith pos (.builtin id) first (backTo pos (starEach (e :: rest) env)) (backToKw pos (keywordEach kws env))) Q E s := by
  refine callWith_builtin_kwB hplain hkw ?_
  rw [he] at h ⊢
  exact evalArgs_kwB hall h
end
end Mine
namespace Mine
section
open PySem.Builtin PySem.Builtin.Str
variable {M : Model} {A : Around} {E : Value → Shared → Prop} {s : Shared} {l : List Nat} {p : List Value} {r : List Nat}
  {f : Nat → List Value × Writer × List Nat → Sem (ForInStep (List Value × Writer × List Nat))} {Q : List Value × Writer × List Nat → Shared → Prop} {w : Writer} {T : PySem.Str} {N : Nat} {o : Option Value}
theorem big_piece {c : Percent} {n : Int} {d : List Nat} (g : KPc.Good w T N) (h1 : c.alt = false) (h2 : c.type = 100 ∨ c.type = 105 ∨ c.type = 117) (h3 : c.prec = none) (hn : 0 ≤ n) (hm : n < 10 ^ 22)
    (hd : d = (PySem.Str.ofString (toString ((n.natAbs : Nat) : Int))).cps.toList) (ho : o = none) (h : ∀ w', KPc.Good w' (T ++ PySem.Str.ofString (toString n)) (N + 22) → wpAny M A (forIn l (p, w', r) f) Q E s) :
    wpAny M A (forIn l (p, w.add ⟨(percentInt c (decide (n < 0)) d).toArray⟩ o, r) f) Q E s := by
  have en : ((n.natAbs : Nat) : Int) = n := Int.natAbs_of_nonneg hn
  rw [KPc.int_text c h1 h2 h3 hn, hd, en]
  exact KPc.after_str g (toString_length_le hn (by decide) hm) (KPc.obj_none ho) h
end
local macro_rules | `(tactic| kpt_piece) => `(tactic| first
  | (refine KPc.after_add0 (by kpc_g) (by kpc_text) (by kpc_obj) ?_; intro _ _)
  | (refine KPc.after_add (by kpc_g) (by kpc_text) (by kpc_obj) ?_; intro _ _)
  | (refine big_piece (by kpc_g) rfl (by kpc_kind) rfl (by with_reducible assumption) (by with_reducible assumption) rfl (by kpc_none) ?_; intro _ _))
section
variable {prog : Program} {w : World} {A : Around} {E : Value → Shared → Prop} {s : Shared} {t t1 t2 : Tok} {Q : Value → Shared → Prop} {b L : Addr} {n : Nat} {h₀ : Heap} {news : List (Addr × Obj)} {x y : Int}
set_option maxHeartbeats 4000000 in
theorem mod_c (N : News h₀ L s.heap news) (hb : (b, ({ cls := .type "tuple", data := .seq #[.int x t1, .int y t2] n } : Obj)) ∈ news) (hx0 : 0 ≤ x) (hx : x < 10 ^ 22) (hy0 : 0 ≤ y) (hy : y < 10 ^ 22) (h : ∀ T t' k, Q (.str T t') { s with toks := k }) :
    wpAny (model prog w) A (binaryOp .Mod (.str (PySem.Str.ofString "With width=%d, compressed size must be smaller than %d") t) (.ref b)) Q E s := by
  refine' KPt.mod_tuple ?kptN ?kptb ?kptF ?kptm ?_
  case kptN => exact N
  case kptb => exact hb
  case kptF => kpt_eq
  case kptm => kpt_run
  exact fun t' k => h _ t' k
set_option maxHeartbeats 4000000 in
theorem mod_u (N : News h₀ L s.heap news) (hb : (b, ({ cls := .type "tuple", data := .seq #[.int x t1, .int y t2] n } : Obj)) ∈ news) (hx0 : 0 ≤ x) (hx : x < 10 ^ 22) (hy0 : 0 ≤ y) (hy : y < 10 ^ 22) (h : ∀ T t' k, Q (.str T t') { s with toks := k }) :
    wpAny (model prog w) A (binaryOp .Mod (.str (PySem.Str.ofString "With width=%d, uncompressed size must be smaller than %d") t) (.ref b)) Q E s := by
  refine' KPt.mod_tuple ?kptN ?kptb ?kptF ?kptm ?_
  case kptN => exact N
  case kptb => exact hb
  case kptF => kpt_eq
  case kptm => kpt_run
  exact fun t' k => h _ t' k
end

section
variable {w : World} {A : Around} {E : Value → Shared → Prop} {s : Shared} {name : Str} {scope : Scope} {L a : Addr} {cd : Value} {h₀ : Heap} {m : Str → Option Value} {mean : ExcName → Option Value} {mg mb : Str → Option Value}
theorem raise_VE {np cpos pos : Pos} {e₀ : PySem.Expr} {rest : List PySem.Expr} {Q : Flow → Shared → Prop} (F : Fr h₀ L s.heap m) (T : Top hd.view_39 (looseW hd.view_39 []) mean mg mb h₀) (hh : A.handled = none) (hk : scope.kind = .function)
    (hx : (envOf name scope L a cd).kindOf (Str.ofString "ValueError") = some .globalImplicit)
    (he : starEach (e₀ :: rest) (envOf name scope L a cd) = (false, eval e₀ (envOf name scope L a cd)) :: starEach rest (envOf name scope L a cd)) (hplain : (backTo cpos (starEach rest (envOf name scope L a cd))).any (·.1) = false)
    (h : wpAny (model PySem.Challenge.rw_fe0329_01.row.prog w) A (spliced (backTo cpos (starEach (e₀ :: rest) (envOf name scope L a cd)))) (fun vs s₂ => vs.length ≤ sizeLine ∧ ∀ h' e, Heap.MadeExc s₂.heap h' e "ValueError" vs → E (.ref e) { s₂ with heap := h' }) E s) :
    wpAny (model PySem.Challenge.rw_fe0329_01.row.prog w) A (exec (.Raise (some (.Call (.Name (Str.ofString "ValueError") np) (e₀ :: rest) [] cpos)) none pos) (envOf name scope L a cd)) Q E s :=
  Raise_madeB PySem.F.excCall_ValueError PySem.F.excRaise_ValueError hh (tp_builtin (v := .type "ValueError") F T PyProof.Rows.Boot.«ValueError» ⟨rfl, h⟩ (hk := hk) (hx := hx)) he hplain
end
end Mine
namespace Mine
theorem pow_lo (n : Nat) : (0 : Int) ≤ 2 ^ n - 1 := by
  have : (0 : Int) < 2 ^ n := Int.pow_pos (by decide)
  omega
theorem pow_same {g : Int} (h : 0 ≤ g) : (2 : Int) ^ (g * 8).toNat = 256 ^ g.toNat := by
  obtain ⟨k, rfl⟩ := Int.eq_ofNat_of_zero_le h
  have e : ((k : Int) * 8).toNat = 8 * k := by omega
  rw [e, Int.toNat_natCast, Int.pow_mul]
  rfl
theorem pow_hi {g : Int} (h : g ≤ 9) : (2 : Int) ^ (g * 8).toNat - 1 < 10 ^ 22 := by
  have h2 : (g * 8).toNat ≤ 72 := by omega
  have : (2 : Nat) ^ (g * 8).toNat ≤ 2 ^ 72 := Nat.pow_le_pow_right (by decide) h2
  have e : ((2 ^ (g * 8).toNat : Nat) : Int) = (2 : Int) ^ (g * 8).toNat := by rw [Int.natCast_pow]; rfl
  rw [← e]
  have e72 : (2 : Nat) ^ 72 = 4722366482869645213696 := by decide
  rw [e72] at this
  omega

open PySem.Builtin.Int (intBits) in
set_option maxHeartbeats 1000000 in
theorem width_of {m : Int} (h0 : 0 ≤ m) (h9 : m < 4722366482869645213696) : ((intBits m : Int) + 7).fdiv 8 = least m := by
  rw [Int.fdiv_eq_ediv_of_nonneg _ (by decide)]
  have up : ∀ k : Nat, m < 2 ^ k → intBits m ≤ k := fun k h => intBits_le_iff.mpr (by
    have e : ((2 ^ k : Nat) : Int) = (2 : Int) ^ k := by rw [Int.natCast_pow]; rfl
    rw [← e] at h; omega)
  have lo : ∀ k : Nat, (2 : Int) ^ k ≤ m → k < intBits m := fun k h => Nat.lt_of_not_le fun q => by
    have := intBits_le_iff.mp q
    have e : ((2 ^ k : Nat) : Int) = (2 : Int) ^ k := by rw [Int.natCast_pow]; rfl
    rw [← e] at h; omega
  unfold least
  split
  · have := up 0 (by simp only [Int.reducePow]; omega); omega
  split
  · have := up 8 (by simp only [Int.reducePow]; omega); have := lo 0 (by simp only [Int.reducePow]; omega); omega
  split
  · have := up 16 (by simp only [Int.reducePow]; omega); have := lo 8 (by simp only [Int.reducePow]; omega); omega
  split
  · have := up 24 (by simp only [Int.reducePow]; omega); have := lo 16 (by simp only [Int.reducePow]; omega); omega
  split
  · have := up 32 (by simp only [Int.reducePow]; omega); have := lo 24 (by simp only [Int.reducePow]; omega); omega
  split
  · have := up 40 (by simp only [Int.reducePow]; omega); have := lo 32 (by simp only [Int.reducePow]; omega); omega
  split
  · have := up 48 (by simp only [Int.reducePow]; omega); have := lo 40 (by simp only [Int.reducePow]; omega); omega
  split
  · have := up 56 (by simp only [Int.reducePow]; omega); have := lo 48 (by simp only [Int.reducePow]; omega); omega
  split
  · have := up 64 (by simp only [Int.reducePow]; omega); have := lo 56 (by simp only [Int.reducePow]; omega); omega
  · have := up 72 (by simp only [Int.reducePow]; omega); have := lo 64 (by simp only [Int.reducePow]; omega); omega

section
variable {led : List (Addr × Obj)} {l x d : Addr} {o1 o2 o3 : Obj}
theorem made_lt (h1 : AllLt d led) (h2 : d < x) (h3 : AllLt l led) : ∀ q ∈ led, ∀ z ∈ [(l, o1), (x, o2), (d, o3)], q.1 < z.1 := by
  intro q hq z hz
  rcases List.mem_cons.mp hz with rfl | hz
  · exact tb_ltOf h3 q hq
  rcases List.mem_cons.mp hz with rfl | hz
  · exact Nat.lt_trans (tb_ltOf h1 q hq) h2
  rcases List.mem_cons.mp hz with rfl | hz
  · exact tb_ltOf h1 q hq
  · cases hz
theorem one_lt (h3 : AllLt l led) : ∀ q ∈ led, ∀ z ∈ [(l, o1)], q.1 < z.1 := fun q hq _ hz => List.mem_singleton.mp hz ▸ tb_ltOf h3 q hq
theorem one_sub {e2 e3 : Addr × Obj} : ∀ z ∈ [(l, o1)] ++ led, z ∈ (l, o1) :: e2 :: e3 :: led := by
  intro z hz
  rcases List.mem_cons.mp hz with rfl | hz
  · exact List.mem_cons_self
  · exact List.mem_cons_of_mem _ (List.mem_cons_of_mem _ (List.mem_cons_of_mem _ hz))
end
/-- what a making gives: nothing, or one size with its fields -/
def MadeRet (ok : Option Int) (u c : Option Int) (r : Value) (tl : List (Addr × Obj)) : Prop :=
  (ok = none ∧ ∃ l k, r = .ref l ∧ tl = [(l, listOf [].toArray k)]) ∨
  (∃ w, ok = some w ∧ ∃ l k x dx xn e1 e2 e3 k1 k2 k3 t3 vu vc, r = .ref l ∧ tl = [(l, listOf [Value.ref x].toArray k), (x, instObj 60 dx), (dx, dictOf [⟨e1, .str (PySem.Str.ofString "uncompressed") k1, vu⟩, ⟨e2, .str (PySem.Str.ofString "compressed") k2, vc⟩, ⟨e3, .str (PySem.Str.ofString "width") k3, .int w t3⟩] xn)] ∧ Val vu u ∧ Val vc c)
end Mine
namespace Mine
local macro_rules | `(tactic| k_room) => `(tactic| ktr_room)
local macro_rules | `(tactic| k_units) => `(tactic| ktr_units)
local macro_rules | `(tactic| walk_at "callWith") => `(tactic| ((with_reducible show wpAny _ _ (callWith _ (Value.builtin _) (_ :: _) _ (backToKw _ (keywordEach (_ :: _) _))) _ _ _); refine method_kw ?_))
local macro_rules | `(tactic| walk_at "call builtin:int.to_bytes") => `(tactic| (k_here; (with_unfolding_all refine' tb_call ?hn ?hn9 ?h0 ?h1 ?_); (case hn => assumption); (case hn9 => assumption); (case h0 => assumption); (case h1 => assumption); intro b' t' k' hb' hs'))
local macro_rules | `(tactic| walk_at "call ref") => `(tactic| (k_here; k_dflt (refine' tlN_use (pre := []) (row_c ?hsz) ?k1 ?k2 ?k3 ?k4 ?k5 ?kp ?kK ?kd ?ku ?_; (case hsz => first | assumption | exact Nat.zero_le _); (case k1 => k_asm); (case k2 => k_asm); (case k3 => k_asm); (case k4 => k_asm); (case k5 => k_asm); (case kp => exact List.forall_mem_nil _); (case kK => first | exact rfl | assumption); (case kd => ktr_room); (case ku => ktr_units); k_whole; intro r9 tl9 h9 tk9 F9 N9 ne9 R9; obtain ⟨D9, ys9, k9, hr9, ht9, hi9⟩ := R9; subst hr9; subst ht9; (replace ne9 := fun q hq => ne9 q hq _ List.mem_cons_self); (simp only [List.cons_append, List.nil_append] at N9); (try k_sweep))))

section
variable {led : List (Addr × Obj)} {l d1 d2 : Addr} {ol o1 o2 : Obj}
theorem told_ne (hl : AllLt l ((d2, o2) :: (d1, o1) :: led)) (n2 : ∀ q ∈ (d1, o1) :: led, q.1 ≠ d2) (n1 : ∀ q ∈ led, q.1 ≠ d1) : ∀ q ∈ led, ∀ p ∈ [(l, ol), (d2, o2), (d1, o1)], q.1 ≠ p.1 := by
  intro q hq p hp
  rcases List.mem_cons.mp hp with rfl | hp
  · exact Nat.ne_of_lt (tb_ltOf hl q (List.mem_cons_of_mem _ (List.mem_cons_of_mem _ hq)))
  rcases List.mem_cons.mp hp with rfl | hp
  · exact n2 q (List.mem_cons_of_mem _ hq)
  rcases List.mem_cons.mp hp with rfl | hp
  · exact n1 q hq
  · cases hp
end

set_option maxHeartbeats 4000000 in
theorem told_ii {w : World} {mean : ExcName → Option Value} {mg mb : Str → Option Value} {news : List (Addr × Obj)} {p x dx : Addr} {pn xn : Nat} {e1 e2 e3 : Int} {k1 k2 k3 t t2 t3 : Tok} {ua ub wd : Int} (h0 : 0 ≤ ua) (h1 : ua < 256 ^ wd.toNat) (h2 : 0 ≤ ub) (h3 : ub < 256 ^ wd.toNat) (hw : 0 ≤ wd) (hw9 : wd ≤ 9) :
    TlN 6 w mean mg mb 111 ((p, listOf #[.ref x] pn) :: (x, instObj 60 dx) :: (dx, dictOf [⟨e1, .str (PySem.Str.ofString "uncompressed") k1, .int ua t⟩, ⟨e2, .str (PySem.Str.ofString "compressed") k2, .int ub t2⟩, ⟨e3, .str (PySem.Str.ofString "width") k3, .int wd t3⟩] xn) :: news) [.ref p]
      (fun r tl => DatIn tl r (sizeD (some ua) (some ub) wd)) := by
  unfold TlN
  w_on
  k_fill
  intro dp un gd cn cs a ccd cl outer A₀ base h₀ L m s Q E B F X N T hk hd hu hret
  refine wpAny_call ?_
  k_dflt ktr_enter
  k_steps
  rename IntsAre _ (KBw.bInts _) => i2
  rename KBw.bInts _ = digs ub _ => b2
  rename KBw.bInts _ = digs ua _ => b1
  rw [b2] at i2
  rename IntsAre _ (KBw.bInts _) => i1
  rw [b1] at i1
  rename ∀ q : Addr × Obj, _ → q.1 ≠ _ => n2
  revert n2
  rename ∀ q : Addr × Obj, _ → q.1 ≠ _ => n1
  intro n2
  rename (_ ∧ _ : Prop) => hl
  exact hret _ [_, _, _] _ _ (by k_asm) (by k_asm) (told_ne hl n2 n1) (told_dat ⟨_, rfl⟩ ⟨_, rfl⟩ i1 rfl i2 rfl)

set_option maxHeartbeats 4000000 in
theorem told_in {w : World} {mean : ExcName → Option Value} {mg mb : Str → Option Value} {news : List (Addr × Obj)} {p x dx : Addr} {pn xn : Nat} {e1 e2 e3 : Int} {k1 k2 k3 t t3 : Tok} {ua wd : Int} (h0 : 0 ≤ ua) (h1 : ua < 256 ^ wd.toNat) (hw : 0 ≤ wd) (hw9 : wd ≤ 9) :
    TlN 6 w mean mg mb 111 ((p, listOf #[.ref x] pn) :: (x, instObj 60 dx) :: (dx, dictOf [⟨e1, .str (PySem.Str.ofString "uncompressed") k1, .int ua t⟩, ⟨e2, .str (PySem.Str.ofString "compressed") k2, .none⟩, ⟨e3, .str (PySem.Str.ofString "width") k3, .int wd t3⟩] xn) :: news) [.ref p]
      (fun r tl => DatIn tl r (sizeD (some ua) none wd)) := by
  unfold TlN
  w_on
  k_fill
  intro dp un gd cn cs a ccd cl outer A₀ base h₀ L m s Q E B F X N T hk hd hu hret
  refine wpAny_call ?_
  k_dflt ktr_enter
  k_steps
  rename IntsAre _ (KBw.bInts _) => i2
  revert i2
  rename IntsAre _ (KBw.bInts _) => i1
  intro i2
  rename KBw.bInts _ = digs ua _ => b1
  rw [b1] at i1
  rename ∀ q : Addr × Obj, _ → q.1 ≠ _ => n2
  revert n2
  rename ∀ q : Addr × Obj, _ → q.1 ≠ _ => n1
  intro n2
  rename (_ ∧ _ : Prop) => hl
  exact hret _ [_, _, _] _ _ (by k_asm) (by k_asm) (told_ne hl n2 n1) (told_dat (c := none) ⟨_, rfl⟩ rfl i1 rfl i2 rfl)

set_option maxHeartbeats 4000000 in
theorem told_ni {w : World} {mean : ExcName → Option Value} {mg mb : Str → Option Value} {news : List (Addr × Obj)} {p x dx : Addr} {pn xn : Nat} {e1 e2 e3 : Int} {k1 k2 k3 t2 t3 : Tok} {ub wd : Int} (h2 : 0 ≤ ub) (h3 : ub < 256 ^ wd.toNat) (hw : 0 ≤ wd) (hw9 : wd ≤ 9) :
    TlN 6 w mean mg mb 111 ((p, listOf #[.ref x] pn) :: (x, instObj 60 dx) :: (dx, dictOf [⟨e1, .str (PySem.Str.ofString "uncompressed") k1, .none⟩, ⟨e2, .str (PySem.Str.ofString "compressed") k2, .int ub t2⟩, ⟨e3, .str (PySem.Str.ofString "width") k3, .int wd t3⟩] xn) :: news) [.ref p]
      (fun r tl => DatIn tl r (sizeD none (some ub) wd)) := by
  unfold TlN
  w_on
  k_fill
  intro dp un gd cn cs a ccd cl outer A₀ base h₀ L m s Q E B F X N T hk hd hu hret
  refine wpAny_call ?_
  k_dflt ktr_enter
  k_steps
  rename IntsAre _ (KBw.bInts _) => i2
  rename KBw.bInts _ = digs ub _ => b2
  rw [b2] at i2
  rename IntsAre _ (KBw.bInts _) => i1
  rename ∀ q : Addr × Obj, _ → q.1 ≠ _ => n2
  revert n2
  rename ∀ q : Addr × Obj, _ → q.1 ≠ _ => n1
  intro n2
  rename (_ ∧ _ : Prop) => hl
  exact hret _ [_, _, _] _ _ (by k_asm) (by k_asm) (told_ne hl n2 n1) (told_dat (u := none) rfl ⟨_, rfl⟩ i1 rfl i2 rfl)

set_option maxHeartbeats 4000000 in
theorem told_no {w : World} {mean : ExcName → Option Value} {mg mb : Str → Option Value} {news : List (Addr × Obj)} {p : Addr} {pn : Nat} :
    TlN 6 w mean mg mb 111 ((p, listOf #[] pn) :: news) [.ref p] (fun r tl => DatIn tl r refD) := by
  unfold TlN
  w_on
  k_fill
  intro dp un gd cn cs a ccd cl outer A₀ base h₀ L m s Q E B F X N T hk hd hu hret
  refine wpAny_call ?_
  k_dflt ktr_enter
  k_steps
  rename (_ ∧ _ : Prop) => hl
  exact hret _ [_] _ _ (by k_asm) (by k_asm) (fun q hq p hp => List.mem_singleton.mp hp ▸ Nat.ne_of_lt (tb_ltOf (l := (_, _) :: _) hl q hq)) (.list List.mem_cons_self (.cons (.str _ _) .nil))
end Mine
namespace Mine
theorem all_ne_succ {d : Addr} {l : List (Addr × Obj)} (h : AllLt d l) : ∀ p ∈ l, p.1 ≠ d + 1 := fun p hp => Nat.ne_of_lt (Nat.lt_succ_of_lt (tb_ltOf h p hp))
theorem max_of {M a b : Int} (h : M = a ∨ M = b) (h2 : a ≤ M ∧ b ≤ M) : max a b = M := by omega
theorem due_sub {l : Addr} {o1 : Obj} {led : List (Addr × Obj)} {e1 e2 e3 e4 e5 e6 : Addr × Obj} : ∀ z ∈ [(l, o1), e2, e3] ++ led, z ∈ (l, o1) :: e1 :: e2 :: e3 :: e4 :: e5 :: e6 :: led := by
  intro z hz
  simp only [List.cons_append, List.nil_append, List.mem_cons] at hz ⊢
  rcases hz with h | h | h | h
  · exact .inl h
  · exact .inr (.inr (.inl h))
  · exact .inr (.inr (.inr (.inl h)))
  · exact .inr (.inr (.inr (.inr (.inr (.inr (.inr h))))))
theorem due_lt {led : List (Addr × Obj)} {l x d : Addr} {o1 o2 o3 : Obj} (h1 : AllLt l led) (h2 : AllLt x led) (h3 : AllLt d led) : ∀ q ∈ led, ∀ z ∈ [(l, o1), (x, o2), (d, o3)], q.1 < z.1 := by
  intro q hq z hz
  rcases List.mem_cons.mp hz with rfl | hz
  · exact tb_ltOf h1 q hq
  rcases List.mem_cons.mp hz with rfl | hz
  · exact tb_ltOf h2 q hq
  rcases List.mem_cons.mp hz with rfl | hz
  · exact tb_ltOf h3 q hq
  · cases hz
theorem due_one {led : List (Addr × Obj)} {l : Addr} {o1 : Obj} (h3 : AllLt l led) : ∀ q ∈ led, ∀ z ∈ [(l, o1)], q.1 < z.1 := fun q hq _ hz => List.mem_singleton.mp hz ▸ tb_ltOf h3 q hq
theorem comp_sub {x e1 e2 e3 : Addr × Obj} {led : List (Addr × Obj)} : ∀ p ∈ e1 :: e2 :: e3 :: x :: led, p ∈ x :: e1 :: e2 :: e3 :: led := by
  intro p hp
  simp only [List.mem_cons] at hp ⊢
  rcases hp with h | h | h | h | h
  · exact .inr (.inl h)
  · exact .inr (.inr (.inl h))
  · exact .inr (.inr (.inr (.inl h)))
  · exact .inl h
  · exact .inr (.inr (.inr (.inr h)))
/-- what the law reckons as due -/
def DueRet (ok : Option Int) (u c : Option Int) (r : Value) (tl : List (Addr × Obj)) : Prop :=
  (ok = none ∧ ∃ l k t, r = .ref l ∧ tl = [(l, listOf [.str (PySem.Str.ofString "refused") t].toArray k)]) ∨
  (∃ w, ok = some w ∧ ∃ l k t t' vu vc d1 d2 o1 o2, r = .ref l ∧ tl = [(l, listOf [.str (PySem.Str.ofString "size") t, .int w t', vu, vc, .ref d1, .ref d2].toArray k), (d2, o2), (d1, o1)] ∧ DatAll tl [.str (PySem.Str.ofString "size") t, .int w t', vu, vc, .ref d1, .ref d2] [.str (PySem.Str.ofString "size"), .int w, numD u, numD c, rowD w u, rowD w c])
end Mine
namespace Mine
theorem least_low {n : Int} (h1 : n < 4722366482869645213696) : least n = 0 ∨ 256 ^ (least n - 1).toNat ≤ n := by
  unfold least
  repeat' split
  · exact .inl rfl
  all_goals (right; first | (show 1 ≤ n; omega) | (show 256 ≤ n; omega) | (show 65536 ≤ n; omega) | (show 16777216 ≤ n; omega) | (show 4294967296 ≤ n; omega) | (show 1099511627776 ≤ n; omega) | (show 281474976710656 ≤ n; omega) | (show 72057594037927936 ≤ n; omega) | (show 18446744073709551616 ≤ n; omega))
theorem okI_some {lo hi : Int} {g : Option Int} {w : Int} (hb : hi < 4722366482869645213696) (hl : lo ≤ hi) (hg : ∀ x, g = some x → x ≤ 9) (h : okI lo hi g = some w) : 0 ≤ lo ∧ 0 ≤ w ∧ w ≤ 9 ∧ hi < 256 ^ w.toNat := by
  unfold okI at h
  split at h
  · cases h
  · cases g with
    | none =>
      obtain rfl := Option.some.inj h
      exact ⟨by omega, least_rng (by omega) hb⟩
    | some x =>
      dsimp only at h
      split at h
      · cases h
      · obtain rfl := Option.some.inj h
        have := hg _ rfl
        exact ⟨by omega, by omega, by omega, by omega⟩
theorem okI_again {lo hi : Int} {g : Option Int} {w : Int} (hb : hi < 4722366482869645213696) (hl : lo ≤ hi) (hg : ∀ x, g = some x → x ≤ 9) (h : okI lo hi g = some w) : okI lo hi (some w) = some w := by
  obtain ⟨a, b, _, d⟩ := okI_some hb hl hg h
  unfold okI
  rw [if_neg (by omega)]
  dsimp only
  rw [if_neg (by omega)]
theorem okI_less {lo hi : Int} {w : Int} (hb : hi < 4722366482869645213696) (_hl : lo ≤ hi) (h : okI lo hi none = some w) : okI lo hi (some (w - 1)) = none := by
  unfold okI at h ⊢
  split at h
  · cases h
  · rename_i hlo
    rw [if_neg hlo]
    obtain rfl := Option.some.inj h
    dsimp only
    rw [if_pos]
    rcases least_low hb with e | e
    · left; omega
    · exact .inr e
theorem okI_none {lo hi : Int} (h : okI lo hi none = none) (g : Option Int) : okI lo hi g = none := by
  unfold okI at h ⊢
  split at h
  · rw [if_pos (by assumption)]
  · cases h

section
variable {u c g : Option Int} {w : Int} (hu : ∀ i, u = some i → i < 4722366482869645213696) (hc : ∀ i, c = some i → i < 4722366482869645213696) (hg : ∀ x, g = some x → x ≤ 9)
include hu hc hg in
theorem okW_fits (h : okW u c g = some w) : 0 ≤ w ∧ w ≤ 9 ∧ Fits u w ∧ Fits c w ∧ (u ≠ none ∨ c ≠ none) := by
  cases u with
  | none =>
    cases c with
    | none => cases h
    | some b =>
      obtain ⟨x, y, z, t⟩ := okI_some (hc _ rfl) (Int.le_refl _) hg h
      exact ⟨y, z, (fun _ e => nomatch e), fun i e => by cases e; exact ⟨x, t⟩, .inr (by simp)⟩
  | some a =>
    cases c with
    | none =>
      obtain ⟨x, y, z, t⟩ := okI_some (hu _ rfl) (Int.le_refl _) hg h
      exact ⟨y, z, fun i e => by cases e; exact ⟨x, t⟩, (fun _ e => nomatch e), .inl (by simp)⟩
    | some b =>
      have ha := hu _ rfl
      have hb := hc _ rfl
      obtain ⟨x, y, z, t⟩ := okI_some (by omega) (by omega) hg h
      exact ⟨y, z, fun i e => by cases e; exact ⟨by omega, by omega⟩, fun i e => by cases e; exact ⟨by omega, by omega⟩, .inl (by simp)⟩
include hu hc hg in
theorem okW_again (h : okW u c g = some w) : okW u c (some w) = some w := by
  cases u with
  | none =>
    cases c with
    | none => cases h
    | some b => exact okI_again (hc _ rfl) (Int.le_refl _) hg h
  | some a =>
    cases c with
    | none => exact okI_again (hu _ rfl) (Int.le_refl _) hg h
    | some b =>
      have ha := hu _ rfl
      have hb := hc _ rfl
      exact okI_again (by omega) (by omega) hg h
include hu hc in
theorem okW_less (h : okW u c none = some w) : okW u c (some (w - 1)) = none := by
  cases u with
  | none =>
    cases c with
    | none => rfl
    | some b => exact okI_less (hc _ rfl) (Int.le_refl _) h
  | some a =>
    cases c with
    | none => exact okI_less (hu _ rfl) (Int.le_refl _) h
    | some b =>
      have ha := hu _ rfl
      have hb := hc _ rfl
      exact okI_less (by omega) (by omega) h
theorem okW_none (h : okW u c none = none) (g : Option Int) : okW u c g = none := by
  cases u with
  | none =>
    cases c with
    | none => rfl
    | some b => exact okI_none h g
  | some a =>
    cases c with
    | none => exact okI_none h g
    | some b => exact okI_none h g
end
end Mine
namespace Mine
local macro_rules | `(tactic| k_room) => `(tactic| ktr_room)
local macro_rules | `(tactic| k_units) => `(tactic| ktr_units)
local macro_rules | `(tactic| k_all) => `(tactic| assumption)
local macro_rules | `(tactic| walk_at "eval Name") => `(tactic| (k_here; k_dflt (refine' nameX_L ?F ?v ?_ ?a ?b; (case F => k_asm); (case a => rfl); (case b => rfl); (case v => rfl); k_whole)))
local macro_rules | `(tactic| walk_at "subscriptTail Name Constant ref int") => `(tactic| (k_here; (with_reducible show wpAny _ _ (subscriptTail _ _ (Value.ref _) (Value.int _ _)) _ _ _); (with_unfolding_all refine' item_at ?k1 ?k2 ?k3 ?k4 ?k5 ?_ ?k6; (case k1 => k_asm); (case k2 => k_mem); (case k3 => decide); (case k4 => decide); (case k5 => rfl); (case k6 => with_unfolding_all rfl); k_whole)))
local macro_rules | `(tactic| walk_at "binaryOp Pow int int") => `(tactic| (k_here; (with_reducible refine' pow_int_small ?kb1 ?kb2 ?kb3 ?_); (case kb1 => omega); (case kb2 => omega); (case kb3 => decide)))
local macro_rules | `(tactic| walk_at "CompSrc") => `(tactic| (k_here; k_dflt (refine LCg.CompSrc.ledger (by rfl) (by k_asm) (by k_asm) (by k_mem) (by exact Nat.le_of_ble_eq_true rfl) ?_; intro g'; lcg_lit)))
local macro_rules | `(tactic| walk_at "CompEnd") => `(tactic| k_dflt first
  | ((refine' LCg.CompEnd.intro (by assumption) (by assumption) _ (fun _ hp => hp) ?co ?cs ?_); (case co => first | assumption | ((simp only [LCg.Off3, and_true]); assumption)); (case cs => exact Or.inr ⟨_, by k_mem, rfl, _, rfl⟩))
  | ((refine' LCg.CompEnd.intro (by assumption) (by assumption) ((_, _) :: _) comp_sub ?co ?cs ?_); (case co => exact ⟨⟨neN (by omega), neN (by omega), neN (by omega)⟩, by assumption⟩); (case cs => exact Or.inr ⟨_, by k_mem, rfl, _, rfl⟩)))
local macro_rules | `(tactic| walk_at "call ref") => `(tactic| (k_here; k_dflt (refine' tl_use (pre := []) (least_c ?h0 ?h1) ?k1 ?k2 ?k3 ?k4 ?k5 ?kp ?kK ?kd ?ku ?_; (case h0 => (repeat' split) <;> omega); (case h1 => (repeat' split) <;> omega); (case k1 => k_asm); (case k2 => k_asm); (case k3 => k_asm); (case k4 => k_asm); (case k5 => k_asm); (case kp => exact List.forall_mem_nil _); (case kK => first | exact rfl | assumption); (case kd => ktr_room); (case ku => ktr_units); k_whole; intro r9 tl9 h9 tk9 F9 N9 lt9 R9; obtain ⟨ht9, v9, t9, hr9, hv9, h09, h19, h29⟩ := R9; subst hr9; subst ht9; (simp only [List.nil_append] at N9); clear lt9; (try k_sweep))))
local macro_rules | `(tactic| walk_at "call ref") => `(tactic| (k_here; k_dflt (refine' tl_use (pre := []) (digits_c ?h0 ?h1) ?k1 ?k2 ?k3 ?k4 ?k5 ?kp ?kK ?kd ?ku ?_; (case h0 => omega); (case h1 => omega); (case k1 => k_asm); (case k2 => k_asm); (case k3 => k_asm); (case k4 => k_asm); (case k5 => k_asm); (case kp => exact List.forall_mem_nil _); (case kK => first | exact rfl | assumption); (case kd => ktr_room); (case ku => ktr_units); k_whole; intro r9 tl9 h9 tk9 F9 N9 lt9 R9; obtain ⟨a9, vs9, k9, hr9, ht9, hi9⟩ := R9; subst hr9; subst ht9; (replace lt9 := fun q hq => lt9 q hq _ List.mem_cons_self); (k_lt lt9); (simp only [List.cons_append, List.nil_append] at N9); (try k_sweep))))

set_option maxHeartbeats 4000000 in
theorem due_iin {w : World} {mean : ExcName → Option Value} {mg mb : Str → Option Value} {news : List (Addr × Obj)} {ua ub ug : Int} {t t2 t3 : Tok} {p : Addr} {pn : Nat} (ha : ua < 4722366482869645213696) (hb : ub < 4722366482869645213696) (h9 : ug ≤ 9) :
    Tl 6 w mean mg mb 116 ((p, listOf [.int ua t, .int ub t2].toArray pn) :: news) [.ref p, .none] (DueRet (okW (some ua) (some ub) none) (some ua) (some ub)) := by
  unfold Tl
  w_on
  k_fill
  intro dp un gd cn cs a ccd cl outer A₀ base h₀ L m s Q E B F X N T hk hd hu hret
  refine wpAny_call ?_
  k_dflt ((refine' code_defC ?k1 ?k2 ?k3 ?k4 ?k5 ?kA ?kF ?kK ?k6 ?k7 ?k8 ?k9 ?kB ?kD ?_ ?c2 ?c3 ?c4; (case kA => exact rfl); (case kF => exact rfl); (case kK => assumption); (case k1 => k_asm); (case k2 => k_asm); (case k3 => k_asm); (case k4 => k_asm); (case k5 => k_asm); (case k6 => k_is); (case k7 => k_is); (case k8 => ktr_room); (case k9 => first | exact BindsTo.of_eq rfl | exact binds_K (by k_in) rfl (by k_is) rfl rfl rfl | fail "k_enter: no rule for these arguments"); (case kB => exact rfl); (case kD => decide +kernel); (case c2 => exact rfl); (case c3 => exact rfl); (case c4 => exact rfl); k_whole; intro g' L' h' tk' cells' FG' F' N' Y' B' X' T' l1; (try k_lt l1); k_cells Y'; (try simp only [List.cons_append, List.nil_append] at N'); (try dsimp only); (try k_lift B'); (try k_fold)))
  rename (_ < _ ∧ AllLt _ _ : Prop) => hl0
  have hne := all_ne_succ hl0.2
  k_steps
  all_goals first
    | exact absurd (of_decide_eq_true (by assumption)) (List.cons_ne_nil _ _)
    | ((rename (_ < _ ∧ _ < _ ∧ _ < _ ∧ _ < _ ∧ _ < _ ∧ _ < _ ∧ _ < _ ∧ AllLt _ _ : Prop) => hl); (rename (_ < _ ∧ _ < _ ∧ _ < _ ∧ _ < _ ∧ _ < _ ∧ _ < _ ∧ _ < _ ∧ _ < _ ∧ AllLt _ _ : Prop) => h1'); revert hl; (rename (_ < _ ∧ _ < _ ∧ _ < _ ∧ _ < _ ∧ _ < _ ∧ _ < _ ∧ _ < _ ∧ AllLt _ _ : Prop) => h0'); intro hl;
       (refine hret _ [_, _, _] _ _ (by k_asm) (cb_drop (by assumption) due_sub) (due_lt (led := (_, _) :: _) hl.2.2.2.2.2.2 h1'.2.2.2.2.2.2.2 h0'.2.2.2.2.2.2) (Or.inr ⟨_, ?eq, _, _, _, _, _, _, _, _, _, _, rfl, rfl, ?dat⟩); (case eq => first | ((simp only [okW, okI]); rw [if_neg (by omega), if_neg (by omega)]) | ((rename _ = least _ => hv'); (rw [hv']); (simp only [okW, okI]); (rw [if_neg (by omega)]); exact congrArg some (congrArg least (by first | exact max_of (by assumption) (by assumption) | omega)))); (case dat => exact size_all (u := (some ua)) (c := (some ub)) (ns1 := (digs ua _)) (ns2 := (digs ub _)) ⟨_, rfl⟩ ⟨_, rfl⟩ (by first | assumption | exact .nil) rfl (by first | assumption | exact .nil) rfl)))
    | ((rename (_ < _ ∧ _ < _ ∧ _ < _ ∧ _ < _ ∧ AllLt _ _ : Prop) => hl); exact hret _ [_] _ _ (by k_asm) (cb_drop (by assumption) three_sub) (due_one (led := (_, _) :: _) hl.2.2.2) (Or.inl ⟨by (first | rfl | ((simp only [okW, okI]); first | (rw [if_pos (by omega)]) | (rw [if_neg (by omega), if_pos (by omega)]))), _, _, _, rfl, rfl⟩))
end Mine
namespace Mine
local macro_rules | `(tactic| k_room) => `(tactic| ktr_room)
local macro_rules | `(tactic| k_units) => `(tactic| ktr_units)
local macro_rules | `(tactic| k_all) => `(tactic| assumption)
local macro_rules | `(tactic| walk_at "eval Name") => `(tactic| (k_here; k_dflt (refine' nameX_L ?F ?v ?_ ?a ?b; (case F => k_asm); (case a => rfl); (case b => rfl); (case v => rfl); k_whole)))
local macro_rules | `(tactic| walk_at "subscriptTail Name Constant ref int") => `(tactic| (k_here; (with_reducible show wpAny _ _ (subscriptTail _ _ (Value.ref _) (Value.int _ _)) _ _ _); (with_unfolding_all refine' item_at ?k1 ?k2 ?k3 ?k4 ?k5 ?_ ?k6; (case k1 => k_asm); (case k2 => k_mem); (case k3 => decide); (case k4 => decide); (case k5 => rfl); (case k6 => with_unfolding_all rfl); k_whole)))
local macro_rules | `(tactic| walk_at "binaryOp Pow int int") => `(tactic| (k_here; (with_reducible refine' pow_int_small ?kb1 ?kb2 ?kb3 ?_); (case kb1 => omega); (case kb2 => omega); (case kb3 => decide)))
local macro_rules | `(tactic| walk_at "CompSrc") => `(tactic| (k_here; k_dflt (refine LCg.CompSrc.ledger (by rfl) (by k_asm) (by k_asm) (by k_mem) (by exact Nat.le_of_ble_eq_true rfl) ?_; intro g'; lcg_lit)))
local macro_rules | `(tactic| walk_at "CompEnd") => `(tactic| k_dflt first
  | ((refine' LCg.CompEnd.intro (by assumption) (by assumption) _ (fun _ hp => hp) ?co ?cs ?_); (case co => first | assumption | ((simp only [LCg.Off3, and_true]); assumption)); (case cs => exact Or.inr ⟨_, by k_mem, rfl, _, rfl⟩))
  | ((refine' LCg.CompEnd.intro (by assumption) (by assumption) ((_, _) :: _) comp_sub ?co ?cs ?_); (case co => exact ⟨⟨neN (by omega), neN (by omega), neN (by omega)⟩, by assumption⟩); (case cs => exact Or.inr ⟨_, by k_mem, rfl, _, rfl⟩)))
local macro_rules | `(tactic| walk_at "call ref") => `(tactic| (k_here; k_dflt (refine' tl_use (pre := []) (least_c ?h0 ?h1) ?k1 ?k2 ?k3 ?k4 ?k5 ?kp ?kK ?kd ?ku ?_; (case h0 => (repeat' split) <;> omega); (case h1 => (repeat' split) <;> omega); (case k1 => k_asm); (case k2 => k_asm); (case k3 => k_asm); (case k4 => k_asm); (case k5 => k_asm); (case kp => exact List.forall_mem_nil _); (case kK => first | exact rfl | assumption); (case kd => ktr_room); (case ku => ktr_units); k_whole; intro r9 tl9 h9 tk9 F9 N9 lt9 R9; obtain ⟨ht9, v9, t9, hr9, hv9, h09, h19, h29⟩ := R9; subst hr9; subst ht9; (simp only [List.nil_append] at N9); clear lt9; (try k_sweep))))
local macro_rules | `(tactic| walk_at "call ref") => `(tactic| (k_here; k_dflt (refine' tl_use (pre := []) (digits_c ?h0 ?h1) ?k1 ?k2 ?k3 ?k4 ?k5 ?kp ?kK ?kd ?ku ?_; (case h0 => omega); (case h1 => omega); (case k1 => k_asm); (case k2 => k_asm); (case k3 => k_asm); (case k4 => k_asm); (case k5 => k_asm); (case kp => exact List.forall_mem_nil _); (case kK => first | exact rfl | assumption); (case kd => ktr_room); (case ku => ktr_units); k_whole; intro r9 tl9 h9 tk9 F9 N9 lt9 R9; obtain ⟨a9, vs9, k9, hr9, ht9, hi9⟩ := R9; subst hr9; subst ht9; (replace lt9 := fun q hq => lt9 q hq _ List.mem_cons_self); (k_lt lt9); (simp only [List.cons_append, List.nil_append] at N9); (try k_sweep))))

set_option maxHeartbeats 4000000 in
theorem due_iii {w : World} {mean : ExcName → Option Value} {mg mb : Str → Option Value} {news : List (Addr × Obj)} {ua ub ug : Int} {t t2 t3 : Tok} {p : Addr} {pn : Nat} (ha : ua < 4722366482869645213696) (hb : ub < 4722366482869645213696) (h9 : ug ≤ 9) :
    Tl 6 w mean mg mb 116 ((p, listOf [.int ua t, .int ub t2].toArray pn) :: news) [.ref p, .int ug t3] (DueRet (okW (some ua) (some ub) (some ug)) (some ua) (some ub)) := by
  unfold Tl
  w_on
  k_fill
  intro dp un gd cn cs a ccd cl outer A₀ base h₀ L m s Q E B F X N T hk hd hu hret
  refine wpAny_call ?_
  k_dflt ((refine' code_defC ?k1 ?k2 ?k3 ?k4 ?k5 ?kA ?kF ?kK ?k6 ?k7 ?k8 ?k9 ?kB ?kD ?_ ?c2 ?c3 ?c4; (case kA => exact rfl); (case kF => exact rfl); (case kK => assumption); (case k1 => k_asm); (case k2 => k_asm); (case k3 => k_asm); (case k4 => k_asm); (case k5 => k_asm); (case k6 => k_is); (case k7 => k_is); (case k8 => ktr_room); (case k9 => first | exact BindsTo.of_eq rfl | exact binds_K (by k_in) rfl (by k_is) rfl rfl rfl | fail "k_enter: no rule for these arguments"); (case kB => exact rfl); (case kD => decide +kernel); (case c2 => exact rfl); (case c3 => exact rfl); (case c4 => exact rfl); k_whole; intro g' L' h' tk' cells' FG' F' N' Y' B' X' T' l1; (try k_lt l1); k_cells Y'; (try simp only [List.cons_append, List.nil_append] at N'); (try dsimp only); (try k_lift B'); (try k_fold)))
  rename (_ < _ ∧ AllLt _ _ : Prop) => hl0
  have hne := all_ne_succ hl0.2
  k_steps
  all_goals first
    | exact absurd (of_decide_eq_true (by assumption)) (List.cons_ne_nil _ _)
    | ((rename (_ < _ ∧ _ < _ ∧ _ < _ ∧ _ < _ ∧ _ < _ ∧ _ < _ ∧ _ < _ ∧ AllLt _ _ : Prop) => hl); (rename (_ < _ ∧ _ < _ ∧ _ < _ ∧ _ < _ ∧ _ < _ ∧ _ < _ ∧ _ < _ ∧ _ < _ ∧ AllLt _ _ : Prop) => h1'); revert hl; (rename (_ < _ ∧ _ < _ ∧ _ < _ ∧ _ < _ ∧ _ < _ ∧ _ < _ ∧ _ < _ ∧ AllLt _ _ : Prop) => h0'); intro hl;
       (refine hret _ [_, _, _] _ _ (by k_asm) (cb_drop (by assumption) due_sub) (due_lt (led := (_, _) :: _) hl.2.2.2.2.2.2 h1'.2.2.2.2.2.2.2 h0'.2.2.2.2.2.2) (Or.inr ⟨_, ?eq, _, _, _, _, _, _, _, _, _, _, rfl, rfl, ?dat⟩); (case eq => first | ((simp only [okW, okI]); rw [if_neg (by omega), if_neg (by omega)]) | ((rename _ = least _ => hv'); (rw [hv']); (simp only [okW, okI]); (rw [if_neg (by omega)]); exact congrArg some (congrArg least (by first | exact max_of (by assumption) (by assumption) | omega)))); (case dat => exact size_all (u := (some ua)) (c := (some ub)) (ns1 := (digs ua _)) (ns2 := (digs ub _)) ⟨_, rfl⟩ ⟨_, rfl⟩ (by first | assumption | exact .nil) rfl (by first | assumption | exact .nil) rfl)))
    | ((rename (_ < _ ∧ _ < _ ∧ _ < _ ∧ _ < _ ∧ AllLt _ _ : Prop) => hl); exact hret _ [_] _ _ (by k_asm) (cb_drop (by assumption) three_sub) (due_one (led := (_, _) :: _) hl.2.2.2) (Or.inl ⟨by (first | rfl | ((simp only [okW, okI]); first | (rw [if_pos (by omega)]) | (rw [if_neg (by omega), if_pos (by omega)]))), _, _, _, rfl, rfl⟩))
end Mine
namespace Mine
local macro_rules | `(tactic| k_room) => `(tactic| ktr_room)
local macro_rules | `(tactic| k_units) => `(tactic| ktr_units)
local macro_rules | `(tactic| k_all) => `(tactic| assumption)
local macro_rules | `(tactic| walk_at "eval Name") => `(tactic| (k_here; k_dflt (refine' nameX_L ?F ?v ?_ ?a ?b; (case F => k_asm); (case a => rfl); (case b => rfl); (case v => rfl); k_whole)))
local macro_rules | `(tactic| walk_at "subscriptTail Name Constant ref int") => `(tactic| (k_here; (with_reducible show wpAny _ _ (subscriptTail _ _ (Value.ref _) (Value.int _ _)) _ _ _); (with_unfolding_all refine' item_at ?k1 ?k2 ?k3 ?k4 ?k5 ?_ ?k6; (case k1 => k_asm); (case k2 => k_mem); (case k3 => decide); (case k4 => decide); (case k5 => rfl); (case k6 => with_unfolding_all rfl); k_whole)))
local macro_rules | `(tactic| walk_at "binaryOp Pow int int") => `(tactic| (k_here; (with_reducible refine' pow_int_small ?kb1 ?kb2 ?kb3 ?_); (case kb1 => omega); (case kb2 => omega); (case kb3 => decide)))
local macro_rules | `(tactic| walk_at "CompSrc") => `(tactic| (k_here; k_dflt (refine LCg.CompSrc.ledger (by rfl) (by k_asm) (by k_asm) (by k_mem) (by exact Nat.le_of_ble_eq_true rfl) ?_; intro g'; lcg_lit)))
local macro_rules | `(tactic| walk_at "CompEnd") => `(tactic| k_dflt first
  | ((refine' LCg.CompEnd.intro (by assumption) (by assumption) _ (fun _ hp => hp) ?co ?cs ?_); (case co => first | assumption | ((simp only [LCg.Off3, and_true]); assumption)); (case cs => exact Or.inr ⟨_, by k_mem, rfl, _, rfl⟩))
  | ((refine' LCg.CompEnd.intro (by assumption) (by assumption) ((_, _) :: _) comp_sub ?co ?cs ?_); (case co => exact ⟨⟨neN (by omega), neN (by omega), neN (by omega)⟩, by assumption⟩); (case cs => exact Or.inr ⟨_, by k_mem, rfl, _, rfl⟩)))
local macro_rules | `(tactic| walk_at "call ref") => `(tactic| (k_here; k_dflt (refine' tl_use (pre := []) (least_c ?h0 ?h1) ?k1 ?k2 ?k3 ?k4 ?k5 ?kp ?kK ?kd ?ku ?_; (case h0 => (repeat' split) <;> omega); (case h1 => (repeat' split) <;> omega); (case k1 => k_asm); (case k2 => k_asm); (case k3 => k_asm); (case k4 => k_asm); (case k5 => k_asm); (case kp => exact List.forall_mem_nil _); (case kK => first | exact rfl | assumption); (case kd => ktr_room); (case ku => ktr_units); k_whole; intro r9 tl9 h9 tk9 F9 N9 lt9 R9; obtain ⟨ht9, v9, t9, hr9, hv9, h09, h19, h29⟩ := R9; subst hr9; subst ht9; (simp only [List.nil_append] at N9); clear lt9; (try k_sweep))))
local macro_rules | `(tactic| walk_at "call ref") => `(tactic| (k_here; k_dflt (refine' tl_use (pre := []) (digits_c ?h0 ?h1) ?k1 ?k2 ?k3 ?k4 ?k5 ?kp ?kK ?kd ?ku ?_; (case h0 => omega); (case h1 => omega); (case k1 => k_asm); (case k2 => k_asm); (case k3 => k_asm); (case k4 => k_asm); (case k5 => k_asm); (case kp => exact List.forall_mem_nil _); (case kK => first | exact rfl | assumption); (case kd => ktr_room); (case ku => ktr_units); k_whole; intro r9 tl9 h9 tk9 F9 N9 lt9 R9; obtain ⟨a9, vs9, k9, hr9, ht9, hi9⟩ := R9; subst hr9; subst ht9; (replace lt9 := fun q hq => lt9 q hq _ List.mem_cons_self); (k_lt lt9); (simp only [List.cons_append, List.nil_append] at N9); (try k_sweep))))

set_option maxHeartbeats 4000000 in
theorem due_ini {w : World} {mean : ExcName → Option Value} {mg mb : Str → Option Value} {news : List (Addr × Obj)} {ua ub ug : Int} {t t2 t3 : Tok} {p : Addr} {pn : Nat} (ha : ua < 4722366482869645213696) (hb : ub < 4722366482869645213696) (h9 : ug ≤ 9) :
    Tl 6 w mean mg mb 116 ((p, listOf [.int ua t, .none].toArray pn) :: news) [.ref p, .int ug t3] (DueRet (okW (some ua) none (some ug)) (some ua) none) := by
  unfold Tl
  w_on
  k_fill
  intro dp un gd cn cs a ccd cl outer A₀ base h₀ L m s Q E B F X N T hk hd hu hret
  refine wpAny_call ?_
  k_dflt ((refine' code_defC ?k1 ?k2 ?k3 ?k4 ?k5 ?kA ?kF ?kK ?k6 ?k7 ?k8 ?k9 ?kB ?kD ?_ ?c2 ?c3 ?c4; (case kA => exact rfl); (case kF => exact rfl); (case kK => assumption); (case k1 => k_asm); (case k2 => k_asm); (case k3 => k_asm); (case k4 => k_asm); (case k5 => k_asm); (case k6 => k_is); (case k7 => k_is); (case k8 => ktr_room); (case k9 => first | exact BindsTo.of_eq rfl | exact binds_K (by k_in) rfl (by k_is) rfl rfl rfl | fail "k_enter: no rule for these arguments"); (case kB => exact rfl); (case kD => decide +kernel); (case c2 => exact rfl); (case c3 => exact rfl); (case c4 => exact rfl); k_whole; intro g' L' h' tk' cells' FG' F' N' Y' B' X' T' l1; (try k_lt l1); k_cells Y'; (try simp only [List.cons_append, List.nil_append] at N'); (try dsimp only); (try k_lift B'); (try k_fold)))
  rename (_ < _ ∧ AllLt _ _ : Prop) => hl0
  have hne := all_ne_succ hl0.2
  k_steps
  all_goals first
    | exact absurd (of_decide_eq_true (by assumption)) (List.cons_ne_nil _ _)
    | ((rename (_ < _ ∧ _ < _ ∧ _ < _ ∧ _ < _ ∧ _ < _ ∧ _ < _ ∧ _ < _ ∧ AllLt _ _ : Prop) => hl); (rename (_ < _ ∧ _ < _ ∧ _ < _ ∧ _ < _ ∧ _ < _ ∧ _ < _ ∧ _ < _ ∧ _ < _ ∧ AllLt _ _ : Prop) => h1'); revert hl; (rename (_ < _ ∧ _ < _ ∧ _ < _ ∧ _ < _ ∧ _ < _ ∧ _ < _ ∧ _ < _ ∧ AllLt _ _ : Prop) => h0'); intro hl;
       (refine hret _ [_, _, _] _ _ (by k_asm) (cb_drop (by assumption) due_sub) (due_lt (led := (_, _) :: _) hl.2.2.2.2.2.2 h1'.2.2.2.2.2.2.2 h0'.2.2.2.2.2.2) (Or.inr ⟨_, ?eq, _, _, _, _, _, _, _, _, _, _, rfl, rfl, ?dat⟩); (case eq => first | ((simp only [okW, okI]); rw [if_neg (by omega), if_neg (by omega)]) | ((rename _ = least _ => hv'); (rw [hv']); (simp only [okW, okI]); (rw [if_neg (by omega)]); exact congrArg some (congrArg least (by first | exact max_of (by assumption) (by assumption) | omega)))); (case dat => exact size_all (u := (some ua)) (c := none) (ns1 := (digs ua _)) (ns2 := []) ⟨_, rfl⟩ rfl (by first | assumption | exact .nil) rfl (by first | assumption | exact .nil) rfl)))
    | ((rename (_ < _ ∧ _ < _ ∧ _ < _ ∧ _ < _ ∧ AllLt _ _ : Prop) => hl); exact hret _ [_] _ _ (by k_asm) (cb_drop (by assumption) three_sub) (due_one (led := (_, _) :: _) hl.2.2.2) (Or.inl ⟨by (first | rfl | ((simp only [okW, okI]); first | (rw [if_pos (by omega)]) | (rw [if_neg (by omega), if_pos (by omega)]))), _, _, _, rfl, rfl⟩))
end Mine
namespace Mine
local macro_rules | `(tactic| k_room) => `(tactic| ktr_room)
local macro_rules | `(tactic| k_units) => `(tactic| ktr_units)
local macro_rules | `(tactic| k_all) => `(tactic| assumption)
local macro_rules | `(tactic| walk_at "eval Name") => `(tactic| (k_here; k_dflt (refine' nameX_L ?F ?v ?_ ?a ?b; (case F => k_asm); (case a => rfl); (case b => rfl); (case v => rfl); k_whole)))
local macro_rules | `(tactic| walk_at "subscriptTail Name Constant ref int") => `(tactic| (k_here; (with_reducible show wpAny _ _ (subscriptTail _ _ (Value.ref _) (Value.int _ _)) _ _ _); (with_unfolding_all refine' item_at ?k1 ?k2 ?k3 ?k4 ?k5 ?_ ?k6; (case k1 => k_asm); (case k2 => k_mem); (case k3 => decide); (case k4 => decide); (case k5 => rfl); (case k6 => with_unfolding_all rfl); k_whole)))
local macro_rules | `(tactic| walk_at "binaryOp Pow int int") => `(tactic| (k_here; (with_reducible refine' pow_int_small ?kb1 ?kb2 ?kb3 ?_); (case kb1 => omega); (case kb2 => omega); (case kb3 => decide)))
local macro_rules | `(tactic| walk_at "CompSrc") => `(tactic| (k_here; k_dflt (refine LCg.CompSrc.ledger (by rfl) (by k_asm) (by k_asm) (by k_mem) (by exact Nat.le_of_ble_eq_true rfl) ?_; intro g'; lcg_lit)))
local macro_rules | `(tactic| walk_at "CompEnd") => `(tactic| k_dflt first
  | ((refine' LCg.CompEnd.intro (by assumption) (by assumption) _ (fun _ hp => hp) ?co ?cs ?_); (case co => first | assumption | ((simp only [LCg.Off3, and_true]); assumption)); (case cs => exact Or.inr ⟨_, by k_mem, rfl, _, rfl⟩))
  | ((refine' LCg.CompEnd.intro (by assumption) (by assumption) ((_, _) :: _) comp_sub ?co ?cs ?_); (case co => exact ⟨⟨neN (by omega), neN (by omega), neN (by omega)⟩, by assumption⟩); (case cs => exact Or.inr ⟨_, by k_mem, rfl, _, rfl⟩)))
local macro_rules | `(tactic| walk_at "call ref") => `(tactic| (k_here; k_dflt (refine' tl_use (pre := []) (least_c ?h0 ?h1) ?k1 ?k2 ?k3 ?k4 ?k5 ?kp ?kK ?kd ?ku ?_; (case h0 => (repeat' split) <;> omega); (case h1 => (repeat' split) <;> omega); (case k1 => k_asm); (case k2 => k_asm); (case k3 => k_asm); (case k4 => k_asm); (case k5 => k_asm); (case kp => exact List.forall_mem_nil _); (case kK => first | exact rfl | assumption); (case kd => ktr_room); (case ku => ktr_units); k_whole; intro r9 tl9 h9 tk9 F9 N9 lt9 R9; obtain ⟨ht9, v9, t9, hr9, hv9, h09, h19, h29⟩ := R9; subst hr9; subst ht9; (simp only [List.nil_append] at N9); clear lt9; (try k_sweep))))
local macro_rules | `(tactic| walk_at "call ref") => `(tactic| (k_here; k_dflt (refine' tl_use (pre := []) (digits_c ?h0 ?h1) ?k1 ?k2 ?k3 ?k4 ?k5 ?kp ?kK ?kd ?ku ?_; (case h0 => omega); (case h1 => omega); (case k1 => k_asm); (case k2 => k_asm); (case k3 => k_asm); (case k4 => k_asm); (case k5 => k_asm); (case kp => exact List.forall_mem_nil _); (case kK => first | exact rfl | assumption); (case kd => ktr_room); (case ku => ktr_units); k_whole; intro r9 tl9 h9 tk9 F9 N9 lt9 R9; obtain ⟨a9, vs9, k9, hr9, ht9, hi9⟩ := R9; subst hr9; subst ht9; (replace lt9 := fun q hq => lt9 q hq _ List.mem_cons_self); (k_lt lt9); (simp only [List.cons_append, List.nil_append] at N9); (try k_sweep))))

set_option maxHeartbeats 4000000 in
theorem due_inn {w : World} {mean : ExcName → Option Value} {mg mb : Str → Option Value} {news : List (Addr × Obj)} {ua ub ug : Int} {t t2 t3 : Tok} {p : Addr} {pn : Nat} (ha : ua < 4722366482869645213696) (hb : ub < 4722366482869645213696) (h9 : ug ≤ 9) :
    Tl 6 w mean mg mb 116 ((p, listOf [.int ua t, .none].toArray pn) :: news) [.ref p, .none] (DueRet (okW (some ua) none none) (some ua) none) := by
  unfold Tl
  w_on
  k_fill
  intro dp un gd cn cs a ccd cl outer A₀ base h₀ L m s Q E B F X N T hk hd hu hret
  refine wpAny_call ?_
  k_dflt ((refine' code_defC ?k1 ?k2 ?k3 ?k4 ?k5 ?kA ?kF ?kK ?k6 ?k7 ?k8 ?k9 ?kB ?kD ?_ ?c2 ?c3 ?c4; (case kA => exact rfl); (case kF => exact rfl); (case kK => assumption); (case k1 => k_asm); (case k2 => k_asm); (case k3 => k_asm); (case k4 => k_asm); (case k5 => k_asm); (case k6 => k_is); (case k7 => k_is); (case k8 => ktr_room); (case k9 => first | exact BindsTo.of_eq rfl | exact binds_K (by k_in) rfl (by k_is) rfl rfl rfl | fail "k_enter: no rule for these arguments"); (case kB => exact rfl); (case kD => decide +kernel); (case c2 => exact rfl); (case c3 => exact rfl); (case c4 => exact rfl); k_whole; intro g' L' h' tk' cells' FG' F' N' Y' B' X' T' l1; (try k_lt l1); k_cells Y'; (try simp only [List.cons_append, List.nil_append] at N'); (try dsimp only); (try k_lift B'); (try k_fold)))
  rename (_ < _ ∧ AllLt _ _ : Prop) => hl0
  have hne := all_ne_succ hl0.2
  k_steps
  all_goals first
    | exact absurd (of_decide_eq_true (by assumption)) (List.cons_ne_nil _ _)
    | ((rename (_ < _ ∧ _ < _ ∧ _ < _ ∧ _ < _ ∧ _ < _ ∧ _ < _ ∧ _ < _ ∧ AllLt _ _ : Prop) => hl); (rename (_ < _ ∧ _ < _ ∧ _ < _ ∧ _ < _ ∧ _ < _ ∧ _ < _ ∧ _ < _ ∧ _ < _ ∧ AllLt _ _ : Prop) => h1'); revert hl; (rename (_ < _ ∧ _ < _ ∧ _ < _ ∧ _ < _ ∧ _ < _ ∧ _ < _ ∧ _ < _ ∧ AllLt _ _ : Prop) => h0'); intro hl;
       (refine hret _ [_, _, _] _ _ (by k_asm) (cb_drop (by assumption) due_sub) (due_lt (led := (_, _) :: _) hl.2.2.2.2.2.2 h1'.2.2.2.2.2.2.2 h0'.2.2.2.2.2.2) (Or.inr ⟨_, ?eq, _, _, _, _, _, _, _, _, _, _, rfl, rfl, ?dat⟩); (case eq => first | ((simp only [okW, okI]); rw [if_neg (by omega), if_neg (by omega)]) | ((rename _ = least _ => hv'); (rw [hv']); (simp only [okW, okI]); (rw [if_neg (by omega)]); exact congrArg some (congrArg least (by first | exact max_of (by assumption) (by assumption) | omega)))); (case dat => exact size_all (u := (some ua)) (c := none) (ns1 := (digs ua _)) (ns2 := []) ⟨_, rfl⟩ rfl (by first | assumption | exact .nil) rfl (by first | assumption | exact .nil) rfl)))
    | ((rename (_ < _ ∧ _ < _ ∧ _ < _ ∧ _ < _ ∧ AllLt _ _ : Prop) => hl); exact hret _ [_] _ _ (by k_asm) (cb_drop (by assumption) three_sub) (due_one (led := (_, _) :: _) hl.2.2.2) (Or.inl ⟨by (first | rfl | ((simp only [okW, okI]); first | (rw [if_pos (by omega)]) | (rw [if_neg (by omega), if_pos (by omega)]))), _, _, _, rfl, rfl⟩))
end Mine
namespace Mine
local macro_rules | `(tactic| k_room) => `(tactic| ktr_room)
local macro_rules | `(tactic| k_units) => `(tactic| ktr_units)
local macro_rules | `(tactic| k_all) => `(tactic| assumption)
local macro_rules | `(tactic| walk_at "eval Name") => `(tactic| (k_here; k_dflt (refine' nameX_L ?F ?v ?_ ?a ?b; (case F => k_asm); (case a => rfl); (case b => rfl); (case v => rfl); k_whole)))
local macro_rules | `(tactic| walk_at "subscriptTail Name Constant ref int") => `(tactic| (k_here; (with_reducible show wpAny _ _ (subscriptTail _ _ (Value.ref _) (Value.int _ _)) _ _ _); (with_unfolding_all refine' item_at ?k1 ?k2 ?k3 ?k4 ?k5 ?_ ?k6; (case k1 => k_asm); (case k2 => k_mem); (case k3 => decide); (case k4 => decide); (case k5 => rfl); (case k6 => with_unfolding_all rfl); k_whole)))
local macro_rules | `(tactic| walk_at "binaryOp Pow int int") => `(tactic| (k_here; (with_reducible refine' pow_int_small ?kb1 ?kb2 ?kb3 ?_); (case kb1 => omega); (case kb2 => omega); (case kb3 => decide)))
local macro_rules | `(tactic| walk_at "CompSrc") => `(tactic| (k_here; k_dflt (refine LCg.CompSrc.ledger (by rfl) (by k_asm) (by k_asm) (by k_mem) (by exact Nat.le_of_ble_eq_true rfl) ?_; intro g'; lcg_lit)))
local macro_rules | `(tactic| walk_at "CompEnd") => `(tactic| k_dflt first
  | ((refine' LCg.CompEnd.intro (by assumption) (by assumption) _ (fun _ hp => hp) ?co ?cs ?_); (case co => first | assumption | ((simp only [LCg.Off3, and_true]); assumption)); (case cs => exact Or.inr ⟨_, by k_mem, rfl, _, rfl⟩))
  | ((refine' LCg.CompEnd.intro (by assumption) (by assumption) ((_, _) :: _) comp_sub ?co ?cs ?_); (case co => exact ⟨⟨neN (by omega), neN (by omega), neN (by omega)⟩, by assumption⟩); (case cs => exact Or.inr ⟨_, by k_mem, rfl, _, rfl⟩)))
local macro_rules | `(tactic| walk_at "call ref") => `(tactic| (k_here; k_dflt (refine' tl_use (pre := []) (least_c ?h0 ?h1) ?k1 ?k2 ?k3 ?k4 ?k5 ?kp ?kK ?kd ?ku ?_; (case h0 => (repeat' split) <;> omega); (case h1 => (repeat' split) <;> omega); (case k1 => k_asm); (case k2 => k_asm); (case k3 => k_asm); (case k4 => k_asm); (case k5 => k_asm); (case kp => exact List.forall_mem_nil _); (case kK => first | exact rfl | assumption); (case kd => ktr_room); (case ku => ktr_units); k_whole; intro r9 tl9 h9 tk9 F9 N9 lt9 R9; obtain ⟨ht9, v9, t9, hr9, hv9, h09, h19, h29⟩ := R9; subst hr9; subst ht9; (simp only [List.nil_append] at N9); clear lt9; (try k_sweep))))
local macro_rules | `(tactic| walk_at "call ref") => `(tactic| (k_here; k_dflt (refine' tl_use (pre := []) (digits_c ?h0 ?h1) ?k1 ?k2 ?k3 ?k4 ?k5 ?kp ?kK ?kd ?ku ?_; (case h0 => omega); (case h1 => omega); (case k1 => k_asm); (case k2 => k_asm); (case k3 => k_asm); (case k4 => k_asm); (case k5 => k_asm); (case kp => exact List.forall_mem_nil _); (case kK => first | exact rfl | assumption); (case kd => ktr_room); (case ku => ktr_units); k_whole; intro r9 tl9 h9 tk9 F9 N9 lt9 R9; obtain ⟨a9, vs9, k9, hr9, ht9, hi9⟩ := R9; subst hr9; subst ht9; (replace lt9 := fun q hq => lt9 q hq _ List.mem_cons_self); (k_lt lt9); (simp only [List.cons_append, List.nil_append] at N9); (try k_sweep))))

set_option maxHeartbeats 4000000 in
theorem due_nin {w : World} {mean : ExcName → Option Value} {mg mb : Str → Option Value} {news : List (Addr × Obj)} {ua ub ug : Int} {t t2 t3 : Tok} {p : Addr} {pn : Nat} (ha : ua < 4722366482869645213696) (hb : ub < 4722366482869645213696) (h9 : ug ≤ 9) :
    Tl 6 w mean mg mb 116 ((p, listOf [.none, .int ub t2].toArray pn) :: news) [.ref p, .none] (DueRet (okW none (some ub) none) none (some ub)) := by
  unfold Tl
  w_on
  k_fill
  intro dp un gd cn cs a ccd cl outer A₀ base h₀ L m s Q E B F X N T hk hd hu hret
  refine wpAny_call ?_
  k_dflt ((refine' code_defC ?k1 ?k2 ?k3 ?k4 ?k5 ?kA ?kF ?kK ?k6 ?k7 ?k8 ?k9 ?kB ?kD ?_ ?c2 ?c3 ?c4; (case kA => exact rfl); (case kF => exact rfl); (case kK => assumption); (case k1 => k_asm); (case k2 => k_asm); (case k3 => k_asm); (case k4 => k_asm); (case k5 => k_asm); (case k6 => k_is); (case k7 => k_is); (case k8 => ktr_room); (case k9 => first | exact BindsTo.of_eq rfl | exact binds_K (by k_in) rfl (by k_is) rfl rfl rfl | fail "k_enter: no rule for these arguments"); (case kB => exact rfl); (case kD => decide +kernel); (case c2 => exact rfl); (case c3 => exact rfl); (case c4 => exact rfl); k_whole; intro g' L' h' tk' cells' FG' F' N' Y' B' X' T' l1; (try k_lt l1); k_cells Y'; (try simp only [List.cons_append, List.nil_append] at N'); (try dsimp only); (try k_lift B'); (try k_fold)))
  rename (_ < _ ∧ AllLt _ _ : Prop) => hl0
  have hne := all_ne_succ hl0.2
  k_steps
  all_goals first
    | exact absurd (of_decide_eq_true (by assumption)) (List.cons_ne_nil _ _)
    | ((rename (_ < _ ∧ _ < _ ∧ _ < _ ∧ _ < _ ∧ _ < _ ∧ _ < _ ∧ _ < _ ∧ AllLt _ _ : Prop) => hl); (rename (_ < _ ∧ _ < _ ∧ _ < _ ∧ _ < _ ∧ _ < _ ∧ _ < _ ∧ _ < _ ∧ _ < _ ∧ AllLt _ _ : Prop) => h1'); revert hl; (rename (_ < _ ∧ _ < _ ∧ _ < _ ∧ _ < _ ∧ _ < _ ∧ _ < _ ∧ _ < _ ∧ AllLt _ _ : Prop) => h0'); intro hl;
       (refine hret _ [_, _, _] _ _ (by k_asm) (cb_drop (by assumption) due_sub) (due_lt (led := (_, _) :: _) hl.2.2.2.2.2.2 h1'.2.2.2.2.2.2.2 h0'.2.2.2.2.2.2) (Or.inr ⟨_, ?eq, _, _, _, _, _, _, _, _, _, _, rfl, rfl, ?dat⟩); (case eq => first | ((simp only [okW, okI]); rw [if_neg (by omega), if_neg (by omega)]) | ((rename _ = least _ => hv'); (rw [hv']); (simp only [okW, okI]); (rw [if_neg (by omega)]); exact congrArg some (congrArg least (by first | exact max_of (by assumption) (by assumption) | omega)))); (case dat => exact size_all (u := none) (c := (some ub)) (ns1 := []) (ns2 := (digs ub _)) rfl ⟨_, rfl⟩ (by first | assumption | exact .nil) rfl (by first | assumption | exact .nil) rfl)))
    | ((rename (_ < _ ∧ _ < _ ∧ _ < _ ∧ _ < _ ∧ AllLt _ _ : Prop) => hl); exact hret _ [_] _ _ (by k_asm) (cb_drop (by assumption) three_sub) (due_one (led := (_, _) :: _) hl.2.2.2) (Or.inl ⟨by (first | rfl | ((simp only [okW, okI]); first | (rw [if_pos (by omega)]) | (rw [if_neg (by omega), if_pos (by omega)]))), _, _, _, rfl, rfl⟩))
end Mine
namespace Mine
local macro_rules | `(tactic| k_room) => `(tactic| ktr_room)
local macro_rules | `(tactic| k_units) => `(tactic| ktr_units)
local macro_rules | `(tactic| k_all) => `(tactic| assumption)
local macro_rules | `(tactic| walk_at "eval Name") => `(tactic| (k_here; k_dflt (refine' nameX_L ?F ?v ?_ ?a ?b; (case F => k_asm); (case a => rfl); (case b => rfl); (case v => rfl); k_whole)))
local macro_rules | `(tactic| walk_at "subscriptTail Name Constant ref int") => `(tactic| (k_here; (with_reducible show wpAny _ _ (subscriptTail _ _ (Value.ref _) (Value.int _ _)) _ _ _); (with_unfolding_all refine' item_at ?k1 ?k2 ?k3 ?k4 ?k5 ?_ ?k6; (case k1 => k_asm); (case k2 => k_mem); (case k3 => decide); (case k4 => decide); (case k5 => rfl); (case k6 => with_unfolding_all rfl); k_whole)))
local macro_rules | `(tactic| walk_at "binaryOp Pow int int") => `(tactic| (k_here; (with_reducible refine' pow_int_small ?kb1 ?kb2 ?kb3 ?_); (case kb1 => omega); (case kb2 => omega); (case kb3 => decide)))
local macro_rules | `(tactic| walk_at "CompSrc") => `(tactic| (k_here; k_dflt (refine LCg.CompSrc.ledger (by rfl) (by k_asm) (by k_asm) (by k_mem) (by exact Nat.le_of_ble_eq_true rfl) ?_; intro g'; lcg_lit)))
local macro_rules | `(tactic| walk_at "CompEnd") => `(tactic| k_dflt first
  | ((refine' LCg.CompEnd.intro (by assumption) (by assumption) _ (fun _ hp => hp) ?co ?cs ?_); (case co => first | assumption | ((simp only [LCg.Off3, and_true]); assumption)); (case cs => exact Or.inr ⟨_, by k_mem, rfl, _, rfl⟩))
  | ((refine' LCg.CompEnd.intro (by assumption) (by assumption) ((_, _) :: _) comp_sub ?co ?cs ?_); (case co => exact ⟨⟨neN (by omega), neN (by omega), neN (by omega)⟩, by assumption⟩); (case cs => exact Or.inr ⟨_, by k_mem, rfl, _, rfl⟩)))
local macro_rules | `(tactic| walk_at "call ref") => `(tactic| (k_here; k_dflt (refine' tl_use (pre := []) (least_c ?h0 ?h1) ?k1 ?k2 ?k3 ?k4 ?k5 ?kp ?kK ?kd ?ku ?_; (case h0 => (repeat' split) <;> omega); (case h1 => (repeat' split) <;> omega); (case k1 => k_asm); (case k2 => k_asm); (case k3 => k_asm); (case k4 => k_asm); (case k5 => k_asm); (case kp => exact List.forall_mem_nil _); (case kK => first | exact rfl | assumption); (case kd => ktr_room); (case ku => ktr_units); k_whole; intro r9 tl9 h9 tk9 F9 N9 lt9 R9; obtain ⟨ht9, v9, t9, hr9, hv9, h09, h19, h29⟩ := R9; subst hr9; subst ht9; (simp only [List.nil_append] at N9); clear lt9; (try k_sweep))))
local macro_rules | `(tactic| walk_at "call ref") => `(tactic| (k_here; k_dflt (refine' tl_use (pre := []) (digits_c ?h0 ?h1) ?k1 ?k2 ?k3 ?k4 ?k5 ?kp ?kK ?kd ?ku ?_; (case h0 => omega); (case h1 => omega); (case k1 => k_asm); (case k2 => k_asm); (case k3 => k_asm); (case k4 => k_asm); (case k5 => k_asm); (case kp => exact List.forall_mem_nil _); (case kK => first | exact rfl | assumption); (case kd => ktr_room); (case ku => ktr_units); k_whole; intro r9 tl9 h9 tk9 F9 N9 lt9 R9; obtain ⟨a9, vs9, k9, hr9, ht9, hi9⟩ := R9; subst hr9; subst ht9; (replace lt9 := fun q hq => lt9 q hq _ List.mem_cons_self); (k_lt lt9); (simp only [List.cons_append, List.nil_append] at N9); (try k_sweep))))

set_option maxHeartbeats 4000000 in
theorem due_nii {w : World} {mean : ExcName → Option Value} {mg mb : Str → Option Value} {news : List (Addr × Obj)} {ua ub ug : Int} {t t2 t3 : Tok} {p : Addr} {pn : Nat} (ha : ua < 4722366482869645213696) (hb : ub < 4722366482869645213696) (h9 : ug ≤ 9) :
    Tl 6 w mean mg mb 116 ((p, listOf [.none, .int ub t2].toArray pn) :: news) [.ref p, .int ug t3] (DueRet (okW none (some ub) (some ug)) none (some ub)) := by
  unfold Tl
  w_on
  k_fill
  intro dp un gd cn cs a ccd cl outer A₀ base h₀ L m s Q E B F X N T hk hd hu hret
  refine wpAny_call ?_
  k_dflt ((refine' code_defC ?k1 ?k2 ?k3 ?k4 ?k5 ?kA ?kF ?kK ?k6 ?k7 ?k8 ?k9 ?kB ?kD ?_ ?c2 ?c3 ?c4; (case kA => exact rfl); (case kF => exact rfl); (case kK => assumption); (case k1 => k_asm); (case k2 => k_asm); (case k3 => k_asm); (case k4 => k_asm); (case k5 => k_asm); (case k6 => k_is); (case k7 => k_is); (case k8 => ktr_room); (case k9 => first | exact BindsTo.of_eq rfl | exact binds_K (by k_in) rfl (by k_is) rfl rfl rfl | fail "k_enter: no rule for these arguments"); (case kB => exact rfl); (case kD => decide +kernel); (case c2 => exact rfl); (case c3 => exact rfl); (case c4 => exact rfl); k_whole; intro g' L' h' tk' cells' FG' F' N' Y' B' X' T' l1; (try k_lt l1); k_cells Y'; (try simp only [List.cons_append, List.nil_append] at N'); (try dsimp only); (try k_lift B'); (try k_fold)))
  rename (_ < _ ∧ AllLt _ _ : Prop) => hl0
  have hne := all_ne_succ hl0.2
  k_steps
  all_goals first
    | exact absurd (of_decide_eq_true (by assumption)) (List.cons_ne_nil _ _)
    | ((rename (_ < _ ∧ _ < _ ∧ _ < _ ∧ _ < _ ∧ _ < _ ∧ _ < _ ∧ _ < _ ∧ AllLt _ _ : Prop) => hl); (rename (_ < _ ∧ _ < _ ∧ _ < _ ∧ _ < _ ∧ _ < _ ∧ _ < _ ∧ _ < _ ∧ _ < _ ∧ AllLt _ _ : Prop) => h1'); revert hl; (rename (_ < _ ∧ _ < _ ∧ _ < _ ∧ _ < _ ∧ _ < _ ∧ _ < _ ∧ _ < _ ∧ AllLt _ _ : Prop) => h0'); intro hl;
       (refine hret _ [_, _, _] _ _ (by k_asm) (cb_drop (by assumption) due_sub) (due_lt (led := (_, _) :: _) hl.2.2.2.2.2.2 h1'.2.2.2.2.2.2.2 h0'.2.2.2.2.2.2) (Or.inr ⟨_, ?eq, _, _, _, _, _, _, _, _, _, _, rfl, rfl, ?dat⟩); (case eq => first | ((simp only [okW, okI]); rw [if_neg (by omega), if_neg (by omega)]) | ((rename _ = least _ => hv'); (rw [hv']); (simp only [okW, okI]); (rw [if_neg (by omega)]); exact congrArg some (congrArg least (by first | exact max_of (by assumption) (by assumption) | omega)))); (case dat => exact size_all (u := none) (c := (some ub)) (ns1 := []) (ns2 := (digs ub _)) rfl ⟨_, rfl⟩ (by first | assumption | exact .nil) rfl (by first | assumption | exact .nil) rfl)))
    | ((rename (_ < _ ∧ _ < _ ∧ _ < _ ∧ _ < _ ∧ AllLt _ _ : Prop) => hl); exact hret _ [_] _ _ (by k_asm) (cb_drop (by assumption) three_sub) (due_one (led := (_, _) :: _) hl.2.2.2) (Or.inl ⟨by (first | rfl | ((simp only [okW, okI]); first | (rw [if_pos (by omega)]) | (rw [if_neg (by omega), if_pos (by omega)]))), _, _, _, rfl, rfl⟩))
end Mine
namespace Mine
local macro_rules | `(tactic| k_room) => `(tactic| ktr_room)
local macro_rules | `(tactic| k_units) => `(tactic| ktr_units)
local macro_rules | `(tactic| k_all) => `(tactic| assumption)
local macro_rules | `(tactic| walk_at "eval Name") => `(tactic| (k_here; k_dflt (refine' nameX_L ?F ?v ?_ ?a ?b; (case F => k_asm); (case a => rfl); (case b => rfl); (case v => rfl); k_whole)))
local macro_rules | `(tactic| walk_at "subscriptTail Name Constant ref int") => `(tactic| (k_here; (with_reducible show wpAny _ _ (subscriptTail _ _ (Value.ref _) (Value.int _ _)) _ _ _); (with_unfolding_all refine' item_at ?k1 ?k2 ?k3 ?k4 ?k5 ?_ ?k6; (case k1 => k_asm); (case k2 => k_mem); (case k3 => decide); (case k4 => decide); (case k5 => rfl); (case k6 => with_unfolding_all rfl); k_whole)))
local macro_rules | `(tactic| walk_at "binaryOp Pow int int") => `(tactic| (k_here; (with_reducible refine' pow_int_small ?kb1 ?kb2 ?kb3 ?_); (case kb1 => omega); (case kb2 => omega); (case kb3 => decide)))
local macro_rules | `(tactic| walk_at "CompSrc") => `(tactic| (k_here; k_dflt (refine LCg.CompSrc.ledger (by rfl) (by k_asm) (by k_asm) (by k_mem) (by exact Nat.le_of_ble_eq_true rfl) ?_; intro g'; lcg_lit)))
local macro_rules | `(tactic| walk_at "CompEnd") => `(tactic| k_dflt first
  | ((refine' LCg.CompEnd.intro (by assumption) (by assumption) _ (fun _ hp => hp) ?co ?cs ?_); (case co => first | assumption | ((simp only [LCg.Off3, and_true]); assumption)); (case cs => exact Or.inr ⟨_, by k_mem, rfl, _, rfl⟩))
  | ((refine' LCg.CompEnd.intro (by assumption) (by assumption) ((_, _) :: _) comp_sub ?co ?cs ?_); (case co => exact ⟨⟨neN (by omega), neN (by omega), neN (by omega)⟩, by assumption⟩); (case cs => exact Or.inr ⟨_, by k_mem, rfl, _, rfl⟩)))
local macro_rules | `(tactic| walk_at "call ref") => `(tactic| (k_here; k_dflt (refine' tl_use (pre := []) (least_c ?h0 ?h1) ?k1 ?k2 ?k3 ?k4 ?k5 ?kp ?kK ?kd ?ku ?_; (case h0 => (repeat' split) <;> omega); (case h1 => (repeat' split) <;> omega); (case k1 => k_asm); (case k2 => k_asm); (case k3 => k_asm); (case k4 => k_asm); (case k5 => k_asm); (case kp => exact List.forall_mem_nil _); (case kK => first | exact rfl | assumption); (case kd => ktr_room); (case ku => ktr_units); k_whole; intro r9 tl9 h9 tk9 F9 N9 lt9 R9; obtain ⟨ht9, v9, t9, hr9, hv9, h09, h19, h29⟩ := R9; subst hr9; subst ht9; (simp only [List.nil_append] at N9); clear lt9; (try k_sweep))))
local macro_rules | `(tactic| walk_at "call ref") => `(tactic| (k_here; k_dflt (refine' tl_use (pre := []) (digits_c ?h0 ?h1) ?k1 ?k2 ?k3 ?k4 ?k5 ?kp ?kK ?kd ?ku ?_; (case h0 => omega); (case h1 => omega); (case k1 => k_asm); (case k2 => k_asm); (case k3 => k_asm); (case k4 => k_asm); (case k5 => k_asm); (case kp => exact List.forall_mem_nil _); (case kK => first | exact rfl | assumption); (case kd => ktr_room); (case ku => ktr_units); k_whole; intro r9 tl9 h9 tk9 F9 N9 lt9 R9; obtain ⟨a9, vs9, k9, hr9, ht9, hi9⟩ := R9; subst hr9; subst ht9; (replace lt9 := fun q hq => lt9 q hq _ List.mem_cons_self); (k_lt lt9); (simp only [List.cons_append, List.nil_append] at N9); (try k_sweep))))

set_option maxHeartbeats 4000000 in
theorem due_nnn {w : World} {mean : ExcName → Option Value} {mg mb : Str → Option Value} {news : List (Addr × Obj)} {ua ub ug : Int} {t t2 t3 : Tok} {p : Addr} {pn : Nat} (ha : ua < 4722366482869645213696) (hb : ub < 4722366482869645213696) (h9 : ug ≤ 9) :
    Tl 6 w mean mg mb 116 ((p, listOf [.none, .none].toArray pn) :: news) [.ref p, .none] (DueRet (okW none none none) none none) := by
  unfold Tl
  w_on
  k_fill
  intro dp un gd cn cs a ccd cl outer A₀ base h₀ L m s Q E B F X N T hk hd hu hret
  refine wpAny_call ?_
  k_dflt ((refine' code_defC ?k1 ?k2 ?k3 ?k4 ?k5 ?kA ?kF ?kK ?k6 ?k7 ?k8 ?k9 ?kB ?kD ?_ ?c2 ?c3 ?c4; (case kA => exact rfl); (case kF => exact rfl); (case kK => assumption); (case k1 => k_asm); (case k2 => k_asm); (case k3 => k_asm); (case k4 => k_asm); (case k5 => k_asm); (case k6 => k_is); (case k7 => k_is); (case k8 => ktr_room); (case k9 => first | exact BindsTo.of_eq rfl | exact binds_K (by k_in) rfl (by k_is) rfl rfl rfl | fail "k_enter: no rule for these arguments"); (case kB => exact rfl); (case kD => decide +kernel); (case c2 => exact rfl); (case c3 => exact rfl); (case c4 => exact rfl); k_whole; intro g' L' h' tk' cells' FG' F' N' Y' B' X' T' l1; (try k_lt l1); k_cells Y'; (try simp only [List.cons_append, List.nil_append] at N'); (try dsimp only); (try k_lift B'); (try k_fold)))
  rename (_ < _ ∧ AllLt _ _ : Prop) => hl0
  have hne := all_ne_succ hl0.2
  k_steps
  all_goals first
    | exact absurd (of_decide_eq_true (by assumption)) (List.cons_ne_nil _ _)
    | ((rename (_ < _ ∧ _ < _ ∧ _ < _ ∧ _ < _ ∧ _ < _ ∧ _ < _ ∧ _ < _ ∧ AllLt _ _ : Prop) => hl); (rename (_ < _ ∧ _ < _ ∧ _ < _ ∧ _ < _ ∧ _ < _ ∧ _ < _ ∧ _ < _ ∧ _ < _ ∧ AllLt _ _ : Prop) => h1'); revert hl; (rename (_ < _ ∧ _ < _ ∧ _ < _ ∧ _ < _ ∧ _ < _ ∧ _ < _ ∧ _ < _ ∧ AllLt _ _ : Prop) => h0'); intro hl;
       (refine hret _ [_, _, _] _ _ (by k_asm) (cb_drop (by assumption) due_sub) (due_lt (led := (_, _) :: _) hl.2.2.2.2.2.2 h1'.2.2.2.2.2.2.2 h0'.2.2.2.2.2.2) (Or.inr ⟨_, ?eq, _, _, _, _, _, _, _, _, _, _, rfl, rfl, ?dat⟩); (case eq => first | ((simp only [okW, okI]); rw [if_neg (by omega), if_neg (by omega)]) | ((rename _ = least _ => hv'); (rw [hv']); (simp only [okW, okI]); (rw [if_neg (by omega)]); exact congrArg some (congrArg least (by first | exact max_of (by assumption) (by assumption) | omega)))); (case dat => exact size_all (u := none) (c := none) (ns1 := []) (ns2 := []) rfl rfl (by first | assumption | exact .nil) rfl (by first | assumption | exact .nil) rfl)))
    | ((rename (_ < _ ∧ _ < _ ∧ _ < _ ∧ _ < _ ∧ AllLt _ _ : Prop) => hl); exact hret _ [_] _ _ (by k_asm) (cb_drop (by assumption) three_sub) (due_one (led := (_, _) :: _) hl.2.2.2) (Or.inl ⟨by (first | rfl | ((simp only [okW, okI]); first | (rw [if_pos (by omega)]) | (rw [if_neg (by omega), if_pos (by omega)]))), _, _, _, rfl, rfl⟩))
end Mine
namespace Mine
local macro_rules | `(tactic| k_room) => `(tactic| ktr_room)
local macro_rules | `(tactic| k_units) => `(tactic| ktr_units)
local macro_rules | `(tactic| k_all) => `(tactic| assumption)
local macro_rules | `(tactic| walk_at "eval Name") => `(tactic| (k_here; k_dflt (refine' nameX_L ?F ?v ?_ ?a ?b; (case F => k_asm); (case a => rfl); (case b => rfl); (case v => rfl); k_whole)))
local macro_rules | `(tactic| walk_at "subscriptTail Name Constant ref int") => `(tactic| (k_here; (with_reducible show wpAny _ _ (subscriptTail _ _ (Value.ref _) (Value.int _ _)) _ _ _); (with_unfolding_all refine' item_at ?k1 ?k2 ?k3 ?k4 ?k5 ?_ ?k6; (case k1 => k_asm); (case k2 => k_mem); (case k3 => decide); (case k4 => decide); (case k5 => rfl); (case k6 => with_unfolding_all rfl); k_whole)))
local macro_rules | `(tactic| walk_at "binaryOp Pow int int") => `(tactic| (k_here; (with_reducible refine' pow_int_small ?kb1 ?kb2 ?kb3 ?_); (case kb1 => omega); (case kb2 => omega); (case kb3 => decide)))
local macro_rules | `(tactic| walk_at "CompSrc") => `(tactic| (k_here; k_dflt (refine LCg.CompSrc.ledger (by rfl) (by k_asm) (by k_asm) (by k_mem) (by exact Nat.le_of_ble_eq_true rfl) ?_; intro g'; lcg_lit)))
local macro_rules | `(tactic| walk_at "CompEnd") => `(tactic| k_dflt first
  | ((refine' LCg.CompEnd.intro (by assumption) (by assumption) _ (fun _ hp => hp) ?co ?cs ?_); (case co => first | assumption | ((simp only [LCg.Off3, and_true]); assumption)); (case cs => exact Or.inr ⟨_, by k_mem, rfl, _, rfl⟩))
  | ((refine' LCg.CompEnd.intro (by assumption) (by assumption) ((_, _) :: _) comp_sub ?co ?cs ?_); (case co => exact ⟨⟨neN (by omega), neN (by omega), neN (by omega)⟩, by assumption⟩); (case cs => exact Or.inr ⟨_, by k_mem, rfl, _, rfl⟩)))
local macro_rules | `(tactic| walk_at "call ref") => `(tactic| (k_here; k_dflt (refine' tl_use (pre := []) (least_c ?h0 ?h1) ?k1 ?k2 ?k3 ?k4 ?k5 ?kp ?kK ?kd ?ku ?_; (case h0 => (repeat' split) <;> omega); (case h1 => (repeat' split) <;> omega); (case k1 => k_asm); (case k2 => k_asm); (case k3 => k_asm); (case k4 => k_asm); (case k5 => k_asm); (case kp => exact List.forall_mem_nil _); (case kK => first | exact rfl | assumption); (case kd => ktr_room); (case ku => ktr_units); k_whole; intro r9 tl9 h9 tk9 F9 N9 lt9 R9; obtain ⟨ht9, v9, t9, hr9, hv9, h09, h19, h29⟩ := R9; subst hr9; subst ht9; (simp only [List.nil_append] at N9); clear lt9; (try k_sweep))))
local macro_rules | `(tactic| walk_at "call ref") => `(tactic| (k_here; k_dflt (refine' tl_use (pre := []) (digits_c ?h0 ?h1) ?k1 ?k2 ?k3 ?k4 ?k5 ?kp ?kK ?kd ?ku ?_; (case h0 => omega); (case h1 => omega); (case k1 => k_asm); (case k2 => k_asm); (case k3 => k_asm); (case k4 => k_asm); (case k5 => k_asm); (case kp => exact List.forall_mem_nil _); (case kK => first | exact rfl | assumption); (case kd => ktr_room); (case ku => ktr_units); k_whole; intro r9 tl9 h9 tk9 F9 N9 lt9 R9; obtain ⟨a9, vs9, k9, hr9, ht9, hi9⟩ := R9; subst hr9; subst ht9; (replace lt9 := fun q hq => lt9 q hq _ List.mem_cons_self); (k_lt lt9); (simp only [List.cons_append, List.nil_append] at N9); (try k_sweep))))

set_option maxHeartbeats 4000000 in
theorem due_nni {w : World} {mean : ExcName → Option Value} {mg mb : Str → Option Value} {news : List (Addr × Obj)} {ua ub ug : Int} {t t2 t3 : Tok} {p : Addr} {pn : Nat} (ha : ua < 4722366482869645213696) (hb : ub < 4722366482869645213696) (h9 : ug ≤ 9) :
    Tl 6 w mean mg mb 116 ((p, listOf [.none, .none].toArray pn) :: news) [.ref p, .int ug t3] (DueRet (okW none none (some ug)) none none) := by
  unfold Tl
  w_on
  k_fill
  intro dp un gd cn cs a ccd cl outer A₀ base h₀ L m s Q E B F X N T hk hd hu hret
  refine wpAny_call ?_
  k_dflt ((refine' code_defC ?k1 ?k2 ?k3 ?k4 ?k5 ?kA ?kF ?kK ?k6 ?k7 ?k8 ?k9 ?kB ?kD ?_ ?c2 ?c3 ?c4; (case kA => exact rfl); (case kF => exact rfl); (case kK => assumption); (case k1 => k_asm); (case k2 => k_asm); (case k3 => k_asm); (case k4 => k_asm); (case k5 => k_asm); (case k6 => k_is); (case k7 => k_is); (case k8 => ktr_room); (case k9 => first | exact BindsTo.of_eq rfl | exact binds_K (by k_in) rfl (by k_is) rfl rfl rfl | fail "k_enter: no rule for these arguments"); (case kB => exact rfl); (case kD => decide +kernel); (case c2 => exact rfl); (case c3 => exact rfl); (case c4 => exact rfl); k_whole; intro g' L' h' tk' cells' FG' F' N' Y' B' X' T' l1; (try k_lt l1); k_cells Y'; (try simp only [List.cons_append, List.nil_append] at N'); (try dsimp only); (try k_lift B'); (try k_fold)))
  rename (_ < _ ∧ AllLt _ _ : Prop) => hl0
  have hne := all_ne_succ hl0.2
  k_steps
  all_goals first
    | exact absurd (of_decide_eq_true (by assumption)) (List.cons_ne_nil _ _)
    | ((rename (_ < _ ∧ _ < _ ∧ _ < _ ∧ _ < _ ∧ _ < _ ∧ _ < _ ∧ _ < _ ∧ AllLt _ _ : Prop) => hl); (rename (_ < _ ∧ _ < _ ∧ _ < _ ∧ _ < _ ∧ _ < _ ∧ _ < _ ∧ _ < _ ∧ _ < _ ∧ AllLt _ _ : Prop) => h1'); revert hl; (rename (_ < _ ∧ _ < _ ∧ _ < _ ∧ _ < _ ∧ _ < _ ∧ _ < _ ∧ _ < _ ∧ AllLt _ _ : Prop) => h0'); intro hl;
       (refine hret _ [_, _, _] _ _ (by k_asm) (cb_drop (by assumption) due_sub) (due_lt (led := (_, _) :: _) hl.2.2.2.2.2.2 h1'.2.2.2.2.2.2.2 h0'.2.2.2.2.2.2) (Or.inr ⟨_, ?eq, _, _, _, _, _, _, _, _, _, _, rfl, rfl, ?dat⟩); (case eq => first | ((simp only [okW, okI]); rw [if_neg (by omega), if_neg (by omega)]) | ((rename _ = least _ => hv'); (rw [hv']); (simp only [okW, okI]); (rw [if_neg (by omega)]); exact congrArg some (congrArg least (by first | exact max_of (by assumption) (by assumption) | omega)))); (case dat => exact size_all (u := none) (c := none) (ns1 := []) (ns2 := []) rfl rfl (by first | assumption | exact .nil) rfl (by first | assumption | exact .nil) rfl)))
    | ((rename (_ < _ ∧ _ < _ ∧ _ < _ ∧ _ < _ ∧ AllLt _ _ : Prop) => hl); exact hret _ [_] _ _ (by k_asm) (cb_drop (by assumption) three_sub) (due_one (led := (_, _) :: _) hl.2.2.2) (Or.inl ⟨by (first | rfl | ((simp only [okW, okI]); first | (rw [if_pos (by omega)]) | (rw [if_neg (by omega), if_pos (by omega)]))), _, _, _, rfl, rfl⟩))
end Mine
namespace Mine
local macro_rules | `(tactic| k_room) => `(tactic| ktr_room)
local macro_rules | `(tactic| k_units) => `(tactic| ktr_units)
local macro_rules | `(tactic| walk_at "InitBack") => `(tactic| (dsimp only [InitBack]))
local macro_rules | `(tactic| walk_at "binaryOp Pow int int") => `(tactic| (k_here; (with_reducible refine pow_int_small ?kb1 ?kb2 ?kb3 ?_); (case kb1 => omega); (case kb2 => omega); (case kb3 => decide)))
local macro_rules | `(tactic| walk_at "subscriptTail Name Constant ref int") => `(tactic| (k_here; (with_reducible show wpAny _ _ (subscriptTail _ _ (Value.ref _) (Value.int _ _)) _ _ _); (with_unfolding_all refine' item_at ?k1 ?k2 ?k3 ?k4 ?k5 ?_ ?k6; (case k1 => k_asm); (case k2 => k_mem); (case k3 => decide); (case k4 => decide); (case k5 => rfl); (case k6 => with_unfolding_all rfl); k_whole)))
local macro_rules | `(tactic| walk_at "callWith ref") => `(tactic| (k_here; (with_reducible show wpAny _ _ (callWith _ _ _ _ (backToKw _ (keywordEach (_ :: _) _))) _ _ _); k_dflt (refine' callWith_KW0 ?k1 ?k2 ?k3 ?_; (case k1 => k_asm); (case k2 => k_is); (case k3 => exact rfl); k_whole)))
local macro_rules | `(tactic| walk_at "exec Raise some none") => `(tactic| (k_here; (with_reducible show wpAny _ _ (exec (Stmt.Raise (some (Expr.Call (Expr.Name _ _) (_ :: _) [] _)) none _) _) _ _ _); k_dflt (refine' raise_VE ?F ?T ?h1 ?h2 ?h3 ?h4 ?h5 ?_; (case F => k_asm); (case T => k_asm); (case h1 => rfl); (case h2 => rfl); (case h3 => rfl); (case h4 => rfl); (case h5 => rfl); k_whole)))
local macro_rules | `(tactic| walk_at "binaryOp Mod str ref") => `(tactic| (k_here; (with_reducible first | refine' mod_c ?N ?b ?x0 ?x1 ?y0 ?y1 ?_ | refine' mod_u ?N ?b ?x0 ?x1 ?y0 ?y1 ?_); k_dflt ((case N => k_asm); (case b => k_mem); (case x0 => omega); (case x1 => omega); (case y0 => exact pow_lo _); (case y1 => exact pow_hi (by assumption)); intro T9 t9 k9)))
local macro_rules | `(tactic| walk_at "eval Name") => `(tactic| (k_here; k_dflt (refine' ld ?k1 ?k2 ?_; (case k1 => k_asm); (case k2 => exact rfl); k_whole)))

set_option maxHeartbeats 4000000 in
theorem made_iin {w : World} {mean : ExcName → Option Value} {mg mb : Str → Option Value} {news : List (Addr × Obj)} {ua ub ug : Int} {t t2 t3 : Tok} {p : Addr} {pn : Nat} (ha : ua < 4722366482869645213696) (hb : ub < 4722366482869645213696) (h9 : ug ≤ 9) :
    Tl0 6 w mean mg mb 104 ((p, listOf [.int ua t, .int ub t2].toArray pn) :: news) [.ref p, .none] (MadeRet (okW (some ua) (some ub) none) (some ua) (some ub)) := by
  unfold Tl0
  w_on
  k_fill
  intro dp un gd cn cs a ccd A₀ base h₀ L m s Q E B F X N T hk hd hu XB TB hret
  refine wpAny_call ?_
  k_dflt ((refine' code_defS0 ?k1 ?k2 ?k3 ?k4 ?k5 ?kA ?k6 ?k7 ?k8 ?k9 ?kB ?_ ?cK ?c2 ?c3 ?c4 ?c5; (case kA => exact rfl); (case k2 => k_asm); (case k1 => k_asm); (case k3 => k_asm); (case k4 => k_asm); (case k5 => k_asm); (case k6 => k_is); (case k7 => k_is); (case k8 => ktr_room); (case k9 => first | exact binds_K (by k_in) rfl (by k_is) rfl rfl rfl | exact BindsTo.of_eq rfl | fail "kts_go: no rule for these arguments"); (case kB => exact locs rfl); (case cK => assumption); (case c2 => exact rfl); (case c3 => exact rfl); (case c4 => exact rfl); (case c5 => decide); k_whole; intro g' L' h' FG' F' N' B' X' T' D'; (try dsimp only); (try k_lift B'); (try k_fold)))
  k_steps
  all_goals first
    | ((rename (_ < _ ∧ _ < _ ∧ _ < _ ∧ _ < _ ∧ AllLt _ _ : Prop) => hl); exact hret _ [_] _ _ (by k_asm) (cb_drop (by assumption) three_sub) (one_lt (l := _) (led := (_, _) :: _) hl.2.2.2) (Or.inl ⟨by (first | rfl | ((simp only [okW, okI]); first | (rw [if_pos (by omega)]) | (rw [if_neg (by omega), if_pos (by omega)]) | (rw [if_neg (by omega), if_pos (Or.inr (by rw [← pow_same (by omega)]; omega))]))), _, _, rfl, rfl⟩))
    | ((rename (_ < _ ∧ _ < _ ∧ _ < _ ∧ AllLt _ _ : Prop) => hl); first
      | exact hret _ [_] _ _ (by k_asm) (cb_drop (by assumption) one_sub) (one_lt (l := _) (led := (_, _) :: _) hl.2.2) (Or.inl ⟨by (first | rfl | ((simp only [okW, okI]); first | (rw [if_pos (by omega)]) | (rw [if_neg (by omega), if_pos (by omega)]) | (rw [if_neg (by omega), if_pos (Or.inr (by rw [← pow_same (by omega)]; omega))]))), _, _, rfl, rfl⟩)
      | ((rename (_ < _ ∧ AllLt _ _ : Prop) => hd1); (rename (_ < _ : Prop) => hd2); exact hret _ [_, _, _] _ _ (by k_asm) (by k_asm) (made_lt (led := (_, _) :: _) hd1 hd2 hl.2.2) (Or.inr ⟨_, by (((simp only [okW, okI]); (rw [if_neg (by omega)]); first
  | (rw [if_neg (by rw [← pow_same (by omega)]; omega)])
  | exact congrArg some ((congrArg least (by (repeat' split) <;> omega)).trans (width_of (by (repeat' split) <;> omega) (by (repeat' split) <;> omega)).symm))), _, _, _, _, _, _, _, _, _, _, _, _, _, _, rfl, rfl, ⟨_, rfl⟩, ⟨_, rfl⟩⟩)))
end Mine
namespace Mine
local macro_rules | `(tactic| k_room) => `(tactic| ktr_room)
local macro_rules | `(tactic| k_units) => `(tactic| ktr_units)
local macro_rules | `(tactic| walk_at "InitBack") => `(tactic| (dsimp only [InitBack]))
local macro_rules | `(tactic| walk_at "binaryOp Pow int int") => `(tactic| (k_here; (with_reducible refine pow_int_small ?kb1 ?kb2 ?kb3 ?_); (case kb1 => omega); (case kb2 => omega); (case kb3 => decide)))
local macro_rules | `(tactic| walk_at "subscriptTail Name Constant ref int") => `(tactic| (k_here; (with_reducible show wpAny _ _ (subscriptTail _ _ (Value.ref _) (Value.int _ _)) _ _ _); (with_unfolding_all refine' item_at ?k1 ?k2 ?k3 ?k4 ?k5 ?_ ?k6; (case k1 => k_asm); (case k2 => k_mem); (case k3 => decide); (case k4 => decide); (case k5 => rfl); (case k6 => with_unfolding_all rfl); k_whole)))
local macro_rules | `(tactic| walk_at "callWith ref") => `(tactic| (k_here; (with_reducible show wpAny _ _ (callWith _ _ _ _ (backToKw _ (keywordEach (_ :: _) _))) _ _ _); k_dflt (refine' callWith_KW0 ?k1 ?k2 ?k3 ?_; (case k1 => k_asm); (case k2 => k_is); (case k3 => exact rfl); k_whole)))
local macro_rules | `(tactic| walk_at "exec Raise some none") => `(tactic| (k_here; (with_reducible show wpAny _ _ (exec (Stmt.Raise (some (Expr.Call (Expr.Name _ _) (_ :: _) [] _)) none _) _) _ _ _); k_dflt (refine' raise_VE ?F ?T ?h1 ?h2 ?h3 ?h4 ?h5 ?_; (case F => k_asm); (case T => k_asm); (case h1 => rfl); (case h2 => rfl); (case h3 => rfl); (case h4 => rfl); (case h5 => rfl); k_whole)))
local macro_rules | `(tactic| walk_at "binaryOp Mod str ref") => `(tactic| (k_here; (with_reducible first | refine' mod_c ?N ?b ?x0 ?x1 ?y0 ?y1 ?_ | refine' mod_u ?N ?b ?x0 ?x1 ?y0 ?y1 ?_); k_dflt ((case N => k_asm); (case b => k_mem); (case x0 => omega); (case x1 => omega); (case y0 => exact pow_lo _); (case y1 => exact pow_hi (by assumption)); intro T9 t9 k9)))
local macro_rules | `(tactic| walk_at "eval Name") => `(tactic| (k_here; k_dflt (refine' ld ?k1 ?k2 ?_; (case k1 => k_asm); (case k2 => exact rfl); k_whole)))

set_option maxHeartbeats 4000000 in
theorem made_iii {w : World} {mean : ExcName → Option Value} {mg mb : Str → Option Value} {news : List (Addr × Obj)} {ua ub ug : Int} {t t2 t3 : Tok} {p : Addr} {pn : Nat} (ha : ua < 4722366482869645213696) (hb : ub < 4722366482869645213696) (h9 : ug ≤ 9) :
    Tl0 6 w mean mg mb 104 ((p, listOf [.int ua t, .int ub t2].toArray pn) :: news) [.ref p, .int ug t3] (MadeRet (okW (some ua) (some ub) (some ug)) (some ua) (some ub)) := by
  unfold Tl0
  w_on
  k_fill
  intro dp un gd cn cs a ccd A₀ base h₀ L m s Q E B F X N T hk hd hu XB TB hret
  refine wpAny_call ?_
  k_dflt ((refine' code_defS0 ?k1 ?k2 ?k3 ?k4 ?k5 ?kA ?k6 ?k7 ?k8 ?k9 ?kB ?_ ?cK ?c2 ?c3 ?c4 ?c5; (case kA => exact rfl); (case k2 => k_asm); (case k1 => k_asm); (case k3 => k_asm); (case k4 => k_asm); (case k5 => k_asm); (case k6 => k_is); (case k7 => k_is); (case k8 => ktr_room); (case k9 => first | exact binds_K (by k_in) rfl (by k_is) rfl rfl rfl | exact BindsTo.of_eq rfl | fail "kts_go: no rule for these arguments"); (case kB => exact locs rfl); (case cK => assumption); (case c2 => exact rfl); (case c3 => exact rfl); (case c4 => exact rfl); (case c5 => decide); k_whole; intro g' L' h' FG' F' N' B' X' T' D'; (try dsimp only); (try k_lift B'); (try k_fold)))
  k_steps
  all_goals first
    | ((rename (_ < _ ∧ _ < _ ∧ _ < _ ∧ _ < _ ∧ AllLt _ _ : Prop) => hl); exact hret _ [_] _ _ (by k_asm) (cb_drop (by assumption) three_sub) (one_lt (l := _) (led := (_, _) :: _) hl.2.2.2) (Or.inl ⟨by (first | rfl | ((simp only [okW, okI]); first | (rw [if_pos (by omega)]) | (rw [if_neg (by omega), if_pos (by omega)]) | (rw [if_neg (by omega), if_pos (Or.inr (by rw [← pow_same (by omega)]; omega))]))), _, _, rfl, rfl⟩))
    | ((rename (_ < _ ∧ _ < _ ∧ _ < _ ∧ AllLt _ _ : Prop) => hl); first
      | exact hret _ [_] _ _ (by k_asm) (cb_drop (by assumption) one_sub) (one_lt (l := _) (led := (_, _) :: _) hl.2.2) (Or.inl ⟨by (first | rfl | ((simp only [okW, okI]); first | (rw [if_pos (by omega)]) | (rw [if_neg (by omega), if_pos (by omega)]) | (rw [if_neg (by omega), if_pos (Or.inr (by rw [← pow_same (by omega)]; omega))]))), _, _, rfl, rfl⟩)
      | ((rename (_ < _ ∧ AllLt _ _ : Prop) => hd1); (rename (_ < _ : Prop) => hd2); exact hret _ [_, _, _] _ _ (by k_asm) (by k_asm) (made_lt (led := (_, _) :: _) hd1 hd2 hl.2.2) (Or.inr ⟨_, by (((simp only [okW, okI]); (rw [if_neg (by omega)]); first
  | (rw [if_neg (by rw [← pow_same (by omega)]; omega)])
  | exact congrArg some ((congrArg least (by (repeat' split) <;> omega)).trans (width_of (by (repeat' split) <;> omega) (by (repeat' split) <;> omega)).symm))), _, _, _, _, _, _, _, _, _, _, _, _, _, _, rfl, rfl, ⟨_, rfl⟩, ⟨_, rfl⟩⟩)))
end Mine
namespace Mine
local macro_rules | `(tactic| k_room) => `(tactic| ktr_room)
local macro_rules | `(tactic| k_units) => `(tactic| ktr_units)
local macro_rules | `(tactic| walk_at "InitBack") => `(tactic| (dsimp only [InitBack]))
local macro_rules | `(tactic| walk_at "binaryOp Pow int int") => `(tactic| (k_here; (with_reducible refine pow_int_small ?kb1 ?kb2 ?kb3 ?_); (case kb1 => omega); (case kb2 => omega); (case kb3 => decide)))
local macro_rules | `(tactic| walk_at "subscriptTail Name Constant ref int") => `(tactic| (k_here; (with_reducible show wpAny _ _ (subscriptTail _ _ (Value.ref _) (Value.int _ _)) _ _ _); (with_unfolding_all refine' item_at ?k1 ?k2 ?k3 ?k4 ?k5 ?_ ?k6; (case k1 => k_asm); (case k2 => k_mem); (case k3 => decide); (case k4 => decide); (case k5 => rfl); (case k6 => with_unfolding_all rfl); k_whole)))
local macro_rules | `(tactic| walk_at "callWith ref") => `(tactic| (k_here; (with_reducible show wpAny _ _ (callWith _ _ _ _ (backToKw _ (keywordEach (_ :: _) _))) _ _ _); k_dflt (refine' callWith_KW0 ?k1 ?k2 ?k3 ?_; (case k1 => k_asm); (case k2 => k_is); (case k3 => exact rfl); k_whole)))
local macro_rules | `(tactic| walk_at "exec Raise some none") => `(tactic| (k_here; (with_reducible show wpAny _ _ (exec (Stmt.Raise (some (Expr.Call (Expr.Name _ _) (_ :: _) [] _)) none _) _) _ _ _); k_dflt (refine' raise_VE ?F ?T ?h1 ?h2 ?h3 ?h4 ?h5 ?_; (case F => k_asm); (case T => k_asm); (case h1 => rfl); (case h2 => rfl); (case h3 => rfl); (case h4 => rfl); (case h5 => rfl); k_whole)))
local macro_rules | `(tactic| walk_at "binaryOp Mod str ref") => `(tactic| (k_here; (with_reducible first | refine' mod_c ?N ?b ?x0 ?x1 ?y0 ?y1 ?_ | refine' mod_u ?N ?b ?x0 ?x1 ?y0 ?y1 ?_); k_dflt ((case N => k_asm); (case b => k_mem); (case x0 => omega); (case x1 => omega); (case y0 => exact pow_lo _); (case y1 => exact pow_hi (by assumption)); intro T9 t9 k9)))
local macro_rules | `(tactic| walk_at "eval Name") => `(tactic| (k_here; k_dflt (refine' ld ?k1 ?k2 ?_; (case k1 => k_asm); (case k2 => exact rfl); k_whole)))

set_option maxHeartbeats 4000000 in
theorem made_ini {w : World} {mean : ExcName → Option Value} {mg mb : Str → Option Value} {news : List (Addr × Obj)} {ua ub ug : Int} {t t2 t3 : Tok} {p : Addr} {pn : Nat} (ha : ua < 4722366482869645213696) (hb : ub < 4722366482869645213696) (h9 : ug ≤ 9) :
    Tl0 6 w mean mg mb 104 ((p, listOf [.int ua t, .none].toArray pn) :: news) [.ref p, .int ug t3] (MadeRet (okW (some ua) none (some ug)) (some ua) none) := by
  unfold Tl0
  w_on
  k_fill
  intro dp un gd cn cs a ccd A₀ base h₀ L m s Q E B F X N T hk hd hu XB TB hret
  refine wpAny_call ?_
  k_dflt ((refine' code_defS0 ?k1 ?k2 ?k3 ?k4 ?k5 ?kA ?k6 ?k7 ?k8 ?k9 ?kB ?_ ?cK ?c2 ?c3 ?c4 ?c5; (case kA => exact rfl); (case k2 => k_asm); (case k1 => k_asm); (case k3 => k_asm); (case k4 => k_asm); (case k5 => k_asm); (case k6 => k_is); (case k7 => k_is); (case k8 => ktr_room); (case k9 => first | exact binds_K (by k_in) rfl (by k_is) rfl rfl rfl | exact BindsTo.of_eq rfl | fail "kts_go: no rule for these arguments"); (case kB => exact locs rfl); (case cK => assumption); (case c2 => exact rfl); (case c3 => exact rfl); (case c4 => exact rfl); (case c5 => decide); k_whole; intro g' L' h' FG' F' N' B' X' T' D'; (try dsimp only); (try k_lift B'); (try k_fold)))
  k_steps
  all_goals first
    | ((rename (_ < _ ∧ _ < _ ∧ _ < _ ∧ _ < _ ∧ AllLt _ _ : Prop) => hl); exact hret _ [_] _ _ (by k_asm) (cb_drop (by assumption) three_sub) (one_lt (l := _) (led := (_, _) :: _) hl.2.2.2) (Or.inl ⟨by (first | rfl | ((simp only [okW, okI]); first | (rw [if_pos (by omega)]) | (rw [if_neg (by omega), if_pos (by omega)]) | (rw [if_neg (by omega), if_pos (Or.inr (by rw [← pow_same (by omega)]; omega))]))), _, _, rfl, rfl⟩))
    | ((rename (_ < _ ∧ _ < _ ∧ _ < _ ∧ AllLt _ _ : Prop) => hl); first
      | exact hret _ [_] _ _ (by k_asm) (cb_drop (by assumption) one_sub) (one_lt (l := _) (led := (_, _) :: _) hl.2.2) (Or.inl ⟨by (first | rfl | ((simp only [okW, okI]); first | (rw [if_pos (by omega)]) | (rw [if_neg (by omega), if_pos (by omega)]) | (rw [if_neg (by omega), if_pos (Or.inr (by rw [← pow_same (by omega)]; omega))]))), _, _, rfl, rfl⟩)
      | ((rename (_ < _ ∧ AllLt _ _ : Prop) => hd1); (rename (_ < _ : Prop) => hd2); exact hret _ [_, _, _] _ _ (by k_asm) (by k_asm) (made_lt (led := (_, _) :: _) hd1 hd2 hl.2.2) (Or.inr ⟨_, by (((simp only [okW, okI]); (rw [if_neg (by omega)]); first
  | (rw [if_neg (by rw [← pow_same (by omega)]; omega)])
  | exact congrArg some ((congrArg least (by (repeat' split) <;> omega)).trans (width_of (by (repeat' split) <;> omega) (by (repeat' split) <;> omega)).symm))), _, _, _, _, _, _, _, _, _, _, _, _, _, _, rfl, rfl, ⟨_, rfl⟩, rfl⟩)))
end Mine
namespace Mine
local macro_rules | `(tactic| k_room) => `(tactic| ktr_room)
local macro_rules | `(tactic| k_units) => `(tactic| ktr_units)
local macro_rules | `(tactic| walk_at "InitBack") => `(tactic| (dsimp only [InitBack]))
local macro_rules | `(tactic| walk_at "binaryOp Pow int int") => `(tactic| (k_here; (with_reducible refine pow_int_small ?kb1 ?kb2 ?kb3 ?_); (case kb1 => omega); (case kb2 => omega); (case kb3 => decide)))
local macro_rules | `(tactic| walk_at "subscriptTail Name Constant ref int") => `(tactic| (k_here; (with_reducible show wpAny _ _ (subscriptTail _ _ (Value.ref _) (Value.int _ _)) _ _ _); (with_unfolding_all refine' item_at ?k1 ?k2 ?k3 ?k4 ?k5 ?_ ?k6; (case k1 => k_asm); (case k2 => k_mem); (case k3 => decide); (case k4 => decide); (case k5 => rfl); (case k6 => with_unfolding_all rfl); k_whole)))
local macro_rules | `(tactic| walk_at "callWith ref") => `(tactic| (k_here; (with_reducible show wpAny _ _ (callWith _ _ _ _ (backToKw _ (keywordEach (_ :: _) _))) _ _ _); k_dflt (refine' callWith_KW0 ?k1 ?k2 ?k3 ?_; (case k1 => k_asm); (case k2 => k_is); (case k3 => exact rfl); k_whole)))
local macro_rules | `(tactic| walk_at "exec Raise some none") => `(tactic| (k_here; (with_reducible show wpAny _ _ (exec (Stmt.Raise (some (Expr.Call (Expr.Name _ _) (_ :: _) [] _)) none _) _) _ _ _); k_dflt (refine' raise_VE ?F ?T ?h1 ?h2 ?h3 ?h4 ?h5 ?_; (case F => k_asm); (case T => k_asm); (case h1 => rfl); (case h2 => rfl); (case h3 => rfl); (case h4 => rfl); (case h5 => rfl); k_whole)))
local macro_rules | `(tactic| walk_at "binaryOp Mod str ref") => `(tactic| (k_here; (with_reducible first | refine' mod_c ?N ?b ?x0 ?x1 ?y0 ?y1 ?_ | refine' mod_u ?N ?b ?x0 ?x1 ?y0 ?y1 ?_); k_dflt ((case N => k_asm); (case b => k_mem); (case x0 => omega); (case x1 => omega); (case y0 => exact pow_lo _); (case y1 => exact pow_hi (by assumption)); intro T9 t9 k9)))
local macro_rules | `(tactic| walk_at "eval Name") => `(tactic| (k_here; k_dflt (refine' ld ?k1 ?k2 ?_; (case k1 => k_asm); (case k2 => exact rfl); k_whole)))

set_option maxHeartbeats 4000000 in
theorem made_inn {w : World} {mean : ExcName → Option Value} {mg mb : Str → Option Value} {news : List (Addr × Obj)} {ua ub ug : Int} {t t2 t3 : Tok} {p : Addr} {pn : Nat} (ha : ua < 4722366482869645213696) (hb : ub < 4722366482869645213696) (h9 : ug ≤ 9) :
    Tl0 6 w mean mg mb 104 ((p, listOf [.int ua t, .none].toArray pn) :: news) [.ref p, .none] (MadeRet (okW (some ua) none none) (some ua) none) := by
  unfold Tl0
  w_on
  k_fill
  intro dp un gd cn cs a ccd A₀ base h₀ L m s Q E B F X N T hk hd hu XB TB hret
  refine wpAny_call ?_
  k_dflt ((refine' code_defS0 ?k1 ?k2 ?k3 ?k4 ?k5 ?kA ?k6 ?k7 ?k8 ?k9 ?kB ?_ ?cK ?c2 ?c3 ?c4 ?c5; (case kA => exact rfl); (case k2 => k_asm); (case k1 => k_asm); (case k3 => k_asm); (case k4 => k_asm); (case k5 => k_asm); (case k6 => k_is); (case k7 => k_is); (case k8 => ktr_room); (case k9 => first | exact binds_K (by k_in) rfl (by k_is) rfl rfl rfl | exact BindsTo.of_eq rfl | fail "kts_go: no rule for these arguments"); (case kB => exact locs rfl); (case cK => assumption); (case c2 => exact rfl); (case c3 => exact rfl); (case c4 => exact rfl); (case c5 => decide); k_whole; intro g' L' h' FG' F' N' B' X' T' D'; (try dsimp only); (try k_lift B'); (try k_fold)))
  k_steps
  all_goals first
    | ((rename (_ < _ ∧ _ < _ ∧ _ < _ ∧ _ < _ ∧ AllLt _ _ : Prop) => hl); exact hret _ [_] _ _ (by k_asm) (cb_drop (by assumption) three_sub) (one_lt (l := _) (led := (_, _) :: _) hl.2.2.2) (Or.inl ⟨by (first | rfl | ((simp only [okW, okI]); first | (rw [if_pos (by omega)]) | (rw [if_neg (by omega), if_pos (by omega)]) | (rw [if_neg (by omega), if_pos (Or.inr (by rw [← pow_same (by omega)]; omega))]))), _, _, rfl, rfl⟩))
    | ((rename (_ < _ ∧ _ < _ ∧ _ < _ ∧ AllLt _ _ : Prop) => hl); first
      | exact hret _ [_] _ _ (by k_asm) (cb_drop (by assumption) one_sub) (one_lt (l := _) (led := (_, _) :: _) hl.2.2) (Or.inl ⟨by (first | rfl | ((simp only [okW, okI]); first | (rw [if_pos (by omega)]) | (rw [if_neg (by omega), if_pos (by omega)]) | (rw [if_neg (by omega), if_pos (Or.inr (by rw [← pow_same (by omega)]; omega))]))), _, _, rfl, rfl⟩)
      | ((rename (_ < _ ∧ AllLt _ _ : Prop) => hd1); (rename (_ < _ : Prop) => hd2); exact hret _ [_, _, _] _ _ (by k_asm) (by k_asm) (made_lt (led := (_, _) :: _) hd1 hd2 hl.2.2) (Or.inr ⟨_, by (((simp only [okW, okI]); (rw [if_neg (by omega)]); first
  | (rw [if_neg (by rw [← pow_same (by omega)]; omega)])
  | exact congrArg some ((congrArg least (by (repeat' split) <;> omega)).trans (width_of (by (repeat' split) <;> omega) (by (repeat' split) <;> omega)).symm))), _, _, _, _, _, _, _, _, _, _, _, _, _, _, rfl, rfl, ⟨_, rfl⟩, rfl⟩)))
end Mine
namespace Mine
local macro_rules | `(tactic| k_room) => `(tactic| ktr_room)
local macro_rules | `(tactic| k_units) => `(tactic| ktr_units)
local macro_rules | `(tactic| walk_at "InitBack") => `(tactic| (dsimp only [InitBack]))
local macro_rules | `(tactic| walk_at "binaryOp Pow int int") => `(tactic| (k_here; (with_reducible refine pow_int_small ?kb1 ?kb2 ?kb3 ?_); (case kb1 => omega); (case kb2 => omega); (case kb3 => decide)))
local macro_rules | `(tactic| walk_at "subscriptTail Name Constant ref int") => `(tactic| (k_here; (with_reducible show wpAny _ _ (subscriptTail _ _ (Value.ref _) (Value.int _ _)) _ _ _); (with_unfolding_all refine' item_at ?k1 ?k2 ?k3 ?k4 ?k5 ?_ ?k6; (case k1 => k_asm); (case k2 => k_mem); (case k3 => decide); (case k4 => decide); (case k5 => rfl); (case k6 => with_unfolding_all rfl); k_whole)))
local macro_rules | `(tactic| walk_at "callWith ref") => `(tactic| (k_here; (with_reducible show wpAny _ _ (callWith _ _ _ _ (backToKw _ (keywordEach (_ :: _) _))) _ _ _); k_dflt (refine' callWith_KW0 ?k1 ?k2 ?k3 ?_; (case k1 => k_asm); (case k2 => k_is); (case k3 => exact rfl); k_whole)))
local macro_rules | `(tactic| walk_at "exec Raise some none") => `(tactic| (k_here; (with_reducible show wpAny _ _ (exec (Stmt.Raise (some (Expr.Call (Expr.Name _ _) (_ :: _) [] _)) none _) _) _ _ _); k_dflt (refine' raise_VE ?F ?T ?h1 ?h2 ?h3 ?h4 ?h5 ?_; (case F => k_asm); (case T => k_asm); (case h1 => rfl); (case h2 => rfl); (case h3 => rfl); (case h4 => rfl); (case h5 => rfl); k_whole)))
local macro_rules | `(tactic| walk_at "binaryOp Mod str ref") => `(tactic| (k_here; (with_reducible first | refine' mod_c ?N ?b ?x0 ?x1 ?y0 ?y1 ?_ | refine' mod_u ?N ?b ?x0 ?x1 ?y0 ?y1 ?_); k_dflt ((case N => k_asm); (case b => k_mem); (case x0 => omega); (case x1 => omega); (case y0 => exact pow_lo _); (case y1 => exact pow_hi (by assumption)); intro T9 t9 k9)))
local macro_rules | `(tactic| walk_at "eval Name") => `(tactic| (k_here; k_dflt (refine' ld ?k1 ?k2 ?_; (case k1 => k_asm); (case k2 => exact rfl); k_whole)))

set_option maxHeartbeats 4000000 in
theorem made_nin {w : World} {mean : ExcName → Option Value} {mg mb : Str → Option Value} {news : List (Addr × Obj)} {ua ub ug : Int} {t t2 t3 : Tok} {p : Addr} {pn : Nat} (ha : ua < 4722366482869645213696) (hb : ub < 4722366482869645213696) (h9 : ug ≤ 9) :
    Tl0 6 w mean mg mb 104 ((p, listOf [.none, .int ub t2].toArray pn) :: news) [.ref p, .none] (MadeRet (okW none (some ub) none) none (some ub)) := by
  unfold Tl0
  w_on
  k_fill
  intro dp un gd cn cs a ccd A₀ base h₀ L m s Q E B F X N T hk hd hu XB TB hret
  refine wpAny_call ?_
  k_dflt ((refine' code_defS0 ?k1 ?k2 ?k3 ?k4 ?k5 ?kA ?k6 ?k7 ?k8 ?k9 ?kB ?_ ?cK ?c2 ?c3 ?c4 ?c5; (case kA => exact rfl); (case k2 => k_asm); (case k1 => k_asm); (case k3 => k_asm); (case k4 => k_asm); (case k5 => k_asm); (case k6 => k_is); (case k7 => k_is); (case k8 => ktr_room); (case k9 => first | exact binds_K (by k_in) rfl (by k_is) rfl rfl rfl | exact BindsTo.of_eq rfl | fail "kts_go: no rule for these arguments"); (case kB => exact locs rfl); (case cK => assumption); (case c2 => exact rfl); (case c3 => exact rfl); (case c4 => exact rfl); (case c5 => decide); k_whole; intro g' L' h' FG' F' N' B' X' T' D'; (try dsimp only); (try k_lift B'); (try k_fold)))
  k_steps
  all_goals first
    | ((rename (_ < _ ∧ _ < _ ∧ _ < _ ∧ _ < _ ∧ AllLt _ _ : Prop) => hl); exact hret _ [_] _ _ (by k_asm) (cb_drop (by assumption) three_sub) (one_lt (l := _) (led := (_, _) :: _) hl.2.2.2) (Or.inl ⟨by (first | rfl | ((simp only [okW, okI]); first | (rw [if_pos (by omega)]) | (rw [if_neg (by omega), if_pos (by omega)]) | (rw [if_neg (by omega), if_pos (Or.inr (by rw [← pow_same (by omega)]; omega))]))), _, _, rfl, rfl⟩))
    | ((rename (_ < _ ∧ _ < _ ∧ _ < _ ∧ AllLt _ _ : Prop) => hl); first
      | exact hret _ [_] _ _ (by k_asm) (cb_drop (by assumption) one_sub) (one_lt (l := _) (led := (_, _) :: _) hl.2.2) (Or.inl ⟨by (first | rfl | ((simp only [okW, okI]); first | (rw [if_pos (by omega)]) | (rw [if_neg (by omega), if_pos (by omega)]) | (rw [if_neg (by omega), if_pos (Or.inr (by rw [← pow_same (by omega)]; omega))]))), _, _, rfl, rfl⟩)
      | ((rename (_ < _ ∧ AllLt _ _ : Prop) => hd1); (rename (_ < _ : Prop) => hd2); exact hret _ [_, _, _] _ _ (by k_asm) (by k_asm) (made_lt (led := (_, _) :: _) hd1 hd2 hl.2.2) (Or.inr ⟨_, by (((simp only [okW, okI]); (rw [if_neg (by omega)]); first
  | (rw [if_neg (by rw [← pow_same (by omega)]; omega)])
  | exact congrArg some ((congrArg least (by (repeat' split) <;> omega)).trans (width_of (by (repeat' split) <;> omega) (by (repeat' split) <;> omega)).symm))), _, _, _, _, _, _, _, _, _, _, _, _, _, _, rfl, rfl, rfl, ⟨_, rfl⟩⟩)))
end Mine
namespace Mine
local macro_rules | `(tactic| k_room) => `(tactic| ktr_room)
local macro_rules | `(tactic| k_units) => `(tactic| ktr_units)
local macro_rules | `(tactic| walk_at "InitBack") => `(tactic| (dsimp only [InitBack]))
local macro_rules | `(tactic| walk_at "binaryOp Pow int int") => `(tactic| (k_here; (with_reducible refine pow_int_small ?kb1 ?kb2 ?kb3 ?_); (case kb1 => omega); (case kb2 => omega); (case kb3 => decide)))
local macro_rules | `(tactic| walk_at "subscriptTail Name Constant ref int") => `(tactic| (k_here; (with_reducible show wpAny _ _ (subscriptTail _ _ (Value.ref _) (Value.int _ _)) _ _ _); (with_unfolding_all refine' item_at ?k1 ?k2 ?k3 ?k4 ?k5 ?_ ?k6; (case k1 => k_asm); (case k2 => k_mem); (case k3 => decide); (case k4 => decide); (case k5 => rfl); (case k6 => with_unfolding_all rfl); k_whole)))
local macro_rules | `(tactic| walk_at "callWith ref") => `(tactic| (k_here; (with_reducible show wpAny _ _ (callWith _ _ _ _ (backToKw _ (keywordEach (_ :: _) _))) _ _ _); k_dflt (refine' callWith_KW0 ?k1 ?k2 ?k3 ?_; (case k1 => k_asm); (case k2 => k_is); (case k3 => exact rfl); k_whole)))
local macro_rules | `(tactic| walk_at "exec Raise some none") => `(tactic| (k_here; (with_reducible show wpAny _ _ (exec (Stmt.Raise (some (Expr.Call (Expr.Name _ _) (_ :: _) [] _)) none _) _) _ _ _); k_dflt (refine' raise_VE ?F ?T ?h1 ?h2 ?h3 ?h4 ?h5 ?_; (case F => k_asm); (case T => k_asm); (case h1 => rfl); (case h2 => rfl); (case h3 => rfl); (case h4 => rfl); (case h5 => rfl); k_whole)))
local macro_rules | `(tactic| walk_at "binaryOp Mod str ref") => `(tactic| (k_here; (with_reducible first | refine' mod_c ?N ?b ?x0 ?x1 ?y0 ?y1 ?_ | refine' mod_u ?N ?b ?x0 ?x1 ?y0 ?y1 ?_); k_dflt ((case N => k_asm); (case b => k_mem); (case x0 => omega); (case x1 => omega); (case y0 => exact pow_lo _); (case y1 => exact pow_hi (by assumption)); intro T9 t9 k9)))
local macro_rules | `(tactic| walk_at "eval Name") => `(tactic| (k_here; k_dflt (refine' ld ?k1 ?k2 ?_; (case k1 => k_asm); (case k2 => exact rfl); k_whole)))

set_option maxHeartbeats 4000000 in
theorem made_nii {w : World} {mean : ExcName → Option Value} {mg mb : Str → Option Value} {news : List (Addr × Obj)} {ua ub ug : Int} {t t2 t3 : Tok} {p : Addr} {pn : Nat} (ha : ua < 4722366482869645213696) (hb : ub < 4722366482869645213696) (h9 : ug ≤ 9) :
    Tl0 6 w mean mg mb 104 ((p, listOf [.none, .int ub t2].toArray pn) :: news) [.ref p, .int ug t3] (MadeRet (okW none (some ub) (some ug)) none (some ub)) := by
  unfold Tl0
  w_on
  k_fill
  intro dp un gd cn cs a ccd A₀ base h₀ L m s Q E B F X N T hk hd hu XB TB hret
  refine wpAny_call ?_
  k_dflt ((refine' code_defS0 ?k1 ?k2 ?k3 ?k4 ?k5 ?kA ?k6 ?k7 ?k8 ?k9 ?kB ?_ ?cK ?c2 ?c3 ?c4 ?c5; (case kA => exact rfl); (case k2 => k_asm); (case k1 => k_asm); (case k3 => k_asm); (case k4 => k_asm); (case k5 => k_asm); (case k6 => k_is); (case k7 => k_is); (case k8 => ktr_room); (case k9 => first | exact binds_K (by k_in) rfl (by k_is) rfl rfl rfl | exact BindsTo.of_eq rfl | fail "kts_go: no rule for these arguments"); (case kB => exact locs rfl); (case cK => assumption); (case c2 => exact rfl); (case c3 => exact rfl); (case c4 => exact rfl); (case c5 => decide); k_whole; intro g' L' h' FG' F' N' B' X' T' D'; (try dsimp only); (try k_lift B'); (try k_fold)))
  k_steps
  all_goals first
    | ((rename (_ < _ ∧ _ < _ ∧ _ < _ ∧ _ < _ ∧ AllLt _ _ : Prop) => hl); exact hret _ [_] _ _ (by k_asm) (cb_drop (by assumption) three_sub) (one_lt (l := _) (led := (_, _) :: _) hl.2.2.2) (Or.inl ⟨by (first | rfl | ((simp only [okW, okI]); first | (rw [if_pos (by omega)]) | (rw [if_neg (by omega), if_pos (by omega)]) | (rw [if_neg (by omega), if_pos (Or.inr (by rw [← pow_same (by omega)]; omega))]))), _, _, rfl, rfl⟩))
    | ((rename (_ < _ ∧ _ < _ ∧ _ < _ ∧ AllLt _ _ : Prop) => hl); first
      | exact hret _ [_] _ _ (by k_asm) (cb_drop (by assumption) one_sub) (one_lt (l := _) (led := (_, _) :: _) hl.2.2) (Or.inl ⟨by (first | rfl | ((simp only [okW, okI]); first | (rw [if_pos (by omega)]) | (rw [if_neg (by omega), if_pos (by omega)]) | (rw [if_neg (by omega), if_pos (Or.inr (by rw [← pow_same (by omega)]; omega))]))), _, _, rfl, rfl⟩)
      | ((rename (_ < _ ∧ AllLt _ _ : Prop) => hd1); (rename (_ < _ : Prop) => hd2); exact hret _ [_, _, _] _ _ (by k_asm) (by k_asm) (made_lt (led := (_, _) :: _) hd1 hd2 hl.2.2) (Or.inr ⟨_, by (((simp only [okW, okI]); (rw [if_neg (by omega)]); first
  | (rw [if_neg (by rw [← pow_same (by omega)]; omega)])
  | exact congrArg some ((congrArg least (by (repeat' split) <;> omega)).trans (width_of (by (repeat' split) <;> omega) (by (repeat' split) <;> omega)).symm))), _, _, _, _, _, _, _, _, _, _, _, _, _, _, rfl, rfl, rfl, ⟨_, rfl⟩⟩)))
end Mine
namespace Mine
local macro_rules | `(tactic| k_room) => `(tactic| ktr_room)
local macro_rules | `(tactic| k_units) => `(tactic| ktr_units)
local macro_rules | `(tactic| walk_at "InitBack") => `(tactic| (dsimp only [InitBack]))
local macro_rules | `(tactic| walk_at "binaryOp Pow int int") => `(tactic| (k_here; (with_reducible refine pow_int_small ?kb1 ?kb2 ?kb3 ?_); (case kb1 => omega); (case kb2 => omega); (case kb3 => decide)))
local macro_rules | `(tactic| walk_at "subscriptTail Name Constant ref int") => `(tactic| (k_here; (with_reducible show wpAny _ _ (subscriptTail _ _ (Value.ref _) (Value.int _ _)) _ _ _); (with_unfolding_all refine' item_at ?k1 ?k2 ?k3 ?k4 ?k5 ?_ ?k6; (case k1 => k_asm); (case k2 => k_mem); (case k3 => decide); (case k4 => decide); (case k5 => rfl); (case k6 => with_unfolding_all rfl); k_whole)))
local macro_rules | `(tactic| walk_at "callWith ref") => `(tactic| (k_here; (with_reducible show wpAny _ _ (callWith _ _ _ _ (backToKw _ (keywordEach (_ :: _) _))) _ _ _); k_dflt (refine' callWith_KW0 ?k1 ?k2 ?k3 ?_; (case k1 => k_asm); (case k2 => k_is); (case k3 => exact rfl); k_whole)))
local macro_rules | `(tactic| walk_at "exec Raise some none") => `(tactic| (k_here; (with_reducible show wpAny _ _ (exec (Stmt.Raise (some (Expr.Call (Expr.Name _ _) (_ :: _) [] _)) none _) _) _ _ _); k_dflt (refine' raise_VE ?F ?T ?h1 ?h2 ?h3 ?h4 ?h5 ?_; (case F => k_asm); (case T => k_asm); (case h1 => rfl); (case h2 => rfl); (case h3 => rfl); (case h4 => rfl); (case h5 => rfl); k_whole)))
local macro_rules | `(tactic| walk_at "binaryOp Mod str ref") => `(tactic| (k_here; (with_reducible first | refine' mod_c ?N ?b ?x0 ?x1 ?y0 ?y1 ?_ | refine' mod_u ?N ?b ?x0 ?x1 ?y0 ?y1 ?_); k_dflt ((case N => k_asm); (case b => k_mem); (case x0 => omega); (case x1 => omega); (case y0 => exact pow_lo _); (case y1 => exact pow_hi (by assumption)); intro T9 t9 k9)))
local macro_rules | `(tactic| walk_at "eval Name") => `(tactic| (k_here; k_dflt (refine' ld ?k1 ?k2 ?_; (case k1 => k_asm); (case k2 => exact rfl); k_whole)))

set_option maxHeartbeats 4000000 in
theorem made_nnn {w : World} {mean : ExcName → Option Value} {mg mb : Str → Option Value} {news : List (Addr × Obj)} {ua ub ug : Int} {t t2 t3 : Tok} {p : Addr} {pn : Nat} (ha : ua < 4722366482869645213696) (hb : ub < 4722366482869645213696) (h9 : ug ≤ 9) :
    Tl0 6 w mean mg mb 104 ((p, listOf [.none, .none].toArray pn) :: news) [.ref p, .none] (MadeRet (okW none none none) none none) := by
  unfold Tl0
  w_on
  k_fill
  intro dp un gd cn cs a ccd A₀ base h₀ L m s Q E B F X N T hk hd hu XB TB hret
  refine wpAny_call ?_
  k_dflt ((refine' code_defS0 ?k1 ?k2 ?k3 ?k4 ?k5 ?kA ?k6 ?k7 ?k8 ?k9 ?kB ?_ ?cK ?c2 ?c3 ?c4 ?c5; (case kA => exact rfl); (case k2 => k_asm); (case k1 => k_asm); (case k3 => k_asm); (case k4 => k_asm); (case k5 => k_asm); (case k6 => k_is); (case k7 => k_is); (case k8 => ktr_room); (case k9 => first | exact binds_K (by k_in) rfl (by k_is) rfl rfl rfl | exact BindsTo.of_eq rfl | fail "kts_go: no rule for these arguments"); (case kB => exact locs rfl); (case cK => assumption); (case c2 => exact rfl); (case c3 => exact rfl); (case c4 => exact rfl); (case c5 => decide); k_whole; intro g' L' h' FG' F' N' B' X' T' D'; (try dsimp only); (try k_lift B'); (try k_fold)))
  k_steps
  all_goals first
    | ((rename (_ < _ ∧ _ < _ ∧ _ < _ ∧ _ < _ ∧ AllLt _ _ : Prop) => hl); exact hret _ [_] _ _ (by k_asm) (cb_drop (by assumption) three_sub) (one_lt (l := _) (led := (_, _) :: _) hl.2.2.2) (Or.inl ⟨by (first | rfl | ((simp only [okW, okI]); first | (rw [if_pos (by omega)]) | (rw [if_neg (by omega), if_pos (by omega)]) | (rw [if_neg (by omega), if_pos (Or.inr (by rw [← pow_same (by omega)]; omega))]))), _, _, rfl, rfl⟩))
    | ((rename (_ < _ ∧ _ < _ ∧ _ < _ ∧ AllLt _ _ : Prop) => hl); first
      | exact hret _ [_] _ _ (by k_asm) (cb_drop (by assumption) one_sub) (one_lt (l := _) (led := (_, _) :: _) hl.2.2) (Or.inl ⟨by (first | rfl | ((simp only [okW, okI]); first | (rw [if_pos (by omega)]) | (rw [if_neg (by omega), if_pos (by omega)]) | (rw [if_neg (by omega), if_pos (Or.inr (by rw [← pow_same (by omega)]; omega))]))), _, _, rfl, rfl⟩)
      | ((rename (_ < _ ∧ AllLt _ _ : Prop) => hd1); (rename (_ < _ : Prop) => hd2); exact hret _ [_, _, _] _ _ (by k_asm) (by k_asm) (made_lt (led := (_, _) :: _) hd1 hd2 hl.2.2) (Or.inr ⟨_, by (((simp only [okW, okI]); (rw [if_neg (by omega)]); first
  | (rw [if_neg (by rw [← pow_same (by omega)]; omega)])
  | exact congrArg some ((congrArg least (by (repeat' split) <;> omega)).trans (width_of (by (repeat' split) <;> omega) (by (repeat' split) <;> omega)).symm))), _, _, _, _, _, _, _, _, _, _, _, _, _, _, rfl, rfl, rfl, rfl⟩)))
end Mine
namespace Mine
local macro_rules | `(tactic| k_room) => `(tactic| ktr_room)
local macro_rules | `(tactic| k_units) => `(tactic| ktr_units)
local macro_rules | `(tactic| walk_at "InitBack") => `(tactic| (dsimp only [InitBack]))
local macro_rules | `(tactic| walk_at "binaryOp Pow int int") => `(tactic| (k_here; (with_reducible refine pow_int_small ?kb1 ?kb2 ?kb3 ?_); (case kb1 => omega); (case kb2 => omega); (case kb3 => decide)))
local macro_rules | `(tactic| walk_at "subscriptTail Name Constant ref int") => `(tactic| (k_here; (with_reducible show wpAny _ _ (subscriptTail _ _ (Value.ref _) (Value.int _ _)) _ _ _); (with_unfolding_all refine' item_at ?k1 ?k2 ?k3 ?k4 ?k5 ?_ ?k6; (case k1 => k_asm); (case k2 => k_mem); (case k3 => decide); (case k4 => decide); (case k5 => rfl); (case k6 => with_unfolding_all rfl); k_whole)))
local macro_rules | `(tactic| walk_at "callWith ref") => `(tactic| (k_here; (with_reducible show wpAny _ _ (callWith _ _ _ _ (backToKw _ (keywordEach (_ :: _) _))) _ _ _); k_dflt (refine' callWith_KW0 ?k1 ?k2 ?k3 ?_; (case k1 => k_asm); (case k2 => k_is); (case k3 => exact rfl); k_whole)))
local macro_rules | `(tactic| walk_at "exec Raise some none") => `(tactic| (k_here; (with_reducible show wpAny _ _ (exec (Stmt.Raise (some (Expr.Call (Expr.Name _ _) (_ :: _) [] _)) none _) _) _ _ _); k_dflt (refine' raise_VE ?F ?T ?h1 ?h2 ?h3 ?h4 ?h5 ?_; (case F => k_asm); (case T => k_asm); (case h1 => rfl); (case h2 => rfl); (case h3 => rfl); (case h4 => rfl); (case h5 => rfl); k_whole)))
local macro_rules | `(tactic| walk_at "binaryOp Mod str ref") => `(tactic| (k_here; (with_reducible first | refine' mod_c ?N ?b ?x0 ?x1 ?y0 ?y1 ?_ | refine' mod_u ?N ?b ?x0 ?x1 ?y0 ?y1 ?_); k_dflt ((case N => k_asm); (case b => k_mem); (case x0 => omega); (case x1 => omega); (case y0 => exact pow_lo _); (case y1 => exact pow_hi (by assumption)); intro T9 t9 k9)))
local macro_rules | `(tactic| walk_at "eval Name") => `(tactic| (k_here; k_dflt (refine' ld ?k1 ?k2 ?_; (case k1 => k_asm); (case k2 => exact rfl); k_whole)))

set_option maxHeartbeats 4000000 in
theorem made_nni {w : World} {mean : ExcName → Option Value} {mg mb : Str → Option Value} {news : List (Addr × Obj)} {ua ub ug : Int} {t t2 t3 : Tok} {p : Addr} {pn : Nat} (ha : ua < 4722366482869645213696) (hb : ub < 4722366482869645213696) (h9 : ug ≤ 9) :
    Tl0 6 w mean mg mb 104 ((p, listOf [.none, .none].toArray pn) :: news) [.ref p, .int ug t3] (MadeRet (okW none none (some ug)) none none) := by
  unfold Tl0
  w_on
  k_fill
  intro dp un gd cn cs a ccd A₀ base h₀ L m s Q E B F X N T hk hd hu XB TB hret
  refine wpAny_call ?_
  k_dflt ((refine' code_defS0 ?k1 ?k2 ?k3 ?k4 ?k5 ?kA ?k6 ?k7 ?k8 ?k9 ?kB ?_ ?cK ?c2 ?c3 ?c4 ?c5; (case kA => exact rfl); (case k2 => k_asm); (case k1 => k_asm); (case k3 => k_asm); (case k4 => k_asm); (case k5 => k_asm); (case k6 => k_is); (case k7 => k_is); (case k8 => ktr_room); (case k9 => first | exact binds_K (by k_in) rfl (by k_is) rfl rfl rfl | exact BindsTo.of_eq rfl | fail "kts_go: no rule for these arguments"); (case kB => exact locs rfl); (case cK => assumption); (case c2 => exact rfl); (case c3 => exact rfl); (case c4 => exact rfl); (case c5 => decide); k_whole; intro g' L' h' FG' F' N' B' X' T' D'; (try dsimp only); (try k_lift B'); (try k_fold)))
  k_steps
  all_goals first
    | ((rename (_ < _ ∧ _ < _ ∧ _ < _ ∧ _ < _ ∧ AllLt _ _ : Prop) => hl); exact hret _ [_] _ _ (by k_asm) (cb_drop (by assumption) three_sub) (one_lt (l := _) (led := (_, _) :: _) hl.2.2.2) (Or.inl ⟨by (first | rfl | ((simp only [okW, okI]); first | (rw [if_pos (by omega)]) | (rw [if_neg (by omega), if_pos (by omega)]) | (rw [if_neg (by omega), if_pos (Or.inr (by rw [← pow_same (by omega)]; omega))]))), _, _, rfl, rfl⟩))
    | ((rename (_ < _ ∧ _ < _ ∧ _ < _ ∧ AllLt _ _ : Prop) => hl); first
      | exact hret _ [_] _ _ (by k_asm) (cb_drop (by assumption) one_sub) (one_lt (l := _) (led := (_, _) :: _) hl.2.2) (Or.inl ⟨by (first | rfl | ((simp only [okW, okI]); first | (rw [if_pos (by omega)]) | (rw [if_neg (by omega), if_pos (by omega)]) | (rw [if_neg (by omega), if_pos (Or.inr (by rw [← pow_same (by omega)]; omega))]))), _, _, rfl, rfl⟩)
      | ((rename (_ < _ ∧ AllLt _ _ : Prop) => hd1); (rename (_ < _ : Prop) => hd2); exact hret _ [_, _, _] _ _ (by k_asm) (by k_asm) (made_lt (led := (_, _) :: _) hd1 hd2 hl.2.2) (Or.inr ⟨_, by (((simp only [okW, okI]); (rw [if_neg (by omega)]); first
  | (rw [if_neg (by rw [← pow_same (by omega)]; omega)])
  | exact congrArg some ((congrArg least (by (repeat' split) <;> omega)).trans (width_of (by (repeat' split) <;> omega) (by (repeat' split) <;> omega)).symm))), _, _, _, _, _, _, _, _, _, _, _, _, _, _, rfl, rfl, rfl, rfl⟩)))
end Mine
namespace Mine
section
variable {w : World} {mean : ExcName → Option Value} {mg mb : Str → Option Value} {news : List (Addr × Obj)}
theorem made_c {u c g : Option Int} {vu vc vg : Value} {p : Addr} {pn : Nat} (hu : Val vu u) (hc : Val vc c) (hg : Val vg g) (bu : ∀ i, u = some i → i < 4722366482869645213696) (bc : ∀ i, c = some i → i < 4722366482869645213696) (bg : ∀ i, g = some i → i ≤ 9) :
    Tl0 6 w mean mg mb 104 ((p, listOf [vu, vc].toArray pn) :: news) [.ref p, vg] (MadeRet (okW u c g) u c) := by
  cases u with
  | none =>
    obtain rfl : vu = .none := hu
    cases c with
    | none =>
      obtain rfl : vc = .none := hc
      cases g with
      | none => obtain rfl : vg = .none := hg; exact made_nnn (ua := 0) (ub := 0) (ug := 0) (t := 0) (t2 := 0) (t3 := 0) (by decide) (by decide) (by decide)
      | some ug => obtain ⟨t3, rfl⟩ := hg; exact made_nni (ua := 0) (ub := 0) (t := 0) (t2 := 0) (by decide) (by decide) (bg _ rfl)
    | some ub =>
      obtain ⟨t2, rfl⟩ := hc
      cases g with
      | none => obtain rfl : vg = .none := hg; exact made_nin (ua := 0) (ug := 0) (t := 0) (t3 := 0) (by decide) (bc _ rfl) (by decide)
      | some ug => obtain ⟨t3, rfl⟩ := hg; exact made_nii (ua := 0) (t := 0) (by decide) (bc _ rfl) (bg _ rfl)
  | some ua =>
    obtain ⟨t, rfl⟩ := hu
    cases c with
    | none =>
      obtain rfl : vc = .none := hc
      cases g with
      | none => obtain rfl : vg = .none := hg; exact made_inn (ub := 0) (ug := 0) (t2 := 0) (t3 := 0) (bu _ rfl) (by decide) (by decide)
      | some ug => obtain ⟨t3, rfl⟩ := hg; exact made_ini (ub := 0) (t2 := 0) (bu _ rfl) (by decide) (bg _ rfl)
    | some ub =>
      obtain ⟨t2, rfl⟩ := hc
      cases g with
      | none => obtain rfl : vg = .none := hg; exact made_iin (ug := 0) (t3 := 0) (bu _ rfl) (bc _ rfl) (by decide)
      | some ug => obtain ⟨t3, rfl⟩ := hg; exact made_iii (bu _ rfl) (bc _ rfl) (bg _ rfl)
theorem due_c {u c g : Option Int} {vu vc vg : Value} {p : Addr} {pn : Nat} (hu : Val vu u) (hc : Val vc c) (hg : Val vg g) (bu : ∀ i, u = some i → i < 4722366482869645213696) (bc : ∀ i, c = some i → i < 4722366482869645213696) (bg : ∀ i, g = some i → i ≤ 9) :
    Tl 6 w mean mg mb 116 ((p, listOf [vu, vc].toArray pn) :: news) [.ref p, vg] (DueRet (okW u c g) u c) := by
  cases u with
  | none =>
    obtain rfl : vu = .none := hu
    cases c with
    | none =>
      obtain rfl : vc = .none := hc
      cases g with
      | none => obtain rfl : vg = .none := hg; exact due_nnn (ua := 0) (ub := 0) (ug := 0) (t := 0) (t2 := 0) (t3 := 0) (by decide) (by decide) (by decide)
      | some ug => obtain ⟨t3, rfl⟩ := hg; exact due_nni (ua := 0) (ub := 0) (t := 0) (t2 := 0) (by decide) (by decide) (bg _ rfl)
    | some ub =>
      obtain ⟨t2, rfl⟩ := hc
      cases g with
      | none => obtain rfl : vg = .none := hg; exact due_nin (ua := 0) (ug := 0) (t := 0) (t3 := 0) (by decide) (bc _ rfl) (by decide)
      | some ug => obtain ⟨t3, rfl⟩ := hg; exact due_nii (ua := 0) (t := 0) (by decide) (bc _ rfl) (bg _ rfl)
  | some ua =>
    obtain ⟨t, rfl⟩ := hu
    cases c with
    | none =>
      obtain rfl : vc = .none := hc
      cases g with
      | none => obtain rfl : vg = .none := hg; exact due_inn (ub := 0) (ug := 0) (t2 := 0) (t3 := 0) (bu _ rfl) (by decide) (by decide)
      | some ug => obtain ⟨t3, rfl⟩ := hg; exact due_ini (ub := 0) (t2 := 0) (bu _ rfl) (by decide) (bg _ rfl)
    | some ub =>
      obtain ⟨t2, rfl⟩ := hc
      cases g with
      | none => obtain rfl : vg = .none := hg; exact due_iin (ug := 0) (t3 := 0) (bu _ rfl) (bc _ rfl) (by decide)
      | some ug => obtain ⟨t3, rfl⟩ := hg; exact due_iii (bu _ rfl) (bc _ rfl) (bg _ rfl)

/-- what one entry of `told` is, and what is told of it -/
inductive TellIn (led : List (Addr × Obj)) : Value → Dat → Prop
  | no {l : Addr} {k : Nat} : (l, listOf [].toArray k) ∈ led → TellIn led (.ref l) refD
  | yes {l x dx : Addr} {k xn : Nat} {e1 e2 e3 : Int} {k1 k2 k3 t3 : Tok} {vu vc : Value} {u c : Option Int} {wd : Int} : (l, listOf [Value.ref x].toArray k) ∈ led → (x, instObj 60 dx) ∈ led →
      (dx, dictOf [⟨e1, .str (PySem.Str.ofString "uncompressed") k1, vu⟩, ⟨e2, .str (PySem.Str.ofString "compressed") k2, vc⟩, ⟨e3, .str (PySem.Str.ofString "width") k3, .int wd t3⟩] xn) ∈ led →
      Val vu u → Val vc c → 0 ≤ wd → wd ≤ 9 → Fits u wd → Fits c wd → (u ≠ none ∨ c ≠ none) → TellIn led (.ref l) (sizeD u c wd)
theorem TellIn.mono {led led' : List (Addr × Obj)} {v : Value} {d : Dat} (h : TellIn led v d) (hs : ∀ p ∈ led, p ∈ led') : TellIn led' v d := by
  cases h with
  | no a => exact .no (hs _ a)
  | yes a b c d e f g i j k => exact .yes (hs _ a) (hs _ b) (hs _ c) d e f g i j k
theorem tlN_weaken {j : Nat} {f : Addr} {pre : List (Addr × Obj)} {args : List Value} {Ret : Value → List (Addr × Obj) → Prop} (hp : ∀ p ∈ pre, p ∈ news) (C : TlN j w mean mg mb f (pre ++ news) args Ret) : TlN j w mean mg mb f news args Ret :=
  fun _ _ _ _ _ _ _ _ _ _ _ _ _ _ _ _ _ B F X N T hk hd hu ret => tlN_use C B F X N T hp hk hd hu ret
theorem told_c {v : Value} {d : Dat} (h : TellIn news v d) : TlN 6 w mean mg mb 111 news [v] (fun r tl => DatIn tl r d) := by
  cases h with
  | no a => exact tlN_weaken (pre := [_]) (List.forall_mem_cons.mpr ⟨a, List.forall_mem_nil _⟩) told_no
  | yes a b cc hu hc h0 h9 fu fc ne =>
    rename_i l x dx k xn e1 e2 e3 k1 k2 k3 t3 vu vc u c wd
    have hs : ∀ p ∈ [(l, listOf [Value.ref x].toArray k), (x, instObj 60 dx), (dx, dictOf [⟨e1, .str (PySem.Str.ofString "uncompressed") k1, vu⟩, ⟨e2, .str (PySem.Str.ofString "compressed") k2, vc⟩, ⟨e3, .str (PySem.Str.ofString "width") k3, .int wd t3⟩] xn)], p ∈ news :=
      List.forall_mem_cons.mpr ⟨a, List.forall_mem_cons.mpr ⟨b, List.forall_mem_cons.mpr ⟨cc, List.forall_mem_nil _⟩⟩⟩
    refine tlN_weaken hs ?_
    cases u with
    | none =>
      obtain rfl : vu = .none := hu
      cases c with
      | none => exact absurd ne (by simp)
      | some ub =>
        obtain ⟨t2, rfl⟩ := hc
        exact told_ni (fc _ rfl).1 (fc _ rfl).2 h0 h9
    | some ua =>
      obtain ⟨t, rfl⟩ := hu
      cases c with
      | none =>
        obtain rfl : vc = .none := hc
        exact told_in (fu _ rfl).1 (fu _ rfl).2 h0 h9
      | some ub =>
        obtain ⟨t2, rfl⟩ := hc
        exact told_ii (fu _ rfl).1 (fu _ rfl).2 (fc _ rfl).1 (fc _ rfl).2 h0 h9

set_option maxHeartbeats 4000000 in
theorem widths_c : Tl 2 w mean mg mb 71 news [] (fun r tl => ∃ a k vs, r = .ref a ∧ tl = [(a, listOf (List.toArray vs) k)] ∧ ∀ i : Nat, i < 13 → ∃ v g, vs[i]? = some v ∧ Val v g ∧ ∀ x, g = some x → x ≤ 9) := by
  unfold Tl
  w_on
  k_fill
  intro dp un gd cn cs a ccd cl outer A₀ base h₀ L m s Q E B F X N T hk hd hu hret
  refine wpAny_call ?_
  k_dflt ktr_enter
  k_steps
  rename ∀ p : Addr × Obj, p ∈ news → _ => hl
  refine hret _ [_] _ _ (by k_asm) (by k_asm) (fun q hq p hp => List.mem_singleton.mp hp ▸ hl q hq) ⟨_, _, _, rfl, rfl, fun i hi => ?_⟩
  have hc : i = 0 ∨ i = 1 ∨ i = 2 ∨ i = 3 ∨ i = 4 ∨ i = 5 ∨ i = 6 ∨ i = 7 ∨ i = 8 ∨ i = 9 ∨ i = 10 ∨ i = 11 ∨ i = 12 := by omega
  rcases hc with rfl | rfl | rfl | rfl | rfl | rfl | rfl | rfl | rfl | rfl | rfl | rfl | rfl
  · exact ⟨_, none, rfl, rfl, fun _ h => nomatch h⟩
  · exact ⟨_, none, rfl, rfl, fun _ h => nomatch h⟩
  all_goals exact ⟨_, some _, rfl, ⟨_, rfl⟩, fun x h => by cases h; decide⟩
end
end Mine
namespace Mine
inductive TellAll (led : List (Addr × Obj)) : List Value → List Dat → Prop
  | nil : TellAll led [] []
  | cons {v : Value} {vs : List Value} {d : Dat} {ds : List Dat} : TellIn led v d → TellAll led vs ds → TellAll led (v :: vs) (d :: ds)
theorem TellAll.mono {led led' : List (Addr × Obj)} (hs : ∀ p ∈ led, p ∈ led') {vs : List Value} {ds : List Dat} (h : TellAll led vs ds) : TellAll led' vs ds := by
  induction h with
  | nil => exact .nil
  | cons a _ ih => exact .cons (a.mono hs) ih
theorem TellAll.append {led : List (Addr × Obj)} {vs ws : List Value} {ds es : List Dat} (h : TellAll led vs ds) (k : TellAll led ws es) : TellAll led (vs ++ ws) (ds ++ es) := by
  induction h with
  | nil => exact k
  | cons a _ ih => exact .cons a ih
theorem TellAll.length {led : List (Addr × Obj)} {vs : List Value} {ds : List Dat} (h : TellAll led vs ds) : vs.length = ds.length := by
  induction h with
  | nil => rfl
  | cons _ _ ih => rw [List.length_cons, List.length_cons, ih]
theorem TellAll.get {led : List (Addr × Obj)} {vs : List Value} {ds : List Dat} (h : TellAll led vs ds) : ∀ {i : Nat} {v : Value}, vs[i]? = some v → ∃ d, ds[i]? = some d ∧ TellIn led v d := by
  induction h with
  | nil => intro i v e; simp at e
  | cons a _ ih =>
    intro i v e
    cases i with
    | zero => cases e; exact ⟨_, rfl, a⟩
    | succ i => exact ih e

/-- what holds between two turns of the outer loop -/
def LawJ (tA dA nA : Addr) (vs : List Value) (kn : Nat) (i : Nat) (m : Str → Option Value) (nx : List (Addr × Obj)) : Prop :=
  ∃ tvs tn dvs dn ds tl, nx = (tA, listOf (List.toArray tvs) tn) :: (dA, listOf (List.toArray dvs) dn) :: (nA, listOf (List.toArray vs) kn) :: tl ∧ TellAll tl tvs ds ∧ DatAll tl dvs ds ∧ (∀ d ∈ ds, kqdOk 8 d = true) ∧
    tvs.length ≤ 5 * i ∧ dvs.length ≤ 5 * i ∧ (∀ p ∈ tl, p.1 ≠ tA) ∧ (∀ p ∈ tl, p.1 ≠ dA) ∧ m (Str.ofString "told") = some (.ref tA) ∧ m (Str.ofString "due") = some (.ref dA) ∧ m (Str.ofString "numbers") = some (.ref nA)

section
variable {prog : Program} {w : World} {A : Around} {E : Value → Shared → Prop} {s : Shared} {env : Env} {h₀ : Heap} {body : List Stmt} {Q : Flow → Shared → Prop}
theorem law_loop {r tA dA nA : Addr} {b : Int} {t u v : Tok} {m₀ : Str → Option Value} {vs : List Value} {ns : List Int} {kn : Nat} {rest : List (Addr × Obj)}
    (hh : A.handled = none) (hr : IsRange s.heap r 0 b 3 t u v) (hb : b = (ns.length : Int) - 2) (h7 : 7 ≤ ns.length) (h15 : ns.length ≤ 15) (F : Fr h₀ env.locals s.heap m₀)
    (N : News h₀ env.locals s.heap ((dA, listOf [].toArray 0) :: (tA, listOf [].toArray 0) :: (nA, listOf (List.toArray vs) kn) :: rest))
    (ht : m₀ (Str.ofString "told") = some (.ref tA)) (hd : m₀ (Str.ofString "due") = some (.ref dA)) (hn : m₀ (Str.ofString "numbers") = some (.ref nA))
    (turn : ∀ (i : Nat) (t : Tok) (m₁ : Str → Option Value) (tvs : List Value) (tn : Nat) (dvs : List Value) (dn : Nat) (ds : List Dat) (tl : List (Addr × Obj)) (h : Heap) (tk : Nat) (own : List (Addr × Obj)), i * 3 + 2 < ns.length → tvs.length ≤ 5 * i → dvs.length ≤ 5 * i → TellAll tl tvs ds → DatAll tl dvs ds → (∀ d ∈ ds, kqdOk 8 d = true) →
      (∀ p ∈ tl ++ own, p.1 ≠ tA) → (∀ p ∈ tl ++ own, p.1 ≠ dA) → OwnOff own (tl.map (·.1)) → (∀ p ∈ own, p.1 ≠ nA) →
      Fr h₀ env.locals h (fun y => if y = Str.ofString "numbers" then some (.ref nA) else if y = Str.ofString "due" then some (.ref dA) else if y = Str.ofString "told" then some (.ref tA) else if y = Str.ofString "k" then some (.int (0 + (i : Nat) * 3) t) else m₁ y) →
      News h₀ env.locals h ((tA, listOf (List.toArray tvs) tn) :: (dA, listOf (List.toArray dvs) dn) :: (nA, listOf (List.toArray vs) kn) :: (tl ++ own)) →
      wpAny (model prog w) A (execs body env) (InvPostG h₀ env.locals (LawJ tA dA nA vs kn (i + 1)) own { s with heap := h, toks := tk } Q) E { s with heap := h, toks := tk })
    (done : ∀ (m₁ : Str → Option Value) (tvs : List Value) (tn : Nat) (dvs : List Value) (dn : Nat) (ds : List Dat) (tl : List (Addr × Obj)) (h : Heap) (tk : Nat), tvs.length ≤ 25 → dvs.length ≤ 25 → TellAll tl tvs ds → DatAll tl dvs ds → (∀ d ∈ ds, kqdOk 8 d = true) →
      Fr h₀ env.locals h (fun y => if y = Str.ofString "due" then some (.ref dA) else if y = Str.ofString "told" then some (.ref tA) else m₁ y) →
      News h₀ env.locals h ((tA, listOf (List.toArray tvs) tn) :: (dA, listOf (List.toArray dvs) dn) :: (nA, listOf (List.toArray vs) kn) :: tl) → Q .next { s with heap := h, toks := tk }) :
    wpAny (model prog w) A (pyIter (.ref r)) (fun it s₂ => LoopAtV prog w A h₀ env (Str.ofString "k") body Q E it s₂) E s := by
  have hsmall : Builtin.Range.small 0 b 3 = true := by
    subst hb
    unfold Builtin.Range.small
    have e : Builtin.Range.rangeSize 0 ((ns.length : Int) - 2) 3 = ((ns.length / 3 : Nat) : Int) := by
      unfold Builtin.Range.rangeSize
      rw [if_pos (by omega), if_pos (by omega)]
      omega
    rw [e]
    simp only [Builtin.Range.rangeFitsLong, Bool.and_eq_true, Bool.or_eq_true, decide_eq_true_eq, beq_iff_eq, show (3 : Int) > 0 by decide, if_true]
    omega
  have hsz : Builtin.Range.rangeSize 0 b 3 = ((ns.length / 3 : Nat) : Int) := by
    subst hb
    unfold Builtin.Range.rangeSize
    rw [if_pos (by omega), if_pos (by omega)]
    omega
  refine rng_loop (LawJ tA dA nA vs kn) hh hr hsmall hsz F (news := [(tA, listOf [].toArray 0), (dA, listOf [].toArray 0), (nA, listOf (List.toArray vs) kn)]) (fun p hp => N p ?_) ?_ ?_ ?_
  · simp only [List.mem_cons, List.not_mem_nil, or_false] at hp ⊢
    rcases hp with h | h | h
    · exact .inr (.inl h)
    · exact .inl h
    · exact .inr (.inr (.inl h))
  · exact ⟨[], 0, [], 0, [], [], rfl, .nil, .nil, (fun _ h => nomatch h), Nat.zero_le _, Nat.zero_le _, (fun _ h => nomatch h), (fun _ h => nomatch h), ht, hd, hn⟩
  · rintro i t m₁ nx h tk own hi ho ⟨tvs, tn, dvs, dn, ds, tl, rfl, h1, h2, h3, h4, h5, h6, h7, e1, e2, e3⟩ F₁ N₁
    have F₂ := fr_with2 F₁ (x := Str.ofString "told") (by decide) e1
    have F₃ := fr_with F₂ (x := Str.ofString "due") (by rw [if_neg (by decide), if_neg (by decide)]; exact e2)
    have F₄ := fr_with F₃ (x := Str.ofString "numbers") (by rw [if_neg (by decide), if_neg (by decide), if_neg (by decide)]; exact e3)
    refine turn i t m₁ tvs tn dvs dn ds tl h tk own (by omega) h4 h5 h1 h2 h3 ?_ ?_ ?_ ?_ F₄ N₁
    · exact List.forall_mem_append.mpr ⟨h6, fun p hp => ho p hp _ (by simp)⟩
    · exact List.forall_mem_append.mpr ⟨h7, fun p hp => ho p hp _ (by simp)⟩
    · exact fun p hp c hc => ho p hp c (by simp only [List.map_cons, List.mem_cons]; exact .inr (.inr (.inr hc)))
    · exact fun p hp => ho p hp _ (by simp)
  · rintro m₁ nx h tk ⟨tvs, tn, dvs, dn, ds, tl, rfl, h1, h2, h3, h4, h5, h6, h7, e1, e2, e3⟩ F₁ N₁
    have F₂ := fr_with F₁ (x := Str.ofString "told") e1
    have F₃ := fr_with2 F₂ (x := Str.ofString "due") (by decide) e2
    exact done m₁ tvs tn dvs dn ds tl h tk (by omega) (by omega) h1 h2 h3 F₃ N₁
end

theorem tl0_use {j : Nat} {w : World} {mean : ExcName → Option Value} {mg mb : Str → Option Value} {f : Addr} {news pre : List (Addr × Obj)} {args : List Value} {Ret : Value → List (Addr × Obj) → Prop} (C : Tl0 j w mean mg mb f (pre ++ news) args Ret)
    {dp un : Nat} {gd : Option (List Code)} {cn : Str} {cs : Scope} {a : Addr} {ccd : Value} {A₀ : Around} {base h₀ : Heap} {L : Addr} {m : Str → Option Value} {s : Shared} {Q E : Value → Shared → Prop}
    (B : Below A₀ base [] h₀) (F : Fr h₀ L s.heap m) (X : (hd.heap_39 w.params).In h₀) (N : News h₀ L s.heap news) (T : Top hd.view_39 (looseW hd.view_39 []) mean mg mb h₀) (hpre : ∀ p ∈ pre, p ∈ news) (hk : cs.kind = .function) (hdp : dp + j < recursionLimit) (hu : un + 30 * j < cLine)
    (XB : (hd.heap_39 w.params).In base) (TB : Top hd.view_39 (looseW hd.view_39 []) mean mg mb base)
    (ret : ∀ r tl h' tk', Fr h₀ L h' m → News h₀ L h' (tl ++ news) → (∀ q ∈ news, ∀ p ∈ tl, q.1 < p.1) → Ret r tl → Q r { s with heap := h', toks := tk' }) :
    wpAny (model PySem.Challenge.rw_fe0329_01.row.prog w) { handled := none, depth := dp, frames := some [envOf cn cs L a ccd], guards := gd, units := un } (call (.ref f) args) Q E s := by
  refine C dp un gd cn cs a ccd A₀ base h₀ L m s Q E B F X (fun p hp => ?_) T hk hdp hu XB TB fun r tl h' tk' F' N' hl hr => ret r tl h' tk' F' (fun p hp => N' p ?_) (fun q hq p hp => hl q (List.mem_append.mpr (.inr hq)) p hp) hr
  · rcases List.mem_append.mp hp with h | h
    · exact N p (hpre p h)
    · exact N p h
  · rcases List.mem_append.mp hp with h | h
    · exact List.mem_append.mpr (.inl h)
    · exact List.mem_append.mpr (.inr (List.mem_append.mpr (.inr h)))

theorem made_e {w : World} {mean : ExcName → Option Value} {mg mb : Str → Option Value} {news : List (Addr × Obj)} {u c g X : Option Int} {vu vc vg : Value} {p : Addr} {pn : Nat} (hg : Val vg g) (hu : Val vu u) (hc : Val vc c) (bu : ∀ i, u = some i → i < 4722366482869645213696) (bc : ∀ i, c = some i → i < 4722366482869645213696) (bg : ∀ i, g = some i → i ≤ 9)
    (e : okW u c g = X) : Tl0 6 w mean mg mb 104 ([(p, listOf [vu, vc].toArray pn)] ++ news) [.ref p, vg] (MadeRet X u c) := e ▸ made_c hu hc hg bu bc bg
theorem due_e {w : World} {mean : ExcName → Option Value} {mg mb : Str → Option Value} {news : List (Addr × Obj)} {u c g : Option Int} {vu vc vg : Value} {p : Addr} {pn : Nat} (hg : Val vg g) (hu : Val vu u) (hc : Val vc c) (bu : ∀ i, u = some i → i < 4722366482869645213696) (bc : ∀ i, c = some i → i < 4722366482869645213696) (bg : ∀ i, g = some i → i ≤ 9) :
    Tl 6 w mean mg mb 116 ([(p, listOf [vu, vc].toArray pn)] ++ news) [.ref p, vg] (DueRet (okW u c g) u c) := due_c hu hc hg bu bc bg
section
variable {prog : Program} {w : World} {A : Around} {E : Value → Shared → Prop} {s : Shared} {h₀ : Heap} {L l a b : Addr} {news n₁ : List (Addr × Obj)} {ka kb : Nat} {t t2 : Tok} {Q : Value → Shared → Prop}
theorem item_wd {value slice : PySem.Expr} {vs : List Value} {n : Nat} {k : Int} {u : Tok} (N : News h₀ L s.heap news) (hm : (l, listOf (List.toArray vs) n) ∈ news) (hw : ∀ i : Nat, i < 13 → ∃ v g, vs[i]? = some v ∧ Val v g ∧ ∀ x, g = some x → x ≤ 9) (h : ∀ v g, Val v g → (∀ x, g = some x → x ≤ 9) → Q v s)
    (hs : subscripted slice false (.ref l) (.int (k.fmod 13) u) = operate [.ref l, .int (k.fmod 13) u] (getItem (.ref l) (.int (k.fmod 13) u)) := by with_unfolding_all rfl) :
    wpAny (model prog w) A (subscriptTail value slice (.ref l) (.int (k.fmod 13) u)) Q E s := by
  have h0 : 0 ≤ k.fmod 13 := Int.fmod_nonneg_of_pos _ (by decide)
  have h1 : k.fmod 13 < 13 := Int.fmod_lt_of_pos _ (by decide)
  obtain ⟨v, g, e, hv, hb⟩ := hw (k.fmod 13).toNat (by omega)
  exact item_at N hm h0 (by omega) e (h v g hv hb) hs
theorem row_ok (w : Int) : ∀ o : Option Int, kqdOk 8 (rowD w o) = true
  | none => rfl
  | some i => by simp [rowD, kqdOk]
theorem num_ok (n : Nat) : ∀ o : Option Int, kqdOk n (numD o) = true
  | none => by cases n <;> rfl
  | some i => by cases n <;> rfl
theorem size_ok (u c : Option Int) (w : Int) : ∀ d ∈ [Dat.str (PySem.Str.ofString "size"), .int w, numD u, numD c, rowD w u, rowD w c], kqdOk 8 d = true := by
  intro d hd
  simp only [List.mem_cons, List.not_mem_nil, or_false] at hd
  rcases hd with rfl | rfl | rfl | rfl | rfl | rfl
  · decide +kernel
  · rfl
  · exact num_ok _ _
  · exact num_ok _ _
  · exact row_ok _ _
  · exact row_ok _ _
theorem ref_ok : ∀ d ∈ [Dat.str (PySem.Str.ofString "refused")], kqdOk 8 d = true := by
  intro d hd
  rw [List.mem_singleton.mp hd]
  decide +kernel
theorem refD_ok : kqdOk 8 refD = true := by decide +kernel
theorem sizeD_ok (u c : Option Int) (w : Int) : kqdOk 8 (sizeD u c w) = true := by
  have r : ∀ o : Option Int, kqdOk 7 (rowD w o) = true := fun o => by cases o <;> simp [rowD, kqdOk]
  simp only [sizeD, kqdOk, List.all_cons, List.all_nil, num_ok, r, Bool.and_true]
  decide +kernel
theorem ne_no (N : News h₀ L s.heap news) (ha : (a, listOf [.str (PySem.Str.ofString "refused") t].toArray ka) ∈ news) (hb : (b, listOf [.str (PySem.Str.ofString "refused") t2].toArray kb) ∈ news) (hu : A.units + 64 < cLine) (h : Q (.bool false) s) :
    wpAny (model prog w) A (compareOp .NotEq (.ref a) (.ref b)) Q E s :=
  kqd_ne N ha rfl rfl (n₁ := []) (.cons (.str _ _) .nil) (fun _ h => nomatch h) hb rfl rfl (n₂ := []) (.cons (.str _ _) .nil) (fun _ h => nomatch h) ref_ok ref_ok hu (by simpa using h)
theorem ne_yes {x : Value} {xs : List Value} {u c : Option Int} {wd : Int} (N : News h₀ L s.heap news) (ha : (a, listOf (x :: xs).toArray ka) ∈ news) (D : DatAll n₁ (x :: xs) [.str (PySem.Str.ofString "size"), .int wd, numD u, numD c, rowD wd u, rowD wd c]) (sub : ∀ p ∈ n₁, p ∈ news) (hb : (b, listOf [.str (PySem.Str.ofString "refused") t2].toArray kb) ∈ news) (hu : A.units + 64 < cLine) (h : Q (.bool true) s) :
    wpAny (model prog w) A (compareOp .NotEq (.ref a) (.ref b)) Q E s :=
  kqd_ne N ha rfl rfl D sub hb rfl rfl (n₂ := []) (.cons (.str _ _) .nil) (fun _ h => nomatch h) (size_ok u c wd) ref_ok hu (by simpa using h)
end
theorem all_ne {d : Addr} {l : List (Addr × Obj)} (h : AllLt d l) : ∀ p ∈ l, p.1 ≠ d := fun p hp => Nat.ne_of_lt (tb_ltOf h p hp)
theorem unr_end {h₀ : Heap} {L I : Addr} {it : Obj} {rest : (Str → Option Value) → List (Addr × Obj) → Prop} {s₁ : Shared} {h' : Heap} {tk : Nat} {m' : Str → Option Value} {pre post : List (Addr × Obj)} (F : Fr h₀ L h' m') (N : News h₀ L h' (pre ++ (I, it) :: post)) (off : ∀ p ∈ pre ++ post, p.1 ≠ I) (r : rest m' (pre ++ post)) :
    UnrEnd h₀ L s₁ I it rest { s₁ with heap := h', toks := tk } :=
  UnrEnd.intro F N (pre ++ post) (fun p hp => by
    rcases List.mem_cons.mp hp with rfl | hp
    · exact List.mem_append.mpr (.inr List.mem_cons_self)
    · rcases List.mem_append.mp hp with h | h
      · exact List.mem_append.mpr (.inl h)
      · exact List.mem_append.mpr (.inr (List.mem_cons_of_mem _ h))) off r
theorem val_none : Val .none none := rfl
theorem val_int {i : Int} {t : Tok} : Val (.int i t) (some i) := ⟨t, rfl⟩
end Mine
namespace Mine
def Stop (p : Prop) : Prop := p
theorem stop_of {p : Prop} (h : Stop p) : p := h
def LtAll (d : Addr) (l : List (Addr × Obj)) : Prop := ∀ p ∈ l, p.1 < d
theorem ltAll_of {d : Addr} {l : List (Addr × Obj)} (h : ∀ p ∈ l, p.1 < d) : LtAll d l := h
def Dif (a b : Addr) : Prop := a ≠ b
theorem Dif.ne {a b : Addr} (h : Dif a b) : a ≠ b := h
theorem ne_up {d b : Addr} {l : List (Addr × Obj)} {o : Obj} (h : LtAll d l) (m : (b, o) ∈ l) : d ≠ b := Nat.ne_of_gt (h _ m)
theorem ne_down {d b : Addr} {l : List (Addr × Obj)} {o : Obj} (h : LtAll d l) (m : (b, o) ∈ l) : b ≠ d := Nat.ne_of_lt (h _ m)
def LtBlk (l tl : List (Addr × Obj)) : Prop := ∀ q ∈ l, ∀ p ∈ tl, q.1 < p.1
theorem LtBlk.one {l tl : List (Addr × Obj)} (h : LtBlk l tl) : ∀ {p : Addr × Obj}, p ∈ tl → LtAll p.1 l := fun hp q hq => h q hq _ hp
/-- the addresses of new objects are none of the marked ones -/
def Offs (tA dA : Addr) (ow tl : List (Addr × Obj)) : Prop := (∀ p ∈ tl, p.1 ≠ tA) ∧ (∀ p ∈ tl, p.1 ≠ dA) ∧ ∀ p ∈ tl, ∀ q ∈ ow, q.1 ≠ p.1
theorem Offs.nil {tA dA : Addr} {ow : List (Addr × Obj)} : Offs tA dA ow [] := ⟨(fun _ h => nomatch h), (fun _ h => nomatch h), (fun _ h => nomatch h)⟩
theorem Offs.append {tA dA : Addr} {ow tl tl' : List (Addr × Obj)} (h : Offs tA dA ow tl) (k : Offs tA dA ow tl') : Offs tA dA ow (tl ++ tl') :=
  ⟨List.forall_mem_append.mpr ⟨h.1, k.1⟩, List.forall_mem_append.mpr ⟨h.2.1, k.2.1⟩, List.forall_mem_append.mpr ⟨h.2.2, k.2.2⟩⟩
theorem LtBlk.off {tA dA : Addr} {ow l tl : List (Addr × Obj)} {oT oD : Obj} (h : LtBlk l tl) (hT : (tA, oT) ∈ l) (hD : (dA, oD) ∈ l) (hw : ∀ q ∈ ow, q ∈ l) : Offs tA dA ow tl :=
  ⟨fun p hp => Nat.ne_of_gt (h _ hT p hp), fun p hp => Nat.ne_of_gt (h _ hD p hp), fun p hp q hq => Nat.ne_of_lt (h q (hw q hq) p hp)⟩

/-- what is owed, as it lies in the ledger -/
def Owed (led : List (Addr × Obj)) (u c W : Option Int) (o : Addr) : Prop :=
  (W = none ∧ ∃ k t, (o, listOf [.str (PySem.Str.ofString "refused") t].toArray k) ∈ led) ∨
  (∃ w, W = some w ∧ ∃ k t t' vu vc d1 d2, (o, listOf [.str (PySem.Str.ofString "size") t, .int w t', vu, vc, .ref d1, .ref d2].toArray k) ∈ led ∧ DatAll led [.str (PySem.Str.ofString "size") t, .int w t', vu, vc, .ref d1, .ref d2] [.str (PySem.Str.ofString "size"), .int w, numD u, numD c, rowD w u, rowD w c])
theorem Owed.mono {led led' : List (Addr × Obj)} {u c W : Option Int} {o : Addr} (h : Owed led u c W o) (hs : ∀ p ∈ led, p ∈ led') : Owed led' u c W o := by
  rcases h with ⟨e, k, t, m⟩ | ⟨w, e, k, t, t', vu, vc, d1, d2, m, D⟩
  · exact .inl ⟨e, k, t, hs _ m⟩
  · exact .inr ⟨w, e, k, t, t', vu, vc, d1, d2, hs _ m, D.mono hs⟩

/-- what the told and the due hold so far -/
structure Said (tA dA : Addr) (ow : List (Addr × Obj)) (B : Nat) (tvs dvs : List Value) (ds : List Dat) (tl : List (Addr × Obj)) : Prop where
  t : TellAll tl tvs ds
  d : DatAll tl dvs ds
  k : ∀ d ∈ ds, kqdOk 8 d = true
  lt : tvs.length ≤ B
  ld : dvs.length ≤ B
  off : Offs tA dA ow tl
theorem Said.more {tA dA : Addr} {ow : List (Addr × Obj)} {B n : Nat} {tvs dvs avs bvs : List Value} {ds es : List Dat} {tl add : List (Addr × Obj)} (h : Said tA dA ow B tvs dvs ds tl) (k : Said tA dA ow n avs bvs es add) :
    Said tA dA ow (B + n) (tvs ++ avs) (dvs ++ bvs) (ds ++ es) (add ++ tl) where
  t := (h.t.mono fun _ hp => List.mem_append.mpr (.inr hp)).append (k.t.mono fun _ hp => List.mem_append.mpr (.inl hp))
  d := (h.d.mono fun _ hp => List.mem_append.mpr (.inr hp)).append (k.d.mono fun _ hp => List.mem_append.mpr (.inl hp))
  k := List.forall_mem_append.mpr ⟨h.k, k.k⟩
  lt := by have := h.lt; have := k.lt; rw [List.length_append]; omega
  ld := by have := h.ld; have := k.ld; rw [List.length_append]; omega
  off := k.off.append h.off
theorem Said.up {tA dA : Addr} {ow : List (Addr × Obj)} {B n : Nat} {tvs dvs : List Value} {ds : List Dat} {tl : List (Addr × Obj)} (h : Said tA dA ow B tvs dvs ds tl) (hn : B ≤ n) : Said tA dA ow n tvs dvs ds tl :=
  ⟨h.t, h.d, h.k, Nat.le_trans h.lt hn, Nat.le_trans h.ld hn, h.off⟩

/-- the pair of a turn -/
structure Pair (vu vc : Value) (u c : Option Int) : Prop where
  hu : Val vu u
  hc : Val vc c
  bu : ∀ i, u = some i → i < 4722366482869645213696
  bc : ∀ i, c = some i → i < 4722366482869645213696
/-- what holds between two turns of the inner loop -/
def InJ (tA dA nA pA gA : Addr) (vs : List Value) (kn pn gn : Nat) (vu vc vg : Value) (u c g : Option Int) (ow : List (Addr × Obj)) (B : Nat) (i : Nat) (m : Str → Option Value) (nx : List (Addr × Obj)) : Prop :=
  ∃ tvs tn dvs dn ds tl, nx = (tA, listOf (List.toArray tvs) tn) :: (dA, listOf (List.toArray dvs) dn) :: (nA, listOf (List.toArray vs) kn) :: (pA, listOf (List.toArray [vu, vc]) pn) :: (gA, listOf (List.toArray [vg, .none]) gn) :: (tl ++ ow) ∧
    Said tA dA ow (B + 2 * i) tvs dvs ds tl ∧ m (Str.ofString "told") = some (.ref tA) ∧ m (Str.ofString "due") = some (.ref dA) ∧ m (Str.ofString "numbers") = some (.ref nA) ∧ m (Str.ofString "pair") = some (.ref pA) ∧
    (i = 0 ∨ ∃ o g', [g, none][i - 1]? = some g' ∧ m (Str.ofString "owed") = some (.ref o) ∧ Owed tl u c (okW u c g') o)

section
variable {prog : Program} {w : World} {A : Around} {E : Value → Shared → Prop} {s : Shared} {env : Env} {h₀ : Heap} {body : List Stmt} {Q : Flow → Shared → Prop}
theorem inner_loop {tA dA nA pA gA : Addr} {vs : List Value} {kn pn gn : Nat} {vu vc vg : Value} {u c g : Option Int} {ow news : List (Addr × Obj)} {B : Nat} {m₀ : Str → Option Value} {tvs dvs : List Value} {tn dn : Nat} {ds : List Dat} {tl : List (Addr × Obj)}
    (hh : A.handled = none) (F : Fr h₀ env.locals s.heap m₀) (N : News h₀ env.locals s.heap news)
    (hg : Val vg g) (hb : ∀ x, g = some x → x ≤ 9) (P : Pair vu vc u c) (hB : B ≤ 20) (S : Said tA dA ow B tvs dvs ds tl) (wT : ∀ p ∈ ow, p.1 ≠ tA) (wD : ∀ p ∈ ow, p.1 ≠ dA)
    (mT : (tA, listOf (List.toArray tvs) tn) ∈ news) (mD : (dA, listOf (List.toArray dvs) dn) ∈ news) (mN : (nA, listOf (List.toArray vs) kn) ∈ news) (mP : (pA, listOf (List.toArray [vu, vc]) pn) ∈ news) (mG : (gA, listOf (List.toArray [vg, .none]) gn) ∈ news) (mR : ∀ p ∈ tl ++ ow, p ∈ news)
    (eT : m₀ (Str.ofString "told") = some (.ref tA)) (eD : m₀ (Str.ofString "due") = some (.ref dA)) (eN : m₀ (Str.ofString "numbers") = some (.ref nA)) (eP : m₀ (Str.ofString "pair") = some (.ref pA))
    (turn : Pair vu vc u c → ∀ (i : Nat) (v : Value) (g' : Option Int) (m₁ : Str → Option Value) (tvs : List Value) (tn : Nat) (dvs : List Value) (dn : Nat) (ds : List Dat) (tl : List (Addr × Obj)) (h : Heap) (tk : Nat) (own : List (Addr × Obj)), i < 2 → [g, none][i]? = some g' → Val v g' → (∀ x, g' = some x → x ≤ 9) → tvs.length < 100 → dvs.length < 100 →
      Said tA dA ow (B + 2 * i) tvs dvs ds tl → OwnOff own (((tA, listOf (List.toArray tvs) tn) :: (dA, listOf (List.toArray dvs) dn) :: (nA, listOf (List.toArray vs) kn) :: (pA, listOf (List.toArray [vu, vc]) pn) :: (gA, listOf (List.toArray [vg, .none]) gn) :: (tl ++ ow)).map (·.1)) →
      (∀ p ∈ tl ++ (ow ++ own), p.1 ≠ tA) → (∀ p ∈ tl ++ (ow ++ own), p.1 ≠ dA) →
      Fr h₀ env.locals h (fun y => if y = Str.ofString "pair" then some (.ref pA) else if y = Str.ofString "numbers" then some (.ref nA) else if y = Str.ofString "due" then some (.ref dA) else if y = Str.ofString "told" then some (.ref tA) else if y = Str.ofString "given" then some v else m₁ y) →
      News h₀ env.locals h ((tA, listOf (List.toArray tvs) tn) :: (dA, listOf (List.toArray dvs) dn) :: (nA, listOf (List.toArray vs) kn) :: (pA, listOf (List.toArray [vu, vc]) pn) :: (gA, listOf (List.toArray [vg, .none]) gn) :: (tl ++ (ow ++ own))) →
      wpAny (model prog w) A (execs body env) (InvPostG h₀ env.locals (fun m' nx => (gA, listOf (List.toArray [vg, .none]) gn) ∈ nx ∧ InJ tA dA nA pA gA vs kn pn gn vu vc vg u c g ow B (i + 1) m' nx) own { s with heap := h, toks := tk } Q) E { s with heap := h, toks := tk })
    (done : Pair vu vc u c → ∀ (o : Addr) (m₁ : Str → Option Value) (tvs : List Value) (tn : Nat) (dvs : List Value) (dn : Nat) (ds : List Dat) (tl : List (Addr × Obj)) (h : Heap) (tk : Nat), tvs.length < 100 → dvs.length < 100 → Said tA dA ow (B + 4) tvs dvs ds tl →
      (∀ p ∈ tl ++ ow, p.1 ≠ tA) → (∀ p ∈ tl ++ ow, p.1 ≠ dA) → Owed tl u c (okW u c none) o →
      Fr h₀ env.locals h (fun y => if y = Str.ofString "owed" then some (.ref o) else if y = Str.ofString "pair" then some (.ref pA) else if y = Str.ofString "numbers" then some (.ref nA) else if y = Str.ofString "due" then some (.ref dA) else if y = Str.ofString "told" then some (.ref tA) else m₁ y) →
      News h₀ env.locals h ((tA, listOf (List.toArray tvs) tn) :: (dA, listOf (List.toArray dvs) dn) :: (nA, listOf (List.toArray vs) kn) :: (pA, listOf (List.toArray [vu, vc]) pn) :: (tl ++ ow)) → Q .next { s with heap := h, toks := tk }) :
    wpAny (model prog w) A (pyIter (.ref gA)) (fun it s₂ => LoopAtV prog w A h₀ env (Str.ofString "given") body Q E it s₂) E s := by
  refine kdl_iter (vs := [vg, .none]) (nn := gn) (news := (tA, listOf (List.toArray tvs) tn) :: (dA, listOf (List.toArray dvs) dn) :: (nA, listOf (List.toArray vs) kn) :: (pA, listOf (List.toArray [vu, vc]) pn) :: (gA, listOf (List.toArray [vg, .none]) gn) :: (tl ++ ow)) (InJ tA dA nA pA gA vs kn pn gn vu vc vg u c g ow B) hh (by simp) F ?_ ?_ ?_ ?_
  · intro p hp
    refine N p ?_
    rcases List.mem_cons.mp hp with rfl | hp
    · exact mT
    rcases List.mem_cons.mp hp with rfl | hp
    · exact mD
    rcases List.mem_cons.mp hp with rfl | hp
    · exact mN
    rcases List.mem_cons.mp hp with rfl | hp
    · exact mP
    rcases List.mem_cons.mp hp with rfl | hp
    · exact mG
    exact mR p hp
  · exact ⟨tvs, tn, dvs, dn, ds, tl, rfl, S, eT, eD, eN, eP, .inl rfl⟩
  · rintro i v m₁ nx h tk own hv ho _ ⟨tvs, tn, dvs, dn, ds, tl, rfl, S, eT, eD, eN, eP, _⟩ F₁ N₁
    have hi : i < 2 := by
      have := (List.getElem?_eq_some_iff.mp hv).1
      simpa using this
    have F₂ := fr_with2 F₁ (x := Str.ofString "told") (by decide) eT
    have F₃ := fr_with F₂ (x := Str.ofString "due") (by rw [if_neg (by decide), if_neg (by decide)]; exact eD)
    have F₄ := fr_with F₃ (x := Str.ofString "numbers") (by rw [if_neg (by decide), if_neg (by decide), if_neg (by decide)]; exact eN)
    have F₅ := fr_with F₄ (x := Str.ofString "pair") (by rw [if_neg (by decide), if_neg (by decide), if_neg (by decide), if_neg (by decide)]; exact eP)
    have hgi : ∃ g', [g, none][i]? = some g' ∧ Val v g' ∧ ∀ x, g' = some x → x ≤ 9 := by
      have hc : i = 0 ∨ i = 1 := by omega
      rcases hc with rfl | rfl
      · cases hv; exact ⟨g, rfl, hg, hb⟩
      · cases hv; exact ⟨none, rfl, rfl, fun _ h => nomatch h⟩
    obtain ⟨g', e1, e2, e3⟩ := hgi
    refine turn P i v g' m₁ tvs tn dvs dn ds tl h tk own hi e1 e2 e3 ?_ ?_ S ho ?_ ?_ F₅ ?_
    · have := S.lt; omega
    · have := S.ld; omega
    · exact List.forall_mem_append.mpr ⟨S.off.1, List.forall_mem_append.mpr ⟨wT, fun p hp => ho p hp _ (by simp)⟩⟩
    · exact List.forall_mem_append.mpr ⟨S.off.2.1, List.forall_mem_append.mpr ⟨wD, fun p hp => ho p hp _ (by simp)⟩⟩
    · simpa only [List.cons_append, List.append_assoc] using N₁
  · rintro m₁ nx h tk ⟨tvs, tn, dvs, dn, ds, tl, rfl, S, eT, eD, eN, eP, he⟩ F₁ N₁
    rcases he with he | ⟨o, g', hg', eO, O⟩
    · cases he
    obtain rfl : none = g' := Option.some.inj hg'
    have F₂ := fr_with F₁ (x := Str.ofString "told") eT
    have F₃ := fr_with F₂ (x := Str.ofString "due") (by rw [if_neg (by decide)]; exact eD)
    have F₄ := fr_with F₃ (x := Str.ofString "numbers") (by rw [if_neg (by decide), if_neg (by decide)]; exact eN)
    have F₅ := fr_with F₄ (x := Str.ofString "pair") (by rw [if_neg (by decide), if_neg (by decide), if_neg (by decide)]; exact eP)
    have F₆ := fr_with F₅ (x := Str.ofString "owed") (by rw [if_neg (by decide), if_neg (by decide), if_neg (by decide), if_neg (by decide)]; exact eO)
    refine done P o m₁ tvs tn dvs dn ds tl h tk ?_ ?_ S (List.forall_mem_append.mpr ⟨S.off.1, wT⟩) (List.forall_mem_append.mpr ⟨S.off.2.1, wD⟩) O F₆ (fun p hp => N₁ p ?_)
    · have := S.lt; simp only [List.length_cons, List.length_nil] at this; omega
    · have := S.ld; simp only [List.length_cons, List.length_nil] at this; omega
    · simp only [List.mem_cons] at hp ⊢
      rcases hp with h | h | h | h | h
      · exact .inl h
      · exact .inr (.inl h)
      · exact .inr (.inr (.inl h))
      · exact .inr (.inr (.inr (.inl h)))
      · exact .inr (.inr (.inr (.inr (.inr h))))

theorem in_end {tA dA nA pA gA L : Addr} {vs : List Value} {kn pn gn : Nat} {vu vc vg : Value} {u c g g' : Option Int} {ow own news' : List (Addr × Obj)} {B i n : Nat} {m' : Str → Option Value} {tvs dvs avs bvs : List Value} {tn dn tn' dn' : Nat} {ds es : List Dat} {tl add : List (Addr × Obj)} {h' : Heap} {tk : Nat} {s₁ : Shared} {aT aD : Array Value} {o : Addr}
    (F : Fr h₀ L h' m') (N : News h₀ L h' news') (S : Said tA dA ow (B + 2 * i) tvs dvs ds tl) (S' : Said tA dA (ow ++ own) n avs bvs es add) (hn : n ≤ 2)
    (ho : OwnOff own (((tA, listOf (List.toArray tvs) tn) :: (dA, listOf (List.toArray dvs) dn) :: (nA, listOf (List.toArray vs) kn) :: (pA, listOf (List.toArray [vu, vc]) pn) :: (gA, listOf (List.toArray [vg, .none]) gn) :: (tl ++ ow)).map (·.1)))
    (aTe : aT = List.toArray (tvs ++ avs)) (aDe : aD = List.toArray (dvs ++ bvs))
    (mT : (tA, listOf aT tn') ∈ news') (mD : (dA, listOf aD dn') ∈ news') (mN : (nA, listOf (List.toArray vs) kn) ∈ news') (mP : (pA, listOf (List.toArray [vu, vc]) pn) ∈ news') (mG : (gA, listOf (List.toArray [vg, .none]) gn) ∈ news') (mR : ∀ p ∈ tl ++ (ow ++ own), p ∈ news') (mA : ∀ p ∈ add, p ∈ news')
    (eT : m' (Str.ofString "told") = some (.ref tA)) (eD : m' (Str.ofString "due") = some (.ref dA)) (eN : m' (Str.ofString "numbers") = some (.ref nA)) (eP : m' (Str.ofString "pair") = some (.ref pA)) (eO : m' (Str.ofString "owed") = some (.ref o))
    (hg' : [g, none][i]? = some g') (O : Owed add u c (okW u c g') o) :
    InvEndG h₀ L (fun m' nx => (gA, listOf (List.toArray [vg, .none]) gn) ∈ nx ∧ InJ tA dA nA pA gA vs kn pn gn vu vc vg u c g ow B (i + 1) m' nx) own s₁ { s₁ with heap := h', toks := tk } := by
  subst aTe aDe
  have S₂ : Said tA dA ow n avs bvs es add := ⟨S'.t, S'.d, S'.k, S'.lt, S'.ld, S'.off.1, S'.off.2.1, fun p hp q hq => S'.off.2.2 p hp q (List.mem_append.mpr (.inl hq))⟩
  refine InvEndG.intro F N (nx := (tA, listOf (List.toArray (tvs ++ avs)) tn') :: (dA, listOf (List.toArray (dvs ++ bvs)) dn') :: (nA, listOf (List.toArray vs) kn) :: (pA, listOf (List.toArray [vu, vc]) pn) :: (gA, listOf (List.toArray [vg, .none]) gn) :: ((add ++ tl) ++ ow)) ⟨by simp, tvs ++ avs, tn', dvs ++ bvs, dn', ds ++ es, add ++ tl, rfl, (S.more S₂).up (by omega), eT, eD, eN, eP, .inr ⟨o, g', hg', eO, O.mono fun _ hp => List.mem_append.mpr (.inl hp)⟩⟩ ?_ ?_ ?_
  · intro p hp b hb
    simp only [List.map_cons, List.map_append, List.mem_cons, List.mem_append] at hb
    have ho' := ho p hp
    simp only [List.map_cons, List.map_append, List.mem_cons, List.mem_append] at ho'
    rcases hb with h | h | h | h | h | (h | h) | h
    · exact ho' b (.inl h)
    · exact ho' b (.inr (.inl h))
    · exact ho' b (.inr (.inr (.inl h)))
    · exact ho' b (.inr (.inr (.inr (.inl h))))
    · exact ho' b (.inr (.inr (.inr (.inr (.inl h)))))
    · obtain ⟨q, hq, rfl⟩ := List.mem_map.mp h
      exact S'.off.2.2 q hq p (List.mem_append.mpr (.inr hp))
    · exact ho' b (.inr (.inr (.inr (.inr (.inr (.inl h))))))
    · exact ho' b (.inr (.inr (.inr (.inr (.inr (.inr h))))))
  · intro p hp
    rcases List.mem_cons.mp hp with rfl | hp
    · exact mT
    rcases List.mem_cons.mp hp with rfl | hp
    · exact mD
    rcases List.mem_cons.mp hp with rfl | hp
    · exact mN
    rcases List.mem_cons.mp hp with rfl | hp
    · exact mP
    rcases List.mem_cons.mp hp with rfl | hp
    · exact mG
    rcases List.mem_append.mp hp with hp | hp
    · rcases List.mem_append.mp hp with hp | hp
      · exact mA p hp
      · exact mR p (List.mem_append.mpr (.inl hp))
    · exact mR p (List.mem_append.mpr (.inr (List.mem_append.mpr (.inl hp))))
  · exact fun p hp => mR p (List.mem_append.mpr (.inr (List.mem_append.mpr (.inr hp))))
theorem out_end {tA dA nA L : Addr} {vs : List Value} {kn : Nat} {ow news' : List (Addr × Obj)} {i n : Nat} {m' : Str → Option Value} {tvs dvs avs bvs : List Value} {tn' dn' : Nat} {ds es : List Dat} {tl add : List (Addr × Obj)} {h' : Heap} {tk : Nat} {s₁ : Shared} {aT aD : Array Value}
    (F : Fr h₀ L h' m') (N : News h₀ L h' news') (S : Said tA dA ow (5 * i + 4) tvs dvs ds tl) (S' : Said tA dA ow n avs bvs es add) (hn : n ≤ 1) (wT : ∀ p ∈ ow, p.1 ≠ tA) (wD : ∀ p ∈ ow, p.1 ≠ dA) (wN : ∀ p ∈ ow, p.1 ≠ nA)
    (aTe : aT = List.toArray (tvs ++ avs)) (aDe : aD = List.toArray (dvs ++ bvs))
    (mT : (tA, listOf aT tn') ∈ news') (mD : (dA, listOf aD dn') ∈ news') (mN : (nA, listOf (List.toArray vs) kn) ∈ news') (mR : ∀ p ∈ tl ++ ow, p ∈ news') (mA : ∀ p ∈ add, p ∈ news')
    (eT : m' (Str.ofString "told") = some (.ref tA)) (eD : m' (Str.ofString "due") = some (.ref dA)) (eN : m' (Str.ofString "numbers") = some (.ref nA)) :
    InvEndG h₀ L (LawJ tA dA nA vs kn (i + 1)) ow s₁ { s₁ with heap := h', toks := tk } := by
  subst aTe aDe
  have M := (S.more S').up (n := 5 * (i + 1)) (by omega)
  refine InvEndG.intro F N (nx := (tA, listOf (List.toArray (tvs ++ avs)) tn') :: (dA, listOf (List.toArray (dvs ++ bvs)) dn') :: (nA, listOf (List.toArray vs) kn) :: (add ++ tl)) ⟨tvs ++ avs, tn', dvs ++ bvs, dn', ds ++ es, add ++ tl, rfl, M.t, M.d, M.k, M.lt, M.ld, M.off.1, M.off.2.1, eT, eD, eN⟩ ?_ ?_ ?_
  · intro p hp b hb
    rcases List.mem_cons.mp hb with rfl | hb
    · exact wT p hp
    rcases List.mem_cons.mp hb with rfl | hb
    · exact wD p hp
    rcases List.mem_cons.mp hb with rfl | hb
    · exact wN p hp
    obtain ⟨q, hq, rfl⟩ := List.mem_map.mp hb
    exact M.off.2.2 q hq p hp
  · intro p hp
    rcases List.mem_cons.mp hp with rfl | hp
    · exact mT
    rcases List.mem_cons.mp hp with rfl | hp
    · exact mD
    rcases List.mem_cons.mp hp with rfl | hp
    · exact mN
    rcases List.mem_append.mp hp with hp | hp
    · exact mA p hp
    · exact mR p (List.mem_append.mpr (.inl hp))
  · exact fun p hp => mR p (List.mem_append.mpr (.inr hp))
theorem said_of {tA dA : Addr} {ow : List (Addr × Obj)} {B : Nat} {tvs dvs : List Value} {ds : List Dat} {tl : List (Addr × Obj)} (h1 : TellAll tl tvs ds) (h2 : DatAll tl dvs ds) (h3 : ∀ d ∈ ds, kqdOk 8 d = true) (h4 : tvs.length ≤ B) (h5 : dvs.length ≤ B) (h6 : ∀ p ∈ tl ++ ow, p.1 ≠ tA) (h7 : ∀ p ∈ tl ++ ow, p.1 ≠ dA) (h8 : OwnOff ow (tl.map (·.1))) :
    Said tA dA ow B tvs dvs ds tl :=
  ⟨h1, h2, h3, h4, h5, fun p hp => h6 p (List.mem_append.mpr (.inl hp)), fun p hp => h7 p (List.mem_append.mpr (.inl hp)), fun p hp q hq => h8 q hq _ (List.mem_map.mpr ⟨p, hp, rfl⟩)⟩
theorem said_nil {tA dA : Addr} {ow : List (Addr × Obj)} : Said tA dA ow 0 [] [] [] [] := ⟨.nil, .nil, (fun _ h => nomatch h), Nat.le_refl _, Nat.le_refl _, Offs.nil⟩
theorem app0 {xs : List Value} (h : xs.length < 100) : xs.toArray.size ≤ sizeLine := by simp only [List.size_toArray, sizeLine_eq]; omega
theorem app1 {xs : List Value} {v : Value} (h : xs.length < 100) : (xs.toArray.push v).size ≤ sizeLine := by simp only [Array.size_push, List.size_toArray, sizeLine_eq]; omega
end
section
variable {w : World} {mean : ExcName → Option Value} {mg mb : Str → Option Value} {news : List (Addr × Obj)} {u c g : Option Int} {vu vc vg : Value} {p : Addr} {pn : Nat}
/-- the making of a pair that is refused -/
theorem made_no (hg : Val vg g) (hu : Val vu u) (hc : Val vc c) (bu : ∀ i, u = some i → i < 4722366482869645213696) (bc : ∀ i, c = some i → i < 4722366482869645213696) (bg : ∀ i, g = some i → i ≤ 9) (e : okW u c g = none) :
    Tl0 6 w mean mg mb 104 ([(p, listOf [vu, vc].toArray pn)] ++ news) [.ref p, vg] (fun r tl => ∃ l k, r = .ref l ∧ tl = [(l, listOf [].toArray k)]) := by
  intro dp un gd cn cs a ccd A₀ base h₀ L m s Q E B F X N T hk hd hn XB TB ret
  refine made_c hu hc hg bu bc bg dp un gd cn cs a ccd A₀ base h₀ L m s Q E B F X N T hk hd hn XB TB fun r tl h' tk' F' N' hl R => ?_
  rcases R with ⟨_, l, k, e1, e2⟩ | ⟨w, e1, _⟩
  · exact ret r tl h' tk' F' N' hl ⟨l, k, e1, e2⟩
  · rw [e] at e1; cases e1
/-- the making of one that is none -/
theorem made_yes {wd : Int} (hg : Val vg g) (hu : Val vu u) (hc : Val vc c) (bu : ∀ i, u = some i → i < 4722366482869645213696) (bc : ∀ i, c = some i → i < 4722366482869645213696) (bg : ∀ i, g = some i → i ≤ 9) (e : okW u c g = some wd) :
    Tl0 6 w mean mg mb 104 ([(p, listOf [vu, vc].toArray pn)] ++ news) [.ref p, vg] (fun r tl => ∃ l x dx o1 o2 o3, r = .ref l ∧ tl = [(l, o1), (x, o2), (dx, o3)] ∧ TellIn [(l, o1), (x, o2), (dx, o3)] (.ref l) (sizeD u c wd)) := by
  intro dp un gd cn cs a ccd A₀ base h₀ L m s Q E B F X N T hk hd hn XB TB ret
  refine made_c hu hc hg bu bc bg dp un gd cn cs a ccd A₀ base h₀ L m s Q E B F X N T hk hd hn XB TB fun r tl h' tk' F' N' hl R => ?_
  rcases R with ⟨e1, _⟩ | ⟨w, e1, l, k, x, dx, xn, e11, e12, e13, k1, k2, k3, t3, vu', vc', er, et, hu', hc'⟩
  · rw [e] at e1; cases e1
  · obtain rfl : wd = w := Option.some.inj (e.symm.trans e1)
    obtain ⟨f1, f2, f3, f4, f5⟩ := okW_fits bu bc bg e
    exact ret r tl h' tk' F' N' hl ⟨l, x, dx, _, _, _, er, et, .yes List.mem_cons_self (List.mem_cons_of_mem _ List.mem_cons_self) (List.mem_cons_of_mem _ (List.mem_cons_of_mem _ List.mem_cons_self)) hu' hc' f1 f2 f3 f4 f5⟩
end
section
variable {h₀ h : Heap} {L : Addr} {a b c d e : Addr × Obj} {tl ow rest : List (Addr × Obj)}
theorem news_with (N : News h₀ L h (a :: b :: c :: d :: (tl ++ ow))) (m : e ∈ tl) : News h₀ L h (a :: b :: c :: d :: e :: (tl ++ ow)) := fun p hp => N p (by
  simp only [List.mem_cons, List.mem_append] at hp ⊢
  rcases hp with h | h | h | h | rfl | h
  · exact .inl h
  · exact .inr (.inl h)
  · exact .inr (.inr (.inl h))
  · exact .inr (.inr (.inr (.inl h)))
  · exact .inr (.inr (.inr (.inr (.inl m))))
  · exact .inr (.inr (.inr (.inr h))))
theorem dif_of {t : Addr} {o : Obj} {x : Addr} (h : ∀ p ∈ tl ++ ow, p.1 ≠ t) (m : (x, o) ∈ tl) : Dif x t := h _ (List.mem_append.mpr (.inl m))
theorem sub_nil : ∀ p ∈ tl, p ∈ tl ++ ow := fun _ hp => List.mem_append.mpr (.inl hp)
theorem sub_tail (h : ∀ p ∈ tl, p ∈ rest) : ∀ p ∈ tl, p ∈ a :: rest := fun p hp => List.mem_cons_of_mem _ (h p hp)
end
theorem of_stop {p : Prop} (h : p) : Stop p := h
theorem LtAll.blk {d : Addr} {l : List (Addr × Obj)} {o : Obj} (h : LtAll d l) : LtBlk l [(d, o)] := fun q hq _ hp => List.mem_singleton.mp hp ▸ h q hq
theorem said_ref {tA dA l r : Addr} {ow : List (Addr × Obj)} {k k' : Nat} {t : Tok} (o1 : Offs tA dA ow [(l, listOf [].toArray k)]) (o2 : Offs tA dA ow [(r, listOf [.str (PySem.Str.ofString "refused") t].toArray k')]) :
    Said tA dA ow 1 [.ref l] [.ref r] [refD] ([(l, listOf [].toArray k)] ++ [(r, listOf [.str (PySem.Str.ofString "refused") t].toArray k')]) :=
  ⟨.cons (.no List.mem_cons_self) .nil, .cons (.list (List.mem_cons_of_mem _ List.mem_cons_self) (.cons (.str _ _) .nil)) .nil, fun d hd => by rw [List.mem_singleton.mp hd]; exact refD_ok, Nat.le_refl _, Nat.le_refl _, o1.append o2⟩
theorem said_size {tA dA l r : Addr} {ow B1 B2 : List (Addr × Obj)} {k : Nat} {t t' : Tok} {vu vc : Value} {d1 d2 : Addr} {u c : Option Int} {w : Int} (T : TellIn B1 (.ref l) (sizeD u c w)) (m : (r, listOf [.str (PySem.Str.ofString "size") t, .int w t', vu, vc, .ref d1, .ref d2].toArray k) ∈ B2)
    (D : DatAll B2 [.str (PySem.Str.ofString "size") t, .int w t', vu, vc, .ref d1, .ref d2] [.str (PySem.Str.ofString "size"), .int w, numD u, numD c, rowD w u, rowD w c]) (o1 : Offs tA dA ow B1) (o2 : Offs tA dA ow B2) :
    Said tA dA ow 1 [.ref l] [.ref r] [sizeD u c w] (B1 ++ B2) :=
  ⟨.cons (T.mono fun _ h => List.mem_append.mpr (.inl h)) .nil, .cons ((DatIn.list m D).mono fun _ h => List.mem_append.mpr (.inr h)) .nil, fun d hd => by rw [List.mem_singleton.mp hd]; exact sizeD_ok _ _ _, Nat.le_refl _, Nat.le_refl _, o1.append o2⟩
theorem push1 {xs : List Value} {v : Value} : xs.toArray.push v = List.toArray (xs ++ [v]) := by simp
theorem push2 {xs : List Value} {v v' : Value} : (xs.toArray.push v).push v' = List.toArray (xs ++ ([v] ++ [v'])) := by simp
theorem push0 {xs : List Value} : xs.toArray = List.toArray (xs ++ []) := by simp
end Mine
namespace Mine
section
variable {prog : Program} {w : World} {A : Around} {h₀ : Heap} {L : Addr} {m : Str → Option Value} {env : Env} {elt : Expr} {x : Str} {scope : Scope} {cl : List (Str × Addr)} {s : Shared} {S : List (Addr × Obj) → Prop} {Fin : List Value → List (Addr × Obj) → Prop} {news : List (Addr × Obj)}
/-- the turns of the closing comprehension -/
theorem told_rest {tvs : List Value} {ds : List Dat} (hT : TellAll news tvs ds)
    (turn : ∀ v d nw ys I oI C oC D m₂ h tk (E' : Value → Shared → Prop), TellIn nw v d → (∀ p ∈ news, p ∈ nw) → LCg.NsObj oC m₂ → m₂ x = some v → Fr h₀ L h m → News h₀ L h ((I, oI) :: (C, oC) :: (D, LCg.lst ys) :: nw) → LCg.Off3 I C D nw →
      wpAny (model prog w) A (eval elt (compEnvC scope cl C env)) (LCg.CompEnd h₀ L m { s with heap := h, toks := tk } I oI C oC D (LCg.lst ys) S (fun y nw' => ∃ tl, nw' = tl ++ nw ∧ DatIn tl y d)) E' { s with heap := h, toks := tk })
    (fin : ∀ ys nw, (∀ p ∈ news, p ∈ nw) → DatAll nw ys ds → Fin ys nw) :
    LCg.CompRest prog w A h₀ L m env elt x scope cl s S (fun i v => tvs.toArray[i]? = some v) Fin tvs.toArray.size 0 [] news := by
  have key : ∀ (j i : Nat) (ys : List Value) (nw : List (Addr × Obj)), i + j = tvs.length → (∀ p ∈ news, p ∈ nw) → DatAll nw ys (ds.take i) → LCg.CompRest prog w A h₀ L m env elt x scope cl s S (fun i v => tvs.toArray[i]? = some v) Fin j i ys nw := by
    intro j
    induction j with
    | zero =>
      intro i ys nw hi hs hy
      have e : i = ds.length := by rw [← hT.length]; omega
      subst e
      rw [List.take_length] at hy
      exact LCg.CompRest.zero (fin ys nw hs hy)
    | succ j ih =>
      intro i ys nw hi hs hy
      refine LCg.CompRest.succ ?_
      intro v I oI C oC D m₂ h tk E' hv hC hx F N off _
      have hv' : tvs[i]? = some v := by simpa using hv
      obtain ⟨d, hd, ht⟩ := hT.get hv'
      refine wpAny_mono (turn v d nw ys I oI C oC D m₂ h tk E' (ht.mono hs) hs hC hx F N off) (fun y s₂ hq => ?_) fun _ _ e => e
      obtain ⟨h', tk', nw', e, F', N', off', hS, tl, rfl, hD⟩ := hq
      refine ⟨h', tk', tl ++ nw, e, F', N', off', hS, ?_⟩
      refine ih (i + 1) _ _ (by omega) (fun p hp => List.mem_append.mpr (.inr (hs p hp))) ?_
      rw [List.take_add_one, hd]
      exact DatAll.append (hy.mono fun p hp => List.mem_append.mpr (.inr hp)) (.cons (hD.mono fun p hp => List.mem_append.mpr (.inl hp)) .nil)
  rw [List.size_toArray]
  exact key tvs.length 0 [] news (by omega) (fun _ h => h) .nil
theorem told_end {I C D : Addr} {oI oC oD : Obj} {nw tl : List (Addr × Obj)} {s₁ : Shared} {d : Dat} {r : Value} {h' : Heap} {tk' : Nat} (F : Fr h₀ L h' m) (N : News h₀ L h' (tl ++ ((I, oI) :: (C, oC) :: (D, oD) :: nw))) (ne : ∀ q ∈ (I, oI) :: (C, oC) :: (D, oD) :: nw, ∀ p ∈ tl, q.1 ≠ p.1) (off : LCg.Off3 I C D nw)
    (hS : S (tl ++ nw)) (R : DatIn tl r d) :
    LCg.CompEnd h₀ L m s₁ I oI C oC D oD S (fun y nw' => ∃ tl, nw' = tl ++ nw ∧ DatIn tl y d) r { s₁ with heap := h', toks := tk' } := by
  refine LCg.CompEnd.intro F N (tl ++ nw) (fun p hp => ?_) (LCg.Off3.of fun p hp => ?_) hS ⟨tl, rfl, R⟩
  · simp only [List.mem_cons, List.mem_append] at hp ⊢
    rcases hp with h | h | h | h | h
    · exact .inr (.inl h)
    · exact .inr (.inr (.inl h))
    · exact .inr (.inr (.inr (.inl h)))
    · exact .inl h
    · exact .inr (.inr (.inr (.inr h)))
  · rcases List.mem_append.mp hp with h | h
    · exact ⟨Ne.symm (ne _ List.mem_cons_self p h), Ne.symm (ne _ (List.mem_cons_of_mem _ List.mem_cons_self) p h), Ne.symm (ne _ (List.mem_cons_of_mem _ (List.mem_cons_of_mem _ List.mem_cons_self)) p h)⟩
    · exact off.mem p h
theorem src_at {ax : Addr} {vs : List Value} {n : Nat} {tl nw : List (Addr × Obj)} (m₁ : (ax, listOf vs.toArray n) ∈ nw) : LCg.SrcAt h₀ ax vs.toArray (tl ++ nw) := .inr ⟨_, List.mem_append.mpr (.inr m₁), rfl, n, rfl⟩
theorem told_eq {E : Value → Shared → Prop} {D dA : Addr} {ys dvs : List Value} {dn : Nat} {ds : List Dat} {tl nw : List (Addr × Obj)} {Q : Value → Shared → Prop} (N : News h₀ L s.heap ((D, LCg.lst ys) :: nw)) (Dy : DatAll nw ys ds) (hm : (dA, listOf dvs.toArray dn) ∈ nw) (hs : ∀ p ∈ tl, p ∈ nw) (Dd : DatAll tl dvs ds) (ok : ∀ d ∈ ds, kqdOk 8 d = true) (hu : A.units + 64 < cLine) (h : Q (.bool true) s) :
    wpAny (model prog w) A (compareOp .Eq (.ref D) (.ref dA)) Q E s := by
  refine kqd_eq N (ka := ys.length) List.mem_cons_self rfl rfl Dy (fun p hp => List.mem_cons_of_mem _ hp) (List.mem_cons_of_mem _ hm) rfl rfl Dd (fun p hp => List.mem_cons_of_mem _ (hs p hp)) ok ok hu (by simpa using h)
end
end Mine
namespace Mine
local macro_rules | `(tactic| k_all) => `(tactic| first | with_reducible assumption | (refine' List.forall_mem_cons.mpr ⟨?a, ?b⟩; (case a => k_ne); (case b => k_all)))
local macro_rules | `(tactic| k_lt $h) => `(tactic| (replace $h := ltAll_of $h))
local macro_rules | `(tactic| k_ne) => `(tactic| (refine neN ?_; (try dsimp only); first | (refine Dif.ne ?_; with_reducible assumption) | (refine' ne_up ?h ?m; (case h => with_reducible assumption); (case m => k_mem)) | (refine' ne_down ?h ?m; (case h => with_reducible assumption); (case m => k_mem))))
local macro_rules | `(tactic| kqd_sub) => `(tactic| (with_reducible first | exact sub_nil | (refine sub_tail ?_; kqd_sub)))
local macro_rules | `(tactic| walk_at "subscriptTail") => `(tactic| (k_here; (with_reducible show wpAny _ _ (subscriptTail (PySem.Expr.BinOp _ _ _ _) (PySem.Expr.Slice _ _ _ _) (Value.ref _) (Value.ref _)) _ _ _); k_dflt (refine kba_turn (value' := PySem.Expr.Name (PySem.Str.ofString "_") ⟨0, 0, 0, 0⟩) (fun _ => rfl) ?_)))
local macro_rules | `(tactic| walk_at "subscriptTail Name Slice ref ref") => `(tactic| (k_here; (with_reducible show wpAny _ _ (subscriptTail _ (PySem.Expr.Slice _ _ none _) (Value.ref _) (Value.ref _)) _ _ _); k_dflt (refine' kmk_slice_ints ?F ?N ?l ?p ?q ?i ?m ?c ?_ ?s ?t ?z; (case F => k_asm); (case N => k_asm); (case l => kmk_list); (case p => kmk_part); (case q => kmk_part); (case i => l_ints); (case m => kmk_nums); (case c => kmk_len); (case s => with_unfolding_all rfl); (case t => kmk_pure); (case z => (refine kmk_sz (by l_ints) ?_; (simp only [sizeLine_eq, List.length_append, List.length_cons, List.length_nil]); ((have hb1' := len_ints_list (by lay_of)); omega)))); intro D' ws' h' F' N' l1 hI' hC' hL'; (try simp only [Int.reduceNeg, Int.neg_neg, Int.reduceToNat] at hI' hC' hL'); (try k_lt l1); (try k_sweep)))
local macro_rules | `(tactic| walk_at "subscriptTail Name Constant ref int") => `(tactic| (k_here; (with_reducible show wpAny _ _ (subscriptTail _ _ (Value.ref _) (Value.int _ _)) _ _ _); (with_unfolding_all refine' item_at ?k1 ?k2 ?k3 ?k4 ?k5 ?_ ?k6; (case k1 => k_asm); (case k2 => k_mem); (case k3 => decide); (case k4 => decide); (case k5 => rfl); (case k6 => with_unfolding_all rfl); k_whole)))
local macro_rules | `(tactic| walk_at "subscriptTail Call") => `(tactic| (k_here; (with_unfolding_all refine' item_wd ?k1 ?k2 ?k3 ?_ ?k6; (case k1 => k_asm); (case k2 => k_mem); (case k3 => assumption); (case k6 => with_unfolding_all rfl); k_whole); intro v9 g9 hv9 hb9))
local macro_rules | `(tactic| walk_at "compareOp NotEq ref ref") => `(tactic| (k_here; (with_reducible show wpAny _ _ (compareOp CmpOp.NotEq (Value.ref _) (Value.ref _)) _ _ _); k_dflt first
  | (refine' ne_no ?N ?a ?b ?u ?_; (case N => k_asm); (case a => k_mem); (case b => k_mem); (case u => ke_room); k_whole)
  | (refine' ne_yes ?N ?a ?D ?s ?b ?u ?_; (case N => k_asm); (case a => k_mem); (case D => assumption); (case s => kqd_sub); (case b => k_mem); (case u => ke_room); k_whole)))
local macro_rules | `(tactic| walk_at "call ref") => `(tactic| (k_here; k_dflt (refine' tl_use (pre := []) worth_c ?k1 ?k2 ?k3 ?k4 ?k5 ?kp ?kK ?kd ?ku ?_; (case k1 => k_asm); (case k2 => k_asm); (case k3 => k_asm); (case k4 => k_asm); (case k5 => k_asm); (case kp => exact List.forall_mem_nil _); (case kK => first | exact rfl | assumption); (case kd => ktr_room); (case ku => ktr_units); k_whole; intro r9 tl9 h9 tk9 F9 N9 lt9 R9; obtain ⟨ht9, o9, hv9, hb9⟩ := R9; subst ht9; (simp only [List.nil_append] at N9); clear lt9; (try k_sweep))))
local macro_rules | `(tactic| walk_at "call ref") => `(tactic| (k_here; k_dflt (refine' tl_use (pre := []) widths_c ?k1 ?k2 ?k3 ?k4 ?k5 ?kp ?kK ?kd ?ku ?_; (case k1 => k_asm); (case k2 => k_asm); (case k3 => k_asm); (case k4 => k_asm); (case k5 => k_asm); (case kp => exact List.forall_mem_nil _); (case kK => first | exact rfl | assumption); (case kd => ktr_room); (case ku => ktr_units); k_whole; intro r9 tl9 h9 tk9 F9 N9 lt9 R9; obtain ⟨a9, k9, vs9, hr9, ht9, hw9⟩ := R9; subst hr9; subst ht9; (replace lt9 := fun q hq => lt9 q hq _ List.mem_cons_self); (k_lt lt9); (simp only [List.cons_append, List.nil_append] at N9); (try k_sweep))))
local macro_rules | `(tactic| walk_at "pyIter ref") => `(tactic| first | k_extra "loop" | k_extra "inner")
local macro_rules | `(tactic| walk_at "call ref") => `(tactic| (k_here; (k_dflt (show wpAny _ _ (call (Value.ref 104) _) _ _ _)); refine stop_of ?_))
local macro_rules | `(tactic| walk_at "call ref") => `(tactic| (k_here; (k_dflt (show wpAny _ _ (call (Value.ref 116) _) _ _ _)); refine stop_of ?_))
local macro_rules | `(tactic| walk_at "call builtin:list.append") => `(tactic| (k_here; (with_reducible show wpAny _ _ (call (Value.builtin _) [Value.ref _, _]) _ _ _); k_dflt (refine' append_K ?k1 ?k2 ?k3 ?_ ?z; (case k1 => k_asm); (case k2 => k_asm); (case k3 => k_upd); (case z => first | exact app0 (by assumption) | exact app1 (by assumption)); k_whole); intro h' F' N'; (try k_sweep)))
local macro_rules | `(tactic| walk_at "call ref") => `(tactic| (k_here; (k_dflt (show wpAny _ _ (call (Value.ref 111) _) _ _ _)); refine stop_of ?_))
local macro_rules | `(tactic| walk_at "eval ListComp") => `(tactic| (k_here; k_dflt (refine LCg.ListComp_U (F₀ := by k_asm) (by with_unfolding_all rfl) (by decide) (by rfl) (by decide) (by rfl) ?_)))
local macro_rules | `(tactic| walk_at "CompSrc") => `(tactic| k_extra "src")
local macro_rules | `(tactic| walk_at "compareOp Eq ref ref") => `(tactic| k_extra "eq")
set_option maxHeartbeats 8000000 in
theorem law_holds : PySem.Challenge.rw_fe0329_01.Holds := hd (by
  w_on
  (k_with "loop" => ((rename IsRange _ _ _ _ _ _ _ _ => rg); (rename Fr _ _ _ _ => lF); (rename News _ _ _ _ => lN); (rename IntsAre _ (List.take 15 _) => hN); (rename List.length (List.take 15 _) = min 15 _ => hC); (simp only [List.length_append, List.length_cons, List.length_nil] at hC); (with_unfolding_all refine' law_loop (by rfl) rg rfl (by omega) (by omega) lF lN (by rfl) (by rfl) (by rfl) ?turn ?done); (case' turn => (clear rg; intro i t' m₁ tvs tn dvs dn ds tl h tk own hi hl1 hl2 hT hD hok hn1 hn2 ho1 ho2 F1 N1; (have hS := said_of hT hD hok hl1 hl2 hn1 hn2 ho1); (have wT := fun p hp => hn1 p (List.mem_append.mpr (.inr hp))); (have wD := fun p hp => hn2 p (List.mem_append.mpr (.inr hp))); clear lF lN)); (case' done => (clear rg; intro m₁ tvs tn dvs dn ds tl h tk hl1 hl2 hT hD hok F1 N1; clear lF lN))))
  (k_with "inner" => ((rename Fr _ _ _ _ => lF); (rename News _ _ _ _ => lN); (with_unfolding_all refine' inner_loop (ow := own) (by rfl) lF lN ?hg ?hb ⟨?hu, ?hc, ?bu, ?bc⟩ (by omega) hS wT wD ?mT ?mD ?mN ?mP ?mG ?mR (by rfl) (by rfl) (by rfl) (by rfl) ?turnB ?doneB); (case mT => k_mem); (case mD => k_mem); (case mN => k_mem); (case mP => k_mem); (case mG => k_mem); (case mR => (intro p hp; (repeat (refine List.mem_cons_of_mem _ ?_)); exact hp)); (case hg => assumption); (case hu => assumption); (case hc => assumption); (case hb => assumption); (case bu => assumption); (case bc => assumption); (case' turnB => (intro P2 i2 v2 g2 m2 tvs2 tn2 dvs2 dn2 ds2 tl2 h2 tk2 own2 hi2 hg2 hv2 hb2 hlt2 hld2 S2 oo2 hw1 hw2 F2 N2; clear lF lN)); (case' doneB => (intro P2 o2 m2 tvs2 tn2 dvs2 dn2 ds2 tl2 h2 tk2 hlt2 hld2 S2 hw1 hw2 O2 F2 N2; clear lF lN; rcases O2 with ⟨e2, k2, t2, mo2⟩ | ⟨w2, e2, k2, t2, t2', vu2, vc2, d12, d22, mo2, D2⟩; (all_goals ((have dT := dif_of hw1 mo2); (have dD := dif_of hw2 mo2); (replace N2 := news_with N2 mo2)))))))
  (k_with "src" => ((rename Fr _ _ _ _ => lF); (rename News _ _ _ _ => lN); (refine' LCg.CompSrc.ledger (by rfl) lF lN ?hm ?hz ?_); (case hm => k_mem); (case hz => exact app0 (by omega)); (intro g5); (refine' told_rest (hT.mono (fun p hp => (List.mem_cons_of_mem _ (List.mem_cons_of_mem _ (List.mem_cons_of_mem _ hp))))) ?turnC ?finC); (case' turnC => (intro v5 d5 nw5 ys5 I5 oI5 C5 oC5 D5 m5 h5 tk5 E5 ht5 hs5 hC5 hx5 F5 N5 off5; clear lF lN)); (case' finC => (intro ys5 nw5 hs5 Dy5; clear lF lN; refine stop_of ?_))))
  w_strict (k_go0; (all_goals try k_fold); k_steps)
  · refine of_stop ?_
    unfold LCg.FinE
    intro D6 h6 tk6 F6 N6 o6
    walk1
    refine' told_eq N6 Dy5 (hs5 _ ?hm) (fun p hp => hs5 p (List.mem_cons_of_mem _ (List.mem_cons_of_mem _ (List.mem_cons_of_mem _ hp)))) hD hok ?hu ?_
    (case hm => k_mem)
    (case hu => ke_room)
    (try dsimp only)
    wrow_close
  · have ht6 := ht5.mono (led' := (I5, oI5) :: (C5, oC5) :: (D5, LCg.lst ys5) :: nw5) (fun p hp => (List.mem_cons_of_mem _ (List.mem_cons_of_mem _ (List.mem_cons_of_mem _ hp))))
    (refine of_stop ?_); (k_dflt refine' tlN_use (pre := []) (news := (I5, oI5) :: (C5, oC5) :: (D5, LCg.lst ys5) :: nw5) (told_c ht6) ?k1 ?k2 ?k3 ?k4 ?k5 ?kp ?kK ?kd ?ku ?_); (case k1 => k_asm); (case k2 => k_asm); (case k3 => k_asm); (case k4 => k_asm); (case k5 => k_asm); (case kp => exact List.forall_mem_nil _); (case kK => first | exact rfl | assumption); (case kd => ktr_room); (case ku => ktr_units); k_whole
    intro r9 tl9 h9 tk9 F9 N9 ne9 R9
    exact told_end F9 N9 ne9 off5 (src_at (hs5 _ (by k_mem))) R9
  · (rename Fr _ _ _ _ => Fe); (rename News _ _ _ _ => Ne)
    exact out_end Fe Ne S2 said_nil (Nat.zero_le _) wT wD ho2 push0 push0 (by k_mem) (by k_mem) (by k_mem) (by intro p hp; (repeat (first | with_reducible exact hp | with_reducible exact List.mem_append.mpr (.inr hp) | refine List.mem_cons_of_mem _ ?_))) (List.forall_mem_nil _) (by rfl) (by rfl) (by rfl)
  · have f2 := okW_fits (g := none) P2.bu P2.bc (fun _ h => nomatch h) e2
    (refine of_stop ?_); (k_dflt refine' tl0_use (made_no val_int P2.hu P2.hc P2.bu P2.bc (fun x hx => by cases hx; have := f2.2.1; omega) (okW_less P2.bu P2.bc e2)) ?k1 ?k2 ?k3 ?k4 ?k5 ?kp ?kK ?kd ?ku ?XB ?TB ?_); (case k1 => k_asm); (case k2 => k_asm); (case k3 => k_asm); (case k4 => k_asm); (case k5 => k_asm); (case kp => (refine' List.forall_mem_cons.mpr ⟨?_, List.forall_mem_nil _⟩; k_mem)); (case kK => first | exact rfl | assumption); (case kd => ktr_room); (case ku => ktr_units); (case XB => assumption); (case TB => assumption); k_whole
    intro r9 tl9 h9 tk9 F9 N9 lt9 R9
    obtain ⟨l9, k9, rfl, rfl⟩ := R9
    have b9 : LtBlk _ _ := lt9
    have a9 := b9.one List.mem_cons_self
    clear lt9
    (simp only [List.cons_append, List.nil_append] at N9); (try k_sweep)
    k_steps
    (rename Fr _ _ _ _ => Fe); (rename News _ _ _ _ => Ne)
    rename LtAll _ _ => c9
    exact out_end Fe Ne S2 (said_ref (LtBlk.off b9 (by k_mem) (by k_mem) (by intro p hp; (repeat (first | with_reducible exact hp | with_reducible exact List.mem_append.mpr (.inr hp) | refine List.mem_cons_of_mem _ ?_)))) (LtBlk.off c9.blk (by k_mem) (by k_mem) (by intro p hp; (repeat (first | with_reducible exact hp | with_reducible exact List.mem_append.mpr (.inr hp) | refine List.mem_cons_of_mem _ ?_))))) (Nat.le_refl _) wT wD ho2 push1 push1 (by k_mem) (by k_mem) (by k_mem) (by intro p hp; (repeat (first | with_reducible exact hp | with_reducible exact List.mem_append.mpr (.inr hp) | refine List.mem_cons_of_mem _ ?_))) (List.forall_mem_cons.mpr ⟨by k_mem, List.forall_mem_cons.mpr ⟨by k_mem, List.forall_mem_nil _⟩⟩) (by rfl) (by rfl) (by rfl)
  · (refine of_stop ?_); (k_dflt refine' tl_use (due_e hv2 P2.hu P2.hc P2.bu P2.bc hb2) ?k1 ?k2 ?k3 ?k4 ?k5 ?kp ?kK ?kd ?ku ?_); (case k1 => k_asm); (case k2 => k_asm); (case k3 => k_asm); (case k4 => k_asm); (case k5 => k_asm); (case kp => (refine' List.forall_mem_cons.mpr ⟨?_, List.forall_mem_nil _⟩; k_mem)); (case kK => first | exact rfl | assumption); (case kd => ktr_room); (case ku => ktr_units); k_whole
    intro r8 tl8 h8 tk8 F8 N8 lt8 R8
    rcases R8 with ⟨e8, l8, k8, t8, rfl, rfl⟩ | ⟨w8, e8, l8, k8, t8, t8', vu8, vc8, d18, d28, o18, o28, rfl, rfl, D8⟩
    · have b8 : LtBlk _ _ := lt8
      have a8 := b8.one List.mem_cons_self
      clear lt8
      (simp only [List.cons_append, List.nil_append] at N8); (try k_sweep)
      k_steps
      (refine of_stop ?_); (k_dflt refine' tl0_use (made_no hv2 P2.hu P2.hc P2.bu P2.bc hb2 e8) ?k1 ?k2 ?k3 ?k4 ?k5 ?kp ?kK ?kd ?ku ?XB ?TB ?_); (case k1 => k_asm); (case k2 => k_asm); (case k3 => k_asm); (case k4 => k_asm); (case k5 => k_asm); (case kp => (refine' List.forall_mem_cons.mpr ⟨?_, List.forall_mem_nil _⟩; k_mem)); (case kK => first | exact rfl | assumption); (case kd => ktr_room); (case ku => ktr_units); (case XB => assumption); (case TB => assumption); k_whole
      intro r9 tl9 h9 tk9 F9 N9 lt9 R9
      obtain ⟨l9, k9, rfl, rfl⟩ := R9
      have b9 : LtBlk _ _ := lt9
      have a9 := b9.one List.mem_cons_self
      clear lt9
      (simp only [List.cons_append, List.nil_append] at N9); (try k_sweep)
      k_steps
      (rename Fr _ _ _ _ => Fe); (rename News _ _ _ _ => Ne)
      exact in_end Fe Ne S2 (said_ref (LtBlk.off b9 (by k_mem) (by k_mem) (by intro p hp; (repeat (first | with_reducible exact hp | with_reducible exact List.mem_append.mpr (.inr hp) | refine List.mem_cons_of_mem _ ?_)))) (LtBlk.off b8 (by k_mem) (by k_mem) (by intro p hp; (repeat (first | with_reducible exact hp | with_reducible exact List.mem_append.mpr (.inr hp) | refine List.mem_cons_of_mem _ ?_))))) (by decide) oo2 push1 push1 (by k_mem) (by k_mem) (by k_mem) (by k_mem) (by k_mem) (by intro p hp; (repeat (first | with_reducible exact hp | with_reducible exact List.mem_append.mpr (.inr hp) | refine List.mem_cons_of_mem _ ?_))) (List.forall_mem_cons.mpr ⟨by k_mem, List.forall_mem_cons.mpr ⟨by k_mem, List.forall_mem_nil _⟩⟩) (by rfl) (by rfl) (by rfl) (by rfl) (by rfl) hg2 (.inl ⟨e8, _, _, List.mem_cons_of_mem _ List.mem_cons_self⟩)
    · have b8 : LtBlk _ _ := lt8
      have a8 := b8.one List.mem_cons_self
      have a8b := b8.one (List.mem_cons_of_mem _ List.mem_cons_self)
      have a8c := b8.one (List.mem_cons_of_mem _ (List.mem_cons_of_mem _ List.mem_cons_self))
      have f8 := okW_fits P2.bu P2.bc hb2 e8
      clear lt8
      (simp only [List.cons_append, List.nil_append] at N8); (try k_sweep)
      k_steps
      (refine of_stop ?_); (k_dflt refine' tl0_use (made_yes hv2 P2.hu P2.hc P2.bu P2.bc hb2 e8) ?k1 ?k2 ?k3 ?k4 ?k5 ?kp ?kK ?kd ?ku ?XB ?TB ?_); (case k1 => k_asm); (case k2 => k_asm); (case k3 => k_asm); (case k4 => k_asm); (case k5 => k_asm); (case kp => (refine' List.forall_mem_cons.mpr ⟨?_, List.forall_mem_nil _⟩; k_mem)); (case kK => first | exact rfl | assumption); (case kd => ktr_room); (case ku => ktr_units); (case XB => assumption); (case TB => assumption); k_whole
      intro r9 tl9 h9 tk9 F9 N9 lt9 R9
      obtain ⟨l9, x9, dx9, p9, q9, s9, rfl, rfl, T9⟩ := R9
      have b9 : LtBlk _ _ := lt9
      have a9 := b9.one List.mem_cons_self
      have a9b := b9.one (List.mem_cons_of_mem _ List.mem_cons_self)
      have a9c := b9.one (List.mem_cons_of_mem _ (List.mem_cons_of_mem _ List.mem_cons_self))
      clear lt9
      (simp only [List.cons_append, List.nil_append] at N9); (try k_sweep)
      k_steps
      (refine of_stop ?_); (k_dflt refine' tl0_use (made_yes val_int P2.hu P2.hc P2.bu P2.bc (fun x hx => by cases hx; exact f8.2.1) (okW_again P2.bu P2.bc hb2 e8)) ?k1 ?k2 ?k3 ?k4 ?k5 ?kp ?kK ?kd ?ku ?XB ?TB ?_); (case k1 => k_asm); (case k2 => k_asm); (case k3 => k_asm); (case k4 => k_asm); (case k5 => k_asm); (case kp => (refine' List.forall_mem_cons.mpr ⟨?_, List.forall_mem_nil _⟩; k_mem)); (case kK => first | exact rfl | assumption); (case kd => ktr_room); (case ku => ktr_units); (case XB => assumption); (case TB => assumption); k_whole
      intro r7 tl7 h7 tk7 F7 N7 lt7 R7
      obtain ⟨l7, x7, dx7, p7, q7, s7, rfl, rfl, T7⟩ := R7
      have b7 : LtBlk _ _ := lt7
      have a7 := b7.one List.mem_cons_self
      have a7b := b7.one (List.mem_cons_of_mem _ List.mem_cons_self)
      have a7c := b7.one (List.mem_cons_of_mem _ (List.mem_cons_of_mem _ List.mem_cons_self))
      clear lt7
      (simp only [List.cons_append, List.nil_append] at N7); (try k_sweep)
      k_steps
      (rename Fr _ _ _ _ => Fe); (rename News _ _ _ _ => Ne)
      exact in_end Fe Ne S2 ((said_size T9 List.mem_cons_self D8 (LtBlk.off b9 (by k_mem) (by k_mem) (by intro p hp; (repeat (first | with_reducible exact hp | with_reducible exact List.mem_append.mpr (.inr hp) | refine List.mem_cons_of_mem _ ?_)))) (LtBlk.off b8 (by k_mem) (by k_mem) (by intro p hp; (repeat (first | with_reducible exact hp | with_reducible exact List.mem_append.mpr (.inr hp) | refine List.mem_cons_of_mem _ ?_))))).more (said_size T7 List.mem_cons_self D8 (LtBlk.off b7 (by k_mem) (by k_mem) (by intro p hp; (repeat (first | with_reducible exact hp | with_reducible exact List.mem_append.mpr (.inr hp) | refine List.mem_cons_of_mem _ ?_)))) (LtBlk.off b8 (by k_mem) (by k_mem) (by intro p hp; (repeat (first | with_reducible exact hp | with_reducible exact List.mem_append.mpr (.inr hp) | refine List.mem_cons_of_mem _ ?_)))))) (by decide) oo2 push2 push2 (by k_mem) (by k_mem) (by k_mem) (by k_mem) (by k_mem) (by intro p hp; (repeat (first | with_reducible exact hp | with_reducible exact List.mem_append.mpr (.inr hp) | refine List.mem_cons_of_mem _ ?_))) (List.forall_mem_append.mpr ⟨List.forall_mem_append.mpr ⟨List.forall_mem_cons.mpr ⟨by k_mem, List.forall_mem_cons.mpr ⟨by k_mem, List.forall_mem_cons.mpr ⟨by k_mem, List.forall_mem_nil _⟩⟩⟩, List.forall_mem_cons.mpr ⟨by k_mem, List.forall_mem_cons.mpr ⟨by k_mem, List.forall_mem_cons.mpr ⟨by k_mem, List.forall_mem_nil _⟩⟩⟩⟩, List.forall_mem_append.mpr ⟨List.forall_mem_cons.mpr ⟨by k_mem, List.forall_mem_cons.mpr ⟨by k_mem, List.forall_mem_cons.mpr ⟨by k_mem, List.forall_mem_nil _⟩⟩⟩, List.forall_mem_cons.mpr ⟨by k_mem, List.forall_mem_cons.mpr ⟨by k_mem, List.forall_mem_cons.mpr ⟨by k_mem, List.forall_mem_nil _⟩⟩⟩⟩⟩) (by rfl) (by rfl) (by rfl) (by rfl) (by rfl) hg2 (.inr ⟨w8, e8, _, _, _, _, _, _, _, List.mem_append.mpr (.inl (List.mem_append.mpr (.inr List.mem_cons_self))), D8.mono (fun _ hp => List.mem_append.mpr (.inl (List.mem_append.mpr (.inr hp))))⟩))
end Mine
theorem PySem.Challenge.cw_fe0329_01_holds : PySem.Challenge.rw_fe0329_01.Holds := by
  exact Mine.law_holds
