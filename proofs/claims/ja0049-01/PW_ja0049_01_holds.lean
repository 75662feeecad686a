import PyProof.Rows.All
import Wide.All
import OpenK.AllK
import Wide.FinOn
import PySem.Challenge.RW_ja0049_01
open PySem PySem.W PyProof.Rows
set_option Elab.async false
set_option maxRecDepth 100000

section
set_option maxHeartbeats 8000000
namespace Ja
open_top head for PySem.Challenge.rw_ja0049_01
end Ja
end

local macro_rules | `(tactic| walk_at "call ref") => `(tactic| k_extra "call ref")
local macro_rules | `(tactic| walk_at "exec For Name BinOp cons nil") => `(tactic| k_extra "exec For Name BinOp cons nil")
local macro_rules | `(tactic| walk_at "binaryOp Mult int int") => `(tactic| k_extra "binaryOp Mult int int")
local macro_rules | `(tactic| walk_at "call type:zip") => `(tactic| k_extra "call type:zip")
local macro_rules | `(tactic| walk_at "call type:bytes") => `(tactic| k_extra "call type:bytes")
local macro_rules | `(tactic| walk_at "exec Assign") => `(tactic| k_extra "exec Assign")
local macro_rules | `(tactic| walk_at "exec Return some") => `(tactic| k_extra "exec Return some")
local macro_rules | `(tactic| walk_at "exec Expr") => `(tactic| k_extra "exec Expr")
local macro_rules | `(tactic| walk_at "eval Call") => `(tactic| k_extra "eval Call")
local macro_rules | `(tactic| walk_at "exec For Name Call cons nil") => `(tactic| k_extra "exec For Name Call cons nil")
local macro_rules | `(tactic| walk_at "pyIter ref") => `(tactic| k_extra "pyIter ref")
local macro_rules | `(tactic| walk_at "call type:reversed") => `(tactic| k_extra "call type:reversed")
local macro_rules | `(tactic| walk_at "newList") => `(tactic| k_extra "newList")
local macro_rules | `(tactic| walk_at "subscriptTail Name Name ref int") => `(tactic| k_extra "subscriptTail Name Name ref int")
local macro_rules | `(tactic| walk_at "subscriptTail Name BinOp ref int") => `(tactic| k_extra "subscriptTail Name BinOp ref int")
local macro_rules | `(tactic| walk_at "subscriptTail Name Constant ref int") => `(tactic| k_extra "subscriptTail Name Constant ref int")
local macro_rules | `(tactic| walk_at "subscriptTail") => `(tactic| k_extra "subscriptTail")
local macro_rules | `(tactic| walk_at "eval IfExp") => `(tactic| k_extra "eval IfExp")
local macro_rules | `(tactic| walk_at "compareOp NotEq bytes bytes") => `(tactic| k_extra "compareOp NotEq bytes bytes")
local macro_rules | `(tactic| walk_at "compareOp Eq bytes bytes") => `(tactic| k_extra "compareOp Eq bytes bytes")
local macro_rules | `(tactic| walk_at "compareOp NotEq ref ref") => `(tactic| k_extra "compareOp NotEq ref ref")
local macro_rules | `(tactic| walk_at "AllBare") => `(tactic| k_extra "AllBare")
local macro_rules | `(tactic| walk_at "GoodW") => `(tactic| k_extra "GoodW")
local macro_rules | `(tactic| walk_at "compareOp NotEq int int") => `(tactic| k_extra "compareOp NotEq int int")

section
namespace Ja
open PySem PySem.W PySem.Calls PyProof.Rows

/-- What a call of f on vs promises: from a frame of a def, with the ledger news, it comes back with r and the ledger news' as Ret says. -/
def CallsTo (n : Nat) (w : World) (K : Frag) (f : Value) (vs : List Value) (news : List (Addr × Obj)) (Ret : Addr → Value → List (Addr × Obj) → Prop) : Prop :=
  ∀ (p : Program) (loose : List Str) (mean : ExcName → Option Value) (mg mb : Str → Option Value) (dp un : Nat) (gd : Option (List Code)) (cn : Str) (cs : Scope) (a : Addr) (ccd : Value) (cl : List (Str × Addr)) (outer : List Env)
    (A₀ : Around) (base h₀ : Heap) (L : Addr) (m : Str → Option Value) (s : Shared) (Q E : Value → Shared → Prop),
    Below A₀ base outer h₀ → Fr h₀ L s.heap m → K.In h₀ → News h₀ L s.heap news → Top p loose mean mg mb h₀ → cs.kind = .function → dp + n < recursionLimit → un + 20 * n < cLine →
    (∀ r news' h' tk', Ret L r news' → Fr h₀ L h' m → News h₀ L h' news' → Q r { s with heap := h', toks := tk' }) →
    wpAny (model PySem.Challenge.rw_ja0049_01.row.prog w) (ktrTop dp un gd cn cs L a ccd cl outer) (call f vs) Q E s

theorem CallsTo.use {n : Nat} {w : World} {K : Frag} {f : Value} {vs : List Value} {news : List (Addr × Obj)} {Ret : Addr → Value → List (Addr × Obj) → Prop}
    {p : Program} {loose : List Str} {mean : ExcName → Option Value} {mg mb : Str → Option Value} {dp un : Nat} {gd : Option (List Code)} {cn : Str} {cs : Scope} {a : Addr} {ccd : Value} {cl : List (Str × Addr)} {outer : List Env}
    {A₀ : Around} {base h₀ : Heap} {L : Addr} {m : Str → Option Value} {s : Shared} {Q E : Value → Shared → Prop}
    (C : CallsTo n w K f vs news Ret) (B : Below A₀ base outer h₀) (F : Fr h₀ L s.heap m) (X : K.In h₀) (N : News h₀ L s.heap news) (T : Top p loose mean mg mb h₀) (hk : cs.kind = .function) (hd : dp + n < recursionLimit) (hu : un + 20 * n < cLine)
    (ret : ∀ r news' h' tk', Ret L r news' → Fr h₀ L h' m → News h₀ L h' news' → Q r { s with heap := h', toks := tk' }) :
    wpAny (model PySem.Challenge.rw_ja0049_01.row.prog w) (ktrTop dp un gd cn cs L a ccd cl outer) (call f vs) Q E s :=
  C p loose mean mg mb dp un gd cn cs a ccd cl outer A₀ base h₀ L m s Q E B F X N T hk hd hu ret

theorem UpdF.at {d : Addr} {o : Obj} {l : List (Addr × Obj)} {g : Obj → List (Addr × Obj)} (U : UpdF d o l g) : (d, o) ∈ l := by
  obtain ⟨pre, post, rfl, _⟩ := U.split
  simp
theorem UpdF.mem {d : Addr} {o o' : Obj} {l : List (Addr × Obj)} {g : Obj → List (Addr × Obj)} (U : UpdF d o l g) : ∀ p ∈ g o', p = (d, o') ∨ (p ∈ l ∧ p.1 ≠ d) := by
  obtain ⟨pre, post, rfl, hg, h1, h2⟩ := U.split
  intro p hp
  rw [hg] at hp
  rcases List.mem_append.mp hp with q | q
  · exact .inr ⟨List.mem_append_left _ q, h1 p q⟩
  · rcases List.mem_cons.mp q with q | q
    · exact .inl q
    · exact .inr ⟨List.mem_append_right _ (.tail _ q), h2 p q⟩

section
variable {prog : Program} {w : World} {A₀ A : Around} {s : Shared} {base h₀ : Heap} {outer : List Env} {L : Addr} {m mg mb : Str → Option Value} {env : Env} {news sub : List (Addr × Obj)} {K : Frag} {p : Program} {loose : List Str} {mean : ExcName → Option Value}
  {R : Result → Shared → Prop} {name qual : Str} {params : Arguments} {body : List Stmt} {scope : Scope} {cl : List (Str × Addr)} {dV kV doc pm cdv ct : Value} {an : Option Addr} {fo : Obj} {f : Addr} {args : Args} {binds : List (Str × Value)}

/-- A def is entered with a part of the ledger alone: what the rest of it says stands in the new ground g. -/
theorem enter_part (B : Below A₀ base outer h₀) (F : Fr h₀ L s.heap m) (X₀ : K.In h₀) (N : News h₀ L s.heap news) (T : Top p loose mean mg mb h₀) (hsub : ∀ q ∈ sub, q ∈ news)
    (hA : A.frames = some (env :: outer)) (hf : env.frame = some L) (hke : env.scope.kind = .function)
    (ho : s.heap.get? f = some fo) (hd : fo.data = .func (fnX name qual params body scope cl dV kV doc pm an cdv ct)) (hcd : s.heap.CodeRec cdv qual) (hroom : A.depth < recursionLimit)
    (hbind : BindsTo s (fnX name qual params body scope cl dV kV doc pm an cdv ct) args binds) (hloc : ∀ y ∈ binds, scope.names.lookup y.1 = some .local)
    (h : ∀ g L' h₁, Fr h₀ L g m → Fr g L' h₁ (fun y => binds.reverse.lookup y) → News g L' h₁ sub → Below A base (env :: outer) g → K.In g → Top p loose mean mg mb g → (∀ q ∈ sub, q.1 < L') →
      (∀ q ∈ news, q.1 ∉ sub.map (·.1) → g.get? q.1 = some q.2) → (∀ q ∈ news, q.1 < L') → @LT.lt Nat _ L L' →
      wpAny (model prog w) (A.deeper (envX qual scope L' f cdv cl)) (execs body (envX qual scope L' f cdv cl))
        (fun fl s' => LeaveK h₀ L m g R (match fl with | .ret v => v | _ => .none) s')
        (fun e s' => wpAny (model prog w) (A.deeper (envX qual scope L' f cdv cl)) (leaving (envX qual scope L' f cdv cl) e) (fun _ s'' => R (.error e) s'') (fun e' s'' => R (.error e') s'') s')
        { s with heap := h₁, toks := s.toks + binds.length })
    (hcell : ∀ x ∈ scope.names, x.2 ≠ .cell) (hco : scope.isCoroutine = false) (hgen : scope.isGenerator = false) (hk : scope.kind = .function) : codeAny (model prog w) A (.call (.ref f) args) R s := by
  have NS : News h₀ L s.heap sub := fun q hq => N q (hsub q hq)
  obtain ⟨FG, BG, st, lv⟩ := groundX (R := R) B F NS hA hf hke
  refine codeAny_call_def (binds := binds) hroom ho hd (T.nolimit.keeps F.keep) hcd rfl hbind hcell hloc (fun h₁ hns hkp => ?_) hco hgen hk
  have up : ∀ b o, (hideAll s.heap (sub.map (·.1))).get? b = some o → h₁.get? b = some o := fun b o e => hkp b o (of_hideAll _ e)
  have N₁ : News (hideAll s.heap (sub.map (·.1))) s.heap.objs.size h₁ sub := fun q hq =>
    ⟨hkp _ _ (NS q hq).1, Nat.ne_of_lt (Heap.lt_size (NS q hq).1), hideAll_none _ (List.mem_map_of_mem hq)⟩
  have go := h _ s.heap.objs.size h₁ FG ⟨hns, up, Nat.le_of_eq (hideAll_size _ _)⟩ N₁ BG (X₀.keeps st) (T.keeps st) (fun q hq => Heap.lt_size (NS q hq).1) (fun q hq hn => hideAll_get _ (N q hq).1 hn) (fun q hq => Heap.lt_size (N q hq).1) F.ns.lt
  exact wpAny_mono go (fun fl s' hl => lv _ _ hl) fun _ _ e => e

theorem enter_part_K {oc : Value} {od : Option Addr} {osl : Array (Option Value)} (B : Below A₀ base outer h₀) (F : Fr h₀ L s.heap m) (X₀ : K.In h₀) (N : News h₀ L s.heap news) (T : Top p loose mean mg mb h₀) (hsub : ∀ q ∈ sub, q ∈ news)
    (hA : A.frames = some (env :: outer)) (hf : env.frame = some L) (hke : env.scope.kind = .function)
    (ho : K.lookup f = some ⟨oc, od, .func (fnOf name qual params body scope dV kV doc pm an cdv ct), osl⟩) (hcd : codeIn K cdv qual = true) (hroom : A.depth < recursionLimit)
    (hbind : BindsTo s (fnOf name qual params body scope dV kV doc pm an cdv ct) args binds) (hloc : ∀ y ∈ binds, scope.names.lookup y.1 = some .local)
    (h : ∀ g L' h₁, Fr h₀ L g m → Fr g L' h₁ (fun y => binds.reverse.lookup y) → News g L' h₁ sub → Below A base (env :: outer) g → K.In g → Top p loose mean mg mb g → (∀ q ∈ sub, q.1 < L') →
      (∀ q ∈ news, q.1 ∉ sub.map (·.1) → g.get? q.1 = some q.2) → (∀ q ∈ news, q.1 < L') → @LT.lt Nat _ L L' →
      wpAny (model prog w) (A.deeper (envOf qual scope L' f cdv)) (execs body (envOf qual scope L' f cdv))
        (fun fl s' => LeaveK h₀ L m g R (match fl with | .ret v => v | _ => .none) s')
        (fun e s' => wpAny (model prog w) (A.deeper (envOf qual scope L' f cdv)) (leaving (envOf qual scope L' f cdv) e) (fun _ s'' => R (.error e) s'') (fun e' s'' => R (.error e') s'') s')
        { s with heap := h₁, toks := s.toks + binds.length })
    (hco : scope.isCoroutine = false) (hgen : scope.isGenerator = false) (hk : scope.kind = .function) (hcell : ∀ x ∈ scope.names, x.2 ≠ .cell) : codeAny (model prog w) A (.call (.ref f) args) R s :=
  enter_part (cl := []) B F X₀ N T hsub hA hf hke ((X₀.keeps F.keep) _ _ ho) rfl (codeRec_of (X₀.keeps F.keep) hcd) hroom hbind hloc h hcell hco hgen hk
end

/-- What a call left alone stands behind it. -/
def Kept (h₀ : Heap) (L : Addr) (g : Heap) (news : List (Addr × Obj)) (ds : List Addr) : Prop := ∀ q ∈ news, q.1 ∉ ds → g.get? q.1 = some q.2 ∧ q.1 ≠ L ∧ h₀.get? q.1 = none
theorem Kept.of {h₀ h g : Heap} {L : Addr} {news : List (Addr × Obj)} {ds : List Addr} (N : News h₀ L h news) (hk : ∀ q ∈ news, q.1 ∉ ds → g.get? q.1 = some q.2) : Kept h₀ L g news ds :=
  fun q hq hn => ⟨hk q hq hn, (N q hq).2⟩
theorem Kept.up {h₀ g h' : Heap} {L L' : Addr} {m' : Str → Option Value} {news : List (Addr × Obj)} {ds : List Addr} (hk : Kept h₀ L g news ds) (F' : Fr g L' h' m') : Kept h₀ L h' news ds :=
  fun q hq hn => ⟨F'.keep _ _ (hk q hq hn).1, (hk q hq hn).2⟩
/-- One object of the ledger changed. -/
theorem Kept.one {h₀ h' : Heap} {L d : Addr} {o o' : Obj} {news : List (Addr × Obj)} {g : Obj → List (Addr × Obj)} (U : UpdF d o news g) (hk : Kept h₀ L h' news [d]) (N' : News h₀ L h' [(d, o')]) : News h₀ L h' (g o') := fun q hq => by
  rcases UpdF.mem U q hq with e | ⟨a, b⟩
  · rw [e]; exact N' _ (.head _)
  · exact hk q a (by simpa using b)
/-- Two objects of the ledger changed. -/
theorem Kept.two {h₀ h' : Heap} {L d e : Addr} {o o' u u' : Obj} {news : List (Addr × Obj)} {g : Obj → List (Addr × Obj)} {k : Obj → Obj → List (Addr × Obj)} (U : UpdF d o news g) (V : ∀ x, UpdF e u (g x) (k x)) (hk : Kept h₀ L h' news [d, e]) (N' : News h₀ L h' [(d, o'), (e, u')]) : News h₀ L h' (k o' u') := fun q hq => by
  rcases UpdF.mem (V o') q hq with z | ⟨a, b⟩
  · rw [z]; exact N' _ (.tail _ (.head _))
  · rcases UpdF.mem U q a with z | ⟨a', b'⟩
    · rw [z]; exact N' _ (.head _)
    · exact hk q a' (by simp; exact ⟨b', b⟩)

end Ja
end

section
namespace Ja
open PySem PySem.W PySem.Calls PyProof.Rows

theorem or_xor_and : ∀ (n x y : Nat), x < n → x ||| y = (x ^^^ y) + (x &&& y) := by
  intro n
  induction n with
  | zero => intro x y h; omega
  | succ n ih =>
    intro x y h
    by_cases hx : x = 0
    · subst hx; simp
    have e := ih (x / 2) (y / 2) (by omega)
    rw [← Nat.or_div_two, ← Nat.xor_div_two, ← Nat.and_div_two] at e
    have m : (x ||| y) % 2 = (x ^^^ y) % 2 + (x &&& y) % 2 := by
      have a := @Nat.or_mod_two_pow x y 1
      have b := @Nat.xor_mod_two_pow x y 1
      have c := @Nat.and_mod_two_pow x y 1
      rw [Nat.pow_one] at a b c
      rw [a, b, c]
      rcases Nat.mod_two_eq_zero_or_one x with h1 | h1 <;> rcases Nat.mod_two_eq_zero_or_one y with h2 | h2 <;> rw [h1, h2] <;> decide
    clear ih h hx
    omega
theorem bitXor_nat (x y : Nat) : Builtin.bitXor x y = ((x ^^^ y : Nat) : Int) := by
  have h := or_xor_and (x + 1) x y (by omega)
  have hx : ∀ z : Nat, Builtin.bitNot (z : Int) = -(z : Int) - 1 := fun z => by unfold Builtin.bitNot; omega
  have hn : ∀ z : Nat, Builtin.bitNot (-(z : Int) - 1) = (z : Int) := fun z => by unfold Builtin.bitNot; omega
  have hand : Builtin.bitAnd x y = ((x &&& y : Nat) : Int) := by
    unfold Builtin.bitAnd
    have e1 : decide ((x : Int) ≥ 0) = true := by simp
    have e2 : decide ((y : Int) ≥ 0) = true := by simp
    simp
  have hor : Builtin.bitOr x y = ((x ||| y : Nat) : Int) := by
    unfold Builtin.bitOr
    rw [hx, hx]
    unfold Builtin.bitAnd
    have e1 : ¬ (-(x : Int) - 1 ≥ 0) := by omega
    have e2 : ¬ (-(y : Int) - 1 ≥ 0) := by omega
    simp only [e1, e2, decide_false, hn, Int.toNat_natCast]
    rw [hx, hn]
  unfold Builtin.bitXor
  rw [hor, hand]
  omega
theorem xor_in {a b : Int} (ha : 0 ≤ a ∧ a < 256) (hb : 0 ≤ b ∧ b < 256) : 0 ≤ Builtin.bitXor a b ∧ Builtin.bitXor a b < 256 := by
  obtain ⟨x, rfl⟩ := Int.eq_ofNat_of_zero_le ha.1
  obtain ⟨y, rfl⟩ := Int.eq_ofNat_of_zero_le hb.1
  have := Nat.xor_lt_two_pow (x := x) (y := y) (n := 8) (by omega) (by omega)
  rw [bitXor_nat]
  omega
theorem xor_back {a b : Int} (ha : 0 ≤ a) (hb : 0 ≤ b) : Builtin.bitXor (Builtin.bitXor a b) b = a := by
  obtain ⟨x, rfl⟩ := Int.eq_ofNat_of_zero_le ha
  obtain ⟨y, rfl⟩ := Int.eq_ofNat_of_zero_le hb
  rw [bitXor_nat, bitXor_nat, Nat.xor_assoc, Nat.xor_self, Nat.xor_zero]

def xors (ks ls : List Int) : List Int := List.zipWith Builtin.bitXor ks ls
theorem xors_length {ks ls : List Int} (h : ls.length = ks.length) : (xors ks ls).length = ks.length := by simp [xors, h]
theorem xors_in {ks ls : List Int} (h1 : KBa.In ks) (h2 : KBa.In ls) : KBa.In (xors ks ls) := by
  unfold xors
  induction ks generalizing ls with
  | nil => intro n hn; simp at hn
  | cons a ks ih =>
    cases ls with
    | nil => intro n hn; simp at hn
    | cons b ls =>
      intro n hn
      rw [List.zipWith_cons_cons] at hn
      rcases List.mem_cons.mp hn with e | e
      · rw [e]; exact xor_in (h1 a (.head _)) (h2 b (.head _))
      · exact ih (fun k hk => h1 k (.tail _ hk)) (fun k hk => h2 k (.tail _ hk)) n e
theorem xors_back {ks ls : List Int} (h1 : KBa.In ks) (h2 : KBa.In ls) (h : ls.length = ks.length) : xors (xors ks ls) ls = ks := by
  unfold xors
  induction ks generalizing ls with
  | nil => simp
  | cons a ks ih =>
    cases ls with
    | nil => simp at h
    | cons b ls =>
      simp only [List.zipWith_cons_cons]
      rw [xor_back (h1 a (.head _)).1 (h2 b (.head _)).1, ih (fun k hk => h1 k (.tail _ hk)) (fun k hk => h2 k (.tail _ hk)) (by simpa using h)]
theorem xors_range {ks ls : List Int} {n : Nat} (hn : n = ks.length) (h : ls.length = ks.length) : (rangeKs 0 n).map (fun k => Builtin.bitXor (ks.getD k.toNat 0) (ls.getD k.toNat 0)) = xors ks ls := by
  subst hn
  apply List.ext_getElem
  · simp [rangeKs, xors, h]
  · intro i h1 h2
    have hi : i < ks.length := by simpa [rangeKs] using h1
    simp [rangeKs, xors, hi, h]
theorem bInts_in (b : Array UInt8) : KBa.In (KBw.bInts b) := fun _ h => KBw.ints_in h
theorem bInts_of {b : Array UInt8} {ks : List Int} (h : KBw.bInts b = ks) : KBa.In ks := h ▸ bInts_in b
theorem xors_cond {ks ls : List Int} {n : Nat} (i1 : KBa.In ks) (i2 : KBa.In ls) (hn : n = ks.length) (h : ls.length = ks.length) :
    (rangeKs 0 n).map (fun k => if 0 ≤ ks.getD k.toNat 0 ∧ ks.getD k.toNat 0 < 256 ∧ 0 ≤ ls.getD k.toNat 0 ∧ ls.getD k.toNat 0 < 256 then Builtin.bitXor (ks.getD k.toNat 0) (ls.getD k.toNat 0) else k) = xors ks ls := by
  rw [← xors_range hn h]
  apply List.map_congr_left
  intro k _
  have a := KBw.getD_in (j := k.toNat) i1
  have b := KBw.getD_in (j := k.toNat) i2
  rw [if_pos ⟨a.1, a.2, b.1, b.2⟩]
theorem getD_inB {ks : List Int} (h : KBa.In ks) (j : Nat) : 0 ≤ ks.getD j 0 ∧ ks.getD j 0 < 256 := KBw.getD_in h
end Ja
end

section
set_option maxHeartbeats 4000000
namespace Ja
open PySem PySem.W PySem.Calls PyProof.Rows

theorem filled_ : PySem.Challenge.rw_ja0049_01 = PySem.Challenge.rw_ja0049_01 ∧ Ja.head.heap_39 = Ja.head.heap_39 := by
  w_top off
  k_fill
  exact ⟨rfl, rfl⟩


section
local macro_rules | `(tactic| kba_in) => `(tactic| (rw [xors_cond (by assumption) (by assumption) (by omega) (by assumption)]; exact xors_in (by assumption) (by assumption)))
theorem sum_call : ∀ (w : World) (one other : Array UInt8) (t1 t2 : Tok) (ks ls : List Int) (news : List (Addr × Obj)), KBw.bInts one = ks → KBw.bInts other = ls → ls.length = ks.length → ks.length ≤ 40 → 
    CallsTo 4 w (Ja.head.heap_39 w.params) (.ref 96) [.bytes one t1, .bytes other t2] news (fun L r news' => news' = news ∧ ∃ b t, r = .bytes b t ∧ KBw.bInts b = xors ks ls) := by
  k_with_none
  (k_with "ja enterC" => ((refine' code_defC ?qk19 ?qk29 ?qk39 ?qk49 ?qk59 ?qkA9 ?qkF9 ?qkK9 ?qk69 ?qk79 ?qk89 ?qk99 ?qkB9 ?qkD9 ?_ ?qc29 ?qc39 ?qc49; (case qkA9 => exact rfl); (case qkF9 => exact rfl); (case qkK9 => assumption); (case qk19 => k_asm); (case qk29 => k_asm); (case qk39 => k_asm); (case qk49 => k_asm); (case qk59 => k_asm); (case qk69 => k_is); (case qk79 => k_is); (case qk89 => ktr_room); (case qk99 => exact BindsTo.of_eq rfl); (case qkB9 => exact rfl); (case qkD9 => decide +kernel); (case qc29 => exact rfl); (case qc39 => exact rfl); (case qc49 => exact rfl); k_whole; intro g' L' h' tk' cells' FG' F' N' Y' B' X' T' l1; (try k_lt l1); k_cells Y'; (try simp only [List.cons_append, List.nil_append] at N'); (try dsimp only); (try k_lift B'); (try k_fold))))
  intro w one other t1 t2 ks ls news h1 h2 hlen hsz p loose mean mg mb dp un gd cn cs a ccd cl outer A₀ base h₀ L m s Q E B F X N T hk hd hu hret
  have i1 := bInts_of h1
  have i2 := bInts_of h2
  refine wpAny_call ?_
  k_dflt k_extra "ja enterC"
  k_steps
  refine hret _ _ _ _ ⟨rfl, _, _, rfl, ?_⟩ (by k_asm) (cb_drop (by assumption) (by kcj_all))
  rw [xors_cond i1 i2 (by omega) hlen]
  exact KBa.ints_make (xors_in i1 i2)
end
end Ja
end

section
set_option maxHeartbeats 4000000
namespace Ja
open PySem PySem.W PySem.Calls PyProof.Rows



theorem draw_call : ∀ (w : World) (feed q : Addr) (sd many : Int) (t1 t2 : Tok) (vs : List Value) (ns : List Int) (n1 n2 : Nat) (news : List (Addr × Obj)) (g1 : Obj → List (Addr × Obj)) (g2 : Obj → Obj → List (Addr × Obj)), 
    UpdF feed (listOf #[.int sd t1, .ref q] n1) news g1 → (∀ o, UpdF q (listOf vs.toArray n2) (g1 o) (g2 o)) → (@Ne Nat feed q) → IntsAre vs ns → ns.length ≤ 63 → 0 < many →
    CallsTo 2 w (Ja.head.heap_39 w.params) (.ref 77) [.ref feed, .int many t2] news (fun L r news' => ∃ d t sd' t' vs' ns' n1' n2', r = .int d t ∧ 0 ≤ d ∧ d < many ∧ IntsAre vs' ns' ∧ ns'.length ≤ 63 ∧ news' = g2 (listOf #[.int sd' t', .ref q] n1') (listOf vs'.toArray n2')) := by
  k_with_none
  (k_with "ja part" => ((refine' enter_part_K ?qk19 ?qk29 ?qk39 ?qk49 ?qk59 ?qkS9 ?qkA9 ?qkF9 ?qkK9 ?qk69 ?qk79 ?qk89 ?qk99 ?qkB9 ?_ ?qc29 ?qc39 ?qc49 ?qc59; (case qkA9 => exact rfl); (case qkF9 => exact rfl); (case qkK9 => assumption); (case qk19 => k_asm); (case qk29 => k_asm); (case qk39 => k_asm); (case qk49 => k_asm); (case qk59 => k_asm); (case qkS9 => assumption); (case qk69 => k_is); (case qk79 => k_is); (case qk89 => ktr_room); (case qk99 => exact BindsTo.of_eq rfl); (case qc59 => decide); (case qkB9 => exact locs rfl); (case qc29 => exact rfl); (case qc39 => exact rfl); (case qc49 => exact rfl); k_whole; intro g' L' h' FG' F' N' B' X' T' l1 kept' all' lL'; (try dsimp only); (try k_lt l1); (try k_lift B'); (try k_fold))))
  intro w feed q sd many t1 t2 vs ns n1 n2 news g1 g2 U1 U2 hne hI hns hmany p loose mean mg mb dp un gd cn cs a ccd cl outer A₀ base h₀ L m s Q E B F X N T hk hd hu hret
  have hf := UpdF.at U1
  have hq : (q, listOf vs.toArray n2) ∈ news := by
    rcases UpdF.mem U1 _ (UpdF.at (U2 (listOf #[.int sd t1, .ref q] n1))) with e | e
    · exact absurd (congrArg Prod.fst e).symm hne
    · exact e.1
  have hsub : ∀ x ∈ [(feed, listOf #[.int sd t1, .ref q] n1), (q, listOf vs.toArray n2)], x ∈ news := by
    intro x hx
    simp only [List.mem_cons, List.not_mem_nil, or_false] at hx
    rcases hx with e | e <;> rw [e] <;> assumption
  refine wpAny_call ?_
  k_dflt k_extra "ja part"
  k_steps
  · cases hI with
    | nil => exact absurd (by assumption : 0 < List.length (α := Int) []) (Nat.lt_irrefl 0)
    | @cons n t vs ns hI =>
      k_dflt (refine' kl_popAt (k := 0) (p := []) (y := .int n t) (q := vs) ?F ?N ?f ?k ?e ?U ?z ?_; (case F => k_asm); (case N => k_asm); (case U => k_upd); (case f => rfl); (case e => rfl))
      case k => simp [seqIndex?]
      case z => simp only [List.length_cons, sizeLine_eq] at *; have := hI.length; omega
      intro h' F' N'
      (try dsimp only [List.nil_append, List.cons_append] at N')
      k_steps
      refine' hret _ _ _ _ ?a ?b ?c
      case b => k_asm
      case c => exact Kept.two U1 U2 (Kept.up (Kept.of N (by assumption)) (by assumption)) (by assumption)
      case a => exact ⟨_, _, _, _, _, _, _, _, rfl, fmod_lo _ hmany, fmod_hi _ hmany, hI, by simp only [List.length_cons] at hns; omega, rfl⟩
  · refine' hret _ _ _ _ ?a ?b ?c
    case b => k_asm
    case c => exact Kept.two U1 U2 (Kept.up (Kept.of N (by assumption)) (by assumption)) (by assumption)
    case a => exact ⟨_, _, _, _, _, _, _, _, rfl, fmod_lo _ hmany, fmod_hi _ hmany, hI, hns, rfl⟩
end Ja
end

section
set_option maxHeartbeats 4000000
namespace Ja
open PySem PySem.W PySem.Calls PyProof.Rows


theorem in_nil : KBa.In [] := fun _ h => nomatch h
theorem in_turn {found : List Int} {x : Int} (h : KBa.In found) : KBa.In (found ++ [Int.fmod x 256]) := by
  intro y hy
  rcases List.mem_append.mp hy with q | q
  · exact h y q
  · rw [List.mem_singleton.mp q]; exact ⟨fmod_lo x (by decide), fmod_hi x (by decide)⟩
theorem len_turn {α β : Type} {found : List α} {pre : List β} {a : α} {b : β} (h : found.length = pre.length) : (found ++ [a]).length = (pre ++ [b]).length := by simp [h]

local macro_rules | `(tactic| kba_size) => `(tactic| ((simp only [rangeKs_length] at *); omega))
theorem octets_call : ∀ (w : World) (feed q : Addr) (sd size : Int) (t1 t2 : Tok) (vs : List Value) (ns : List Int) (n1 n2 : Nat) (news : List (Addr × Obj)) (g1 : Obj → List (Addr × Obj)) (g2 : Obj → Obj → List (Addr × Obj)), 
    UpdF feed (listOf #[.int sd t1, .ref q] n1) news g1 → (∀ o, UpdF q (listOf vs.toArray n2) (g1 o) (g2 o)) → (@Ne Nat feed q) → IntsAre vs ns → ns.length ≤ 63 → 2 ≤ size → size ≤ 40 →
    CallsTo 4 w (Ja.head.heap_39 w.params) (.ref 84) [.ref feed, .int size t2] news (fun L r news' => ∃ b t sd' t' vs' ns' n1' n2', r = .bytes b t ∧ (b.size : Int) = size ∧ IntsAre vs' ns' ∧ ns'.length ≤ 63 ∧ news' = g2 (listOf #[.int sd' t', .ref q] n1') (listOf vs'.toArray n2')) := by
  k_with_none
  (k_with "ja part" => ((refine' enter_part_K ?qk19 ?qk29 ?qk39 ?qk49 ?qk59 ?qkS9 ?qkA9 ?qkF9 ?qkK9 ?qk69 ?qk79 ?qk89 ?qk99 ?qkB9 ?_ ?qc29 ?qc39 ?qc49 ?qc59; (case qkA9 => exact rfl); (case qkF9 => exact rfl); (case qkK9 => assumption); (case qk19 => k_asm); (case qk29 => k_asm); (case qk39 => k_asm); (case qk49 => k_asm); (case qk59 => k_asm); (case qkS9 => assumption); (case qk69 => k_is); (case qk79 => k_is); (case qk89 => ktr_room); (case qk99 => exact BindsTo.of_eq rfl); (case qc59 => decide); (case qkB9 => exact locs rfl); (case qc29 => exact rfl); (case qc39 => exact rfl); (case qc49 => exact rfl); k_whole; intro g' L' h' FG' F' N' B' X' T' l1 kept' all' lL'; (try dsimp only); (try k_lt l1); (try k_lift B'); (try k_fold))))
  (k_with "ja many" => (first | assumption | decide | omega | exact Int.pow_pos (by decide)))
  (k_with "call ref" => ((
      k_here
      (with_reducible show wpAny _ _ (call (Value.ref 77) _) _ _ _)
      k_dflt (
        refine' CallsTo.use (draw_call _ _ _ _ _ _ _ _ _ _ _ _ _ _ ?qu19 ?qu29 ?qne9 ?qhI9 ?qhl9 ?qhm9) ?qB9 ?qF9 ?qX9 ?qN9 ?qT9 ?qK9 ?qd9 ?qu9 ?_
        (case qB9 => k_asm)
        (case qF9 => k_asm)
        (case qX9 => k_asm)
        (case qN9 => k_asm)
        (case qT9 => k_asm)
        (case qK9 => first | exact rfl | assumption)
        (case qu19 => k_updF)
        (case qu29 => (intro o9; (try dsimp only); k_updF))
        (case qne9 => (refine neN ?_; omega))
        (case qhI9 => assumption)
        (case qhl9 => first | assumption | omega)
        (case qhm9 => k_extra "ja many")
        (case qd9 => ktr_room)
        (case qu9 => ktr_units)
        k_whole)
      intro r9 news9 h9 tk9 hR9 F9 N9
      obtain ⟨d9, t9, sd9, ts9, vs9, ns9, n19, n29, hr9, hd0, hd1, hI9, hl9, hn9⟩ := hR9
      subst hr9
      subst hn9
      (try dsimp only at N9)
      (try dsimp only)
      (try k_sweep))))
  intro w feed q sd size t1 t2 vs ns n1 n2 news g1 g2 U1 U2 hne hI hns hs2 hs40 p loose mean mg mb dp un gd cn cs a ccd cl outer A₀ base h₀ L m s Q E B F X N T hk hd hu hret
  have hf := UpdF.at U1
  have hq : (q, listOf vs.toArray n2) ∈ news := by
    rcases UpdF.mem U1 _ (UpdF.at (U2 (listOf #[.int sd t1, .ref q] n1))) with e | e
    · exact absurd (congrArg Prod.fst e).symm hne
    · exact e.1
  have hsub : ∀ x ∈ [(feed, listOf #[.int sd t1, .ref q] n1), (q, listOf vs.toArray n2)], x ∈ news := by
    intro x hx
    simp only [List.mem_cons, List.not_mem_nil, or_false] at hx
    rcases hx with e | e <;> rw [e] <;> assumption
  refine wpAny_call ?_
  k_dflt k_extra "ja part"
  (k_with "pyIter ref" => k_state (fun pre found number => found.length = pre.length ∧ KBa.In found) "found" "number")
  (k_with "state" => first | exact ⟨rfl, in_nil⟩ | exact ⟨len_turn (by assumption), in_turn (by assumption)⟩)
  k_steps
  k_with_none
  all_goals (
    refine' hret _ _ _ _ ?a ?b ?c
    case b => k_asm
    case c => exact Kept.two U1 U2 (Kept.up (Kept.of N (by assumption)) (by assumption)) (News.tail' (by assumption))
    case a =>
      refine ⟨_, _, _, _, _, _, _, _, rfl, ?_, by assumption, by assumption, rfl⟩
      rw [byteArr_size]
      simp only [rangeKs_length] at *
      omega)
end Ja
end

section
set_option maxHeartbeats 4000000
namespace Ja
open PySem PySem.W PySem.Calls PyProof.Rows


/-- The def that _law_stretcher makes. -/
def strDef : PySem.Stmt := match PySem.Challenge.pw_ja0049_01.main.body[17]? with
  | some (PySem.Stmt.FunctionDef _ _ b _ _ _ _ _ _ _) => b.headD default
  | _ => default
def strParams : Arguments := match strDef with
  | PySem.Stmt.FunctionDef _ a _ _ _ _ _ _ _ _ => a
  | _ => default
def strBody : List Stmt := match strDef with
  | PySem.Stmt.FunctionDef _ _ b _ _ _ _ _ _ _ => b
  | _ => []
def strScope : Scope := match strDef with
  | PySem.Stmt.FunctionDef _ _ _ _ _ _ s _ _ _ => s
  | _ => default
def strName : Str := Str.ofString "stretch"
def strQual : Str := Str.ofString "_law_stretcher.<locals>.stretch"
/-- The function object: cF the cell of first, cC the cell of calls, c' its code. -/
def strObj (cF cC : Addr) (doc pm : Value) (c' : Addr) (ctv : Value) : Obj :=
  fnMade strName strQual strParams strBody strScope [(Str.ofString "first", cF), (Str.ofString "calls", cC)] doc pm c' ctv

local macro_rules | `(tactic| k_updF) => `(tactic| assumption)
local macro_rules | `(tactic| k_mem) => `(tactic| assumption)

theorem below_succ {news : List (Addr × Obj)} {n : Addr} (h : ∀ p ∈ news, p.1 < n) : ∀ p ∈ news, p.1 < n + 1 := fun p hp => Nat.lt_succ_of_lt (h p hp)

theorem stretcher_first : ∀ (w : World) (first : Int) (callsA : Addr) (t : Tok) (news : List (Addr × Obj)) (g : Obj → List (Addr × Obj)), UpdF 86 (tabObj #[]) news g →
    CallsTo 4 w (Ja.head.heap_39 w.params) (.ref 91) [.int first t, .ref callsA] news (fun L r news' => ∃ f cF cC doc pm c' ctv oF oC oc vs tq, r = .ref f ∧
      news' = (f, strObj cF cC doc pm c' ctv) :: (c', oc) :: (cC, oC) :: (cF, oF) :: g (tabObj #[rawInt 65, rawInt 4, .ref c']) ∧
      oF.data = .cell (some (.int first t)) ∧ oC.data = .cell (some (.ref callsA)) ∧ oc.data = .fields vs ∧ vs[1]? = some (.str strQual tq) ∧ (∀ p ∈ news, p.1 < cF) ∧ @LT.lt Nat _ cF cC ∧ @LT.lt Nat _ cC c' ∧ @LT.lt Nat _ c' f) := by
  k_with_none
  (k_with "ja enterC" => ((refine' code_defC ?qk19 ?qk29 ?qk39 ?qk49 ?qk59 ?qkA9 ?qkF9 ?qkK9 ?qk69 ?qk79 ?qk89 ?qk99 ?qkB9 ?qkD9 ?_ ?qc29 ?qc39 ?qc49; (case qkA9 => exact rfl); (case qkF9 => exact rfl); (case qkK9 => assumption); (case qk19 => k_asm); (case qk29 => k_asm); (case qk39 => k_asm); (case qk49 => k_asm); (case qk59 => k_asm); (case qk69 => k_is); (case qk79 => k_is); (case qk89 => ktr_room); (case qk99 => exact BindsTo.of_eq rfl); (case qkB9 => exact rfl); (case qkD9 => decide +kernel); (case qc29 => exact rfl); (case qc39 => exact rfl); (case qc49 => exact rfl); k_whole; intro g' L' h' tk' cells' FG' F' N' Y' B' X' T' l1; (have l9 := ltN (l1 _ (by assumption))); (try dsimp only at l9); (have hC9 := codeHd_of_K (c := 90) (P := 86) X' (by kernel_rfl)); k_cells Y'; (try simp only [List.cons_append, List.nil_append] at N'); (try dsimp only); (try k_lift B'); (try k_fold))))
  intro w first callsA t news g U p loose mean mg mb dp un gd cn cs a ccd cl outer A₀ base h₀ L m s Q E B F X N T hk hd hu hret
  have h86 := UpdF.at U
  refine wpAny_call ?_
  k_dflt k_extra "ja enterC"
  k_steps
  refine' hret _ _ _ _ ?a ?b ?c
  case b => k_asm
  case c => assumption
  case a =>
    refine ⟨_, _, _, _, _, _, _, _, _, _, _, _, rfl, rfl, by assumption, by assumption, by assumption, by assumption, below_succ (by assumption), Nat.lt_succ_self _, ?_, by assumption⟩
    refine ltN ?_
    omega

theorem stretcher_next : ∀ (w : World) (first : Int) (callsA c' : Addr) (t : Tok) (news : List (Addr × Obj)), (86, tabObj #[rawInt 65, rawInt 4, .ref c']) ∈ news →
    CallsTo 4 w (Ja.head.heap_39 w.params) (.ref 91) [.int first t, .ref callsA] news (fun L r news' => ∃ f cF cC doc pm ctv oF oC, r = .ref f ∧
      news' = (f, strObj cF cC doc pm c' ctv) :: (cC, oC) :: (cF, oF) :: news ∧
      oF.data = .cell (some (.int first t)) ∧ oC.data = .cell (some (.ref callsA)) ∧ (∀ p ∈ news, p.1 < cF) ∧ @LT.lt Nat _ cF cC ∧ @LT.lt Nat _ cC f) := by
  k_with_none
  (k_with "ja enterC" => ((refine' code_defC ?qk19 ?qk29 ?qk39 ?qk49 ?qk59 ?qkA9 ?qkF9 ?qkK9 ?qk69 ?qk79 ?qk89 ?qk99 ?qkB9 ?qkD9 ?_ ?qc29 ?qc39 ?qc49; (case qkA9 => exact rfl); (case qkF9 => exact rfl); (case qkK9 => assumption); (case qk19 => k_asm); (case qk29 => k_asm); (case qk39 => k_asm); (case qk49 => k_asm); (case qk59 => k_asm); (case qk69 => k_is); (case qk79 => k_is); (case qk89 => ktr_room); (case qk99 => exact BindsTo.of_eq rfl); (case qkB9 => exact rfl); (case qkD9 => decide +kernel); (case qc29 => exact rfl); (case qc39 => exact rfl); (case qc49 => exact rfl); k_whole; intro g' L' h' tk' cells' FG' F' N' Y' B' X' T' l1; (have l9 := ltN (l1 _ (by assumption))); (try dsimp only at l9); (have hC9 := codeHd_of_K (c := 90) (P := 86) X' (by kernel_rfl)); k_cells Y'; (try simp only [List.cons_append, List.nil_append] at N'); (try dsimp only); (try k_lift B'); (try k_fold))))
  intro w first callsA c' t news h86 p loose mean mg mb dp un gd cn cs a ccd cl outer A₀ base h₀ L m s Q E B F X N T hk hd hu hret
  refine wpAny_call ?_
  k_dflt k_extra "ja enterC"
  k_steps
  refine' hret _ _ _ _ ?a ?b ?c
  case b => k_asm
  case c => assumption
  case a =>
    refine ⟨_, _, _, _, _, _, _, _, rfl, rfl, by assumption, by assumption, below_succ (by assumption), Nat.lt_succ_self _, ?_⟩
    refine ltN ?_
    omega
end Ja
end

section
namespace Ja
open PySem PySem.W PySem.Calls PyProof.Rows

/-- The frame's names once its arguments are laid. -/
def laid : List (Str × Value) → (Str → Option Value) → Str → Option Value
  | [], m => m
  | (n, v) :: r, m => laid r (fun y => if y = n then some v else m y)

theorem lay_locals {M : Model} {A : Around} {E : Value → Shared → Prop} {env : Env} (f : Str × Value → PUnit → Sem (ForInStep PUnit)) (hf : ∀ n v u, f (n, v) u = (do storeName env n v; pure (.yield ⟨⟩))) (hk : env.scope.kind = .function) :
    ∀ (binds : List (Str × Value)) (m : Str → Option Value) (s : Shared) (Q : PUnit → Shared → Prop), (∀ x ∈ binds, env.kindOf x.1 = some .local) → s.heap.Ns env.locals m →
      (∀ h' tk, h'.Ns env.locals (laid binds m) → Heap.SameBut env.locals s.heap h' → Q ⟨⟩ { s with heap := h', toks := tk }) → wpAny M A (forIn binds ⟨⟩ f) Q E s
  | [], m, s, Q, _, hn, h => by
    rw [List.forIn_nil]
    exact wpAny_pure (h s.heap s.toks hn (.refl ..))
  | (n, v) :: r, m, s, Q, hl, hn, h => by
    rw [List.forIn_cons, hf]
    refine wpAny_bind (wpAny_bind (wpAny_storeName_local (hl _ (.head _)) hn (fun h' hn' hs' => wpAny_pure ?_) (by rw [hk]; rfl)))
    exact lay_locals f hf hk r _ _ Q (fun x hx => hl x (.tail _ hx)) hn' fun h'' tk hn'' hs'' => h h'' tk hn'' (hs'.trans hs'')

theorem newEnv_both {M : Model} {A : Around} {E : Value → Shared → Prop} {s : Shared} {scope : Scope} {globals : Addr} {closure : List (Str × Addr)} {binds : List (Str × Value)} {qual : Str} {func : Option Addr} {code : Value} {builtins : Addr} {Q : Env → Shared → Prop}
    (hk : scope.kind = .function) (hloc : ∀ x ∈ binds, scope.names.lookup x.1 = some .local)
    (hQ : ∀ h' tk, h'.Ns s.heap.objs.size (laid binds fun _ => none) → Heap.SameBut s.heap.objs.size (pushCells (s.heap.push { cls := .type "frame", data := .dict #[] }) scope.names) h' →
      Q (newEnv scope s.heap.objs.size globals (cellsFrom (s.heap.objs.size + 1) scope.names closure) qual func code none builtins) { s with heap := h', toks := tk }) :
    wpAny M A (newFunctionEnv scope globals closure binds qual func code none builtins) Q E s := by
  simp only [newFunctionEnv, Option.isSome_none, Bool.false_eq_true, if_false]
  refine wpAny_bind (wpAny_alloc ?_)
  refine wpAny_bind (wpAny_layCells _ (fun name kind cells => by cases hkc : kind == NameKind.cell <;> simp [hkc]) _ _ _ _ ?_)
  rw [show ({ s with heap := s.heap.push { cls := .type "frame", data := .dict #[] } } : Shared).heap.objs.size = s.heap.objs.size + 1 from Heap.size_push ..]
  refine wpAny_bind (lay_locals (env := newEnv scope s.heap.objs.size globals (cellsFrom (s.heap.objs.size + 1) scope.names closure) qual func code none builtins)
    _ (fun _ _ _ => rfl) hk binds (fun _ => none) _ _ hloc ((Heap.Ns.new s.heap (.type "frame")).keeps (pushCells_keeps _ _)) fun h' tk hn hs => wpAny_pure (hQ h' tk hn hs))

section
variable {prog : Program} {w : World} {A₀ A : Around} {s : Shared} {base h₀ : Heap} {outer : List Env} {L : Addr} {m mg mb : Str → Option Value} {env : Env} {news sub : List (Addr × Obj)} {K : Frag} {p : Program} {loose : List Str} {mean : ExcName → Option Value}
  {R : Result → Shared → Prop} {name qual : Str} {params : Arguments} {body : List Stmt} {scope : Scope} {cl : List (Str × Addr)} {dV kV doc pm cdv ct : Value} {an : Option Addr} {fo : Obj} {f : Addr} {args : Args} {binds : List (Str × Value)} {x : Str}

/-- A def with a closure and one cell of its own (unset as yet) is entered with a part of the ledger. -/
theorem enter_both (B : Below A₀ base outer h₀) (F : Fr h₀ L s.heap m) (X₀ : K.In h₀) (N : News h₀ L s.heap news) (T : Top p loose mean mg mb h₀) (hsub : ∀ q ∈ sub, q ∈ news)
    (hA : A.frames = some (env :: outer)) (hf : env.frame = some L) (hke : env.scope.kind = .function)
    (ho : s.heap.get? f = some fo) (hd : fo.data = .func (fnX name qual params body scope cl dV kV doc pm an cdv ct)) (hcd : s.heap.CodeRec cdv qual) (hroom : A.depth < recursionLimit)
    (hbind : BindsTo s (fnX name qual params body scope cl dV kV doc pm an cdv ct) args binds) (hloc : ∀ y ∈ binds, scope.names.lookup y.1 = some .local)
    (hone : ∀ h : Heap, pushCells h scope.names = h.push { cls := .type "cell", data := .cell none }) (hcl : ∀ n, cellsFrom n scope.names cl = (x, n) :: cl)
    (h : ∀ g L' h₁ tk o, Fr h₀ L g m → Fr g L' h₁ (laid binds fun _ => none) → News g L' h₁ ((L' + 1, o) :: sub) → o.data = .cell none → Below A base (env :: outer) g → K.In g → Top p loose mean mg mb g → (∀ q ∈ sub, q.1 < L') →
      (∀ q ∈ news, q.1 ∉ sub.map (·.1) → g.get? q.1 = some q.2) → (∀ q ∈ news, q.1 < L') → @LT.lt Nat _ L L' →
      wpAny (model prog w) (A.deeper (envX qual scope L' f cdv ((x, L' + 1) :: cl))) (execs body (envX qual scope L' f cdv ((x, L' + 1) :: cl)))
        (fun fl s' => LeaveK h₀ L m g R (match fl with | .ret v => v | _ => .none) s')
        (fun e s' => wpAny (model prog w) (A.deeper (envX qual scope L' f cdv ((x, L' + 1) :: cl))) (leaving (envX qual scope L' f cdv ((x, L' + 1) :: cl)) e) (fun _ s'' => R (.error e) s'') (fun e' s'' => R (.error e') s'') s')
        { s with heap := h₁, toks := tk })
    (hco : scope.isCoroutine = false) (hgen : scope.isGenerator = false) (hk : scope.kind = .function) : codeAny (model prog w) A (.call (.ref f) args) R s := by
  have NS : News h₀ L s.heap sub := fun q hq => N q (hsub q hq)
  obtain ⟨FG, BG, st, lv⟩ := groundX (R := R) B F NS hA hf hke
  refine codeAny_call_function hroom ho hd hco hgen rfl hcd (hbind _ _ _ _ ?_)
  refine newEnv_both hk hloc fun h₁ tk hns hsb => ?_
  rw [hone] at hsb
  rw [hcl]
  have up : ∀ b o, s.heap.get? b = some o → h₁.get? b = some o := fun b o e =>
    (hsb.2 b (Nat.ne_of_lt (Heap.lt_size e))).trans (Heap.get?_push_of_some _ (Heap.get?_push_of_some _ e))
  refine ⟨(T.nolimit.keeps F.keep).keeps up, codeAny_func ?_⟩
  have hc : h₁.get? (s.heap.objs.size + 1) = some { cls := .type "cell", data := .cell none } := by
    refine (hsb.2 _ (Nat.succ_ne_self _)).trans ?_
    have := Heap.get?_push_size (s.heap.push { cls := .type "frame", data := .dict #[] }) (o := { cls := .type "cell", data := .cell none }) rfl
    rwa [Heap.size_push] at this
  have fresh : ∀ b, s.heap.objs.size ≤ b → (hideAll s.heap (sub.map (·.1))).get? b = none := fun b hb => Heap.get?_none_of_le (Nat.le_trans (Nat.le_of_eq (hideAll_size _ _)) hb)
  have N₁ : News (hideAll s.heap (sub.map (·.1))) s.heap.objs.size h₁ ((s.heap.objs.size + 1, { cls := .type "cell", data := .cell none }) :: sub) := fun q hq => by
    rcases List.mem_cons.mp hq with e | hq
    · rw [e]
      exact ⟨hc, Nat.succ_ne_self _, fresh _ (Nat.le_succ _)⟩
    · exact ⟨up _ _ (NS q hq).1, Nat.ne_of_lt (Heap.lt_size (NS q hq).1), hideAll_none _ (List.mem_map_of_mem hq)⟩
  have go := h _ s.heap.objs.size h₁ tk _ FG ⟨hns, fun b o e => up b o (of_hideAll _ e), Nat.le_of_eq (hideAll_size _ _)⟩ N₁ rfl BG (X₀.keeps st) (T.keeps st) (fun q hq => Heap.lt_size (NS q hq).1) (fun q hq hn => hideAll_get _ (N q hq).1 hn) (fun q hq => Heap.lt_size (N q hq).1) F.ns.lt
  exact wpAny_mono go (fun fl s' hl => lv _ _ hl) fun _ _ e => e
end
theorem Kept.less {h₀ h h' : Heap} {L d : Addr} {o : Obj} {news rest : List (Addr × Obj)} (N : News h₀ L h news) (hsub : ∀ q ∈ (d, o) :: rest, q ∈ news) (hk : Kept h₀ L h' news (((d, o) :: rest).map (·.1))) (NR : News h₀ L h' rest) : Kept h₀ L h' news [d] := by
  intro q hq hn
  by_cases hm : q.1 ∈ ((d, o) :: rest).map (·.1)
  · obtain ⟨e, he, hq1⟩ := List.mem_map.mp hm
    rcases List.mem_cons.mp he with z | z
    · rw [z] at hq1
      exact absurd (List.mem_singleton.mpr hq1.symm) hn
    · have a := (N e (hsub e he)).1
      rw [hq1, (N q hq).1] at a
      have b := NR e z
      rw [hq1] at b
      rw [Option.some.inj a]
      exact b
  · exact hk q hq hm
theorem lt_of_all {news : List (Addr × Obj)} {a b : Addr} (h : ∀ q ∈ news, q.1 < a) (hb : @LT.lt Nat _ (a + 1) b) : ∀ q ∈ news, q.1 < b := fun q hq => Nat.lt_trans (Nat.lt_trans (h q hq) (Nat.lt_succ_self a)) hb
end Ja
end

section
set_option maxHeartbeats 4000000
namespace Ja
open PySem PySem.W PySem.Calls PyProof.Rows


def strT (first : Int) (ws ss : List Int) (rounds : Int) : Int := (ws ++ ss).foldl (fun a k => Int.fmod (a * 31 + k + 1) 65521) (first + Int.fmod rounds 65521)
def strF (first : Int) (ws ss : List Int) (rounds size : Int) : List Int := (rangeKs 0 (size - 0).toNat).map fun k => Int.fmod (Int.fdiv (strT first ws ss rounds * (k + 3) + k * k + first) 7) 256

section
variable {prog : Program} {w : World} {A : Around} {E : Value → Shared → Prop} {s : Shared} {a k size : Int} {t u : Tok} {Q : Value → Shared → Prop}
theorem mul_lit {b : Int} (h1 : Builtin.Int.intBits b ≤ 64) (h : Q (Value.int (a * b) s.toks) { s with toks := s.toks + 1 }) : wpAny (model prog w) A (binaryOp Operator.Mult (Value.int a t) (Value.int b u)) Q E s := mul_int h (IntMulOk.of_right h1)
theorem mul_T {b : Int} (h0 : 0 ≤ a) (h1 : a < 70000) (h : Q (Value.int (a * b) s.toks) { s with toks := s.toks + 1 }) : wpAny (model prog w) A (binaryOp Operator.Mult (Value.int a t) (Value.int b u)) Q E s :=
  mul_int h (IntMulOk.of_left (intBits_le_64 (by omega) (by omega)))
theorem mul_k (h0 : 0 ≤ k) (h1 : k < 0 + ((size - 0).toNat : Int)) (h2 : size ≤ 40) (h : Q (Value.int (a * k) s.toks) { s with toks := s.toks + 1 }) : wpAny (model prog w) A (binaryOp Operator.Mult (Value.int a t) (Value.int k u)) Q E s :=
  mul_int h (IntMulOk.of_right (intBits_le_64 (by omega) (by omega)))
end
theorem fr_but {h₀ h : Heap} {L : Addr} {m m₀ : Str → Option Value} {x : Str} (hm : ∀ z, z ≠ x → m z = m₀ z) (F : Fr h₀ L h m) : Fr h₀ L h (fun y => if y = x then m y else m₀ y) := by
  have e : m = fun y => if y = x then m y else m₀ y := by
    funext y
    by_cases h : y = x
    · simp [h]
    · simp [h, hm y h]
  exact Eq.subst (motive := fun z => Fr h₀ L h z) e F
theorem strT_in {first rounds : Int} {ws ss : List Int} (h0 : 0 ≤ first) (h1 : first < 1000) : 0 ≤ strT first ws ss rounds ∧ strT first ws ss rounds < 70000 := by
  have key : ∀ (l : List Int) (a : Int), 0 ≤ a ∧ a < 70000 → 0 ≤ l.foldl (fun a k => Int.fmod (a * 31 + k + 1) 65521) a ∧ l.foldl (fun a k => Int.fmod (a * 31 + k + 1) 65521) a < 70000 := by
    intro l
    induction l with
    | nil => exact fun a h => h
    | cons k l ih =>
      intro a _
      refine ih _ ⟨fmod_lo _ (by decide), ?_⟩
      have := fmod_hi (a * 31 + k + 1) (n := 65521) (by decide)
      show Int.fmod (a * 31 + k + 1) 65521 < 70000
      omega
  refine key _ _ ?_
  have a := fmod_lo rounds (n := 65521) (by decide)
  have b := fmod_hi rounds (n := 65521) (by decide)
  omega
theorem News.cons_of {h₀ h : Heap} {L : Addr} {q : Addr × Obj} {news : List (Addr × Obj)} (a : News h₀ L h [q]) (b : News h₀ L h news) : News h₀ L h (q :: news) := fun p hp => by
  rcases List.mem_cons.mp hp with e | e
  · rw [e]; exact a q (.head _)
  · exact b p e
theorem ne_data {h₀ h : Heap} {L : Addr} {news : List (Addr × Obj)} {a b : Addr} {o u : Obj} (N : News h₀ L h news) (ha : (a, o) ∈ news) (hb : (b, u) ∈ news) (h : o.data ≠ u.data) : @Ne Nat a b :=
  N.twoPlaces ha hb fun e => h (congrArg Obj.data e)

/-- What a call of the function notes. -/
def tupOf (word : Array UInt8) (tw : Tok) (salt : Array UInt8) (ts : Tok) (rounds : Int) (tr : Tok) (size : Int) (tz : Tok) : Obj :=
  { cls := .type "tuple", data := .seq #[.bytes word tw, .bytes salt ts, .int rounds tr, .int size tz] }

theorem stretch_call : ∀ (w : World) (f cF cC c' callsA : Addr) (doc pm ctv : Value) (oF oC oc : Obj) (vs : Array Value) (tq tF : Tok) (first : Int) (word salt : Array UInt8) (tw ts tr tz : Tok) (rounds size : Int) (ws ss : List Int) (its : List Value) (n1 : Nat) (news : List (Addr × Obj)) (g : Obj → List (Addr × Obj)),
    (f, strObj cF cC doc pm c' ctv) ∈ news → (c', oc) ∈ news → oc.data = .fields vs → vs[1]? = some (.str strQual tq) → (cF, oF) ∈ news → oF.data = .cell (some (.int first tF)) → (cC, oC) ∈ news → oC.data = .cell (some (.ref callsA)) →
    UpdF callsA (listOf its.toArray n1) news g → KBw.bInts word = ws → KBw.bInts salt = ss → ws.length ≤ 40 → ss.length ≤ 60 → 0 ≤ first → first < 1000 → 0 ≤ size → size ≤ 40 → its.length ≤ 40 →
    CallsTo 4 w (Ja.head.heap_39 w.params) (.ref f) [.bytes word tw, .bytes salt ts, .int rounds tr, .int size tz] news (fun L r news' => ∃ b t tup n2, r = .bytes b t ∧ KBw.bInts b = strF first ws ss rounds size ∧ news' = (tup, tupOf word tw salt ts rounds tr size tz) :: g (listOf (its ++ [Value.ref tup]).toArray n2) ∧ (∀ q ∈ news, q.1 < tup) ∧ @LT.lt Nat _ L tup) := by
  k_with_none
  (k_with "exec For Name BinOp cons nil" => ((k_here; (rename Fr _ _ _ _ => lF'); (with_unfolding_all refine' For_invVF lF' ?qk19 ?qk29 ?_; (case qk19 => exact rfl); (case qk29 => exact rfl); k_whole))))
  (k_with "binaryOp Mult int int" => (first
      | (with_reducible (refine' mul_lit ?qja19 ?_); (case qja19 => decide))
      | (with_reducible (refine' mul_T ?qja19 ?qja29 ?_); (case qja19 => with_reducible assumption); (case qja29 => with_reducible assumption))
      | (with_reducible (refine' mul_k ?qja19 ?qja29 ?qja39 ?_); (case qja19 => with_reducible assumption); (case qja29 => with_reducible assumption); (case qja39 => with_reducible assumption))))
  intro w f cF cC c' callsA doc pm ctv oF oC oc vs tq tF first word salt tw ts tr tz rounds size ws ss its n1 news g hf hc' hoc hvs hcF hoF hcC hoC U hw hs hwl hsl hf0 hf1 hz0 hz1 hil p loose mean mg mb dp un gd cn cs a ccd cl outer A₀ base h₀ L m s Q E B F X N T hk hd hu hret
  have hca := UpdF.at U
  have hsub : ∀ q ∈ [(callsA, listOf its.toArray n1), (f, strObj cF cC doc pm c' ctv), (c', oc), (cF, oF), (cC, oC)], q ∈ news := by
    intro q hq
    simp only [List.mem_cons, List.not_mem_nil, or_false] at hq
    rcases hq with e | e | e | e | e <;> rw [e] <;> assumption
  refine wpAny_call ?_
  refine enter_both (fo := strObj cF cC doc pm c' ctv) (x := Str.ofString "total") (binds := [(Str.ofString "word", .bytes word tw), (Str.ofString "salt", .bytes salt ts), (Str.ofString "rounds", .int rounds tr), (Str.ofString "size", .int size tz)]) B F X N T hsub rfl rfl hk (N.get hf) rfl (codeRec_news N hc' hoc hvs) ?room (BindsTo.of_eq rfl) (locs rfl) (fun _ => rfl) (fun _ => rfl) ?go rfl rfl rfl
  case room => ktr_room
  case go =>
    intro g' L' h' tk' o' FG' F' N' ho' B' X' T' l1 kept' all' lL'
    have n1' : @Ne Nat callsA f := ne_data N hca hf (fun e => by cases e)
    have n2' : @Ne Nat callsA c' := ne_data N hca hc' (fun e => by rw [hoc] at e; cases e)
    have n3' : @Ne Nat callsA cF := ne_data N hca hcF (fun e => by rw [hoF] at e; cases e)
    have n4' : @Ne Nat callsA cC := ne_data N hca hcC (fun e => by rw [hoC] at e; cases e)
    have hC9 := codeHd_of_K (c := 90) (P := 86) X' (by kernel_rfl)
    k_lt l1
    k_lift B'
    have hB : strBody = strBody := rfl
    conv at hB => rhs; whnf
    have hS : strScope = strScope := rfl
    conv at hS => rhs; whnf
    rw [hB, hS]
    clear hB hS
    (try dsimp only)
    (try k_fold)
    k_steps
    rename Fr _ _ _ _ => Fn
    rename News _ _ _ _ => Nn0
    simp only [List.push_toArray] at Nn0
    obtain ⟨D0, Nn, lD⟩ : ∃ D0, News g' L' _ [(D0, tupOf word tw salt ts rounds tr size tz), (L' + 1, _), (callsA, listOf (its ++ [Value.ref D0]).toArray (n1 + 1)), (f, strObj cF cC doc pm c' ctv), (c', oc), (cF, oF), (cC, oC)] ∧ @LT.lt Nat _ (L' + 1) D0 ∧ @Ne Nat callsA D0 :=
      ⟨_, Nn0, And.left (by assumption), by omega⟩
    clear Nn0
    rename Obj.data _ = Data.cell _ => dT
    rename KBw.bInts (_ ++ _) = _ => hApp
    refine KBw.iter_bytesS (fun (a : Int) m1 nx => (∃ o t, o.data = .cell (some (.int a t)) ∧ nx = (D0, _) :: (L' + 1, o) :: [_, _, _, _, _]) ∧ ∀ z, z ≠ Str.ofString "octet" → m1 z = laid [(Str.ofString "word", .bytes word tw), (Str.ofString "salt", .bytes salt ts), (Str.ofString "rounds", .int rounds tr), (Str.ofString "size", .int size tz)] (fun _ => none) z) (fun a k => Int.fmod (a * 31 + k + 1) 65521) _ hApp rfl Fn Nn ⟨⟨_, _, dT, rfl⟩, fun _ _ => rfl⟩ ?turn ?done
    case turn =>
      intro k t a m1 nx h1 tk1 own hk0 hk1 hk2 hoff hR F1 N1
      obtain ⟨⟨o9, t9, ho9, hnx⟩, hm9⟩ := hR
      subst hnx
      simp only [List.cons_append, List.nil_append] at N1
      k_steps
      refine InvEndN.intro (by assumption) (by assumption) ⟨⟨_, _, by assumption, rfl⟩, fun z hz => (if_neg hz).trans (hm9 z hz)⟩ (by rfl) ?i1 ?i2
      case i1 => kcj_all
      case i2 => (intro p hp; k_ownIn)
    case done =>
      intro m1 nx h1 tk1 hR F1 N1
      obtain ⟨⟨o9, t9, ho9, hnx⟩, hm9⟩ := hR
      rw [hnx] at N1
      clear hnx
      have hT := strT_in (ws := ws) (ss := ss) (rounds := rounds) hf0 hf1
      replace ho9 : o9.data = .cell (some (.int (strT first ws ss rounds) t9)) := ho9
      obtain ⟨T, hTe⟩ : ∃ T, strT first ws ss rounds = T := ⟨_, rfl⟩
      rw [hTe] at ho9 hT
      obtain ⟨hT0, hT1⟩ := hT
      have F2 := fr_but (x := Str.ofString "octet") hm9 F1
      clear F1 Fn Nn hm9
      k_steps
      have hE : strF first ws ss rounds size = (rangeKs 0 (size - 0).toNat).map fun k => Int.fmod (Int.fdiv (T * (k + 3) + k * k + first) 7) 256 := by rw [← hTe]; rfl
      refine' hret _ _ _ _ ?a ?b ?c
      case b => k_asm
      case c =>
        refine' News.cons_of ?c1 ?c2
        case c1 => exact cb_drop (news := [(D0, tupOf word tw salt ts rounds tr size tz)]) (by assumption) (by kcj_all)
        case c2 => exact Kept.one U (Kept.less N hsub (Kept.up (Kept.of N kept') (by assumption)) (cb_drop (by assumption) (by kcj_all))) (cb_drop (by assumption) (by kcj_all))
      case a =>
        refine ⟨_, _, _, _, rfl, ?_, rfl, lt_of_all all' lD.1, Nat.lt_trans lL' (Nat.lt_trans (Nat.lt_succ_self _) lD.1)⟩
        rw [hE]
        exact KBa.ints_make (by assumption)
end Ja
end

section
set_option maxHeartbeats 4000000
namespace Ja
open PySem PySem.W PySem.Calls PyProof.Rows
open PySem.W.KBw (IsBytesIter)

section
variable {prog : Program} {w : World} {A : Around} {E : Value → Shared → Prop} {s : Shared}

theorem iter_extBut {h h' : Heap} {b it : Addr} {a : Array UInt8} {t : Tok} {i : Nat} (x : IsBytesIter h it a t i) (hs : Heap.ExtBut b h h') (hne : it ≠ b) : IsBytesIter h' it a t i :=
  let ⟨o, ho, r⟩ := x; ⟨o, hs it o hne ho, r⟩
theorem iter_at {h h' : Heap} {it : Addr} {a : Array UInt8} {t : Tok} {i : Nat} (x : IsBytesIter h it a t i) (hs : ∀ o, h.get? it = some o → h'.get? it = some o) : IsBytesIter h' it a t i :=
  let ⟨o, ho, r⟩ := x; ⟨o, hs o ho, r⟩

theorem nextOf_item {it : Addr} {b : Array UInt8} {t : Tok} {i : Nat} {c : UInt8} {Q : Value → Shared → Prop} (hit : IsBytesIter s.heap it b t i) (hx : b[i]? = some c)
    (hQ : ∀ h', IsBytesIter h' it b t (i + 1) → Heap.SameBut it s.heap h' → Q (.int (c.toNat : Int) s.toks) { s with heap := h', toks := s.toks + 1 }) :
    wpAny (model prog w) A (Builtin.SmallTypes.nextOf (.ref it)) Q E s := by
  obtain ⟨o, ho, hc, hd⟩ := id hit
  unfold Builtin.SmallTypes.nextOf
  refine wpAny_bind (wpAny_callSpecial?_slot (name := PySem.Str.ofString "__next__") (KBw.iter_typeIs hit) KBw.slot_next
    (wpAny_call_entry KBw.slot_next (KBw.iter_typeIs hit) KBw.entry_next ?_ (KBw.args_next _)))
  show wpAny _ _ (field (.ref it) 0 >>= _) _ _ s
  refine wpAny_bind (wpAny_field ho hd (x := .bytes b t) rfl ?_)
  show wpAny _ _ (if (Value.bytes b t == Value.none) = true then _ else _) _ _ s
  rw [if_neg (show ¬ ((Value.bytes b t == Value.none) = true) from Bool.false_ne_true)]
  show wpAny _ _ (field (.ref it) 1 >>= _) _ _ s
  refine wpAny_bind (wpAny_field ho hd (x := .int i 0) rfl ?_)
  refine wpAny_bind (wpAny_of_eq (a := b) rfl ?_)
  simp only [Int.toNat_natCast, hx]
  refine wpAny_bind (wpAny_setField ho hd (by simp) (wpAny_bind (wpAny_mkInt (wpAny_pure ⟨_, rfl, wpAny_pure (hQ _ ?_ (Heap.SameBut.update ..))⟩))))
  exact ⟨_, Heap.get?_update_self _ ho (Obj.isFreed_of_fields (Obj.data_mapFields hd _)), (Obj.cls_mapFields ..).trans hc, by
    rw [Obj.data_mapFields hd]; simp [rawInt]⟩

theorem nextOf_end {it : Addr} {b : Array UInt8} {t : Tok} {i : Nat} {Q : Value → Shared → Prop} (hh : A.handled = none) (hit : IsBytesIter s.heap it b t i) (hx : b[i]? = none)
    (hE : ∀ h' e, Heap.ExtBut it s.heap h' → (∃ o, h'.get? e = some o ∧ o.cls = .type "StopIteration") → E (.ref e) { s with heap := h' }) :
    wpAny (model prog w) A (Builtin.SmallTypes.nextOf (.ref it)) Q E s := by
  obtain ⟨o, ho, hc, hd⟩ := id hit
  unfold Builtin.SmallTypes.nextOf
  refine wpAny_bind (wpAny_callSpecial?_slot (name := PySem.Str.ofString "__next__") (KBw.iter_typeIs hit) KBw.slot_next
    (wpAny_call_entry KBw.slot_next (KBw.iter_typeIs hit) KBw.entry_next ?_ (KBw.args_next _)))
  show wpAny _ _ (field (.ref it) 0 >>= _) _ _ s
  refine wpAny_bind (wpAny_field ho hd (x := .bytes b t) rfl ?_)
  show wpAny _ _ (if (Value.bytes b t == Value.none) = true then _ else _) _ _ s
  rw [if_neg (show ¬ ((Value.bytes b t == Value.none) = true) from Bool.false_ne_true)]
  show wpAny _ _ (field (.ref it) 1 >>= _) _ _ s
  refine wpAny_bind (wpAny_field ho hd (x := .int i 0) rfl ?_)
  refine wpAny_bind (wpAny_of_eq (a := b) rfl ?_)
  simp only [Int.toNat_natCast, hx]
  refine wpAny_bind (wpAny_rule (wpAny_bind (wpAny_setField ho hd (by simp) ?_)))
  show wpAny _ _ (newExc (.type "StopIteration") [] >>= _) _ _ _
  refine wpAny_bind ?_
  simp only [newExc, newTuple]
  refine wpAny_bind (wpAny_newObj_type ?_ (by size_fits))
  refine wpAny_bind (m := firstArgMember _ _) (wpAny_of_eq (a := Value.none) (by first | rfl | (simp only [firstArgMember]; rfl)) ?_)
  refine wpAny_newObj_type ?_ (by size_fits)
  simp only [raiseNew]
  refine wpAny_bind (wpAny_handled ?_)
  rw [show A.in1.handled = none from hh]
  refine wpAny_bind (wpAny_pure (wpAny_throw ?_))
  exact hE _ _ (((Heap.SameBut.update ..).extBut.push _).push _) ⟨_, Heap.get?_push_size _ rfl, rfl⟩

structure Apart5 (z TI TO i1 i2 : Addr) : Prop where
  TIz : TI ≠ z
  TOz : TO ≠ z
  i1z : i1 ≠ z
  i2z : i2 ≠ z
  TITO : TI ≠ TO
  TIi1 : TI ≠ i1
  TIi2 : TI ≠ i2
  TOi1 : TO ≠ i1
  TOi2 : TO ≠ i2
  i12 : i1 ≠ i2

/-- A zip over two bytes, i of each read. -/
def ZipSt (z TI TO i1 i2 : Addr) (b1 : Array UInt8) (t1 : Tok) (b2 : Array UInt8) (t2 : Tok) (f0 : Value) (i : Nat) (h : Heap) : Prop :=
  IsZip h z TI TO f0 ∧ IsPair h TI (.ref i1) (.ref i2) ∧ (∃ a b, IsPair h TO a b) ∧ IsBytesIter h i1 b1 t1 i ∧ IsBytesIter h i2 b2 t2 i
theorem ZipSt.at {z TI TO i1 i2 : Addr} {b1 : Array UInt8} {t1 : Tok} {b2 : Array UInt8} {t2 : Tok} {f0 : Value} {i : Nat} {h h' : Heap} (x : ZipSt z TI TO i1 i2 b1 t1 b2 t2 f0 i h)
    (hk : ∀ b ∈ [z, TI, TO, i1, i2], ∀ o, h.get? b = some o → h'.get? b = some o) : ZipSt z TI TO i1 i2 b1 t1 b2 t2 f0 i h' := by
  obtain ⟨hz, hTI, ⟨a, b, hTO⟩, h1, h2⟩ := x
  exact ⟨hk z (by simp) _ hz, hk TI (by simp) _ hTI, ⟨a, b, hk TO (by simp) _ hTO⟩, iter_at h1 (hk i1 (by simp)), iter_at h2 (hk i2 (by simp))⟩

theorem zip_item {z TI TO i1 i2 : Addr} {b1 b2 : Array UInt8} {t1 t2 : Tok} {i : Nat} {c d : UInt8} {Q : Option Value → Shared → Prop} (D : Apart5 z TI TO i1 i2) (st : ZipSt z TI TO i1 i2 b1 t1 b2 t2 .none i s.heap) (hx : b1[i]? = some c) (hy : b2[i]? = some d)
    (hQ : ∀ T u v h' tk, T = s.heap.objs.size → ZipSt z TI TO i1 i2 b1 t1 b2 t2 (rawInt T) (i + 1) h' → IsPair h' T (.int (c.toNat : Int) u) (.int (d.toNat : Int) v) →
      (∀ b o, b ≠ z → b ≠ TO → b ≠ i1 → b ≠ i2 → s.heap.get? b = some o → h'.get? b = some o) → Q (some (.ref T)) { s with heap := h', toks := tk }) :
    wpAny (model prog w) A (pyNext (.ref z)) Q E s := by
  obtain ⟨hz, hTI, ⟨a, b, hTO⟩, h1, h2⟩ := st
  have hT : s.TypeIs (.ref z) "zip" := ⟨_, hz, rfl⟩
  unfold pyNext
  refine wpAny_bind (wpAny_attempt (wpAny_callSpecial?_slot (name := Str.ofString "__next__") hT F.slot_zip_next (wpAny_call_entry F.slot_zip_next hT F.entry_zip_next ?_ (F.args_zip_next_1 _))))
  show wpAny _ _ (field (.ref z) 2 >>= _) _ _ _
  refine wpAny_bind (wpAny_field hz rfl (x := .bool false) rfl ?_)
  show wpAny _ _ (field (.ref z) 3 >>= _) _ _ _
  refine wpAny_bind (wpAny_field hz rfl (x := .ref TI) rfl ?_)
  refine wpAny_bind (wpAny_seqItems hTI rfl ?_)
  show wpAny _ _ (Builtin.SmallTypes.ownedTupleIsFree (.ref z) >>= _) _ _ _
  refine wpAny_bind ?_
  unfold Builtin.SmallTypes.ownedTupleIsFree
  refine wpAny_bind (wpAny_field hz rfl (x := .none) rfl (wpAny_pure ?_))
  simp only [if_true]
  refine wpAny_bind (wpAny_rule ?_)
  refine wpAny_bind (wpAny_field hz rfl (x := .ref TO) rfl ?_)
  refine wpAny_bind (wpAny_setField_rec hz (by simp) fun h₁ hz₁ hs₁ => ?_)
  replace hz₁ : IsZip h₁ z TI TO .ellipsis := hz₁
  refine wpAny_bind ?_
  simp only [List.zipIdx_cons, List.zipIdx_nil, List.forIn_cons, List.forIn_nil]
  refine wpAny_bind (wpAny_bind (wpAny_onRaise ?_))
  show wpAny _ _ (Builtin.SmallTypes.nextOf (.ref i1) >>= _) _ _ _
  refine wpAny_bind (nextOf_item (iter_extBut h1 hs₁.extBut D.i1z) hx fun h₂ h1₂ hs₂ => wpAny_pure ?_)
  have hTO₂ : IsPair h₂ TO a b := hs₂.extBut _ _ D.TOi1 (hs₁.extBut _ _ D.TOz hTO)
  refine wpAny_bind (wpAny_seqItems hTO₂ rfl ?_)
  refine wpAny_bind (wpAny_updateSeq_pair hTO₂ fun h₃ hTO₃ hs₃ => ?_)
  replace hTO₃ : IsPair h₃ TO (.int (c.toNat : Int) s.toks) b := hTO₃
  refine wpAny_bind (wpAny_letGo (wpAny_pure ?_))
  refine wpAny_bind (wpAny_bind (wpAny_onRaise ?_))
  show wpAny _ _ (Builtin.SmallTypes.nextOf (.ref i2) >>= _) _ _ _
  refine wpAny_bind (nextOf_item (iter_extBut (iter_extBut (iter_extBut h2 hs₁.extBut D.i2z) hs₂.extBut D.i12.symm) hs₃.extBut D.TOi2.symm) hy fun h₄ h2₄ hs₄ => wpAny_pure ?_)
  have hTO₄ : IsPair h₄ TO (.int (c.toNat : Int) s.toks) b := hs₄.extBut _ _ D.TOi2 hTO₃
  refine wpAny_bind (wpAny_seqItems hTO₄ rfl ?_)
  refine wpAny_bind (wpAny_updateSeq_pair hTO₄ fun h₅ hTO₅ hs₅ => ?_)
  replace hTO₅ : IsPair h₅ TO (.int (c.toNat : Int) s.toks) (.int (d.toNat : Int) (s.toks + 1)) := hTO₅
  refine wpAny_bind (wpAny_letGo (wpAny_pure (wpAny_pure ?_)))
  refine wpAny_bind (wpAny_seqItems hTO₅ rfl ?_)
  refine wpAny_bind (wpAny_newTuple ?_)
  have hsz : h₅.objs.size = s.heap.objs.size := by rw [hs₅.1, hs₄.1, hs₃.1, hs₂.1, hs₁.1]
  have hz₅ : IsZip h₅ z TI TO .ellipsis := hs₅.extBut _ _ D.TOz.symm (hs₄.extBut _ _ D.i2z.symm (hs₃.extBut _ _ D.TOz.symm (hs₂.extBut _ _ D.i1z.symm hz₁)))
  have hk₅ : ∀ c o, c ≠ z → c ≠ TO → c ≠ i1 → c ≠ i2 → s.heap.get? c = some o → h₅.get? c = some o := fun c o c1 c2 c3 c4 e =>
    hs₅.extBut _ _ c2 (hs₄.extBut _ _ c4 (hs₃.extBut _ _ c2 (hs₂.extBut _ _ c3 (hs₁.extBut _ _ c1 e))))
  have h1₅ := iter_extBut (iter_extBut (iter_extBut h1₂ hs₃.extBut D.TOi1.symm) hs₄.extBut D.i12) hs₅.extBut D.TOi1.symm
  have h2₅ := iter_extBut h2₄ hs₅.extBut D.TOi2.symm
  have hzlt : z < h₅.objs.size := Heap.lt_size hz₅
  show wpAny _ _ (Builtin.SmallTypes.ownedTupleHandOut (.ref z) (.ref h₅.objs.size) >>= _) _ _ _
  refine wpAny_bind ?_
  unfold Builtin.SmallTypes.ownedTupleHandOut
  have hz₆ : IsZip (h₅.push { cls := .type "tuple", data := .seq #[.int (c.toNat : Int) s.toks, .int (d.toNat : Int) (s.toks + 1)] }) z TI TO .ellipsis := Heap.get?_push_of_some _ hz₅
  refine wpAny_bind (wpAny_setField_rec hz₆ (by simp) fun h₇ hz₇ hs₇ => ?_)
  replace hz₇ : IsZip h₇ z TI TO (rawInt h₅.objs.size) := hz₇
  refine wpAny_setField_rec hz₇ (by simp) fun h₈ hz₈ hs₈ => ?_
  replace hz₈ : IsZip h₈ z TI TO (rawInt h₅.objs.size) := hz₈
  have up : ∀ c o, c ≠ z → h₅.get? c = some o → h₈.get? c = some o := fun c o c1 e => hs₈.extBut _ _ c1 (hs₇.extBut _ _ c1 (Heap.get?_push_of_some _ e))
  have hT₈ : IsPair h₈ h₅.objs.size (.int (c.toNat : Int) s.toks) (.int (d.toNat : Int) (s.toks + 1)) := hs₈.extBut _ _ (Nat.ne_of_gt hzlt) (hs₇.extBut _ _ (Nat.ne_of_gt hzlt) (Heap.get?_push_size _ rfl))
  refine wpAny_pure ⟨_, rfl, wpAny_pure ?_⟩
  exact hQ h₅.objs.size _ _ h₈ _ hsz ⟨hz₈, up _ _ D.TIz (hk₅ _ _ D.TIz D.TITO D.TIi1 D.TIi2 hTI), ⟨_, _, up _ _ D.TOz hTO₅⟩, iter_at h1₅ (fun o e => up _ o D.i1z e), iter_at h2₅ (fun o e => up _ o D.i2z e)⟩ hT₈ fun c o c1 c2 c3 c4 e => up c o c1 (hk₅ c o c1 c2 c3 c4 e)

theorem zip_end {z TI TO i1 i2 : Addr} {b1 b2 : Array UInt8} {t1 t2 : Tok} {i : Nat} {Q : Option Value → Shared → Prop} (hh : A.handled = none) (D : Apart5 z TI TO i1 i2) (st : ZipSt z TI TO i1 i2 b1 t1 b2 t2 .none i s.heap) (hx : b1[i]? = none)
    (hQ : ∀ h', (∀ b o, b ≠ z → b ≠ TO → b ≠ i1 → b ≠ i2 → s.heap.get? b = some o → h'.get? b = some o) → Q none { s with heap := h' }) :
    wpAny (model prog w) A (pyNext (.ref z)) Q E s := by
  obtain ⟨hz, hTI, ⟨a, b, hTO⟩, h1, h2⟩ := st
  have hT : s.TypeIs (.ref z) "zip" := ⟨_, hz, rfl⟩
  unfold pyNext
  refine wpAny_bind (wpAny_attempt (wpAny_callSpecial?_slot (name := Str.ofString "__next__") hT F.slot_zip_next (wpAny_call_entry F.slot_zip_next hT F.entry_zip_next ?_ (F.args_zip_next_1 _))))
  show wpAny _ _ (field (.ref z) 2 >>= _) _ _ _
  refine wpAny_bind (wpAny_field hz rfl (x := .bool false) rfl ?_)
  show wpAny _ _ (field (.ref z) 3 >>= _) _ _ _
  refine wpAny_bind (wpAny_field hz rfl (x := .ref TI) rfl ?_)
  refine wpAny_bind (wpAny_seqItems hTI rfl ?_)
  show wpAny _ _ (Builtin.SmallTypes.ownedTupleIsFree (.ref z) >>= _) _ _ _
  refine wpAny_bind ?_
  unfold Builtin.SmallTypes.ownedTupleIsFree
  refine wpAny_bind (wpAny_field hz rfl (x := .none) rfl (wpAny_pure ?_))
  simp only [if_true]
  refine wpAny_bind (wpAny_rule ?_)
  refine wpAny_bind (wpAny_field hz rfl (x := .ref TO) rfl ?_)
  refine wpAny_bind (wpAny_setField_rec hz (by simp) fun h₁ hz₁ hs₁ => ?_)
  replace hz₁ : IsZip h₁ z TI TO .ellipsis := hz₁
  refine wpAny_bind ?_
  simp only [List.zipIdx_cons, List.zipIdx_nil, List.forIn_cons, List.forIn_nil]
  refine wpAny_bind (wpAny_bind (wpAny_onRaise ?_))
  show wpAny _ _ (Builtin.SmallTypes.nextOf (.ref i1) >>= _) _ _ _
  refine wpAny_bind (nextOf_end hh (iter_extBut h1 hs₁.extBut D.i1z) hx fun h₂ e he₂ hse => ?_)
  have hz₂ : IsZip h₂ z TI TO .ellipsis := he₂ _ _ D.i1z.symm hz₁
  obtain ⟨oe, hoe, hce⟩ := hse
  have hez : e ≠ z := fun q => by rw [q, hz₂] at hoe; cases hoe; simp at hce
  refine wpAny_setField_rec hz₂ (by simp) fun h₃ hz₃ hs₃ => ?_
  refine wpAny_bind (wpAny_isInstance (T := "StopIteration") (b := true) ⟨oe, hs₃.extBut _ _ hez hoe, hce⟩ isSubtype_stop ?_)
  exact wpAny_pure (hQ _ fun c o c1 c2 c3 c4 x => hs₃.extBut _ _ c1 (he₂ _ _ c3 (hs₁.extBut _ _ c1 x)))

theorem zip_walks (hh : A.handled = none) (z TI TO i1 i2 : Addr) (b1 b2 : Array UInt8) (t1 t2 : Tok) (D : Apart5 z TI TO i1 i2) (hlen : b2.size = b1.size) :
    WalksU prog w A z [z, TI, TO, i1, i2] [z, TO, i1, i2] b1.size
      (fun i vals => ∃ c d u v, b1[i]? = some c ∧ b2[i]? = some d ∧ vals = #[.int ((c : UInt8).toNat : Int) u, .int ((d : UInt8).toNat : Int) v])
      (fun i h => ZipSt z TI TO i1 i2 b1 t1 b2 t2 .none i h)
      (fun i T h => ZipSt z TI TO i1 i2 b1 t1 b2 t2 (rawInt T) (i + 1) h ∧ T ≠ z ∧ T ≠ TO ∧ T ≠ i1 ∧ T ≠ i2) where
  sub := fun c hc => by simp at hc ⊢; rcases hc with rfl | rfl | rfl | rfl <;> simp
  frame := fun i h h' st hk => st.at hk
  item := fun i s Q E hi st hQ => by
    have hi2 : i < b2.size := by omega
    refine zip_item D st (Array.getElem?_eq_getElem hi) (Array.getElem?_eq_getElem hi2) fun T u v h' tk hT st' hp hk => ?_
    have lt : ∀ {c o}, s.heap.get? c = some o → T ≠ c := fun e => by rw [hT]; exact Nat.ne_of_gt (Heap.lt_size e)
    obtain ⟨hz, hTI, ⟨a, b, hTO⟩, ⟨o1, e1, _⟩, ⟨o2, e2, _⟩⟩ := st
    exact hQ T _ h' tk ⟨_, _, u, v, Array.getElem?_eq_getElem hi, Array.getElem?_eq_getElem hi2, rfl⟩ ⟨_, hp, rfl, _, rfl⟩ ⟨st', lt hz, lt hTO, lt e1, lt e2⟩
      fun c o hc e => hk c o (fun x => hc (by simp [x])) (fun x => hc (by simp [x])) (fun x => hc (by simp [x])) (fun x => hc (by simp [x])) e
  go := fun elts k pos i T s Q E hm hQ => by
    obtain ⟨⟨hz, hTI, ⟨a, b, hTO⟩, h1, h2⟩, _⟩ := hm
    refine wpAny_letOwnedTupleGo_zip hz fun h' hz' hs' => hQ h' ⟨hz', hs'.extBut _ _ D.TIz hTI, ⟨a, b, hs'.extBut _ _ D.TOz hTO⟩, iter_extBut h1 hs'.extBut D.i1z, iter_extBut h2 hs'.extBut D.i2z⟩
      fun c o hc e => hs'.extBut _ _ (fun x => hc (by simp [x])) e
  apart := fun i T h hm hT => by
    obtain ⟨_, t1, t2, t3, t4⟩ := hm
    simp at hT
    rcases hT with rfl | rfl | rfl | rfl
    · exact t1 rfl
    · exact t2 rfl
    · exact t3 rfl
    · exact t4 rfl
  done := fun s Q E st hQ => zip_end hh D st (Array.getElem?_eq_none (Nat.le_refl _)) fun h' hk => hQ h' s.toks fun c o hc e =>
    hk c o (fun x => hc (by simp [x])) (fun x => hc (by simp [x])) (fun x => hc (by simp [x])) (fun x => hc (by simp [x])) e
  self := fun i s Q E st hQ => wpAny_pyIter_zip st.1 hQ

abbrev zb1 (h : Heap) (b1 : Array UInt8) (t1 : Tok) : Heap := h.push { cls := .type "bytes_iterator", data := .fields #[.bytes b1 t1, .int 0 0] }
abbrev zb2 (h : Heap) (b1 : Array UInt8) (t1 : Tok) (b2 : Array UInt8) (t2 : Tok) : Heap := (zb1 h b1 t1).push { cls := .type "bytes_iterator", data := .fields #[.bytes b2 t2, .int 0 0] }
abbrev zb3 (h : Heap) (b1 : Array UInt8) (t1 : Tok) (b2 : Array UInt8) (t2 : Tok) : Heap := (zb2 h b1 t1 b2 t2).push { cls := .type "tuple", data := .seq #[.ref h.objs.size, .ref (zb1 h b1 t1).objs.size] }
abbrev zb4 (h : Heap) (b1 : Array UInt8) (t1 : Tok) (b2 : Array UInt8) (t2 : Tok) : Heap := (zb3 h b1 t1 b2 t2).push { cls := .type "tuple", data := .seq #[.none, .none] }
abbrev zb5 (h : Heap) (b1 : Array UInt8) (t1 : Tok) (b2 : Array UInt8) (t2 : Tok) : Heap := (zb4 h b1 t1 b2 t2).push { cls := .type "zip", data := .fields #[.none, .bool false, .bool false, .ref (zb2 h b1 t1 b2 t2).objs.size, .ref (zb3 h b1 t1 b2 t2).objs.size] }

theorem meets_zip_bytes (b1 : Array UInt8) (t1 : Tok) (b2 : Array UInt8) (t2 : Tok) :
    Meets (Builtin.«zip.__new__» ⟨[.type "zip", .bytes b1 t1, .bytes b2 t2], []⟩) (fun _ R s => R (.ok (.ret (.ref (zb4 s.heap b1 t1 b2 t2).objs.size))) { s with heap := zb5 s.heap b1 t1 b2 t2 }) :=
  .of_wp fun prog w A R s h => by
    obtain ⟨hp, g, d, tk, os⟩ := s
    have hsub := sub_zip
    wp_walk using KBw.pyIter_bytes, KBw.pyIter_bytes
    exact ⟨_, rfl, h⟩

theorem call_zip_bytes {b1 b2 : Array UInt8} {t1 t2 : Tok} {Q : Value → Shared → Prop}
    (h : ∀ h', ZipSt (s.heap.objs.size + 4) (s.heap.objs.size + 2) (s.heap.objs.size + 3) s.heap.objs.size (s.heap.objs.size + 1) b1 t1 b2 t2 .none 0 h' → h'.objs.size = s.heap.objs.size + 5 →
      (∀ c o, s.heap.get? c = some o → h'.get? c = some o) → Q (.ref (s.heap.objs.size + 4)) { s with heap := h' }) :
    wpAny (model prog w) A (call (.type "zip") [.bytes b1 t1, .bytes b2 t2]) Q E s := by
  refine callType_new F.called_zip (by decide) (F.typeCall_zip_2 _ _) (F.newCall_zip_2 _ _) (fun obj => F.args_object_init_3 obj _ _) F.entry_zip_new (meets_zip_bytes b1 t1 b2 t2) ?_
  have z1 : (zb1 s.heap b1 t1).objs.size = s.heap.objs.size + 1 := Heap.size_push ..
  have z2 : (zb2 s.heap b1 t1 b2 t2).objs.size = s.heap.objs.size + 2 := by rw [Heap.size_push, z1]
  have z3 : (zb3 s.heap b1 t1 b2 t2).objs.size = s.heap.objs.size + 3 := by rw [Heap.size_push, z2]
  have z4 : (zb4 s.heap b1 t1 b2 t2).objs.size = s.heap.objs.size + 4 := by rw [Heap.size_push, z3]
  have z5 : (zb5 s.heap b1 t1 b2 t2).objs.size = s.heap.objs.size + 5 := by rw [Heap.size_push, z4]
  have g5 : (zb5 s.heap b1 t1 b2 t2).get? (zb4 s.heap b1 t1 b2 t2).objs.size = some _ := Heap.get?_push_size _ rfl
  have g4 : (zb5 s.heap b1 t1 b2 t2).get? (zb3 s.heap b1 t1 b2 t2).objs.size = some _ := Heap.get?_push_of_some _ (Heap.get?_push_size _ rfl)
  have g3 : (zb5 s.heap b1 t1 b2 t2).get? (zb2 s.heap b1 t1 b2 t2).objs.size = some _ := Heap.get?_push_of_some _ (Heap.get?_push_of_some _ (Heap.get?_push_size _ rfl))
  have g2 : (zb5 s.heap b1 t1 b2 t2).get? (zb1 s.heap b1 t1).objs.size = some _ := Heap.get?_push_of_some _ (Heap.get?_push_of_some _ (Heap.get?_push_of_some _ (Heap.get?_push_size _ rfl)))
  have g1 : (zb5 s.heap b1 t1 b2 t2).get? s.heap.objs.size = some _ := Heap.get?_push_of_some _ (Heap.get?_push_of_some _ (Heap.get?_push_of_some _ (Heap.get?_push_of_some _ (Heap.get?_push_size _ rfl))))
  show _ ∧ _
  rw [z2, z3, z4] at g5
  rw [z1, z2] at g3
  rw [z3] at g4
  rw [z1] at g2
  rw [z4]
  exact ⟨⟨_, g5, rfl⟩, h _ ⟨g5, g3, ⟨_, _, g4⟩, ⟨_, g1, rfl, rfl⟩, ⟨_, g2, rfl, rfl⟩⟩ z5 fun c o x =>
    Heap.get?_push_of_some _ (Heap.get?_push_of_some _ (Heap.get?_push_of_some _ (Heap.get?_push_of_some _ (Heap.get?_push_of_some _ x))))⟩
theorem apart5_new (n : Addr) : Apart5 (n + 4) (n + 2) (n + 3) n (n + 1) where
  TIz := Nat.ne_of_lt (Nat.add_lt_add_left (by decide) n)
  TOz := Nat.ne_of_lt (Nat.add_lt_add_left (by decide) n)
  i1z := Nat.ne_of_lt (Nat.lt_add_of_pos_right (by decide))
  i2z := Nat.ne_of_lt (Nat.add_lt_add_left (by decide) n)
  TITO := Nat.ne_of_lt (Nat.add_lt_add_left (by decide) n)
  TIi1 := Nat.ne_of_gt (Nat.lt_add_of_pos_right (by decide))
  TIi2 := Nat.ne_of_gt (Nat.add_lt_add_left (by decide) n)
  TOi1 := Nat.ne_of_gt (Nat.lt_add_of_pos_right (by decide))
  TOi2 := Nat.ne_of_gt (Nat.add_lt_add_left (by decide) n)
  i12 := Nat.ne_of_lt (Nat.lt_add_of_pos_right (by decide))
end
end Ja
end

section
set_option maxHeartbeats 1000000
namespace Ja
open PySem PySem.W PySem.Calls PyProof.Rows

theorem bg_no_bytes : typeLookup (.type "generator") "__bytes__" = pure none := by rw [typeLookup_type, builtinLookup_eq_fast]; kernel_rfl
theorem bg_no_index : typeLookup (.type "generator") "__index__" = pure none := by rw [typeLookup_type, builtinLookup_eq_fast]; kernel_rfl
theorem bg_no_buffer : typeLookup (.type "generator") "__buffer__" = pure none := by rw [typeLookup_type, builtinLookup_eq_fast]; kernel_rfl
theorem bg_no_len : typeLookup (.type "generator") "__len__" = pure none := by rw [typeLookup_type, builtinLookup_eq_fast]; kernel_rfl
theorem bg_no_hint : typeLookup (.type "generator") "__length_hint__" = pure none := by rw [typeLookup_type, builtinLookup_eq_fast]; kernel_rfl

section
variable {prog : Program} {w : World} {A : Around} {E : Value → Shared → Prop} {s : Shared} {I : Addr} {fp wr : List Addr} {G : Array GenState → Array GenState → Prop} {n : Nat} {P : Nat → Value → Prop} {St : Nat → Shared → Prop}

theorem bytes_loopS {R : Result → Shared → Prop} {S : Addr} {ns : List Int} (W : WalksS prog w A.in1 I fp wr G n P St) (hlen : ns.length = n) (hP : ∀ i v, P i v → ∃ k t, ns[i]? = some k ∧ v = .int k t) (hr : ∀ k ∈ ns, 0 ≤ k ∧ k < 256) (hz : ns.length ≤ sizeLine) (hS : S ∉ fp) :
    ∀ (k i : Nat) (s : Shared), n - i = k → i ≤ n → St i s → s.heap.get? S = some { cls := .type "bytearray", data := .bytearray (byteArr (ns.take i)) } →
      (∀ s' t, Moved (S :: wr) G s s' → R (.ok (.ret (.bytes (byteArr ns) t))) s') →
      codeAny (model prog w) A (.builtin "bytes.__new__.loop" ⟨[.type "bytes", .ref I, .ref S], []⟩) R s := by
  have hSw : S ∉ wr := fun h => hS (W.sub _ h)
  have wide : ∀ {a b : Shared}, Moved wr G a b → Moved (S :: wr) G a b := fun x => x.mono fun b hb => List.mem_cons_of_mem _ hb
  intro k
  induction k with
  | zero =>
    intro i s hk hle hst hSo hR
    have hin : i = n := by omega
    subst hin
    refine codeAny_builtin F.bm_entry_loop ?_
    rw [Around.under_plainId F.bm_plain_loop _]
    show wpAny _ A.in1 (pyNext (.ref I) >>= _) _ _ s
    refine wpAny_bind (W.done s _ _ hst fun s' hm => ?_)
    have hS' : s'.heap.get? S = some { cls := .type "bytearray", data := .bytearray (byteArr (ns.take i)) } := hm.heap S _ hSw hSo
    refine wpAny_bind ?_
    unfold Builtin.Bytes.payload Builtin.Bytes.payload?
    refine wpAny_bind (wpAny_bind (wpAny_load hS' ?_))
    refine wpAny_pure (wpAny_pure ?_)
    rw [← hlen, List.take_length]
    refine wpAny_bind (wpAny_mkBytes ?_ (by rw [byteArr_size]; exact hz))
    show wpAny _ _ (if (Value.type "bytes" == Value.type "bytes") = true then _ else _) _ _ _
    refine bm_if_true (by decide) ?_
    have fin := hR { s' with toks := s'.toks + 1 } s'.toks ((wide hm).then_heap (Nat.le_succ _) fun _ _ _ e => e)
    first
      | exact wpAny_pure fin
      | exact wpAny_bind (wpAny_pure (wpAny_pure fin))
  | succ k ih =>
    intro i s hk hle hst hSo hR
    have hlt : i < n := by omega
    refine codeAny_builtin F.bm_entry_loop ?_
    rw [Around.under_plainId F.bm_plain_loop _]
    show wpAny _ A.in1 (pyNext (.ref I) >>= _) _ _ s
    refine wpAny_bind (W.item i s _ _ hlt hst fun v s' hv hst' hm => ?_)
    obtain ⟨x, t, hx, rfl⟩ := hP i v hv
    obtain ⟨h0, h1⟩ := hr x (List.mem_of_getElem? hx)
    have hS' : s'.heap.get? S = some { cls := .type "bytearray", data := .bytearray (byteArr (ns.take i)) } := hm.heap S _ hSw hSo
    refine wpAny_bind (wpAny_holding (wpAny_of_eq (rfl : asIndex (.int x t) = pure x) ?_))
    refine wpAny_bind (wpAny_letGo ?_)
    refine bm_if_false (by simp only [Bool.or_eq_false_iff, decide_eq_false_iff_not]; omega) ?_
    refine wpAny_bind ?_
    show wpAny _ _ (updateBytearray S (·.push x.toNat.toUInt8)) _ _ _
    unfold updateBytearray
    refine wpAny_bind (wpAny_load hS' ?_)
    show wpAny _ _ (update S (Obj.mapBytearray (·.push x.toNat.toUInt8)) >>= fun _ => lookBehind S) _ _ _
    refine wpAny_bind (wpAny_update hS' ?_)
    have hS₂ : (s'.heap.update S (Obj.mapBytearray (·.push x.toNat.toUInt8))).get? S = some { cls := .type "bytearray", data := .bytearray (byteArr (ns.take (i + 1))) } := by
      rw [byteArr_take hx]
      exact Heap.get?_update_self (Obj.mapBytearray (·.push x.toNat.toUInt8)) hS' rfl
    refine wpAny_lookBehind hS₂ ?_ ?_
    · show (if (byteArr (ns.take (i + 1))).size > sizeLine then some "bytearray:memory" else none) = none
      rw [if_neg]
      rw [byteArr_size, List.length_take]
      omega
    · have keep : ∀ b o, b ≠ S → s'.heap.get? b = some o → (s'.heap.update S (Obj.mapBytearray (·.push x.toNat.toUInt8))).get? b = some o := fun b o hb e =>
        (Heap.get?_update_other _ _ (Ne.symm hb)).trans e
      refine wpAny_pure ⟨plainId_quiet F.bm_plain_loop _, ih (i + 1) { s' with heap := s'.heap.update S (Obj.mapBytearray (·.push x.toNat.toUInt8)) } (by omega) hlt
        (W.frame _ s' _ s'.toks hst' (Nat.le_refl _) fun b hb o e => keep b o (fun q => hS (q ▸ hb)) e) hS₂ fun s₃ t₃ hm₃ => ?_⟩
      refine hR s₃ t₃ (Moved.trans W.gtrans ((wide hm).then_heap (Nat.le_refl _) fun b o hb e => keep b o (fun q => hb (q ▸ List.mem_cons_self)) e) hm₃)

theorem bytes_of_gen {Q : Value → Shared → Prop} {ns : List Int} (W : WalksS prog w A.in4 I fp wr G n P St) (hst : St 0 s) (hG : ∀ i (s : Shared), St i s → ∃ g, s.heap.IsGen I g) (hfp : ∀ b ∈ fp, b < s.heap.objs.size)
    (hlen : ns.length = n) (hP : ∀ i v, P i v → ∃ k t, ns[i]? = some k ∧ v = .int k t) (hr : ∀ k ∈ ns, 0 ≤ k ∧ k < 256) (hz : ns.length ≤ sizeLine)
    (hQ : ∀ s' t, (∀ b o, b ∉ wr → s.heap.get? b = some o → s'.heap.get? b = some o) → G s.gens s'.gens → s'.drawn = s.drawn → s'.os = s.os → Q (.bytes (byteArr ns) t) s') :
    wpAny (model prog w) A (call (.type "bytes") [.ref I]) Q E s := by
  refine callType_codes (Q₁ := fun obj s₁ => s₁.TypeIs obj "bytes" ∧ Q obj s₁) F.bm_called (F.bm_typeCall _) F.entry_object_init ?_ fun obj s₁ h₁ => ?_
  rotate_left
  · exact ⟨h₁.1, F.args_object_init_2 obj _, object_init_meets F.bm_called.init.lookup F.bm_called.made (by decide) prog w A.in1 _ s₁ ⟨h₁.1, rfl, h₁.2⟩⟩
  obtain ⟨g0, hg0⟩ := hG 0 s hst
  have hT0 := hg0.typeIs
  refine codeAny_of_tree ?_
  show wpAny _ A.in1.in1 (do checkBuiltinCall "bytes.__new__" ⟨[.type "bytes", .ref I], []⟩; again (.builtin "bytes.__new__" ⟨[.type "bytes", .ref I], []⟩)) _ _ s
  refine wpAny_bind (wpAny_of_eq (F.bm_newCall _) (wpAny_pure ⟨plainId_quiet F.bm_plain _, codeAny_builtin F.bm_entry ?_⟩))
  rw [Around.under_plainId F.bm_plain _]
  unfold Builtin.«bytes.__new__»
  refine wpAny_bind (wpAny_of_eq (a := true) rfl ?_)
  refine bm_if_false rfl ?_
  refine wpAny_bind (wpAny_of_eq F.bm_sub ?_)
  refine bm_if_false rfl ?_
  refine wpAny_bind (wpAny_of_eq (F.bm_bind _) ?_)
  refine wpAny_bind (wpAny_of_eq (a := ()) rfl ?_)
  refine wpAny_bind (wpAny_of_eq (a := ()) rfl ?_)
  refine bm_if_false rfl ?_
  refine wpAny_bind (wpAny_specialOf hT0 bg_no_bytes ?_)
  obtain ⟨oI, nm, qn, hoI, hcI, hdI, hsI⟩ := id hg0
  refine wpAny_bind (wpAny_bind ?_)
  show wpAny _ _ (load I >>= _) _ _ _
  refine wpAny_bind (wpAny_load hoI ?_)
  rw [hdI]
  refine wpAny_pure (wpAny_pure ?_)
  refine bm_if_false rfl ?_
  refine wpAny_bind (wpAny_specialOf hT0 bg_no_index ?_)
  refine bm_if_true rfl ?_
  first
    | show wpAny _ _ (Builtin.Bytes.buffer? "bytes.__new__" (.ref I) true >>= _) _ _ _
    | (refine wpAny_bind ?_; show wpAny _ _ (Builtin.Bytes.buffer? "bytes.__new__" (.ref I) true >>= _) _ _ _)
  refine wpAny_bind ?_
  unfold Builtin.Bytes.buffer?
  refine wpAny_bind (wpAny_specialOf hT0 bg_no_buffer ?_)
  refine wpAny_bind (wpAny_specialOf hT0 bg_no_buffer ?_)
  refine wpAny_pure ?_
  have W2 := WalksS.in4_2 W
  refine wpAny_bind (wpAny_tryCatch (W2.self 0 s _ _ hst ?_))
  refine wpAny_bind (wpAny_holding ?_)
  unfold Builtin.Bytes.lengthHint
  refine wpAny_bind (wpAny_specialOf hT0 bg_no_len ?_)
  dsimp only
  refine bm_if_false rfl ?_
  refine bm_if_false rfl ?_
  refine wpAny_bind (wpAny_specialOf hT0 bg_no_hint ?_)
  refine wpAny_pure ?_
  refine wpAny_bind ?_
  unfold Builtin.Bytes.newBytearray
  refine wpAny_newObj_type ?_ (Nat.zero_le _)
  have hSf : s.heap.objs.size ∉ fp := fun hm => Nat.lt_irrefl _ (hfp _ hm)
  have main := bytes_loopS (prog := prog) (w := w) (A := A.in1) (R := wants (fun obj s₁ => s₁.TypeIs obj "bytes" ∧ Q obj s₁) E) (S := s.heap.objs.size) W2 hlen hP hr hz hSf n 0 { s with heap := s.heap.push { cls := .type "bytearray", data := .bytearray #[] } } rfl (Nat.zero_le _)
    (W2.frame _ s _ s.toks hst (Nat.le_refl _) fun b _ o e => Heap.get?_push_of_some _ e) (Heap.get?_push_size _ rfl)
    fun s' t hm => ⟨PySem.W.typeIs_bytes _ _ _, hQ s' t (fun b o hb e => hm.heap b o (fun q => by
      rcases List.mem_cons.mp q with q | q
      · exact Nat.lt_irrefl _ (q ▸ Heap.lt_size e)
      · exact hb q) (Heap.get?_push_of_some _ e)) hm.gens hm.drawn hm.os⟩
  first
    | exact wpAny_pure ⟨plainId_quiet F.bm_plain_loop _, main⟩
    | exact wpAny_pure (wpAny_pure ⟨plainId_quiet F.bm_plain_loop _, main⟩)
end
end Ja
end

section
set_option maxHeartbeats 1000000
namespace Ja
open PySem PySem.W PySem.Calls PyProof.Rows


/-- As CallsTo, of a call that may run generators to their end. -/
def CallsToG (n : Nat) (w : World) (K : Frag) (f : Value) (vs : List Value) (news : List (Addr × Obj)) (Ret : Addr → Value → List (Addr × Obj) → Prop) : Prop :=
  ∀ (p : Program) (loose : List Str) (mean : ExcName → Option Value) (mg mb : Str → Option Value) (dp un : Nat) (gd : Option (List Code)) (cn : Str) (cs : Scope) (a : Addr) (ccd : Value) (cl : List (Str × Addr)) (outer : List Env)
    (A₀ : Around) (base h₀ : Heap) (L : Addr) (m : Str → Option Value) (s : Shared) (Q E : Value → Shared → Prop),
    Below A₀ base outer h₀ → Fr h₀ L s.heap m → K.In h₀ → News h₀ L s.heap news → Top p loose mean mg mb h₀ → cs.kind = .function → dp + n < recursionLimit → un + 20 * n < cLine → AllBare s.gens →
    (∀ r news' h' tk' gs', Ret L r news' → AllBare gs' → Fr h₀ L h' m → News h₀ L h' news' → Q r { s with heap := h', toks := tk', gens := gs' }) →
    wpAny (model PySem.Challenge.rw_ja0049_01.row.prog w) (ktrTop dp un gd cn cs L a ccd cl outer) (call f vs) Q E s

theorem CallsToG.use {n : Nat} {w : World} {K : Frag} {f : Value} {vs : List Value} {news : List (Addr × Obj)} {Ret : Addr → Value → List (Addr × Obj) → Prop}
    {p : Program} {loose : List Str} {mean : ExcName → Option Value} {mg mb : Str → Option Value} {dp un : Nat} {gd : Option (List Code)} {cn : Str} {cs : Scope} {a : Addr} {ccd : Value} {cl : List (Str × Addr)} {outer : List Env}
    {A₀ : Around} {base h₀ : Heap} {L : Addr} {m : Str → Option Value} {s : Shared} {Q E : Value → Shared → Prop}
    (C : CallsToG n w K f vs news Ret) (B : Below A₀ base outer h₀) (F : Fr h₀ L s.heap m) (X : K.In h₀) (N : News h₀ L s.heap news) (T : Top p loose mean mg mb h₀) (hk : cs.kind = .function) (hd : dp + n < recursionLimit) (hu : un + 20 * n < cLine) (hg : AllBare s.gens)
    (ret : ∀ r news' h' tk' gs', Ret L r news' → AllBare gs' → Fr h₀ L h' m → News h₀ L h' news' → Q r { s with heap := h', toks := tk', gens := gs' }) :
    wpAny (model PySem.Challenge.rw_ja0049_01.row.prog w) (ktrTop dp un gd cn cs L a ccd cl outer) (call f vs) Q E s :=
  C p loose mean mg mb dp un gd cn cs a ccd cl outer A₀ base h₀ L m s Q E B F X N T hk hd hu hg ret

theorem genexpr_tab {M : Model} {A : Around} {E : Value → Shared → Prop} {s : Shared} {env : Env} {c P : Addr} {ps : Array Value} {pos : Pos} {qn : Str} {scope : Scope} {Q : Value → Shared → Prop} (hc : env.code = .ref c) (C : CodeHd s.heap c P) (hP : s.heap.get? P = some (tabObj ps)) (ht : TriplesOk ps.toList)
    (h : ∀ code h' tk ps', Heap.ExtBut P s.heap h' → s.heap.objs.size ≤ h'.objs.size → h'.get? P = some (tabObj ps') → TriplesOk ps'.toList → Q code { s with heap := h', toks := tk }) :
    wpAny M A (genexprCode env pos qn scope) Q E s := by
  cases hf : codeAmong pos ps.toList with
  | none =>
    refine wpAny_genexprCodeX hc (C.code hP ht) (C.tab hP) hf fun c' h' tk hx hge hlt hcd _ htb _ => ?_
    obtain ⟨_, _, _, _, _, _, _, _, _, _, _, _, _, _, _, _, _, _, _, ht', _⟩ := hcd
    exact h _ h' tk _ hx (Nat.le_trans hge (Nat.le_of_lt hlt)) htb.2 ht'
  | some cv => exact wpAny_genexprCode_hit hc (C.code hP ht) hf (h cv s.heap s.toks ps (fun _ _ _ e => e) (Nat.le_refl _) hP ht)

theorem xors_get {ks ls : List Int} {i : Nat} {a b : Int} (ha : ks[i]? = some a) (hb : ls[i]? = some b) : (xors ks ls)[i]? = some (Builtin.bitXor a b) := by
  unfold xors
  rw [List.getElem?_zipWith, ha, hb]

theorem five_ne {n : Nat} (h : 30 < n) : ∀ b ∈ [n + 4, n + 2, n + 3, n, n + 1], b ≠ (30 : Nat) := by
  intro b hb
  simp only [List.mem_cons, List.not_mem_nil, or_false] at hb
  omega
theorem five_lt {n m : Nat} (h : m = n + 5) : ∀ b ∈ [n + 4, n + 2, n + 3, n, n + 1], b < m := by
  intro b hb
  simp only [List.mem_cons, List.not_mem_nil, or_false] at hb
  omega
theorem four_cs {n : Nat} (h : 30 < n) : cStatics ∉ ([n + 4, n + 3, n, n + 1] : List Addr) := by
  intro hb
  simp only [List.mem_cons, List.not_mem_nil, or_false] at hb
  rcases hb with e | e | e | e <;> exact absurd (show (2 : Nat) = _ from e) (by omega)
theorem passing_all (n : Nat) : passing (fun _ => true) n 0 = List.range n := by simp [passing]

theorem range_lt {a c n : Nat} (h1 : c < a) (h2 : n = a + 1) : ∀ b ∈ a :: c :: List.range c, b < n := by
  intro b hb
  simp only [List.mem_cons, List.mem_range] at hb
  omega
theorem range_get {n j i : Nat} (h : (List.range n)[j]? = some i) : j < n ∧ i = j := by
  have hj : j < n := by
    have := (List.getElem?_eq_some_iff.mp h).1
    simpa using this
  simp [hj] at h
  exact ⟨hj, h.symm⟩
theorem wr_low {n a c b : Nat} (h1 : a = n + 5) (h2 : a ≤ c) (hb : b < n) : b ∉ (c :: [n + 4, n + 3, n, n + 1]) := by
  intro h
  simp only [List.mem_cons, List.not_mem_nil, or_false] at h
  omega


theorem xor_call : ∀ (w : World) (one other : Array UInt8) (t1 t2 : Tok) (ks ls : List Int) (ps : Array Value) (news : List (Addr × Obj)) (g : Obj → List (Addr × Obj)), KBw.bInts one = ks → KBw.bInts other = ls → ls.length = ks.length → ks.length ≤ 40 → TriplesOk ps.toList → UpdF 30 (tabObj ps) news g →
    CallsToG 4 w (Ja.head.heap_39 w.params) (.ref 35) [.bytes one t1, .bytes other t2] news (fun L r news' => ∃ ps' b t X, TriplesOk ps'.toList ∧ r = .bytes b t ∧ X = xors ks ls ∧ KBw.bInts b = X ∧ X.length = ks.length ∧ news' = g (tabObj ps')) := by
  k_with_none
  (k_with "ja part" => ((refine' enter_part_K ?qk19 ?qk29 ?qk39 ?qk49 ?qk59 ?qkS9 ?qkA9 ?qkF9 ?qkK9 ?qk69 ?qk79 ?qk89 ?qk99 ?qkB9 ?_ ?qc29 ?qc39 ?qc49 ?qc59; (case qkA9 => exact rfl); (case qkF9 => exact rfl); (case qkK9 => assumption); (case qk19 => k_asm); (case qk29 => k_asm); (case qk39 => k_asm); (case qk49 => k_asm); (case qk59 => k_asm); (case qkS9 => assumption); (case qk69 => k_is); (case qk79 => k_is); (case qk89 => ktr_room); (case qk99 => exact BindsTo.of_eq rfl); (case qc59 => decide); (case qkB9 => exact locs rfl); (case qc29 => exact rfl); (case qc39 => exact rfl); (case qc49 => exact rfl); k_whole; intro g' L' h' FG' F' N' B' X' T' l1 kept' all' lL'; (try dsimp only); (try k_lt l1); (try k_lift B'); (try k_fold))))
  (k_with "call type:zip" => ((k_here; (with_reducible show wpAny _ _ (call (Value.type "zip") [Value.bytes _ _, Value.bytes _ _]) _ _ _); refine call_zip_bytes ?_; intro _ _ _ _)))
  intro w one other t1 t2 ks ls ps news g h1 h2 hlen hsz hps U p loose mean mg mb dp un gd cn cs a ccd cl outer A₀ base h₀ L m s Q E B F X N T hk hd hu hg hret
  have i1 := bInts_of h1
  have i2 := bInts_of h2
  have hsub : ∀ q ∈ [((30 : Addr), tabObj ps)], q ∈ news := fun q hq => by rw [List.mem_singleton.mp hq]; exact UpdF.at U
  refine wpAny_call ?_
  k_dflt k_extra "ja part"
  k_steps
  rename Fr _ _ _ _ => Fx
  rename News _ _ _ _ => Nx
  refine wpAny_GeneratorExp_walksQT (cl := []) rfl rfl rfl (by decide) rfl rfl rfl (by decide) rfl (by ktr_room) ?h (fun _ => by with_unfolding_all rfl)
  case h =>
    k_fold
    k_steps
    rename_i h9 hz9 hs9 hk9
    rename Frag.In _ _ => X1
    rename Top _ _ _ _ _ _ => T1
    have F9 := Fx.keeps hk9
    have N9 := News.grown Nx hk9
    have hP9 := N9.get (.head _)
    have hLt := Fx.ns.lt
    have h30lt : (30 : Nat) < _ := Heap.lt_size (Nx.get (.head _))
    have h30L := (Nx _ (.head _)).2.1
    have h30g := (Nx _ (.head _)).2.2
    dsimp only at h30L h30g
    refine wpAny_pyIter_zip hz9.1 ?_
    refine ⟨T1.nolimit.keeps F9.keep, ?_⟩
    refine genexpr_tab (c := 34) (P := 30) rfl (codeHd_of_K (c := 34) (P := 30) (X1.keeps F9.keep) (by kernel_rfl)) hP9 hps fun code h10 tk10 ps' hx10 hs10 hp10 ht10 => ?_
    have old10 : ∀ b o, b ≠ 30 → h9.get? b = some o → h10.get? b = some o := hx10
    have base10 : ∀ b o, _ = some o → h10.get? b = some o := fun b o (e : Heap.get? _ b = some o) => old10 b o (fun q => by rw [q, h30g] at e; cases e) (F9.keep b o e)
    obtain ⟨bm, ob, b1, b2, b3, b4, b5, b6⟩ := T1.bmain
    refine wpAny_builtinsFor (T1.g.keeps base10) b1 b2 (base10 _ _ b3) b4 b5 b6 ?_
    have F10 : Fr _ _ h10 _ := ⟨F9.ns.extBut hx10 h30L.symm, base10, F9.above⟩
    dsimp only at hz9 hs9 hk9 h30lt hLt
    have ne30 : ∀ b ∈ [_ + 4, _ + 2, _ + 3, _, _ + 1], b ≠ (30 : Nat) := five_ne h30lt
    have lt9 : ∀ b ∈ [_ + 4, _ + 2, _ + 3, _, _ + 1], b < h9.objs.size := five_lt hs9
    refine ⟨_, _, _, _, _, _, _, fun _ => true, fun i y => ∃ k t, (xors ks ls)[i]? = some k ∧ y = .int k t, rfl, fun A' hA => zip_walks hA _ _ _ _ _ one other t1 t2 (apart5_new _) ?size, ?pairs, ?st, ?lt, T1.nolimit.keeps base10, ?cs, ?quiet, ?fin⟩
    case size => rw [← KBw.ints_length, ← KBw.ints_length, h1, h2]; exact hlen
    case pairs =>
      rintro i vals ⟨c, d, u, v, _, _, rfl⟩
      exact ⟨_, _, rfl⟩
    case st => exact hz9.at fun b hb o e => old10 b o (ne30 b hb) e
    case lt => exact fun b hb => Nat.lt_of_lt_of_le (lt9 b hb) hs10
    case cs => exact four_cs h30lt
    case quiet =>
      intro href hkr
      refine ⟨fun A' E' i va vb s₂ m₂ hA _ _ _ _ _ => by rw [List.forIn_nil]; exact wpAny_pure ⟨rfl, s₂.heap, s₂.toks, rfl, fun _ _ e => e⟩, fun A' E' i va vb s₂ m₂ hA hP _ hn ha hb _ => ?_⟩
      obtain ⟨c, d, u, v, hc, hd', e⟩ := hP
      obtain ⟨rfl, rfl⟩ : va = .int _ u ∧ vb = .int _ v := by simpa using congrArg Array.toList e
      refine wpAny_BinOp (wpAny_Name (wpAny_loadName_local rfl rfl hn ha ?_) (by decide))
      refine wpAny_Name (wpAny_loadName_local rfl rfl hn hb ?_) (by decide)
      refine xor_int ?_
      exact ⟨⟨_, _, xors_get (h1 ▸ KBw.ints_get hc) (h2 ▸ KBw.ints_get hd'), rfl⟩, s₂.heap, _, rfl, fun _ _ e => e⟩
    case fin =>
      intro a5 h5 tk5 gs5 hbare ha5 hs5 hk5 W5 hat5
      have F5 := F10.keeps hk5
      have N5 : News _ _ h5 [((30 : Addr), tabObj ps')] := fun q hq => by
        rw [List.mem_singleton.mp hq]
        exact ⟨hk5 _ _ hp10, h30L, h30g⟩
      have hlL := hLt
      clear F10 F9 Fx Nx N9
      k_steps
      refine bytes_of_gen (ns := xors ks ls) W5 hat5 (fun i s' st => ⟨_, st.1⟩) ?fp5 ?len5 ?P5 (xors_in i1 i2) ?sz5 ?fin5
      case fp5 => exact range_lt ha5 hs5
      case len5 => rw [passing_all, List.length_range, xors_length hlen, ← KBw.ints_length, h1]
      case P5 =>
        rintro j v ⟨i, hi, k, t, hk, rfl⟩
        rw [passing_all] at hi
        obtain ⟨hj, rfl⟩ := range_get hi
        exact ⟨k, t, hk, rfl⟩
      case sz5 => rw [xors_length hlen, sizeLine_eq]; omega
      case fin5 =>
        intro s9 t9 hk99 hG9 hdr hos
        have low : ∀ b, b < _ → b ∉ (h10.objs.size :: [_ + 4, _ + 3, _, _ + 1]) := fun b hb => wr_low hs9 hs10 hb
        have F6 : Fr _ _ s9.heap _ := ⟨F5.ns.at' fun o e => hk99 _ o (low _ hlL) e, fun b o e => hk99 b o (low b (Nat.lt_trans (Nat.lt_of_lt_of_le (Heap.lt_size e) F5.above) hlL)) (F5.keep b o e), F5.above⟩
        have N6 : News _ _ s9.heap [((30 : Addr), tabObj ps')] := fun q hq => by
          rw [List.mem_singleton.mp hq]
          exact ⟨hk99 _ _ (low _ h30lt) (hk5 _ _ hp10), h30L, h30g⟩
        have e9 : s9 = { s with heap := s9.heap, toks := s9.toks, gens := s9.gens } := by
          cases s9
          simp only at hdr hos
          rw [hdr, hos]
        refine leaveK_ F6 N6 fun kF kN => ?_
        have kN' := Kept.one U (Kept.up (Kept.of N (by assumption)) F6) kN
        show Q _ s9
        rw [e9] at kF kN' ⊢
        exact hret _ _ _ _ _ ⟨ps', _, _, _, ht10, rfl, rfl, KBa.ints_make (xors_in i1 i2), xors_length hlen, rfl⟩ (GenOnlyQ.bare hG9 (AllBare.push hg hbare)) kF kN'
end Ja
end

section
set_option maxHeartbeats 1000000
namespace Ja
open PySem PySem.W PySem.Calls PyProof.Rows


theorem bn_typeCall : checkTypeCall "bytes" ⟨[], []⟩ = pure () := by kernel_rfl
theorem bn_newCall : checkBuiltinCall "bytes.__new__" ⟨[.type "bytes"], []⟩ = pure () := by kernel_rfl
theorem bn_bind : Builtin.Bytes.bindOptional "bytes.__new__" "bytes" ["source", "encoding", "errors"] [] [] = pure [none, none, none] := by kernel_rfl
theorem bytes_nil {prog : Program} {w : World} {A : Around} {E : Value → Shared → Prop} {s : Shared} {Q : Value → Shared → Prop} (h : ∀ t k, Q (.bytes #[] t) { s with toks := k }) : wpAny (model prog w) A (call (.type "bytes") []) Q E s := by
  refine callType_codes (Q₁ := fun obj s₁ => s₁.TypeIs obj "bytes" ∧ Q obj s₁) F.bm_called bn_typeCall F.entry_object_init ?_ fun obj s₁ h₁ => ?_
  rotate_left
  · exact ⟨h₁.1, F.args_object_init_1 obj, object_init_meets F.bm_called.init.lookup F.bm_called.made (by decide) prog w A.in1 _ s₁ ⟨h₁.1, rfl, h₁.2⟩⟩
  refine codeAny_of_tree ?_
  show wpAny _ A.in1.in1 (do checkBuiltinCall "bytes.__new__" ⟨[.type "bytes"], []⟩; again (.builtin "bytes.__new__" ⟨[.type "bytes"], []⟩)) _ _ s
  refine wpAny_bind (wpAny_of_eq bn_newCall (wpAny_pure ⟨plainId_quiet F.bm_plain _, codeAny_builtin F.bm_entry ?_⟩))
  rw [Around.under_plainId F.bm_plain _]
  unfold Builtin.«bytes.__new__»
  refine wpAny_bind (wpAny_of_eq (a := true) rfl ?_)
  refine bm_if_false rfl ?_
  refine wpAny_bind (wpAny_of_eq F.bm_sub ?_)
  refine bm_if_false rfl ?_
  refine wpAny_bind (wpAny_of_eq bn_bind ?_)
  refine wpAny_bind (wpAny_of_eq (a := ()) rfl ?_)
  refine wpAny_bind (wpAny_of_eq (a := ()) rfl ?_)
  refine bm_if_false rfl ?_
  refine wpAny_bind (wpAny_mkBytes ?_ (Nat.zero_le _))
  show wpAny _ _ (if (Value.type "bytes" == Value.type "bytes") = true then _ else _) _ _ _
  refine bm_if_true (by decide) ?_
  have fin : wants (fun obj s₁ => s₁.TypeIs obj "bytes" ∧ Q obj s₁) E (.ok (.ret (.bytes #[] s.toks))) { s with toks := s.toks + 1 } := ⟨PySem.W.typeIs_bytes _ _ _, h _ _⟩
  first
    | exact wpAny_pure fin
    | exact wpAny_bind (wpAny_pure (wpAny_pure fin))


def saltF (ident : Int) (ext : Bool) : List Int := if ext then [] else [115, 104, 97, 109, 105, 114, Int.fdiv ident 256, Int.fmod ident 256]

theorem salt_eq {ident : Int} (h0 : 0 ≤ ident) (h1 : ident < 32768) : List.map (fun c : UInt8 => ((c.toNat : Nat) : Int)) [115, 104, 97, 109, 105, 114] ++ [ident / 256 % 256, ident % 256] = saltF ident false := by
  have e1 : Int.fdiv ident 256 = ident / 256 % 256 := by rw [Int.fdiv_eq_ediv_of_nonneg _ (by decide)]; omega
  have e2 : Int.fmod ident 256 = ident % 256 := Int.fmod_eq_emod_of_nonneg _ (by decide)
  unfold saltF
  rw [e1, e2]
  rfl

theorem salt_len (ident : Int) (ext : Bool) : (saltF ident ext).length ≤ 8 := by cases ext <;> simp [saltF]

theorem salt_call : ∀ (w : World) (ident : Int) (ext : Bool) (t : Tok) (news : List (Addr × Obj)), 0 ≤ ident → ident < 32768 →
    CallsTo 5 w (Ja.head.heap_39 w.params) (.ref 49) [.int ident t, .bool ext] news (fun L r news' => news' = news ∧ ∃ b t X, r = .bytes b t ∧ X = saltF ident ext ∧ KBw.bInts b = X ∧ X.length ≤ 8) := by
  k_with_none
  (k_with "ja in" => ((refine' code_def ?qk19 ?qk29 ?qk39 ?qk49 ?qk59 ?qkA9 ?qkF9 ?qkK9 ?qk69 ?qk79 ?qk89 ?qk99 ?qkB9 ?_ ?qc29 ?qc39 ?qc49 ?qc59; (case qkA9 => exact rfl); (case qkF9 => exact rfl); (case qkK9 => first | exact rfl | assumption); (case qk19 => k_asm); (case qk29 => k_asm); (case qk39 => k_asm); (case qk49 => k_asm); (case qk59 => k_asm); (case qk69 => k_is); (case qk79 => k_is); (case qk89 => ktr_room); (case qk99 => exact BindsTo.of_eq rfl); (case qc59 => decide); (case qkB9 => exact locs rfl); (case qc29 => exact rfl); (case qc39 => exact rfl); (case qc49 => exact rfl); k_whole; intro g' L' h' FG' F' N' B' X' T'; (try dsimp only); (try k_lift B'); (try k_fold))))
  (k_with "call ref" => ((k_here; k_dflt (refine wpAny_call ?_; k_extra "ja in"))))
  (k_with "call type:bytes" => (((with_reducible show wpAny _ _ (call (Value.type "bytes") []) _ _ _); refine bytes_nil ?_; intro _ _)))
  intro w ident ext t news h0 h1 p loose mean mg mb dp un gd cn cs a ccd cl outer A₀ base h₀ L m s Q E B F X N T hk hd hu hret
  refine wpAny_call ?_
  k_dflt cell_enter
  k_steps
  · refine hret _ _ _ _ ⟨rfl, _, _, _, rfl, rfl, ?_, salt_len _ _⟩ (by k_asm) (by k_asm)
    have he : ext = true := by assumption
    rw [he]
    rfl
  · refine hret _ _ _ _ ⟨rfl, _, _, _, rfl, rfl, ?_, salt_len _ _⟩ (by k_asm) (by k_asm)
    have he : ext = false := by first | assumption | (simp_all; done)
    rename KBw.bInts (_ ++ _) = _ => hb
    rw [hb, he]
    exact salt_eq h0 h1
end Ja
end

section
set_option maxHeartbeats 1000000
namespace Ja
open PySem PySem.W PySem.Calls PyProof.Rows




/-- The count of iterations that the function is asked for. -/
def itF (e : Int) : Int := Int.fdiv (10000 * 2 ^ e.toNat) 4
def roundF (first : Int) (ws ss : List Int) (e i : Int) (rs : List Int) : List Int := strF first (i :: ws) (ss ++ rs) (itF e) (rs.length : Int)
theorem roundF_length (first : Int) (ws ss : List Int) (e i : Int) (rs : List Int) : (roundF first ws ss e i rs).length = rs.length := by
  unfold roundF strF
  rw [List.length_map, rangeKs_length]
  omega
theorem one_byte {i : Int} {b : Array UInt8} {ws : List Int} (h : (((i.toNat.toUInt8).toNat : Nat) : Int) = i) (hb : KBw.bInts b = List.map (fun c : UInt8 => ((c.toNat : Nat) : Int)) [i.toNat.toUInt8] ++ ws) : KBw.bInts b = i :: ws := by
  rw [hb, List.map_cons, List.map_nil, h]
  rfl

theorem round_call : ∀ (w : World) (i e : Int) (f cF cC c' callsA : Addr) (doc pm ctv : Value) (oF oC oc : Obj) (vs : Array Value) (tq tF : Tok) (first : Int) (word salt rr : Array UInt8) (ti tw te ts tr : Tok) (ws ss rs : List Int) (its : List Value) (n1 : Nat) (news : List (Addr × Obj)) (g : Obj → List (Addr × Obj)),
    (f, strObj cF cC doc pm c' ctv) ∈ news → (c', oc) ∈ news → oc.data = .fields vs → vs[1]? = some (.str strQual tq) → (cF, oF) ∈ news → oF.data = .cell (some (.int first tF)) → (cC, oC) ∈ news → oC.data = .cell (some (.ref callsA)) →
    UpdF callsA (listOf its.toArray n1) news g → KBw.bInts word = ws → KBw.bInts salt = ss → KBw.bInts rr = rs → ws.length ≤ 30 → ss.length ≤ 30 → rs.length ≤ 30 → 0 ≤ first → first < 1000 → its.length ≤ 40 → 0 ≤ i → i < 4 → 0 ≤ e → e < 16 →
    CallsTo 6 w (Ja.head.heap_39 w.params) (.ref 42) [.int i ti, .bytes word tw, .int e te, .bytes salt ts, .bytes rr tr, .ref f] news (fun L r news' => ∃ b t tup n2 W tW S tS tR tZ Y, r = .bytes b t ∧ Y = roundF first ws ss e i rs ∧ KBw.bInts b = Y ∧ Y.length = rs.length ∧ KBw.bInts W = i :: ws ∧ KBw.bInts S = ss ++ rs ∧
      news' = (tup, tupOf W tW S tS (itF e) tR (rs.length : Int) tZ) :: g (listOf (its ++ [Value.ref tup]).toArray n2) ∧ (∀ q ∈ news, q.1 < tup) ∧ @LT.lt Nat _ L tup) := by
  k_with_none
  (k_with "ja part" => ((refine' enter_part_K ?qk19 ?qk29 ?qk39 ?qk49 ?qk59 ?qkS9 ?qkA9 ?qkF9 ?qkK9 ?qk69 ?qk79 ?qk89 ?qk99 ?qkB9 ?_ ?qc29 ?qc39 ?qc49 ?qc59; (case qkA9 => exact rfl); (case qkF9 => exact rfl); (case qkK9 => assumption); (case qk19 => k_asm); (case qk29 => k_asm); (case qk39 => k_asm); (case qk49 => k_asm); (case qk59 => k_asm); (case qkS9 => assumption); (case qk69 => k_is); (case qk79 => k_is); (case qk89 => ktr_room); (case qk99 => exact BindsTo.of_eq rfl); (case qc59 => decide); (case qkB9 => exact locs rfl); (case qc29 => exact rfl); (case qc39 => exact rfl); (case qc49 => exact rfl); k_whole; intro g' L' h' FG' F' N' B' X' T' l1 kept' all' lL'; (have hC9 := codeHd_of_K (c := 90) (P := 86) X' (by kernel_rfl)); (try dsimp only); (try k_lt l1); (try k_lift B'); (try k_fold))))
  (k_with "call ref" => ((
      k_here
      (with_reducible show wpAny _ _ (call (Value.ref _) [Value.bytes _ _, Value.bytes _ _, Value.int _ _, Value.int _ _]) _ _ _)
      k_dflt (
        refine' CallsTo.use (stretch_call _ _ _ _ _ _ _ _ _ _ _ _ _ _ _ _ _ _ _ _ _ _ _ _ _ _ _ _ _ _ ?qhf9 ?qhc9 ?qhoc9 ?qhvs9 ?qhF9 ?qhoF9 ?qhC9 ?qhoC9 ?qU9 ?qhw9 ?qhs9 ?ql19 ?ql29 ?qf09 ?qf19 ?qz09 ?qz19 ?qil9) ?qB9 ?qF9 ?qX9 ?qN9 ?qT9 ?qK9 ?qd9 ?qu9 ?_
        (case qB9 => k_asm)
        (case qF9 => k_asm)
        (case qX9 => k_asm)
        (case qN9 => k_asm)
        (case qT9 => k_asm)
        (case qK9 => first | exact rfl | assumption)
        (case qhf9 => k_mem)
        (case qhc9 => k_mem)
        (case qhoc9 => assumption)
        (case qhvs9 => assumption)
        (case qhF9 => k_mem)
        (case qhoF9 => assumption)
        (case qhC9 => k_mem)
        (case qhoC9 => assumption)
        (case qU9 => k_updF)
        (case qhw9 => kba_ints)
        (case qhs9 => kba_ints)
        (case ql19 => kba_size)
        (case ql29 => kba_size)
        (case qf09 => omega)
        (case qf19 => omega)
        (case qz09 => omega)
        (case qz19 => omega)
        (case qil9 => assumption)
        (case qd9 => ktr_room)
        (case qu9 => ktr_units)
        k_whole)
      intro r9 news9 h9 tk9 hR9 F9 N9
      obtain ⟨b9, t9, tup9, n29, hr9, hb9, hn9, ht9, hl9⟩ := hR9
      subst hr9
      subst hn9
      (try dsimp only at N9)
      (try dsimp only)
      (try k_sweep))))
  intro w i e f cF cC c' callsA doc pm ctv oF oC oc vs tq tF first word salt rr ti tw te ts tr ws ss rs its n1 news g hf hc' hoc hvs hcF hoF hcC hoC U hw hs hrr hwl hsl hrl hf0 hf1 hil hi0 hi1 he0 he1 p loose mean mg mb dp un gd cn cs a ccd cl outer A₀ base h₀ L m s Q E B F X N T hk hd hu hret
  have hca := UpdF.at U
  have hsub : ∀ q ∈ [(callsA, listOf its.toArray n1), (f, strObj cF cC doc pm c' ctv), (c', oc), (cF, oF), (cC, oC)], q ∈ news := by
    intro q hq
    simp only [List.mem_cons, List.not_mem_nil, or_false] at hq
    rcases hq with e | e | e | e | e <;> rw [e] <;> assumption
  have n1' : @Ne Nat callsA f := ne_data N hca hf (fun e => by cases e)
  have n2' : @Ne Nat callsA c' := ne_data N hca hc' (fun e => by rw [hoc] at e; cases e)
  have n3' : @Ne Nat callsA cF := ne_data N hca hcF (fun e => by rw [hoF] at e; cases e)
  have n4' : @Ne Nat callsA cC := ne_data N hca hcC (fun e => by rw [hoC] at e; cases e)
  refine wpAny_call ?_
  k_dflt k_extra "ja part"
  k_steps
  rename KBw.bInts _ = strF _ _ _ _ _ => hb9
  rename KBw.bInts (salt ++ rr) = _ => hS9
  rename KBw.bInts (_ ++ word) = _ => hW9
  rename (_ : Int) = i => hi9
  rename ∀ q ∈ news, q.1 < _ => all9
  rename News _ _ _ _ => kN9
  have hW8 := one_byte hi9 hW9
  have e8 : List.map (fun c : UInt8 => ((c.toNat : Nat) : Int)) [i.toNat.toUInt8] ++ ws = i :: ws := by rw [← hW9, hW8]
  rw [e8] at hb9
  refine' hret _ _ _ _ ?a ?b ?c
  case b => k_asm
  case c =>
    refine' News.cons_of ?c1 ?c2
    case c1 => exact cb_drop (news := [(_, tupOf _ _ _ _ _ _ _ _)]) kN9 (by kcj_all)
    case c2 => exact Kept.one U (Kept.less N hsub (Kept.up (Kept.of N (by assumption)) (by assumption)) (cb_drop kN9 (by kcj_all))) (cb_drop kN9 (by kcj_all))
  case a => exact ⟨_, _, _, _, _, _, _, _, _, _, _, rfl, rfl, hb9, roundF_length _ _ _ _ _ _, hW8, hS9, rfl, fun q hq => Nat.lt_trans (all9 q hq) (by assumption), Nat.lt_trans (by assumption) (by assumption)⟩
end Ja
end

section
set_option maxHeartbeats 1000000
namespace Ja
open PySem PySem.W PySem.Calls PyProof.Rows PySem.Spec

/-- The ledger without the entry of d. -/
inductive DropF (d : Addr) (o : Obj) : List (Addr × Obj) → List (Addr × Obj) → Prop
  | head {r} : (∀ p ∈ r, p.1 ≠ d) → DropF d o ((d, o) :: r) r
  | tail {p r r'} : p.1 ≠ d → DropF d o r r' → DropF d o (p :: r) (p :: r')
theorem DropF.mem {d : Addr} {o : Obj} : ∀ {l l' : List (Addr × Obj)}, DropF d o l l' → ∀ p ∈ l', p ∈ l ∧ p.1 ≠ d
  | _, _, .head h, p, hp => ⟨.tail _ hp, h p hp⟩
  | _, _, .tail h r, p, hp => by
    rcases List.mem_cons.mp hp with e | e
    · rw [e]; exact ⟨.head _, h⟩
    · exact ⟨.tail _ (r.mem p e).1, (r.mem p e).2⟩

def TurnG (h₀ : Heap) (L : Addr) (s : Shared) (nx : (Str → Option Value) → List (Addr × Obj) → Prop) (f : Flow) (s₂ : Shared) : Prop :=
  f = .next ∧ ∃ h' tk gs m' news', s₂ = { s with heap := h', toks := tk, gens := gs } ∧ AllBare gs ∧ Fr h₀ L h' m' ∧ News h₀ L h' news' ∧ nx m' news'

/-- What is left of a loop over an iterator I of n ints, k turns ahead of its end. -/
def NextG (prog : Program) (w : World) (A : Around) (E : Value → Shared → Prop) (h₀ : Heap) (env : Env) (x : Str) (body : List Stmt) (Q : Flow → Shared → Prop) (s : Shared) (I : Addr) (fi : Nat → Int) (ito : Nat → Obj) : Nat → Nat → (Str → Option Value) → List (Addr × Obj) → Prop
  | 0, i, m, news => ∃ rest, DropF I (ito i) news rest ∧ ∀ h tk gs, AllBare gs → Fr h₀ env.locals h m → News h₀ env.locals h rest → Q .next { s with heap := h, toks := tk, gens := gs }
  | k + 1, i, m, news => ∃ g, UpdF I (ito i) news g ∧ ∀ t h tk gs, AllBare gs → Fr h₀ env.locals h (fun y => if y = x then some (.int (fi i) t) else m y) → News h₀ env.locals h (g (ito (i + 1))) →
      wpAny (model prog w) A (execs body env) (TurnG h₀ env.locals s (NextG prog w A E h₀ env x body Q s I fi ito k (i + 1))) E { s with heap := h, toks := tk, gens := gs }

section
variable {prog : Program} {w : World} {A : Around} {s : Shared} {E : Value → Shared → Prop} {env : Env} {h₀ : Heap} {x : Str} {body : List Stmt} {Q : Flow → Shared → Prop}

def LoopG (prog : Program) (w : World) (A : Around) (E : Value → Shared → Prop) (h₀ : Heap) (env : Env) (x : Str) (body : List Stmt) (Q : Flow → Shared → Prop) (it : Value) (s₂ : Shared) : Prop :=
  ∃ (I : Addr) (n : Nat) (fi : Nat → Int) (ito : Nat → Obj) (m : Str → Option Value) (news : List (Addr × Obj)), it = .ref I ∧ Walks prog w A I [I] [I] n (fun i v => ∃ t, v = .int (fi i) t) (fun i h => h.get? I = some (ito i)) ∧
    (∀ i, (ito i).isFreed = false) ∧ AllBare s₂.gens ∧ Fr h₀ env.locals s₂.heap m ∧ News h₀ env.locals s₂.heap news ∧
    NextG prog w A (notedBy (model prog w) A env fun e s' => cameBackBy (model prog w) A env E e s') h₀ env x body Q s₂ I fi ito n 0 m news

theorem for_G {px pos : Pos} {iter : Expr} (hx : env.kindOf x = some .local)
    (hp : (env.scope.kind == .class || (env.scope.kind == .module && env.locals != env.globals)) = false)
    (h : wpAny (model prog w) A (eval iter env) (fun xv s₁ => wpAny (model prog w) A (pyIter xv) (LoopG prog w A E h₀ env x body Q) E s₁) E s)
    (hs : ∀ x, foldedSetIterable iter env x = pure x := by intro _; rfl) :
    wpAny (model prog w) A (exec (.For (.Name x px) iter body [] pos) env) Q E s := by
  refine wpAny_For (wpAny_mono h (fun xv s₁ h₁ => wpAny_mono h₁ (fun it s₂ h₂ => ?_) fun _ _ e => e) fun _ _ e => e) hs
  obtain ⟨I, n, fi, ito, m, news, rfl, W, hfr, hG, F, N, nx⟩ := h₂
  refine codeAny_forLoop (fun k s' => ∃ i h' tk gs m' news', s' = { s₂ with heap := h', toks := tk, gens := gs } ∧ k = n - i ∧ i ≤ n ∧ AllBare gs ∧ Fr h₀ env.locals h' m' ∧ News h₀ env.locals h' news' ∧
    NextG prog w A (notedBy (model prog w) A env fun e s' => cameBackBy (model prog w) A env E e s') h₀ env x body Q s₂ I fi ito (n - i) i m' news') ?_ n
    ⟨0, s₂.heap, s₂.toks, s₂.gens, m, news, rfl, rfl, Nat.zero_le _, hG, F, N, nx⟩
  rintro k s' ⟨i, h', tk, gs, m', news', rfl, hk, hi, hG', F', N', nx'⟩
  by_cases hlt : i < n
  · obtain ⟨j, hj⟩ : ∃ j, n - i = j + 1 := ⟨n - i - 1, by omega⟩
    rw [hj] at nx'
    obtain ⟨g, U, step⟩ := nx'
    have hI := N' _ (UpdF.at U)
    refine W.item i _ _ _ hlt hI.1 fun v h₁ tk₁ hP hst₁ hk₁ => ?_
    obtain ⟨t, rfl⟩ := hP
    have keep₁ : ∀ b o, b ≠ I → h'.get? b = some o → h₁.get? b = some o := fun b o hb e => hk₁ b o (fun q => hb (List.mem_singleton.mp q)) e
    have F₁ : Fr h₀ env.locals h₁ m' := ⟨F'.ns.at' fun o e => keep₁ _ o hI.2.1.symm e, fun b o e => keep₁ b o (fun q => by rw [q, hI.2.2] at e; cases e) (F'.keep b o e), F'.above⟩
    have N₁ : News h₀ env.locals h₁ (g (ito (i + 1))) := fun q hq => by
      rcases UpdF.mem U q hq with e | ⟨a, b⟩
      · rw [e]; exact ⟨hst₁, hI.2⟩
      · exact ⟨keep₁ _ _ b (N' q a).1, (N' q a).2⟩
    refine wpAny_assign_Name (wpAny_storeName_local hx F₁.ns (fun h₂ hn₂ hs₂ => ?_) hp)
    refine wpAny_mono (step t h₂ _ gs hG' (F₁.set hn₂ hs₂) (N₁.set hs₂)) (fun f s₃ h₃ => ?_) fun _ _ e => e
    obtain ⟨rfl, h₃, tk₃, gs₃, m₃, news₃, rfl, hG₃, F₃, N₃, nx₃⟩ := h₃
    refine ⟨n - (i + 1), by omega, i + 1, h₃, tk₃, gs₃, m₃, news₃, rfl, rfl, hlt, hG₃, F₃, N₃, ?_⟩
    have e : n - (i + 1) = j := by omega
    rw [e]
    exact nx₃
  · have hin : i = n := by omega
    subst hin
    rw [Nat.sub_self] at nx'
    obtain ⟨rest, D, done⟩ := nx'
    have hmem : ∀ {l l' : List (Addr × Obj)}, DropF I (ito i) l l' → (I, ito i) ∈ l := fun d => by
      induction d with
      | head _ => exact .head _
      | tail _ _ ih => exact .tail _ ih
    have hI := N' _ (hmem D)
    refine W.done _ _ _ hI.1 fun h₁ tk₁ hk₁ => wpAny_execs_nil ?_
    have keep₁ : ∀ b o, b ≠ I → h'.get? b = some o → h₁.get? b = some o := fun b o hb e => hk₁ b o (fun q => hb (List.mem_singleton.mp q)) e
    exact done h₁ tk₁ gs hG' ⟨F'.ns.at' fun o e => keep₁ _ o hI.2.1.symm e, fun b o e => keep₁ b o (fun q => by rw [q, hI.2.2] at e; cases e) (F'.keep b o e), F'.above⟩
      fun q hq => ⟨keep₁ _ _ (D.mem q hq).2 (N' q (D.mem q hq).1).1, (N' q (D.mem q hq).1).2⟩
end
end Ja
end

section
set_option maxHeartbeats 1000000
namespace Ja
open PySem PySem.W PySem.Calls PyProof.Rows PySem.Spec

def itC (x left step : Int) : Obj := { cls := .type "range_iterator", data := .fields #[rawInt x, rawInt left, rawInt step] }

theorem neAll_nil {d : Addr} : ∀ p ∈ ([] : List (Addr × Obj)), p.1 ≠ d := fun _ h => nomatch h
theorem neAll_cons {d : Addr} {p : Addr × Obj} {r : List (Addr × Obj)} (h : @Ne Nat p.1 d) (t : ∀ q ∈ r, q.1 ≠ d) : ∀ q ∈ p :: r, q.1 ≠ d := fun q hq => by
  rcases List.mem_cons.mp hq with e | e
  · rw [e]; exact h
  · exact t q e

section
variable {prog : Program} {w : World} {A : Around} {s : Shared} {E : Value → Shared → Prop} {env : Env} {h₀ : Heap} {x : Str} {body : List Stmt} {Q : Flow → Shared → Prop}

/-- The turns that are left, each with its int and the iterator ahead of it and behind it. -/
def NextL (prog : Program) (w : World) (A : Around) (E : Value → Shared → Prop) (h₀ : Heap) (env : Env) (x : Str) (body : List Stmt) (Q : Flow → Shared → Prop) (s : Shared) (I : Addr) (last : Obj) : List (Int × Obj × Obj) → (Str → Option Value) → List (Addr × Obj) → Prop
  | [], m, news => ∃ rest, DropF I last news rest ∧ ∀ h tk gs, AllBare gs → Fr h₀ env.locals h m → News h₀ env.locals h rest → Q .next { s with heap := h, toks := tk, gens := gs }
  | (v, o, o') :: r, m, news => ∃ g, UpdF I o news g ∧ ∀ t h tk gs, AllBare gs → Fr h₀ env.locals h (fun y => if y = x then some (.int v t) else m y) → News h₀ env.locals h (g o') →
      wpAny (model prog w) A (execs body env) (TurnG h₀ env.locals s (NextL prog w A E h₀ env x body Q s I last r)) E { s with heap := h, toks := tk, gens := gs }

theorem NextL.to {I : Addr} {last : Obj} {fi : Nat → Int} {ito : Nat → Obj} (items : List (Int × Obj × Obj)) (i : Nat) (hi : ∀ j v o o', items[j]? = some (v, o, o') → v = fi (i + j) ∧ o = ito (i + j) ∧ o' = ito (i + j + 1)) (hl : ito (i + items.length) = last) :
    NextL prog w A E h₀ env x body Q s I last items = NextG prog w A E h₀ env x body Q s I fi ito items.length i := by
  induction items generalizing i with
  | nil =>
    funext m news
    rw [← hl]
    rfl
  | cons p r ih =>
    obtain ⟨v, o, o'⟩ := p
    have ih := ih (i + 1) (fun j v o o' e => by
      have := hi (j + 1) v o o' e
      rw [show i + 1 + j = i + (j + 1) by omega]
      exact this) (by rw [← hl, show i + 1 + r.length = i + ((v, o, o') :: r).length by simp only [List.length_cons]; omega])
    obtain ⟨e1, e2, e3⟩ := hi 0 v o o' rfl
    funext m news
    unfold NextL
    rw [ih, e1, e2, e3]
    rfl

theorem NextL.same {I : Addr} {last : Obj} {hp : Heap} (items : List (Int × Obj × Obj)) : NextL prog w A E h₀ env x body Q { s with heap := hp } I last items = NextL prog w A E h₀ env x body Q s I last items := by
  induction items with
  | nil => rfl
  | cons p r ih =>
    obtain ⟨v, o, o'⟩ := p
    funext m news
    show (∃ g, _ ∧ ∀ t h tk gs, _ → _ → _ → wpAny _ _ _ (TurnG h₀ env.locals { s with heap := hp } (NextL prog w A E h₀ env x body Q { s with heap := hp } I last r)) _ _) = _
    rw [ih]
    rfl

theorem NextL.cons {I : Addr} {last o o' : Obj} {v : Int} {r : List (Int × Obj × Obj)} {m : Str → Option Value} {news : List (Addr × Obj)} {g : Obj → List (Addr × Obj)} (U : UpdF I o news g)
    (h : ∀ t h tk gs, AllBare gs → Fr h₀ env.locals h (fun y => if y = x then some (.int v t) else m y) → News h₀ env.locals h (g o') →
      wpAny (model prog w) A (execs body env) (TurnG h₀ env.locals s (NextL prog w A E h₀ env x body Q s I last r)) E { s with heap := h, toks := tk, gens := gs }) : NextL prog w A E h₀ env x body Q s I last ((v, o, o') :: r) m news := ⟨g, U, h⟩
theorem NextL.nil {I : Addr} {last : Obj} {m : Str → Option Value} {news rest : List (Addr × Obj)} (D : DropF I last news rest)
    (h : ∀ h tk gs, AllBare gs → Fr h₀ env.locals h m → News h₀ env.locals h rest → Q .next { s with heap := h, toks := tk, gens := gs }) : NextL prog w A E h₀ env x body Q s I last [] m news := ⟨rest, D, h⟩
theorem TurnG.mk {L : Addr} {nx : (Str → Option Value) → List (Addr × Obj) → Prop} {h' : Heap} {tk : Nat} {gs : Array GenState} {m' : Str → Option Value} {news' : List (Addr × Obj)} (hG : AllBare gs) (F : Fr h₀ L h' m') (N : News h₀ L h' news') (n : nx m' news') :
    TurnG h₀ L s nx .next { s with heap := h', toks := tk, gens := gs } := ⟨rfl, h', tk, gs, m', news', rfl, hG, F, N, n⟩

theorem for_GF {m : Str → Option Value} {px pos : Pos} {iter : Expr} (_F : Fr h₀ env.locals s.heap m) (hx : env.kindOf x = some .local)
    (hp : (env.scope.kind == .class || (env.scope.kind == .module && env.locals != env.globals)) = false)
    (h : wpAny (model prog w) A (eval iter env) (fun xv s₁ => wpAny (model prog w) A (pyIter xv) (LoopG prog w A E h₀ env x body Q) E s₁) E s)
    (hs : ∀ x, foldedSetIterable iter env x = pure x := by intro _; rfl) :
    wpAny (model prog w) A (exec (.For (.Name x px) iter body [] pos) env) Q E s := for_G hx hp h hs

def items4 (a c : Int) : List (Int × Obj × Obj) := [(a, itC a 4 c, itC (a + c) 3 c), (a + c, itC (a + c) 3 c, itC (a + 2 * c) 2 c), (a + 2 * c, itC (a + 2 * c) 2 c, itC (a + 3 * c) 1 c), (a + 3 * c, itC (a + 3 * c) 1 c, itC (a + 4 * c) 0 c)]

theorem loop4 {I : Addr} {a c : Int} {s₂ : Shared} {m : Str → Option Value} {news : List (Addr × Obj)} (hh : A.handled = none) (hG : AllBare s₂.gens) (F : Fr h₀ env.locals s₂.heap m) (N : News h₀ env.locals s₂.heap news)
    (nx : NextL prog w A (notedBy (model prog w) A env fun e s' => cameBackBy (model prog w) A env E e s') h₀ env x body Q s₂ I (itC (a + 4 * c) 0 c) (items4 a c) m news) : LoopG prog w A E h₀ env x body Q (.ref I) s₂ := by
  rw [NextL.to (fi := fun i => a + (i : Int) * c) (ito := fun i => itC (a + (i : Nat) * c) ((4 : Int) - (i : Nat)) c) (items4 a c) 0 (by
    intro j v o o' e
    match j, e with
    | 0, e => simp only [items4, List.getElem?_cons_zero, Option.some.injEq, Prod.mk.injEq] at e; obtain ⟨rfl, rfl, rfl⟩ := e; simp
    | 1, e => simp only [items4, List.getElem?_cons_succ, List.getElem?_cons_zero, Option.some.injEq, Prod.mk.injEq] at e; obtain ⟨rfl, rfl, rfl⟩ := e; simp
    | 2, e => simp only [items4, List.getElem?_cons_succ, List.getElem?_cons_zero, Option.some.injEq, Prod.mk.injEq] at e; obtain ⟨rfl, rfl, rfl⟩ := e; simp
    | 3, e => simp only [items4, List.getElem?_cons_succ, List.getElem?_cons_zero, Option.some.injEq, Prod.mk.injEq] at e; obtain ⟨rfl, rfl, rfl⟩ := e; simp
    | j + 4, e => simp [items4] at e) (by simp [items4])] at nx
  exact ⟨I, 4, fun i => a + (i : Int) * c, fun i => itC (a + (i : Nat) * c) ((4 : Int) - (i : Nat)) c, m, news, rfl, Walks.range hh I a c 4, fun _ => rfl, hG, F, N, nx⟩

theorem iter_up4 {r : Addr} {t₀ u₀ v₀ : Tok} {m : Str → Option Value} {news : List (Addr × Obj)} (hh : A.handled = none) (hr : IsRange s.heap r 0 4 1 t₀ u₀ v₀) (hG : AllBare s.gens) (F : Fr h₀ env.locals s.heap m) (N : News h₀ env.locals s.heap news)
    (rest : ∀ I : Addr, (∀ p ∈ news, p.1 < I) → NextL prog w A (notedBy (model prog w) A env fun e s' => cameBackBy (model prog w) A env E e s') h₀ env x body Q s I (itC 4 0 1) [(0, itC 0 4 1, itC 1 3 1), (1, itC 1 3 1, itC 2 2 1), (2, itC 2 2 1, itC 3 1 1), (3, itC 3 1 1, itC 4 0 1)] m ((I, itC 0 4 1) :: news)) :
    wpAny (model prog w) A (pyIter (.ref r)) (LoopG prog w A E h₀ env x body Q) E s := by
  refine wpAny_pyIter_range hr (by decide) ?_
  have e : Builtin.Range.rangeSize 0 4 1 = 4 := by decide
  rw [e]
  refine loop4 (a := 0) (c := 1) hh hG (F.push _) (News.push F N _) ?_
  rw [NextL.same]
  exact rest _ fun p hp => Heap.lt_size (N p hp).1

theorem iter_down4 {I : Addr} {m : Str → Option Value} {news : List (Addr × Obj)} (hh : A.handled = none) (hI : (I, itC 3 4 (-1)) ∈ news) (hG : AllBare s.gens) (F : Fr h₀ env.locals s.heap m) (N : News h₀ env.locals s.heap news)
    (rest : NextL prog w A (notedBy (model prog w) A env fun e s' => cameBackBy (model prog w) A env E e s') h₀ env x body Q s I (itC (-1) 0 (-1)) [(3, itC 3 4 (-1), itC 2 3 (-1)), (2, itC 2 3 (-1), itC 1 2 (-1)), (1, itC 1 2 (-1), itC 0 1 (-1)), (0, itC 0 1 (-1), itC (-1) 0 (-1))] m news) :
    wpAny (model prog w) A (pyIter (.ref I)) (LoopG prog w A E h₀ env x body Q) E s := by
  refine (Walks.range (prog := prog) (w := w) hh I 3 (-1) 4).self 0 _ _ _ ?_ ?_
  · exact (N _ hI).1
  · exact loop4 (a := 3) (c := -1) hh hG F N rest
end

section
variable {prog : Program} {w : World} {A : Around} {s : Shared} {E : Value → Shared → Prop}
theorem sub_ri_reversed : isSubtype (.type "range_iterator") (.type "reversed") = pure false := by rw [isSubtype_type]; kernel_rfl
theorem rev_range {r : Addr} {t₀ u₀ v₀ : Tok} {Q : Value → Shared → Prop} (hr : IsRange s.heap r 0 4 1 t₀ u₀ v₀)
    (h : Q (.ref s.heap.objs.size) { s with heap := s.heap.push (itC 3 4 (-1)) }) : wpAny (model prog w) A (call (.builtin "range.__reversed__") [.ref r]) Q E s := by
  refine wpAny_call_entry F.slot_range_reversed ⟨_, hr, rfl⟩ F.entry_range_reversed ?_ (F.args_range_reversed_1 _)
  unfold Builtin.«range.__reversed__»
  refine wpAny_bind (wpAny_of_eq (a := Value.ref r) rfl ?_)
  unfold Builtin.Range.rangeFields
  have e1 : Builtin.Range.rangeSize 0 4 1 = 4 := by decide
  obtain ⟨hp, g, d, tk, os⟩ := s
  have hr' : hp.get? r = some { cls := .type "range", dict := none, data := .fields #[.int 0 t₀, .int 4 u₀, .int 1 v₀], slots := #[] } := hr
  wp_walk
  refine ⟨_, rfl, ?_⟩
  rw [e1, if_pos (by decide)]
  exact h
theorem code_rev_range {r : Addr} {t₀ u₀ v₀ : Tok} {Q₁ : Value → Shared → Prop} (hr : IsRange s.heap r 0 4 1 t₀ u₀ v₀)
    (h : Q₁ (.ref s.heap.objs.size) { s with heap := s.heap.push (itC 3 4 (-1)) }) :
    codeAny (model prog w) A (.call (.builtin "reversed.__new__") ⟨[.type "reversed", .ref r], []⟩) (wants Q₁ E) s := by
  have hT : s.TypeIs (.ref r) "range" := ⟨_, hr, rfl⟩
  refine codeAny_of_tree ?_
  show wpAny _ A.in1 (do checkBuiltinCall "reversed.__new__" ⟨[.type "reversed", .ref r], []⟩; again (.builtin "reversed.__new__" ⟨[.type "reversed", .ref r], []⟩)) _ _ s
  refine wpAny_bind (wpAny_of_eq (F.newCall_reversed_1 _) (wpAny_pure ⟨plainId_quiet F.plain_reversed_new _, codeAny_builtin F.entry_reversed_new ?_⟩))
  rw [Around.under_plainId F.plain_reversed_new _]
  unfold Builtin.«reversed.__new__»
  refine wpAny_bind (wpAny_of_eq (newClass_reversed _) ?_)
  try dsimp only
  refine wpAny_bind (wpAny_of_eq (a := ()) (by first | rfl | kernel_rfl) ?_)
  refine wpAny_bind (wpAny_of_eq (a := ()) (by first | rfl | kernel_rfl) ?_)
  try dsimp only
  refine wpAny_bind (wpAny_specialOf hT F.slot_range_reversed.lookup ?_)
  try dsimp only
  refine wpAny_bind (wpAny_of_eq (F.slot_range_reversed.bind _) ?_)
  try dsimp only
  first
  | rw [if_neg (show ¬ ((Value.builtin "range.__reversed__" == Value.none) = true) from Bool.false_ne_true)]
  | (show wpAny _ _ (if (Value.builtin "range.__reversed__" == Value.none) = true then _ else _) _ _ _; rw [if_neg (show ¬ ((Value.builtin "range.__reversed__" == Value.none) = true) from Bool.false_ne_true)])
  refine wpAny_bind (wpAny_rule ?_)
  refine wpAny_bind (m := runValue (.call (.builtin "range.__reversed__") ⟨[.ref r], []⟩)) (show wpAny _ _ (call (.builtin "range.__reversed__") [.ref r]) _ _ _ from rev_range hr ?_)
  first
  | exact wpAny_pure h
  | exact wpAny_bind (wpAny_pure (wpAny_pure h))
theorem call_rev_range {r : Addr} {t₀ u₀ v₀ : Tok} {h₀ : Heap} {L : Addr} {m : Str → Option Value} {news : List (Addr × Obj)} {Q : Value → Shared → Prop} (hr : IsRange s.heap r 0 4 1 t₀ u₀ v₀) (F : Fr h₀ L s.heap m) (N : News h₀ L s.heap news)
    (h : ∀ D h', Fr h₀ L h' m → News h₀ L h' ((D, itC 3 4 (-1)) :: news) → (∀ p ∈ news, p.1 < D) → Q (.ref D) { s with heap := h' }) : wpAny (model prog w) A (call (.type "reversed") [.ref r]) Q E s := by
  refine callType_other (U := "range_iterator") (Q₁ := fun obj s₁ => obj = .ref s.heap.objs.size ∧ s₁ = { s with heap := s.heap.push (itC 3 4 (-1)) }) (by decide +kernel) PySem.F.create_reversed ⟨_, _, PySem.F.mro_reversed⟩ PySem.F.made_reversed sub_ri_reversed (PySem.F.typeCall_reversed_1 _) (code_rev_range hr ⟨rfl, rfl⟩) ?_
  rintro obj s₁ ⟨rfl, rfl⟩
  exact ⟨⟨_, Heap.get?_push_size _ rfl, rfl⟩, h _ _ (F.push _) (News.push F N _) fun p hp => Heap.lt_size (N p hp).1⟩
end
end Ja
end

section
set_option maxHeartbeats 1000000
namespace Ja
open PySem PySem.W PySem.Calls PyProof.Rows

def lo (ks : List Int) : List Int := ks.take (ks.length / 2)
def hi (ks : List Int) : List Int := ks.drop (ks.length / 2)
theorem lo_length {ks : List Int} : (lo ks).length = ks.length / 2 := by
  unfold lo
  rw [List.length_take]
  omega
theorem hi_length {ks : List Int} (h : ks.length % 2 = 0) : (hi ks).length = ks.length / 2 := by
  unfold hi
  rw [List.length_drop]
  omega
theorem clip_half (n : Nat) : clipAt n ((n : Int).fdiv 2) = n / 2 := by
  have e : (n : Int).fdiv 2 = ((n / 2 : Nat) : Int) := by rw [Int.fdiv_eq_ediv_of_nonneg _ (by decide)]; omega
  rw [e, clipAt_nat]
  omega
theorem half_lo {ks : List Int} : List.take (clipAt ks.length ((ks.length : Int).fdiv 2)) ks = lo ks := by rw [clip_half]; rfl
theorem half_hi {ks : List Int} : List.take (ks.length - clipAt ks.length ((ks.length : Int).fdiv 2)) (List.drop (clipAt ks.length ((ks.length : Int).fdiv 2)) ks) = hi ks := by
  rw [clip_half, hi, List.take_of_length_le (by rw [List.length_drop]; omega)]
theorem odd_out {n : Nat} {P : Prop} (h : n % 2 = 0) (hn : (n : Int).fmod 2 ≠ 0) : P := by
  rw [Int.fmod_eq_emod_of_nonneg _ (by decide)] at hn
  omega
theorem even_out {n : Nat} {P : Prop} (h : n % 2 = 1) (hn : ¬ (n : Int).fmod 2 ≠ 0) : P := by
  rw [Int.fmod_eq_emod_of_nonneg _ (by decide)] at hn
  omega
theorem tab_ne {vs : Array Value} {x : Str} {t : Tok} (h : TriplesOk vs.toList) (hv : vs[1]? = some (.str x t)) : False := by
  obtain ⟨l⟩ := vs
  match l, h with
  | [], _ => simp at hv
  | .int _ _ :: .int _ _ :: _ :: _, _ => simp at hv

/-- What the stretching function is told at a turn. -/
def RowOf (ws ss : List Int) (e i : Int) (rs : List Int) (o : Obj) : Prop := ∃ W tW S tS tR tZ, o = tupOf W tW S tS (itF e) tR (rs.length : Int) tZ ∧ KBw.bInts W = i :: ws ∧ KBw.bInts S = ss ++ rs

/-- What the net hands back: the two halves, and the four rows told. -/
def NetRet (first : Int) (ws ss : List Int) (e : Int) (ks : List Int) (i0 i1 i2 i3 : Int) (news : List (Addr × Obj)) (g : Obj → Obj → List (Addr × Obj)) (L : Addr) (r : Value) (news' : List (Addr × Obj)) : Prop :=
  ∃ b t ps' n2 a0 a1 a2 a3 o0 o1 o2 o3 R1 R2 R3 R4, news' = (a3, o3) :: (a2, o2) :: (a1, o1) :: (a0, o0) :: g (listOf #[.ref a0, .ref a1, .ref a2, .ref a3] n2) (tabObj ps') ∧ r = .bytes b t ∧ KBw.bInts b = R4 ++ R3 ∧
    R4 = xors R2 (roundF first ws ss e i3 R3) ∧ R3 = xors R1 (roundF first ws ss e i2 R2) ∧ R2 = xors (hi ks) (roundF first ws ss e i1 R1) ∧ R1 = xors (lo ks) (roundF first ws ss e i0 (hi ks)) ∧
    RowOf ws ss e i0 (hi ks) o0 ∧ RowOf ws ss e i1 R1 o1 ∧ RowOf ws ss e i2 R2 o2 ∧ RowOf ws ss e i3 R3 o3 ∧ TriplesOk ps'.toList ∧
    (∀ q ∈ news, q.1 < a0) ∧ @LT.lt Nat _ a0 a1 ∧ @LT.lt Nat _ a1 a2 ∧ @LT.lt Nat _ a2 a3 ∧ @LT.lt Nat _ L a0

theorem net_end {h₀ h : Heap} {L : Addr} {p0 p1 p2 p3 c t : Addr × Obj} {r : List (Addr × Obj)} (N : News h₀ L h (p3 :: p2 :: p1 :: p0 :: c :: t :: r)) : News h₀ L h [p3, p2, p1, p0] ∧ News h₀ L h [c, t] ∧ News h₀ L h r :=
  ⟨cb_drop N fun p hp => by
    simp only [List.mem_cons, List.not_mem_nil, or_false] at hp ⊢
    rcases hp with e | e | e | e <;> subst e <;> simp,
   cb_drop N fun p hp => by
    simp only [List.mem_cons, List.not_mem_nil, or_false] at hp ⊢
    rcases hp with e | e <;> subst e <;> simp,
   cb_drop N fun p hp => by
    simp only [List.mem_cons]
    simp [hp]⟩
theorem Kept.less2 {h₀ h h' : Heap} {L d e : Addr} {o u : Obj} {news rest : List (Addr × Obj)} (N : News h₀ L h news) (hsub : ∀ q ∈ (d, o) :: (e, u) :: rest, q ∈ news) (hk : Kept h₀ L h' news (((d, o) :: (e, u) :: rest).map (·.1))) (NR : News h₀ L h' rest) : Kept h₀ L h' news [d, e] := by
  intro q hq hn
  by_cases hm : q.1 ∈ ((d, o) :: (e, u) :: rest).map (·.1)
  · obtain ⟨x, he, hq1⟩ := List.mem_map.mp hm
    rcases List.mem_cons.mp he with z | z
    · exact absurd (by rw [← hq1, z]; simp) hn
    · rcases List.mem_cons.mp z with z | z
      · exact absurd (by rw [← hq1, z]; simp) hn
      · have a := N q hq
        have b := N x (hsub x (.tail _ (.tail _ z)))
        have hx : x = q := by
          refine Prod.ext hq1 ?_
          have c := b.1
          rw [hq1] at c
          exact Option.some.inj (c.symm.trans a.1)
        rw [← hx]
        exact NR x z
  · exact hk q hq hm
theorem News.four {h₀ h : Heap} {L : Addr} {p0 p1 p2 p3 : Addr × Obj} {r : List (Addr × Obj)} (N : News h₀ L h [p3, p2, p1, p0]) (M : News h₀ L h r) : News h₀ L h (p3 :: p2 :: p1 :: p0 :: r) := fun q hq => by
  rw [show p3 :: p2 :: p1 :: p0 :: r = [p3, p2, p1, p0] ++ r from rfl] at hq
  rcases List.mem_append.mp hq with e | e
  · exact N q e
  · exact M q e
theorem head_lt {p : Addr × Obj} {r : List (Addr × Obj)} {D : Addr} (h : ∀ q ∈ p :: r, q.1 < D) : @LT.lt Nat _ p.1 D := h p (.head _)
/-- Dead entries of the ledger go: the pair that a swap made, the list of one int. -/
theorem News.untup {h₀ h : Heap} {L D : Addr} {a b : Array UInt8} {t u : Tok} {r : List (Addr × Obj)} (N : News h₀ L h ((D, { cls := .type "tuple", data := .seq #[.bytes a t, .bytes b u] }) :: r)) : News h₀ L h r := fun q hq => N q (.tail _ hq)
theorem News.unlist {h₀ h : Heap} {L l : Addr} {p : Addr × Obj} {k : Int} {t : Tok} {n : Nat} {r : List (Addr × Obj)} (N : News h₀ L h (p :: (l, listOf #[.int k t] n) :: r)) : News h₀ L h (p :: r) := fun q hq => by
  rcases List.mem_cons.mp hq with e | e
  · exact N q (e ▸ .head _)
  · exact N q (.tail _ (.tail _ e))
theorem lt_raw {news : List (Addr × Obj)} {a D : Addr} {o : Obj} (l : ∀ q ∈ news, q.1 < D) (h : (a, o) ∈ news) : @LT.lt Nat _ a D := l (a, o) h
theorem raw_cons {news : List (Addr × Obj)} {a b : Addr} (o : Obj) (l : ∀ q ∈ news, q.1 < a) (h : @LT.lt Nat _ a b) : ∀ q ∈ (a, o) :: news, q.1 < b := fun q hq => by
  rcases List.mem_cons.mp hq with e | e
  · rw [e]; exact h
  · exact Nat.lt_trans (l q e) h
theorem add_fits {a b : Nat} (h1 : a ≤ 40) (h2 : b ≤ 40) : a + b ≤ 16777216 := by omega
end Ja
end

section
set_option maxHeartbeats 2000000
namespace Ja
open PySem PySem.W PySem.Calls PyProof.Rows


local macro_rules | `(tactic| kba_size) => `(tactic| first | k_extra "ja le" | exact add_fits (by k_extra "ja le") (by k_extra "ja le"))
local macro_rules | `(tactic| k_lt $h:ident) => `(tactic| (have l8 := head_lt $h; dsimp only at l8))
local macro_rules | `(tactic| k_ne) => `(tactic| (refine neN ?_; (try dsimp only); first | (with_reducible assumption) | exact Ne.symm (by with_reducible assumption) | exact Nat.ne_of_lt (lt_raw (by assumption) (by k_mem)) | exact Nat.ne_of_gt (lt_raw (by assumption) (by k_mem)) | decide | omega))



theorem encrypt_call : ∀ (w : World) (e ident : Int) (ext : Bool) (f cF cC c' callsA : Addr) (doc pm ctv : Value) (oF oC oc : Obj) (vs : Array Value) (tq tF : Tok) (first : Int) (sec word : Array UInt8) (ts tw te ti : Tok) (ks ws : List Int) (n1 : Nat) (ps : Array Value) (news : List (Addr × Obj)) (g1 : Obj → List (Addr × Obj)) (g2 : Obj → Obj → List (Addr × Obj)),
    (f, strObj cF cC doc pm c' ctv) ∈ news → (c', oc) ∈ news → oc.data = .fields vs → vs[1]? = some (.str strQual tq) → (cF, oF) ∈ news → oF.data = .cell (some (.int first tF)) → (cC, oC) ∈ news → oC.data = .cell (some (.ref callsA)) →
    UpdF callsA (listOf #[] n1) news g1 → (∀ o, UpdF 30 (tabObj ps) (g1 o) (g2 o)) → TriplesOk ps.toList → KBw.bInts sec = ks → KBw.bInts word = ws → ks.length ≤ 36 → ks.length % 2 = 0 → ws.length ≤ 6 → 0 ≤ first → first < 1000 → 0 ≤ e → e < 16 → 0 ≤ ident → ident < 32768 →
    CallsToG 14 w (Ja.head.heap_39 w.params) (.ref 56) [.bytes sec ts, .bytes word tw, .int e te, .int ident ti, .bool ext, .ref f] news (fun L r news' => NetRet first ws (saltF ident ext) e ks 0 1 2 3 news g2 L r news') := by
  k_with_none
  (k_with "exec Assign" => ((k_here; k_fold)))
  (k_with "exec Return some" => ((k_here; k_fold)))
  (k_with "exec Expr" => ((k_here; k_fold)))
  (k_with "eval Call" => ((k_here; k_fold)))
  (k_with "ja le" => (first | exact Nat.le_trans (by with_reducible assumption) (by decide) | exact Nat.le_trans (Nat.le_of_eq (by with_reducible assumption)) (Nat.le_trans (by with_reducible assumption) (by decide))))
  (k_with "ja len" => (first | exact Eq.trans (by with_reducible assumption) (Eq.symm (by with_reducible assumption)) | omega))
  (k_with "ja len40" => (first | k_extra "ja le" | omega))
  (k_with "ja part" => ((refine' enter_part_K ?qk19 ?qk29 ?qk39 ?qk49 ?qk59 ?qkS9 ?qkA9 ?qkF9 ?qkK9 ?qk69 ?qk79 ?qk89 ?qk99 ?qkB9 ?_ ?qc29 ?qc39 ?qc49 ?qc59; (case qkA9 => exact rfl); (case qkF9 => exact rfl); (case qkK9 => assumption); (case qk19 => k_asm); (case qk29 => k_asm); (case qk39 => k_asm); (case qk49 => k_asm); (case qk59 => k_asm); (case qkS9 => assumption); (case qk69 => k_is); (case qk79 => k_is); (case qk89 => ktr_room); (case qk99 => exact BindsTo.of_eq rfl); (case qc59 => decide); (case qkB9 => exact locs rfl); (case qc29 => exact rfl); (case qc39 => exact rfl); (case qc49 => exact rfl); k_whole; intro g' L' h' FG' F' N' B' X' T' l1 kept' all' lL'; (have hC9 := codeHd_of_K (c := 90) (P := 86) X' (by kernel_rfl)); (try dsimp only); (have l8 := allLt_of l1; simp only [AllLt, and_true] at l8); (try k_lift B'); (try k_fold))))
  (k_with "call ref" => ((
      k_here
      (with_reducible show wpAny _ _ (call (Value.ref 42) _) _ _ _)
      k_dflt (
        refine' CallsTo.use (round_call _ _ _ _ _ _ _ _ _ _ _ _ _ _ _ _ _ _ _ _ _ _ _ _ _ _ _ _ _ _ _ _ _ ?qhf9 ?qhc9 ?qhoc9 ?qhvs9 ?qhF9 ?qhoF9 ?qhC9 ?qhoC9 ?qU9 ?qhw9 ?qhs9 ?qhr9 ?ql19 ?ql29 ?ql39 ?qf09 ?qf19 ?qil9 ?qi09 ?qi19 ?qe09 ?qe19) ?qB9 ?qF9 ?qX9 ?qN9 ?qT9 ?qK9 ?qd9 ?qu9 ?_
        (case qB9 => k_asm)
        (case qF9 => k_asm)
        (case qX9 => k_asm)
        (case qN9 => k_asm)
        (case qT9 => k_asm)
        (case qK9 => first | exact rfl | assumption)
        (case qhf9 => k_mem)
        (case qhc9 => k_mem)
        (case qhoc9 => assumption)
        (case qhvs9 => assumption)
        (case qhF9 => k_mem)
        (case qhoF9 => assumption)
        (case qhC9 => k_mem)
        (case qhoC9 => assumption)
        (case qU9 => k_updF)
        (case qhw9 => kba_ints)
        (case qhs9 => kba_ints)
        (case qhr9 => kba_ints)
        (case ql19 => kba_size)
        (case ql29 => kba_size)
        (case ql39 => kba_size)
        (case qf09 => assumption)
        (case qf19 => assumption)
        (case qil9 => simp)
        (case qi09 => decide)
        (case qi19 => decide)
        (case qe09 => assumption)
        (case qe19 => assumption)
        (case qd9 => ktr_room)
        (case qu9 => ktr_units)
        k_whole)
      intro r9 news9 h9 tk9 hR9 F9 N9
      obtain ⟨b9, t9, tup9, n29, W9, tW9, S9, tS9, tR9, tZ9, Y9, hr9, hY9, hb9, hYl9, hW9, hS9, hn9, ht9, hl9⟩ := hR9
      (replace hYl9 := hYl9.trans (by with_reducible assumption))
      subst hr9
      subst hn9
      (try simp only [List.nil_append, List.cons_append] at N9)
      (try dsimp only at N9)
      (try dsimp only)
      (try k_lt ht9)
      (try k_sweep))))
  (k_with "call ref" => ((
      k_here
      (with_reducible show wpAny _ _ (call (Value.ref 49) _) _ _ _)
      k_dflt (
        refine' CallsTo.use (salt_call _ _ _ _ _ ?qi09 ?qi19) ?qB9 ?qF9 ?qX9 ?qN9 ?qT9 ?qK9 ?qd9 ?qu9 ?_
        (case qB9 => k_asm)
        (case qF9 => k_asm)
        (case qX9 => k_asm)
        (case qN9 => k_asm)
        (case qT9 => k_asm)
        (case qK9 => first | exact rfl | assumption)
        (case qi09 => assumption)
        (case qi19 => assumption)
        (case qd9 => ktr_room)
        (case qu9 => ktr_units)
        k_whole)
      intro r9 news9 h9 tk9 hR9 F9 N9
      obtain ⟨hn9, b9, t9, X9, hr9, hX9, hb9, hXl9⟩ := hR9
      subst hr9
      subst hn9
      (try dsimp only at N9)
      (try dsimp only)
      (rename KBw.bInts (KBy.picked _ none _) = _ => hlo9)
      (rename KBw.bInts (KBy.picked _ _ none) = _ => hhi9)
      (rw [half_lo] at hlo9)
      (rw [half_hi] at hhi9)
      (try k_sweep))))
  (k_with "call ref" => ((
      k_here
      (with_reducible show wpAny _ _ (call (Value.ref 35) _) _ _ _)
      k_dflt (
        refine' CallsToG.use (xor_call _ _ _ _ _ _ _ _ _ _ ?qh19 ?qh29 ?qhl9 ?qhz9 ?qht9 ?qU9) ?qB9 ?qF9 ?qX9 ?qN9 ?qT9 ?qK9 ?qd9 ?qu9 ?qG9 ?_
        (case qB9 => k_asm)
        (case qF9 => k_asm)
        (case qX9 => k_asm)
        (case qN9 => k_asm)
        (case qT9 => k_asm)
        (case qK9 => first | exact rfl | assumption)
        (case qU9 => k_updF)
        (case qh19 => kba_ints)
        (case qh29 => kba_ints)
        (case qhl9 => k_extra "ja len")
        (case qhz9 => k_extra "ja len40")
        (case qht9 => assumption)
        (case qd9 => ktr_room)
        (case qu9 => ktr_units)
        (case qG9 => assumption)
        k_whole)
      intro r9 news9 h9 tk9 gs9 hR9 G9 F9 N9
      obtain ⟨ps9, b9, t9, X9, hp9, hr9, hX9, hb9, hXl9, hn9⟩ := hR9
      (replace hXl9 := hXl9.trans (by with_reducible assumption))
      subst hr9
      subst hn9
      (try dsimp only at N9)
      (try dsimp only)
      (try k_sweep))))
  (k_with "exec For Name Call cons nil" => ((
      k_here
      (rename Fr _ _ _ _ => lF')
      (with_unfolding_all (
        refine' for_GF lF' ?qk19 ?qk29 ?_
        (case qk19 => exact rfl)
        (case qk29 => exact rfl)
        k_whole)))))
  (k_with "pyIter ref" => ((
      (with_reducible show wpAny _ _ (pyIter (Value.ref _)) (LoopG _ _ _ _ _ _ _ _ _) _ _)
      (rename IsRange _ _ _ _ _ _ _ _ => rgX)
      (rename Fr _ _ _ _ => lF')
      (rename News _ _ _ _ => lN')
      (with_unfolding_all refine iter_up4 (by rfl) rgX (by assumption) lF' lN' ?_)
      clear lF' lN'
      intro i' l1
      (have l8 := allLt_of l1; simp only [AllLt, and_true] at l8))))
  (k_with "ja neall" => (first | exact neAll_nil | (refine neAll_cons (by k_ne) ?_; k_extra "ja neall")))
  (k_with "ja drop" => (first
      | (refine DropF.head ?_
         k_extra "ja neall")
      | (refine' DropF.tail ?qn9 ?qt9
         (case qn9 => k_ne)
         (case qt9 => k_extra "ja drop"))))
  (k_with "NextL" => (first
      | (refine' NextL.cons ?qU9 ?_
         (case qU9 => k_updF)
         intro t9 h9 tk9 gs9 G9 F9 N9
         (try dsimp only at N9)
         (try (with_reducible replace N9 := News.untup N9))
         (try k_sweep)
         (try k_fold))
      | (refine' NextL.nil ?qD9 ?_
         (case qD9 => k_extra "ja drop")
         intro h9 tk9 gs9 G9 F9 N9
         (try (with_reducible replace N9 := News.untup N9))
         (try k_sweep))))
  (k_with "TurnG" => ((
      refine' TurnG.mk ?qG9 ?qF9 ?qN9 ?_
      (case qG9 => assumption)
      (case qF9 => k_asm)
      (case qN9 => k_asm))))
  intro w e ident ext f cF cC c' callsA doc pm ctv oF oC oc vs tq tF first sec word ts tw te ti ks ws n1 ps news g1 g2 hf hc' hoc hvs hcF hoF hcC hoC U1 U2 hps hsec hword hkl hkev hwl hf0 hf1 he0 he1 hi0 hi1 p loose mean mg mb dp un gd cn cs a ccd cl outer A₀ base h₀ L m s Q E B F X N T hk hd hu hG hret
  have hca := UpdF.at U1
  have h30 : ((30 : Addr), tabObj ps) ∈ news := by
    rcases UpdF.mem U1 _ (UpdF.at (U2 (listOf #[] n1))) with z | z
    · have := congrArg (fun q => q.2.cls) z
      cases this
    · exact z.1
  have hsub : ∀ q ∈ [(callsA, listOf #[] n1), ((30 : Addr), tabObj ps), (f, strObj cF cC doc pm c' ctv), (c', oc), (cF, oF), (cC, oC)], q ∈ news := by
    intro q hq
    simp only [List.mem_cons, List.not_mem_nil, or_false] at hq
    rcases hq with e | e | e | e | e | e <;> rw [e] <;> assumption
  have n1' : @Ne Nat callsA f := ne_data N hca hf (fun e => by cases e)
  have n2' : @Ne Nat callsA c' := ne_data N hca hc' (fun e => by rw [hoc] at e; cases e)
  have n3' : @Ne Nat callsA cF := ne_data N hca hcF (fun e => by rw [hoF] at e; cases e)
  have n4' : @Ne Nat callsA cC := ne_data N hca hcC (fun e => by rw [hoC] at e; cases e)
  have n5' : @Ne Nat callsA 30 := ne_data N hca h30 (fun e => by cases e)
  have n6' : @Ne Nat f 30 := ne_data N hf h30 (fun e => by cases e)
  have n7' : @Ne Nat cF 30 := ne_data N hcF h30 (fun e => by rw [hoF] at e; cases e)
  have n8' : @Ne Nat cC 30 := ne_data N hcC h30 (fun e => by rw [hoC] at e; cases e)
  have n9' : @Ne Nat c' 30 := ne_data N hc' h30 (fun e => by rw [hoc] at e; cases e; exact tab_ne hps hvs)
  have hlo := lo_length (ks := ks)
  have hhi := hi_length hkev
  have hn30 : ks.length / 2 ≤ 30 := by omega
  refine wpAny_call ?_
  k_dflt k_extra "ja part"
  k_steps
  · exact odd_out hkev (by assumption)
  rename _ = saltF ident ext => hsalt
  subst hsalt
  rename _ = roundF first ws _ e 0 _ => y0
  subst y0
  rename _ = roundF first ws _ e 1 _ => y1
  subst y1
  rename _ = roundF first ws _ e 2 _ => y2
  subst y2
  rename _ = roundF first ws _ e 3 _ => y3
  subst y3
  rename ∀ q ∈ news, q.1 < _ => all9
  rename News _ _ _ _ => kN9
  obtain ⟨n4, nc, nr⟩ := net_end kN9
  clear kN9
  refine' hret _ _ _ _ _ ?a ?b ?c ?d
  case b => assumption
  case c => k_asm
  case d => exact News.four n4 (Kept.two U1 U2 (Kept.less2 N hsub (Kept.up (Kept.of N (by assumption)) (by assumption)) nr) nc)
  case a => exact ⟨_, _, _, _, _, _, _, _, _, _, _, _, _, _, _, _, rfl, rfl, (by assumption), (by assumption), (by assumption), (by assumption), (by assumption), ⟨_, _, _, _, _, _, rfl, (by assumption), (by assumption)⟩, ⟨_, _, _, _, _, _, rfl, (by assumption), (by assumption)⟩, ⟨_, _, _, _, _, _, rfl, (by assumption), (by assumption)⟩, ⟨_, _, _, _, _, _, rfl, (by assumption), (by assumption)⟩, (by assumption), fun q hq => Nat.lt_trans (all9 q hq) (by assumption), lt_raw (by assumption) (by k_mem), lt_raw (by assumption) (by k_mem), lt_raw (by assumption) (by k_mem), Nat.lt_trans (by assumption) (by assumption)⟩
end Ja
end

section
set_option maxHeartbeats 2000000
namespace Ja
open PySem PySem.W PySem.Calls PyProof.Rows


local macro_rules | `(tactic| kba_size) => `(tactic| first | k_extra "ja le" | exact add_fits (by k_extra "ja le") (by k_extra "ja le"))
local macro_rules | `(tactic| k_lt $h:ident) => `(tactic| (have l8 := head_lt $h; dsimp only at l8))
local macro_rules | `(tactic| k_ne) => `(tactic| (refine neN ?_; (try dsimp only); first | (with_reducible assumption) | exact Ne.symm (by with_reducible assumption) | exact Nat.ne_of_lt (lt_raw (by assumption) (by k_mem)) | exact Nat.ne_of_gt (lt_raw (by assumption) (by k_mem)) | decide | omega))



theorem decrypt_call : ∀ (w : World) (e ident : Int) (ext : Bool) (f cF cC c' callsA : Addr) (doc pm ctv : Value) (oF oC oc : Obj) (vs : Array Value) (tq tF : Tok) (first : Int) (sec word : Array UInt8) (ts tw te ti : Tok) (ks ws : List Int) (n1 : Nat) (ps : Array Value) (news : List (Addr × Obj)) (g1 : Obj → List (Addr × Obj)) (g2 : Obj → Obj → List (Addr × Obj)),
    (f, strObj cF cC doc pm c' ctv) ∈ news → (c', oc) ∈ news → oc.data = .fields vs → vs[1]? = some (.str strQual tq) → (cF, oF) ∈ news → oF.data = .cell (some (.int first tF)) → (cC, oC) ∈ news → oC.data = .cell (some (.ref callsA)) →
    UpdF callsA (listOf #[] n1) news g1 → (∀ o, UpdF 30 (tabObj ps) (g1 o) (g2 o)) → TriplesOk ps.toList → KBw.bInts sec = ks → KBw.bInts word = ws → ks.length ≤ 36 → ks.length % 2 = 0 → ws.length ≤ 6 → 0 ≤ first → first < 1000 → 0 ≤ e → e < 16 → 0 ≤ ident → ident < 32768 →
    CallsToG 14 w (Ja.head.heap_39 w.params) (.ref 63) [.bytes sec ts, .bytes word tw, .int e te, .int ident ti, .bool ext, .ref f] news (fun L r news' => NetRet first ws (saltF ident ext) e ks 3 2 1 0 news g2 L r news') := by
  k_with_none
  (k_with "exec Assign" => ((k_here; k_fold)))
  (k_with "exec Return some" => ((k_here; k_fold)))
  (k_with "exec Expr" => ((k_here; k_fold)))
  (k_with "eval Call" => ((k_here; k_fold)))
  (k_with "ja le" => (first | exact Nat.le_trans (by with_reducible assumption) (by decide) | exact Nat.le_trans (Nat.le_of_eq (by with_reducible assumption)) (Nat.le_trans (by with_reducible assumption) (by decide))))
  (k_with "ja len" => (first | exact Eq.trans (by with_reducible assumption) (Eq.symm (by with_reducible assumption)) | omega))
  (k_with "ja len40" => (first | k_extra "ja le" | omega))
  (k_with "ja part" => ((refine' enter_part_K ?qk19 ?qk29 ?qk39 ?qk49 ?qk59 ?qkS9 ?qkA9 ?qkF9 ?qkK9 ?qk69 ?qk79 ?qk89 ?qk99 ?qkB9 ?_ ?qc29 ?qc39 ?qc49 ?qc59; (case qkA9 => exact rfl); (case qkF9 => exact rfl); (case qkK9 => assumption); (case qk19 => k_asm); (case qk29 => k_asm); (case qk39 => k_asm); (case qk49 => k_asm); (case qk59 => k_asm); (case qkS9 => assumption); (case qk69 => k_is); (case qk79 => k_is); (case qk89 => ktr_room); (case qk99 => exact BindsTo.of_eq rfl); (case qc59 => decide); (case qkB9 => exact locs rfl); (case qc29 => exact rfl); (case qc39 => exact rfl); (case qc49 => exact rfl); k_whole; intro g' L' h' FG' F' N' B' X' T' l1 kept' all' lL'; (have hC9 := codeHd_of_K (c := 90) (P := 86) X' (by kernel_rfl)); (try dsimp only); (have l8 := allLt_of l1; simp only [AllLt, and_true] at l8); (try k_lift B'); (try k_fold))))
  (k_with "call ref" => ((
      k_here
      (with_reducible show wpAny _ _ (call (Value.ref 42) _) _ _ _)
      k_dflt (
        refine' CallsTo.use (round_call _ _ _ _ _ _ _ _ _ _ _ _ _ _ _ _ _ _ _ _ _ _ _ _ _ _ _ _ _ _ _ _ _ ?qhf9 ?qhc9 ?qhoc9 ?qhvs9 ?qhF9 ?qhoF9 ?qhC9 ?qhoC9 ?qU9 ?qhw9 ?qhs9 ?qhr9 ?ql19 ?ql29 ?ql39 ?qf09 ?qf19 ?qil9 ?qi09 ?qi19 ?qe09 ?qe19) ?qB9 ?qF9 ?qX9 ?qN9 ?qT9 ?qK9 ?qd9 ?qu9 ?_
        (case qB9 => k_asm)
        (case qF9 => k_asm)
        (case qX9 => k_asm)
        (case qN9 => k_asm)
        (case qT9 => k_asm)
        (case qK9 => first | exact rfl | assumption)
        (case qhf9 => k_mem)
        (case qhc9 => k_mem)
        (case qhoc9 => assumption)
        (case qhvs9 => assumption)
        (case qhF9 => k_mem)
        (case qhoF9 => assumption)
        (case qhC9 => k_mem)
        (case qhoC9 => assumption)
        (case qU9 => k_updF)
        (case qhw9 => kba_ints)
        (case qhs9 => kba_ints)
        (case qhr9 => kba_ints)
        (case ql19 => kba_size)
        (case ql29 => kba_size)
        (case ql39 => kba_size)
        (case qf09 => assumption)
        (case qf19 => assumption)
        (case qil9 => simp)
        (case qi09 => decide)
        (case qi19 => decide)
        (case qe09 => assumption)
        (case qe19 => assumption)
        (case qd9 => ktr_room)
        (case qu9 => ktr_units)
        k_whole)
      intro r9 news9 h9 tk9 hR9 F9 N9
      obtain ⟨b9, t9, tup9, n29, W9, tW9, S9, tS9, tR9, tZ9, Y9, hr9, hY9, hb9, hYl9, hW9, hS9, hn9, ht9, hl9⟩ := hR9
      (replace hYl9 := hYl9.trans (by with_reducible assumption))
      subst hr9
      subst hn9
      (try simp only [List.nil_append, List.cons_append] at N9)
      (try dsimp only at N9)
      (try dsimp only)
      (try k_lt ht9)
      (try k_sweep))))
  (k_with "call ref" => ((
      k_here
      (with_reducible show wpAny _ _ (call (Value.ref 49) _) _ _ _)
      k_dflt (
        refine' CallsTo.use (salt_call _ _ _ _ _ ?qi09 ?qi19) ?qB9 ?qF9 ?qX9 ?qN9 ?qT9 ?qK9 ?qd9 ?qu9 ?_
        (case qB9 => k_asm)
        (case qF9 => k_asm)
        (case qX9 => k_asm)
        (case qN9 => k_asm)
        (case qT9 => k_asm)
        (case qK9 => first | exact rfl | assumption)
        (case qi09 => assumption)
        (case qi19 => assumption)
        (case qd9 => ktr_room)
        (case qu9 => ktr_units)
        k_whole)
      intro r9 news9 h9 tk9 hR9 F9 N9
      obtain ⟨hn9, b9, t9, X9, hr9, hX9, hb9, hXl9⟩ := hR9
      subst hr9
      subst hn9
      (try dsimp only at N9)
      (try dsimp only)
      (rename KBw.bInts (KBy.picked _ none _) = _ => hlo9)
      (rename KBw.bInts (KBy.picked _ _ none) = _ => hhi9)
      (rw [half_lo] at hlo9)
      (rw [half_hi] at hhi9)
      (try k_sweep))))
  (k_with "call ref" => ((
      k_here
      (with_reducible show wpAny _ _ (call (Value.ref 35) _) _ _ _)
      k_dflt (
        refine' CallsToG.use (xor_call _ _ _ _ _ _ _ _ _ _ ?qh19 ?qh29 ?qhl9 ?qhz9 ?qht9 ?qU9) ?qB9 ?qF9 ?qX9 ?qN9 ?qT9 ?qK9 ?qd9 ?qu9 ?qG9 ?_
        (case qB9 => k_asm)
        (case qF9 => k_asm)
        (case qX9 => k_asm)
        (case qN9 => k_asm)
        (case qT9 => k_asm)
        (case qK9 => first | exact rfl | assumption)
        (case qU9 => k_updF)
        (case qh19 => kba_ints)
        (case qh29 => kba_ints)
        (case qhl9 => k_extra "ja len")
        (case qhz9 => k_extra "ja len40")
        (case qht9 => assumption)
        (case qd9 => ktr_room)
        (case qu9 => ktr_units)
        (case qG9 => assumption)
        k_whole)
      intro r9 news9 h9 tk9 gs9 hR9 G9 F9 N9
      obtain ⟨ps9, b9, t9, X9, hp9, hr9, hX9, hb9, hXl9, hn9⟩ := hR9
      (replace hXl9 := hXl9.trans (by with_reducible assumption))
      subst hr9
      subst hn9
      (try dsimp only at N9)
      (try dsimp only)
      (try k_sweep))))
  (k_with "exec For Name Call cons nil" => ((
      k_here
      (rename Fr _ _ _ _ => lF')
      (with_unfolding_all (
        refine' for_GF lF' ?qk19 ?qk29 ?_
        (case qk19 => exact rfl)
        (case qk29 => exact rfl)
        k_whole)))))
  (k_with "call type:reversed" => ((
      k_here
      (rename IsRange _ _ _ _ _ _ _ _ => rgX)
      (rename Fr _ _ _ _ => lF')
      (rename News _ _ _ _ => lN')
      (with_unfolding_all (refine call_rev_range rgX lF' lN' ?_))
      clear lF' lN'
      intro D9 h9 F9 N9 l9
      (have l8 := allLt_of l9; simp only [AllLt, and_true] at l8)
      (try k_sweep))))
  (k_with "pyIter ref" => ((
      (with_reducible show wpAny _ _ (pyIter (Value.ref _)) (LoopG _ _ _ _ _ _ _ _ _) _ _)
      (with_unfolding_all (
        refine' iter_down4 ?qhh9 ?qhI9 ?qG9 ?qF9 ?qN9 ?_
        (case qhh9 => rfl)
        (case qG9 => assumption)
        (case qF9 => k_asm)
        (case qN9 => k_asm)
        (case qhI9 => k_mem))))))
  (k_with "ja neall" => (first | exact neAll_nil | (refine neAll_cons (by k_ne) ?_; k_extra "ja neall")))
  (k_with "ja drop" => (first
      | (refine DropF.head ?_
         k_extra "ja neall")
      | (refine' DropF.tail ?qn9 ?qt9
         (case qn9 => k_ne)
         (case qt9 => k_extra "ja drop"))))
  (k_with "NextL" => (first
      | (refine' NextL.cons ?qU9 ?_
         (case qU9 => k_updF)
         intro t9 h9 tk9 gs9 G9 F9 N9
         (try dsimp only at N9)
         (try (with_reducible replace N9 := News.untup N9))
         (try k_sweep)
         (try k_fold))
      | (refine' NextL.nil ?qD9 ?_
         (case qD9 => k_extra "ja drop")
         intro h9 tk9 gs9 G9 F9 N9
         (try (with_reducible replace N9 := News.untup N9))
         (try k_sweep))))
  (k_with "TurnG" => ((
      refine' TurnG.mk ?qG9 ?qF9 ?qN9 ?_
      (case qG9 => assumption)
      (case qF9 => k_asm)
      (case qN9 => k_asm))))
  intro w e ident ext f cF cC c' callsA doc pm ctv oF oC oc vs tq tF first sec word ts tw te ti ks ws n1 ps news g1 g2 hf hc' hoc hvs hcF hoF hcC hoC U1 U2 hps hsec hword hkl hkev hwl hf0 hf1 he0 he1 hi0 hi1 p loose mean mg mb dp un gd cn cs a ccd cl outer A₀ base h₀ L m s Q E B F X N T hk hd hu hG hret
  have hca := UpdF.at U1
  have h30 : ((30 : Addr), tabObj ps) ∈ news := by
    rcases UpdF.mem U1 _ (UpdF.at (U2 (listOf #[] n1))) with z | z
    · have := congrArg (fun q => q.2.cls) z
      cases this
    · exact z.1
  have hsub : ∀ q ∈ [(callsA, listOf #[] n1), ((30 : Addr), tabObj ps), (f, strObj cF cC doc pm c' ctv), (c', oc), (cF, oF), (cC, oC)], q ∈ news := by
    intro q hq
    simp only [List.mem_cons, List.not_mem_nil, or_false] at hq
    rcases hq with e | e | e | e | e | e <;> rw [e] <;> assumption
  have n1' : @Ne Nat callsA f := ne_data N hca hf (fun e => by cases e)
  have n2' : @Ne Nat callsA c' := ne_data N hca hc' (fun e => by rw [hoc] at e; cases e)
  have n3' : @Ne Nat callsA cF := ne_data N hca hcF (fun e => by rw [hoF] at e; cases e)
  have n4' : @Ne Nat callsA cC := ne_data N hca hcC (fun e => by rw [hoC] at e; cases e)
  have n5' : @Ne Nat callsA 30 := ne_data N hca h30 (fun e => by cases e)
  have n6' : @Ne Nat f 30 := ne_data N hf h30 (fun e => by cases e)
  have n7' : @Ne Nat cF 30 := ne_data N hcF h30 (fun e => by rw [hoF] at e; cases e)
  have n8' : @Ne Nat cC 30 := ne_data N hcC h30 (fun e => by rw [hoC] at e; cases e)
  have n9' : @Ne Nat c' 30 := ne_data N hc' h30 (fun e => by rw [hoc] at e; cases e; exact tab_ne hps hvs)
  have hlo := lo_length (ks := ks)
  have hhi := hi_length hkev
  have hn30 : ks.length / 2 ≤ 30 := by omega
  refine wpAny_call ?_
  k_dflt k_extra "ja part"
  k_steps
  · exact odd_out hkev (by assumption)
  rename _ = saltF ident ext => hsalt
  subst hsalt
  rename _ = roundF first ws _ e 3 _ => y0
  subst y0
  rename _ = roundF first ws _ e 2 _ => y1
  subst y1
  rename _ = roundF first ws _ e 1 _ => y2
  subst y2
  rename _ = roundF first ws _ e 0 _ => y3
  subst y3
  rename ∀ q ∈ news, q.1 < _ => all9
  rename News _ _ _ _ => kN9
  obtain ⟨n4, nc, nr⟩ := net_end kN9
  clear kN9
  refine' hret _ _ _ _ _ ?a ?b ?c ?d
  case b => assumption
  case c => k_asm
  case d => exact News.four n4 (Kept.two U1 U2 (Kept.less2 N hsub (Kept.up (Kept.of N (by assumption)) (by assumption)) nr) nc)
  case a => exact ⟨_, _, _, _, _, _, _, _, _, _, _, _, _, _, _, _, rfl, rfl, (by assumption), (by assumption), (by assumption), (by assumption), (by assumption), ⟨_, _, _, _, _, _, rfl, (by assumption), (by assumption)⟩, ⟨_, _, _, _, _, _, rfl, (by assumption), (by assumption)⟩, ⟨_, _, _, _, _, _, rfl, (by assumption), (by assumption)⟩, ⟨_, _, _, _, _, _, rfl, (by assumption), (by assumption)⟩, (by assumption), fun q hq => Nat.lt_trans (all9 q hq) (by assumption), lt_raw (by assumption) (by k_mem), lt_raw (by assumption) (by k_mem), lt_raw (by assumption) (by k_mem), Nat.lt_trans (by assumption) (by assumption)⟩
end Ja
end

section
set_option maxHeartbeats 1000000
namespace Ja
open PySem PySem.W PySem.Calls PyProof.Rows

theorem bInts_inj {a b : Array UInt8} (h : KBw.bInts a = KBw.bInts b) : a = b := by
  obtain ⟨a⟩ := a
  obtain ⟨b⟩ := b
  congr 1
  have key : ∀ (a b : List UInt8), (a.map fun c : UInt8 => ((c.toNat : Nat) : Int)) = (b.map fun c : UInt8 => ((c.toNat : Nat) : Int)) → a = b := by
    intro a
    induction a with
    | nil => intro b hb; cases b with
      | nil => rfl
      | cons y b => cases hb
    | cons x a ih => intro b hb; cases b with
      | nil => cases hb
      | cons y b =>
        simp only [List.map_cons, List.cons.injEq] at hb
        have e : x.toNat = y.toNat := by omega
        rw [UInt8.toNat_inj.mp e, ih b hb.2]
  exact key a b h

/-- Two tuples that are told apart by nothing but their tokens. -/
def SameTup (o o' : Obj) : Prop := ∃ W tW S tS r tR z tZ tW' tS' tR' tZ', o = tupOf W tW S tS r tR z tZ ∧ o' = tupOf W tW' S tS' r tR' z tZ'
theorem RowOf.same {ws ss rs : List Int} {e i : Int} {o o' : Obj} (h : RowOf ws ss e i rs o) (h' : RowOf ws ss e i rs o') : SameTup o o' := by
  obtain ⟨W, tW, S, tS, tR, tZ, rfl, hW, hS⟩ := h
  obtain ⟨W', tW', S', tS', tR', tZ', rfl, hW', hS'⟩ := h'
  have e1 := bInts_inj (hW.trans hW'.symm)
  have e2 := bInts_inj (hS.trans hS'.symm)
  subst e1 e2
  exact ⟨_, _, _, _, _, _, _, _, _, _, _, _, rfl, rfl⟩

theorem roundF_in (first : Int) (ws ss : List Int) (e i : Int) (rs : List Int) : KBa.In (roundF first ws ss e i rs) := by
  intro n hn
  unfold roundF strF at hn
  obtain ⟨k, _, rfl⟩ := List.mem_map.mp hn
  exact ⟨fmod_lo _ (by decide), fmod_hi _ (by decide)⟩
theorem lo_app {a b : List Int} (h : a.length = b.length) : lo (a ++ b) = a := by
  unfold lo
  rw [List.length_append, show (a.length + b.length) / 2 = a.length by omega, List.take_left]
theorem hi_app {a b : List Int} (h : a.length = b.length) : hi (a ++ b) = b := by
  unfold hi
  rw [List.length_append, show (a.length + b.length) / 2 = a.length by omega, List.drop_left]
theorem lo_hi (ks : List Int) : lo ks ++ hi ks = ks := List.take_append_drop _ _
theorem lo_in {ks : List Int} (h : KBa.In ks) : KBa.In (lo ks) := fun n hn => h n (List.mem_of_mem_take hn)
theorem hi_in {ks : List Int} (h : KBa.In ks) : KBa.In (hi ks) := fun n hn => h n (List.mem_of_mem_drop hn)

/-- What the net makes of ks: X, and the four rows that it tells the function. -/
def NetIs (first : Int) (ws ss : List Int) (e i0 i1 i2 i3 : Int) (ks X : List Int) (o0 o1 o2 o3 : Obj) : Prop :=
  ∃ R1 R2 R3 R4 : List Int, X = R4 ++ R3 ∧
    R4 = xors R2 (roundF first ws ss e i3 R3) ∧ R3 = xors R1 (roundF first ws ss e i2 R2) ∧ R2 = xors (hi ks) (roundF first ws ss e i1 R1) ∧ R1 = xors (lo ks) (roundF first ws ss e i0 (hi ks)) ∧
    RowOf ws ss e i0 (hi ks) o0 ∧ RowOf ws ss e i1 R1 o1 ∧ RowOf ws ss e i2 R2 o2 ∧ RowOf ws ss e i3 R3 o3

section
variable {first e i0 i1 i2 i3 : Int} {ws ss ks X X' Y : List Int} {o0 o1 o2 o3 p0 p1 p2 p3 : Obj}
theorem NetIs.len (he : ks.length % 2 = 0) (h : NetIs first ws ss e i0 i1 i2 i3 ks X o0 o1 o2 o3) : X.length = ks.length := by
  obtain ⟨R1, R2, R3, R4, rfl, h4, h3, h2, h1, -⟩ := h
  have a := lo_length (ks := ks)
  have b := hi_length he
  have l1 : R1.length = (lo ks).length := by rw [h1]; exact xors_length (by rw [roundF_length]; omega)
  have l2 : R2.length = (hi ks).length := by rw [h2]; exact xors_length (by rw [roundF_length]; omega)
  have l3 : R3.length = R1.length := by rw [h3]; exact xors_length (by rw [roundF_length]; omega)
  have l4 : R4.length = R2.length := by rw [h4]; exact xors_length (by rw [roundF_length]; omega)
  rw [List.length_append]
  omega
theorem NetIs.same (h : NetIs first ws ss e i0 i1 i2 i3 ks X o0 o1 o2 o3) (h' : NetIs first ws ss e i0 i1 i2 i3 ks X' p0 p1 p2 p3) :
    X = X' ∧ SameTup o0 p0 ∧ SameTup o1 p1 ∧ SameTup o2 p2 ∧ SameTup o3 p3 := by
  obtain ⟨R1, R2, R3, R4, rfl, h4, h3, h2, h1, r0, r1, r2, r3⟩ := h
  obtain ⟨S1, S2, S3, S4, rfl, g4, g3, g2, g1, q0, q1, q2, q3⟩ := h'
  have e1 : R1 = S1 := by rw [h1, g1]
  subst e1
  have e2 : R2 = S2 := by rw [h2, g2]
  subst e2
  have e3 : R3 = S3 := by rw [h3, g3]
  subst e3
  have e4 : R4 = S4 := by rw [h4, g4]
  subst e4
  exact ⟨rfl, r0.same q0, r1.same q1, r2.same q2, r3.same q3⟩
theorem NetIs.back (hk : KBa.In ks) (he : ks.length % 2 = 0) (h : NetIs first ws ss e i0 i1 i2 i3 ks X o0 o1 o2 o3) (d : NetIs first ws ss e i3 i2 i1 i0 X Y p0 p1 p2 p3) :
    Y = ks ∧ SameTup p0 o3 ∧ SameTup p1 o2 ∧ SameTup p2 o1 ∧ SameTup p3 o0 := by
  obtain ⟨R1, R2, R3, R4, rfl, h4, h3, h2, h1, r0, r1, r2, r3⟩ := h
  obtain ⟨S1, S2, S3, S4, rfl, g4, g3, g2, g1, q0, q1, q2, q3⟩ := d
  have a := lo_length (ks := ks)
  have b := hi_length he
  have l1 : R1.length = (lo ks).length := by rw [h1]; exact xors_length (by rw [roundF_length]; omega)
  have l2 : R2.length = (hi ks).length := by rw [h2]; exact xors_length (by rw [roundF_length]; omega)
  have l3 : R3.length = R1.length := by rw [h3]; exact xors_length (by rw [roundF_length]; omega)
  have l4 : R4.length = R2.length := by rw [h4]; exact xors_length (by rw [roundF_length]; omega)
  have n1 : KBa.In R1 := by rw [h1]; exact xors_in (lo_in hk) (roundF_in _ _ _ _ _ _)
  have n2 : KBa.In R2 := by rw [h2]; exact xors_in (hi_in hk) (roundF_in _ _ _ _ _ _)
  rw [lo_app (by omega)] at g1
  rw [hi_app (by omega)] at g1 g2 q0
  have e1 : S1 = R2 := by rw [g1, h4]; exact xors_back n2 (roundF_in _ _ _ _ _ _) (by rw [roundF_length]; omega)
  subst e1
  have e2 : S2 = R1 := by rw [g2, h3]; exact xors_back n1 (roundF_in _ _ _ _ _ _) (by rw [roundF_length]; omega)
  subst e2
  have e3 : S3 = hi ks := by rw [g3, h2]; exact xors_back (hi_in hk) (roundF_in _ _ _ _ _ _) (by rw [roundF_length]; omega)
  subst e3
  have e4 : S4 = lo ks := by rw [g4, h1]; exact xors_back (lo_in hk) (roundF_in _ _ _ _ _ _) (by rw [roundF_length]; omega)
  subst e4
  exact ⟨lo_hi ks, q0.same r3, q1.same r2, q2.same r1, q3.same r0⟩
end

section
open PySem.SeqAt
variable {prog : Program} {w : World} {A : Around} {E : Value → Shared → Prop} {s : Shared} {Q : Value → Shared → Prop}
theorem eqAt_bytes {b : Array UInt8} {t u : Tok} : EqAt A s (.bytes b t) (.bytes b u) true := fun prog w E Q h => eqBool_bytes (by simpa using h)
theorem eqAt_int {i : Int} {t u : Tok} : EqAt A s (.int i t) (.int i u) true := fun prog w E Q h => by
  unfold eqBool
  refine wpAny_holding ?_
  refine wpAny_ite_split (fun _ => ?_) fun _ => ?_
  · exact wpAny_bind (wpAny_rule (wpAny_pure h))
  · exact wpAny_bind (show wpAny _ _ (compareOp .Eq (.int i t) (.int i u)) _ _ _ from eq_int (wpAny_truthy_bool (by simpa using h)))
theorem isTup_of {h : Heap} {a : Addr} {vs : Array Value} {n : Nat} (e : h.get? a = some { cls := .type "tuple", data := .seq vs n }) : h.IsTuple a vs := ⟨_, e, rfl, _, rfl⟩
theorem eqAt_tup {a b : Addr} {o o' : Obj} (ha : s.heap.get? a = some o) (hb : s.heap.get? b = some o') (hne : a ≠ b) (hu : A.units < cLine) (h : SameTup o o') : EqAt A s (.ref a) (.ref b) true := by
  obtain ⟨W, tW, S, tS, r, tR, z, tZ, tW', tS', tR', tZ', rfl, rfl⟩ := h
  refine EqAt.of_refs hne ?_
  exact RcAt.tuples (e := fun _ => true) (isTup_of ha) (isTup_of hb) hu fun j h1 h2 => by
    match j, h1, h2 with
    | 0, _, _ => exact eqAt_bytes
    | 1, _, _ => exact eqAt_bytes
    | 2, _, _ => exact eqAt_int
    | 3, _, _ => exact eqAt_int
theorem rows_ne {a b : Addr} {a0 a1 a2 a3 b0 b1 b2 b3 : Addr} {n k : Nat} {o0 o1 o2 o3 p0 p1 p2 p3 : Obj} (ha : s.heap.get? a = some (listOf #[.ref a0, .ref a1, .ref a2, .ref a3] n)) (hb : s.heap.get? b = some (listOf #[.ref b0, .ref b1, .ref b2, .ref b3] k))
    (ga0 : s.heap.get? a0 = some o0) (ga1 : s.heap.get? a1 = some o1) (ga2 : s.heap.get? a2 = some o2) (ga3 : s.heap.get? a3 = some o3)
    (gb0 : s.heap.get? b0 = some p0) (gb1 : s.heap.get? b1 = some p1) (gb2 : s.heap.get? b2 = some p2) (gb3 : s.heap.get? b3 = some p3)
    (n0 : a0 ≠ b0) (n1 : a1 ≠ b1) (n2 : a2 ≠ b2) (n3 : a3 ≠ b3) (hu : A.units + 64 < cLine)
    (h0 : SameTup o0 p0) (h1 : SameTup o1 p1) (h2 : SameTup o2 p2) (h3 : SameTup o3 p3) (h : Q (.bool false) s) : wpAny (model prog w) A (compareOp .NotEq (.ref a) (.ref b)) Q E s := by
  show wpAny _ _ (richCompare .NotEq (.ref a) (.ref b)) Q E s
  have z : RcNeAt A s (.ref a) (.ref b) (!(List.range 4).all fun _ => true) := RcNeAt.lists (e := fun _ => true) ⟨_, ha, rfl, _, rfl⟩ ⟨_, hb, rfl, _, rfl⟩ rfl (by omega) fun j q1 q2 => by
    match j, q1, q2 with
    | 0, _, _ => exact eqAt_tup ga0 gb0 n0 (by have : A.in1.units = A.units + 1 := rfl; omega) h0
    | 1, _, _ => exact eqAt_tup ga1 gb1 n1 (by have : A.in1.units = A.units + 1 := rfl; omega) h1
    | 2, _, _ => exact eqAt_tup ga2 gb2 n2 (by have : A.in1.units = A.units + 1 := rfl; omega) h2
    | 3, _, _ => exact eqAt_tup ga3 gb3 n3 (by have : A.in1.units = A.units + 1 := rfl; omega) h3
  exact z prog w E Q h
theorem ne_same {a b : Array UInt8} {t u : Tok} (e : KBw.bInts a = KBw.bInts b) (h : Q (.bool false) s) : wpAny (model prog w) A (compareOp .NotEq (.bytes a t) (.bytes b u)) Q E s := by
  have := bInts_inj e
  subst this
  exact ne_bytes (by simpa using h)
theorem eq_same {a b : Array UInt8} {t u : Tok} (e : KBw.bInts a = KBw.bInts b) (h : Q (.bool true) s) : wpAny (model prog w) A (compareOp .Eq (.bytes a t) (.bytes b u)) Q E s := by
  have := bInts_inj e
  subst this
  exact eq_bytes (by simpa using h)
end
end Ja
end

section
set_option maxHeartbeats 2000000
namespace Ja
open PySem PySem.W PySem.Calls PyProof.Rows


local macro_rules | `(tactic| kba_size) => `(tactic| first | k_extra "ja le" | exact add_fits (by k_extra "ja le") (by k_extra "ja le"))
local macro_rules | `(tactic| k_lt $h:ident) => `(tactic| (have l8 := head_lt $h; dsimp only at l8))
local macro_rules | `(tactic| k_ne) => `(tactic| (refine neN ?_; (try dsimp only); first | (with_reducible assumption) | exact Ne.symm (by with_reducible assumption) | exact Nat.ne_of_lt (lt_raw (by assumption) (by k_mem)) | exact Nat.ne_of_gt (lt_raw (by assumption) (by k_mem)) | decide | omega))
theorem half_len {n : Nat} : (n : Int).fdiv 2 = ((n / 2 : Nat) : Int) := by
  rw [Int.fdiv_eq_ediv_of_nonneg _ (by decide)]
  omega

/-- stretch_call, told as a row of the net. -/
theorem stretch_row : ∀ (w : World) (e i : Int) (f cF cC c' callsA : Addr) (doc pm ctv : Value) (oF oC oc : Obj) (vs : Array Value) (tq tF : Tok) (first : Int) (word salt : Array UInt8) (tw ts tr tz : Tok) (rounds size : Int) (ws ss rs : List Int) (its : List Value) (n1 : Nat) (news : List (Addr × Obj)) (g : Obj → List (Addr × Obj)),
    (f, strObj cF cC doc pm c' ctv) ∈ news → (c', oc) ∈ news → oc.data = .fields vs → vs[1]? = some (.str strQual tq) → (cF, oF) ∈ news → oF.data = .cell (some (.int first tF)) → (cC, oC) ∈ news → oC.data = .cell (some (.ref callsA)) →
    UpdF callsA (listOf its.toArray n1) news g → KBw.bInts word = List.map (fun c : UInt8 => ((c.toNat : Nat) : Int)) [i.toNat.toUInt8] ++ ws → KBw.bInts salt = ss ++ rs → (((i.toNat.toUInt8).toNat : Nat) : Int) = i → ws.length ≤ 30 → ss.length ≤ 30 → rs.length ≤ 30 → 0 ≤ first → first < 1000 → size = (rs.length : Int) → rounds = itF e → its.length ≤ 40 →
    CallsTo 4 w (Ja.head.heap_39 w.params) (.ref f) [.bytes word tw, .bytes salt ts, .int rounds tr, .int size tz] news (fun L r news' => ∃ b t tup n2 Y o, r = .bytes b t ∧ Y = roundF first ws ss e i rs ∧ KBw.bInts b = Y ∧ Y.length = rs.length ∧ RowOf ws ss e i rs o ∧ news' = (tup, o) :: g (listOf (its ++ [Value.ref tup]).toArray n2) ∧ (∀ q ∈ news, q.1 < tup) ∧ @LT.lt Nat _ L tup) := by
  intro w e i f cF cC c' callsA doc pm ctv oF oC oc vs tq tF first word salt tw ts tr tz rounds size ws ss rs its n1 news g hf hc' hoc hvs hcF hoF hcC hoC U hw0 hs hii hwl hsl hrl hf0 hf1 hz hro hil p loose mean mg mb dp un gd cn cs a ccd cl outer A₀ base h₀ L m s Q E B F X N T hk hd hu hret
  have hw := one_byte hii hw0
  subst hz
  subst hro
  refine stretch_call w f cF cC c' callsA doc pm ctv oF oC oc vs tq tF first word salt tw ts tr tz _ _ _ _ its n1 news g hf hc' hoc hvs hcF hoF hcC hoC U hw hs (by simp only [List.length_cons]; omega) (by simp only [List.length_append]; omega) hf0 hf1 (by omega) (by omega) hil p loose mean mg mb dp un gd cn cs a ccd cl outer A₀ base h₀ L m s Q E B F X N T hk hd hu ?_
  rintro r news' h' tk' ⟨b, t, tup, n2, rfl, hb, rfl, h1, h2⟩ F' N'
  exact hret _ _ _ _ ⟨b, t, tup, n2, _, _, rfl, rfl, hb, roundF_length _ _ _ _ _ _, ⟨_, _, _, _, _, _, rfl, hw, hs⟩, rfl, h1, h2⟩ F' N'

theorem sum_row : ∀ (w : World) (one other : Array UInt8) (t1 t2 : Tok) (ks ls : List Int) (news : List (Addr × Obj)), KBw.bInts one = ks → KBw.bInts other = ls → ls.length = ks.length → ks.length ≤ 40 →
    CallsTo 4 w (Ja.head.heap_39 w.params) (.ref 96) [.bytes one t1, .bytes other t2] news (fun L r news' => news' = news ∧ ∃ b t X, r = .bytes b t ∧ X = xors ks ls ∧ KBw.bInts b = X ∧ X.length = ks.length) := by
  intro w one other t1 t2 ks ls news h1 h2 hlen hsz p loose mean mg mb dp un gd cn cs a ccd cl outer A₀ base h₀ L m s Q E B F X N T hk hd hu hret
  refine sum_call w one other t1 t2 ks ls news h1 h2 hlen hsz p loose mean mg mb dp un gd cn cs a ccd cl outer A₀ base h₀ L m s Q E B F X N T hk hd hu ?_
  rintro r news' h' tk' ⟨hn, b, t, rfl, hb⟩ F' N'
  exact hret _ _ _ _ ⟨hn, b, t, _, rfl, rfl, hb, xors_length hlen⟩ F' N'

def DueRet (first : Int) (ws ss : List Int) (e : Int) (ks : List Int) (news : List (Addr × Obj)) (g : Obj → List (Addr × Obj)) (L : Addr) (r : Value) (news' : List (Addr × Obj)) : Prop :=
  ∃ b t P CA a0 a1 a2 a3 o0 o1 o2 o3 c' oc vs tq n2 X, news' = (P, { cls := .type "tuple", data := .seq #[.bytes b t, .ref CA] }) :: (a3, o3) :: (a2, o2) :: (a1, o1) :: (a0, o0) :: (c', oc) :: (CA, listOf #[.ref a0, .ref a1, .ref a2, .ref a3] n2) :: g (tabObj #[rawInt 65, rawInt 4, .ref c']) ∧ r = .ref P ∧ KBw.bInts b = X ∧
    NetIs first ws ss e 0 1 2 3 ks X o0 o1 o2 o3 ∧ oc.data = .fields vs ∧ vs[1]? = some (.str strQual tq) ∧
    (∀ q ∈ news, q.1 < CA) ∧ @LT.lt Nat _ CA c' ∧ @LT.lt Nat _ c' a0 ∧ @LT.lt Nat _ a0 a1 ∧ @LT.lt Nat _ a1 a2 ∧ @LT.lt Nat _ a2 a3 ∧ @LT.lt Nat _ a3 P ∧ @LT.lt Nat _ L CA

theorem newList_L {M : Model} {A : Around} {E : Value → Shared → Prop} {s : Shared} {h₀ : Heap} {L : Addr} {m : Str → Option Value} {news : List (Addr × Obj)} {vs : List Value} {Q : Value → Shared → Prop} (F : Fr h₀ L s.heap m) (N : News h₀ L s.heap news)
    (h : ∀ l h', Fr h₀ L h' m → News h₀ L h' ((l, listOf vs.toArray 0) :: news) → (∀ p ∈ news, p.1 < l) → @LT.lt Nat _ L l → Q (.ref l) { s with heap := h' }) (hsz : vs.length ≤ sizeLine := by size_fits) : wpAny M A (newList vs) Q E s :=
  newList_N F N (fun h' F' N' => h _ h' F' N' (fun p hp => Heap.lt_size (N p hp).1) F.ns.lt) hsz
theorem News.app {h₀ h : Heap} {L : Addr} {a b : List (Addr × Obj)} (N : News h₀ L h a) (M : News h₀ L h b) : News h₀ L h (a ++ b) := fun q hq => (List.mem_append.mp hq).elim (N q) (M q)
theorem due_parts {h₀ h : Heap} {L : Addr} {P d3 d2 d1 d0 y f c cc cf C t : Addr × Obj} (N : News h₀ L h [P, d3, d2, d1, d0, y, f, c, cc, cf, C, t]) : News h₀ L h [P, d3, d2, d1, d0, c, C] ∧ News h₀ L h [t] :=
  ⟨cb_drop N fun p hp => by
    simp only [List.mem_cons, List.not_mem_nil, or_false] at hp ⊢
    rcases hp with e | e | e | e | e | e | e <;> subst e <;> simp,
   cb_drop N fun p hp => by
    simp only [List.mem_cons, List.not_mem_nil, or_false] at hp ⊢
    subst hp; simp⟩



theorem item_N {prog : Program} {w : World} {A : Around} {E : Value → Shared → Prop} {s : Shared} {value slice : PySem.Expr} {l L : Addr} {h₀ : Heap} {news : List (Addr × Obj)} {vs : List Value} {n : Nat} {k : Int} {u : Tok} {v : Value} {Q : Value → Shared → Prop}
    (N : News h₀ L s.heap news) (hm : (l, listOf vs.toArray n) ∈ news) (h0 : 0 ≤ k) (hhi : k < 2 ^ 63) (hx : vs[k.toNat]? = some v) (h : Q v s)
    (hs : subscripted slice false (.ref l) (.int k u) = operate [.ref l, .int k u] (getItem (.ref l) (.int k u)) := by with_unfolding_all rfl) :
    wpAny (model prog w) A (subscriptTail value slice (.ref l) (.int k u)) Q E s := item_litK (News.isList N hm) h0 hhi hx h hs

theorem due_call : ∀ (w : World) (e first rounds : Int) (secret word salt : Array UInt8) (ts tw tl tr tf : Tok) (ks ws ss : List Int) (news : List (Addr × Obj)) (g : Obj → List (Addr × Obj)), UpdF 86 (tabObj #[]) news g → KBw.bInts secret = ks → KBw.bInts word = ws → KBw.bInts salt = ss → ks.length ≤ 36 → ks.length % 2 = 0 → ws.length ≤ 6 → ss.length ≤ 8 → 0 ≤ first → first < 1000 → rounds = itF e →
    CallsToG 14 w (Ja.head.heap_39 w.params) (.ref 103) [.bytes secret ts, .bytes word tw, .bytes salt tl, .int rounds tr, .int first tf] news (fun L r news' => DueRet first ws ss e ks news g L r news') := by
  k_with_none
  (k_with "exec Assign" => ((k_here; k_fold)))
  (k_with "exec Return some" => ((k_here; k_fold)))
  (k_with "exec Expr" => ((k_here; k_fold)))
  (k_with "eval Call" => ((k_here; k_fold)))
  (k_with "ja le" => (first | exact Nat.le_trans (by with_reducible assumption) (by decide) | exact Nat.le_trans (Nat.le_of_eq (by with_reducible assumption)) (Nat.le_trans (by with_reducible assumption) (by decide))))
  (k_with "newList" => ((
      k_here
      k_dflt (
        refine' newList_L ?qk19 ?qk29 ?_
        (case qk19 => k_asm)
        (case qk29 => k_asm)
        k_whole)
      intro l' h' F' N' l1 lL9
      (try k_lt l1)
      (try k_sweep))))
  (k_with "ja part" => ((refine' enter_part_K ?qk19 ?qk29 ?qk39 ?qk49 ?qk59 ?qkS9 ?qkA9 ?qkF9 ?qkK9 ?qk69 ?qk79 ?qk89 ?qk99 ?qkB9 ?_ ?qc29 ?qc39 ?qc49 ?qc59; (case qkA9 => exact rfl); (case qkF9 => exact rfl); (case qkK9 => assumption); (case qk19 => k_asm); (case qk29 => k_asm); (case qk39 => k_asm); (case qk49 => k_asm); (case qk59 => k_asm); (case qkS9 => assumption); (case qk69 => k_is); (case qk79 => k_is); (case qk89 => ktr_room); (case qk99 => exact BindsTo.of_eq rfl); (case qc59 => decide); (case qkB9 => exact locs rfl); (case qc29 => exact rfl); (case qc39 => exact rfl); (case qc49 => exact rfl); k_whole; intro g' L' h' FG' F' N' B' X' T' l1 kept' all' lL'; (have hC9 := codeHd_of_K (c := 90) (P := 86) X' (by kernel_rfl)); (try dsimp only); (try k_lt l1); (try k_lift B'); (try k_fold))))
  (k_with "ja len" => (first | exact Eq.trans (by with_reducible assumption) (Eq.symm (by with_reducible assumption)) | omega))
  (k_with "ja len40" => (first | k_extra "ja le" | omega))
  (k_with "call ref" => ((
      k_here
      (with_reducible show wpAny _ _ (call (Value.ref 91) _) _ _ _)
      k_dflt (
        refine' CallsTo.use (stretcher_first _ _ _ _ _ _ ?qU9) ?qB9 ?qF9 ?qX9 ?qN9 ?qT9 ?qK9 ?qd9 ?qu9 ?_
        (case qB9 => k_asm)
        (case qF9 => k_asm)
        (case qX9 => k_asm)
        (case qN9 => k_asm)
        (case qT9 => k_asm)
        (case qK9 => first | exact rfl | assumption)
        (case qU9 => k_updF)
        (case qd9 => ktr_room)
        (case qu9 => ktr_units)
        k_whole)
      intro r9 news9 h9 tk9 hR9 F9 N9
      obtain ⟨f9, cF9, cC9, doc9, pm9, c9, ctv9, oF9, oC9, oc9, vs9, tq9, hr9, hn9, hoF9, hoC9, hoc9, hvs9, l9, lF9, lC9, lc9⟩ := hR9
      (have r1 := raw_cons oF9 l9 lF9)
      (have r2 := raw_cons oC9 r1 lC9)
      (have r3 := raw_cons oc9 r2 lc9)
      subst hr9
      subst hn9
      (try dsimp only at N9)
      (try dsimp only)
      (try k_lt l9)
      (try k_sweep))))
  (k_with "call ref" => ((
      k_here
      (with_reducible show wpAny _ _ (call (Value.ref 96) _) _ _ _)
      k_dflt (
        refine' CallsTo.use (sum_row _ _ _ _ _ _ _ _ ?qh19 ?qh29 ?qhl9 ?qhz9) ?qB9 ?qF9 ?qX9 ?qN9 ?qT9 ?qK9 ?qd9 ?qu9 ?_
        (case qB9 => k_asm)
        (case qF9 => k_asm)
        (case qX9 => k_asm)
        (case qN9 => k_asm)
        (case qT9 => k_asm)
        (case qK9 => first | exact rfl | assumption)
        (case qh19 => kba_ints)
        (case qh29 => kba_ints)
        (case qhl9 => k_extra "ja len")
        (case qhz9 => k_extra "ja len40")
        (case qd9 => ktr_room)
        (case qu9 => ktr_units)
        k_whole)
      intro r9 news9 h9 tk9 hR9 F9 N9
      obtain ⟨hn9, b9, t9, X9, hr9, hX9, hb9, hXl9⟩ := hR9
      (replace hXl9 := hXl9.trans (by with_reducible assumption))
      subst hr9
      subst hn9
      (try dsimp only at N9)
      (try dsimp only)
      (try k_sweep))))
  (k_with "call ref" => ((
      k_here
      (with_reducible show wpAny _ _ (call (Value.ref _) [Value.bytes _ _, Value.bytes _ _, Value.int _ _, Value.int _ _]) _ _ _)
      k_dflt (
        refine' CallsTo.use (stretch_row _ _ _ _ _ _ _ _ _ _ _ _ _ _ _ _ _ _ _ _ _ _ _ _ _ _ _ _ _ _ _ _ _ ?qhf9 ?qhc9 ?qhoc9 ?qhvs9 ?qhF9 ?qhoF9 ?qhC9 ?qhoC9 ?qU9 ?qhw9 ?qhs9 ?qhi9 ?ql19 ?ql29 ?ql39 ?qf09 ?qf19 ?qhz9 ?qhro9 ?qil9) ?qB9 ?qF9 ?qX9 ?qN9 ?qT9 ?qK9 ?qd9 ?qu9 ?_
        (case qB9 => k_asm)
        (case qF9 => k_asm)
        (case qX9 => k_asm)
        (case qN9 => k_asm)
        (case qT9 => k_asm)
        (case qK9 => first | exact rfl | assumption)
        (case qhf9 => k_mem)
        (case qhc9 => k_mem)
        (case qhoc9 => assumption)
        (case qhvs9 => assumption)
        (case qhF9 => k_mem)
        (case qhoF9 => assumption)
        (case qhC9 => k_mem)
        (case qhoC9 => assumption)
        (case qU9 => k_updF)
        (case qhw9 => kba_ints)
        (case qhs9 => kba_ints)
        (case qhi9 => decide)
        (case ql19 => kba_size)
        (case ql29 => kba_size)
        (case ql39 => k_extra "ja len40")
        (case qf09 => assumption)
        (case qf19 => assumption)
        (case qhz9 => (rw [half_len]; first | exact congrArg (Nat.cast) (Eq.symm (by with_reducible assumption)) | omega))
        (case qhro9 => rfl)
        (case qil9 => simp)
        (case qd9 => ktr_room)
        (case qu9 => ktr_units)
        k_whole)
      intro r9 news9 h9 tk9 hR9 F9 N9
      obtain ⟨b9, t9, tup9, n29, Y9, o9, hr9, hY9, hb9, hYl9, hO9, hn9, ht9, hl9⟩ := hR9
      (replace hYl9 := hYl9.trans (by with_reducible assumption))
      subst hr9
      subst hn9
      (try simp only [List.nil_append, List.cons_append] at N9)
      (try dsimp only at N9)
      (try dsimp only)
      (try k_lt ht9)
      (try k_sweep))))
  (k_with "exec For Name Call cons nil" => ((
      k_here
      (rename KBw.bInts (KBy.picked _ none _) = _ => hlo9)
      (rename KBw.bInts (KBy.picked _ _ none) = _ => hhi9)
      (rw [half_lo] at hlo9)
      (rw [half_hi] at hhi9)
      (rename Fr _ _ _ _ => lF')
      (with_unfolding_all (
        refine' for_GF lF' ?qk19 ?qk29 ?_
        (case qk19 => exact rfl)
        (case qk29 => exact rfl)
        k_whole)))))
  (k_with "pyIter ref" => ((
      (with_reducible show wpAny _ _ (pyIter (Value.ref _)) (LoopG _ _ _ _ _ _ _ _ _) _ _)
      (rename IsRange _ _ _ _ _ _ _ _ => rgX)
      (rename Fr _ _ _ _ => lF')
      (rename News _ _ _ _ => lN')
      (with_unfolding_all refine iter_up4 (by rfl) rgX (by assumption) lF' lN' ?_)
      clear lF' lN'
      intro i' l1
      (try k_lt l1))))
  (k_with "ja neall" => (first | exact neAll_nil | (refine neAll_cons (by k_ne) ?_; k_extra "ja neall")))
  (k_with "ja drop" => (first
      | (refine DropF.head ?_
         k_extra "ja neall")
      | (refine' DropF.tail ?qn9 ?qt9
         (case qn9 => k_ne)
         (case qt9 => k_extra "ja drop"))))
  (k_with "NextL" => (first
      | (refine' NextL.cons ?qU9 ?_
         (case qU9 => k_updF)
         intro t9 h9 tk9 gs9 G9 F9 N9
         (try dsimp only at N9)
         (try (with_reducible replace N9 := News.unlist N9))
         (try k_sweep)
         (try k_fold))
      | (refine' NextL.nil ?qD9 ?_
         (case qD9 => k_extra "ja drop")
         intro h9 tk9 gs9 G9 F9 N9
         (try (with_reducible replace N9 := News.unlist N9))
         (try k_sweep))))
  (k_with "TurnG" => ((
      refine' TurnG.mk ?qG9 ?qF9 ?qN9 ?_
      (case qG9 => assumption)
      (case qF9 => k_asm)
      (case qN9 => k_asm))))
  (k_with "ja item" => ((
      k_here
      (with_reducible show wpAny _ _ (subscriptTail _ _ (Value.ref _) (Value.int _ _)) _ _ _)
      k_dflt (
        refine' item_N ?qk19 ?qk29 ?qk39 ?qk49 ?qk59 ?_ ?qk69
        (case qk19 => k_asm)
        (case qk29 => k_mem)
        (case qk39 => decide)
        (case qk49 => decide)
        (case qk59 => rfl)
        (case qk69 => with_unfolding_all rfl)
        k_whole))))
  (k_with "subscriptTail Name Name ref int" => (k_extra "ja item"))
  (k_with "subscriptTail Name BinOp ref int" => (k_extra "ja item"))
  (k_with "subscriptTail Name Constant ref int" => (k_extra "ja item"))
  intro w e first rounds secret word salt ts tw tl tr tf ks ws ss news g U hsec hword hsalt hkl hkev hwl hsl hf0 hf1 hro p loose mean mg mb dp un gd cn cs a ccd cl outer A₀ base h₀ L m s Q E B F X N T hk hd hu hG hret
  subst hro
  have hsub : ∀ q ∈ [((86 : Addr), tabObj #[])], q ∈ news := fun q hq => by rw [List.mem_singleton.mp hq]; exact UpdF.at U
  have hlo := lo_length (ks := ks)
  have hhi := hi_length hkev
  have hn30 : ks.length / 2 ≤ 30 := by omega
  refine wpAny_call ?_
  k_dflt k_extra "ja part"
  k_steps
  rename _ = roundF first ws ss e 0 _ => y0
  subst y0
  rename _ = roundF first ws ss e 1 _ => y1
  subst y1
  rename _ = roundF first ws ss e 2 _ => y2
  subst y2
  rename _ = roundF first ws ss e 3 _ => y3
  subst y3
  rename ∀ q ∈ news, q.1 < _ => all9
  rename KBw.bInts (_ ++ _) = _ => hbZ
  rename News h₀ L _ _ => kN9
  obtain ⟨n1, n2⟩ := due_parts kN9
  clear kN9
  refine' hret _ _ _ _ _ ?a ?b ?c ?d
  case b => assumption
  case c => k_asm
  case d => exact News.app n1 (Kept.one U (Kept.up (Kept.of N (by assumption)) (by assumption)) n2)
  case a => exact ⟨_, _, _, _, _, _, _, _, _, _, _, _, _, _, _, _, _, _, rfl, rfl, hbZ, ⟨_, _, _, _, rfl, (by assumption), (by assumption), (by assumption), (by assumption), (by assumption), (by assumption), (by assumption), (by assumption)⟩, (by assumption), (by assumption), fun q hq => Nat.lt_trans (all9 q hq) (by assumption), (by omega), (by omega), (by omega), (by omega), (by omega), (by assumption), Nat.lt_trans (by assumption) (by assumption)⟩
end Ja
end

section
set_option maxHeartbeats 1000000
namespace Ja
open PySem PySem.W PySem.Calls PyProof.Rows

theorem xor_rec : ((recsOf Ja.head.view_39).any fun d => d.name == Str.ofString "_xor") = true := by kernel_rfl
theorem xor_tab (P : Params) : tabIn (Ja.head.heap_39 P) (Str.ofString "_xor") = some (34, 30) := by kernel_rfl
/-- The code table of _xor, empty as yet. -/
theorem tab30 {P : Params} {h : Heap} {loose : List Str} {mean : ExcName → Option Value} {mg mb : Str → Option Value} (X : (Ja.head.heap_39 P).In h) (T : Top Ja.head.view_39 loose mean mg mb h) :
    CodeHd h 34 30 ∧ h.get? 30 = some (tabObj #[]) := by
  have C := codeHd_of_K (c := 34) (P := 30) X (by kernel_rfl)
  refine ⟨C, ?_⟩
  obtain ⟨d, hd, hn⟩ := List.any_eq_true.mp xor_rec
  obtain ⟨a, o, fd, c, Q, h1, h2, h3, h4, _, ⟨o', vs', e1, e2, e3, e4⟩, h6⟩ := T.tab d hd
  rw [eq_of_beq hn] at h1
  have e := law_code X T.g (xor_tab P) h1 h2 h3
  rw [h4] at e
  cases e
  obtain ⟨o₂, vs₂, f, tf, fl, tg, b, n, tt, g1, g2, g3, g4, _⟩ := C
  rw [e1] at g1
  cases g1
  rw [e3] at g3
  cases g3
  rw [e4] at g4
  cases g4
  exact h6
end Ja
end

section
set_option maxHeartbeats 1000000
namespace Ja
open PySem PySem.W PySem.Calls PyProof.Rows

/-- What the law's call ends in: as GoodW, whatever bare generators are left. -/
theorem post_G {M : Model} {A : Around} {cd : Code} {s s₁ : Shared} {cw : ClaimW} {cl : Str → Option Addr} {mean : ExcName → Option Value} {args : List WData} {tabs : List (Addr × Addr)} (hT : TabsAt tabs s₁.heap) (hr : ∀ a x, cw.raises a x = false)
    (h : codeAny M A cd (fun r s' => (GoodW cw cl mean args { s₁ with heap := ghostOf s₁.heap tabs } r { s' with gens := #[] } ∧ GrownAll tabs s'.heap) ∧ AllBare s'.gens) s) : codeAny M A cd (GoodWG cw cl mean args s₁) s := by
  refine codeAny_mono h fun r s' hp => ?_
  obtain ⟨⟨⟨hc, hk, hos, _⟩, hgr⟩, hb⟩ := hp
  have grown : ∀ b, b ∈ tabs.map (·.2) → isCodeTable s₁.heap b ∧ s₁.heap.get? b = some (tabObj #[]) ∧ ∃ ps, s'.heap.get? b = some (tabObj ps) := fun b hm => by
    obtain ⟨q, hq, rfl⟩ := List.mem_map.mp hm
    exact ⟨((hT q hq).1.tab (hT q hq).2).isCodeTable, (hT q hq).2, hgr.get q hq⟩
  have rest : ∀ b o, b ∉ tabs.map (·.2) → s₁.heap.get? b = some o → s'.heap.get? b = some o := fun b o hn e => hk b o (ghost_ne e hn)
  refine ⟨?_, ⟨fun b o e => ?_, fun b o e => ?_⟩, hos, hb⟩
  · rcases hc with ⟨v, d, as, r1, r2, r3, r4, r5⟩ | ⟨_, _, x, _, _, _, z, _⟩
    · refine .inl ⟨v, d, as, r1, r2, r3, r4, fun q => ⟨(r5 q).1, fun a ha => ?_⟩⟩
      by_cases hm : a ∈ tabs.map (·.2)
      · obtain ⟨_, _, ps, hP⟩ := grown a hm
        exact absurd ha (readsW_apart hP rfl r3)
      · have n := (r5 q).2 a ha
        cases e : s₁.heap.get? a with
        | none => rfl
        | some o =>
          have e2 : (ghostOf s₁.heap tabs).get? a = some o := ghost_ne e hm
          rw [e2] at n
          cases n
    · rw [hr] at z
      cases z
  · by_cases hm : b ∈ tabs.map (·.2)
    · obtain ⟨ht, e0, ps, hP⟩ := grown b hm
      rw [e0] at e
      cases e
      exact .inr (.inl ⟨ht, rfl, #[], ps, rfl, by rw [Array.empty_append]; exact hP⟩)
    · exact .inl (rest b o hm e)
  · by_cases hm : b ∈ tabs.map (·.2)
    · obtain ⟨_, _, ps, hP⟩ := grown b hm
      exact ⟨_, hP⟩
    · exact ⟨o, rest b o hm e⟩
theorem law_true {cl : Str → Option Addr} {mean : ExcName → Option Value} {ds : List PyData} {s₁ s' : Shared} {L : Addr} {m : Str → Option Value} (F : Fr s₁.heap L s'.heap m) (hg : s'.gens = #[]) (ho : s'.os = s₁.os) :
    GoodW PySem.Challenge.rw_ja0049_01.row.claim cl mean [ofPy (PyData.list ds)] s₁ (.ok (.ret (.bool true))) s' := by
  refine goodW_bool F hg (raisesW_false ?n) ?p ho
  case n => wrow_none_raised
  case p => wrow_post
end Ja
end

section
set_option maxHeartbeats 1000000
namespace Ja
open PySem PySem.W PySem.Calls PyProof.Rows

/-- What encrypt and decrypt hand back, told by the net. -/
def EncRet (first : Int) (ws ss : List Int) (e : Int) (ks : List Int) (i0 i1 i2 i3 : Int) (news : List (Addr × Obj)) (g : Obj → Obj → List (Addr × Obj)) (L : Addr) (r : Value) (news' : List (Addr × Obj)) : Prop :=
  ∃ b t X ps' n2 a0 a1 a2 a3 o0 o1 o2 o3, r = .bytes b t ∧ KBw.bInts b = X ∧ X.length = ks.length ∧ NetIs first ws ss e i0 i1 i2 i3 ks X o0 o1 o2 o3 ∧ TriplesOk ps'.toList ∧
    news' = (a3, o3) :: (a2, o2) :: (a1, o1) :: (a0, o0) :: g (listOf #[.ref a0, .ref a1, .ref a2, .ref a3] n2) (tabObj ps') ∧
    (∀ q ∈ news, q.1 < a0) ∧ @LT.lt Nat _ a0 a1 ∧ @LT.lt Nat _ a1 a2 ∧ @LT.lt Nat _ a2 a3 ∧ @LT.lt Nat _ L a0
theorem EncRet.of {first e i0 i1 i2 i3 : Int} {ws ss ks : List Int} {news : List (Addr × Obj)} {g : Obj → Obj → List (Addr × Obj)} {L : Addr} {r : Value} {news' : List (Addr × Obj)} (he : ks.length % 2 = 0) (h : NetRet first ws ss e ks i0 i1 i2 i3 news g L r news') : EncRet first ws ss e ks i0 i1 i2 i3 news g L r news' := by
  obtain ⟨b, t, ps', n2, a0, a1, a2, a3, o0, o1, o2, o3, R1, R2, R3, R4, hn, hr, hb, h4, h3, h2, h1, r0, r1, r2, r3, ht, l⟩ := h
  have Z : NetIs first ws ss e i0 i1 i2 i3 ks (R4 ++ R3) o0 o1 o2 o3 := ⟨R1, R2, R3, R4, rfl, h4, h3, h2, h1, r0, r1, r2, r3⟩
  exact ⟨b, t, _, ps', n2, a0, a1, a2, a3, o0, o1, o2, o3, hr, hb, Z.len he, Z, ht, hn, l⟩

theorem enc_row : ∀ (w : World) (e ident : Int) (ext : Bool) (f cF cC c' callsA : Addr) (doc pm ctv : Value) (oF oC oc : Obj) (vs : Array Value) (tq tF : Tok) (first : Int) (sec word : Array UInt8) (ts tw te ti : Tok) (ks ws : List Int) (n1 : Nat) (ps : Array Value) (news : List (Addr × Obj)) (g1 : Obj → List (Addr × Obj)) (g2 : Obj → Obj → List (Addr × Obj)),
    (f, strObj cF cC doc pm c' ctv) ∈ news → (c', oc) ∈ news → oc.data = .fields vs → vs[1]? = some (.str strQual tq) → (cF, oF) ∈ news → oF.data = .cell (some (.int first tF)) → (cC, oC) ∈ news → oC.data = .cell (some (.ref callsA)) →
    UpdF callsA (listOf #[] n1) news g1 → (∀ o, UpdF 30 (tabObj ps) (g1 o) (g2 o)) → TriplesOk ps.toList → KBw.bInts sec = ks → KBw.bInts word = ws → ks.length ≤ 36 → ks.length % 2 = 0 → ws.length ≤ 6 → 0 ≤ first → first < 1000 → 0 ≤ e → e < 16 → 0 ≤ ident → ident < 32768 →
    CallsToG 14 w (Ja.head.heap_39 w.params) (.ref 56) [.bytes sec ts, .bytes word tw, .int e te, .int ident ti, .bool ext, .ref f] news (fun L r news' => EncRet first ws (saltF ident ext) e ks 0 1 2 3 news g2 L r news') := by
  intro w e ident ext f cF cC c' callsA doc pm ctv oF oC oc vs tq tF first sec word ts tw te ti ks ws n1 ps news g1 g2 hf hc' hoc hvs hcF hoF hcC hoC U1 U2 hps hsec hword hkl hkev hwl hf0 hf1 he0 he1 hi0 hi1 p loose mean mg mb dp un gd cn cs a ccd cl outer A₀ base h₀ L m s Q E B F X N T hk hd hu hG hret
  exact encrypt_call w e ident ext f cF cC c' callsA doc pm ctv oF oC oc vs tq tF first sec word ts tw te ti ks ws n1 ps news g1 g2 hf hc' hoc hvs hcF hoF hcC hoC U1 U2 hps hsec hword hkl hkev hwl hf0 hf1 he0 he1 hi0 hi1 p loose mean mg mb dp un gd cn cs a ccd cl outer A₀ base h₀ L m s Q E B F X N T hk hd hu hG
    fun r news' h' tk' gs' hR => hret r news' h' tk' gs' (EncRet.of hkev hR)

theorem dec_row : ∀ (w : World) (e ident : Int) (ext : Bool) (f cF cC c' callsA : Addr) (doc pm ctv : Value) (oF oC oc : Obj) (vs : Array Value) (tq tF : Tok) (first : Int) (sec word : Array UInt8) (ts tw te ti : Tok) (ks ws : List Int) (n1 : Nat) (ps : Array Value) (news : List (Addr × Obj)) (g1 : Obj → List (Addr × Obj)) (g2 : Obj → Obj → List (Addr × Obj)),
    (f, strObj cF cC doc pm c' ctv) ∈ news → (c', oc) ∈ news → oc.data = .fields vs → vs[1]? = some (.str strQual tq) → (cF, oF) ∈ news → oF.data = .cell (some (.int first tF)) → (cC, oC) ∈ news → oC.data = .cell (some (.ref callsA)) →
    UpdF callsA (listOf #[] n1) news g1 → (∀ o, UpdF 30 (tabObj ps) (g1 o) (g2 o)) → TriplesOk ps.toList → KBw.bInts sec = ks → KBw.bInts word = ws → ks.length ≤ 36 → ks.length % 2 = 0 → ws.length ≤ 6 → 0 ≤ first → first < 1000 → 0 ≤ e → e < 16 → 0 ≤ ident → ident < 32768 →
    CallsToG 14 w (Ja.head.heap_39 w.params) (.ref 63) [.bytes sec ts, .bytes word tw, .int e te, .int ident ti, .bool ext, .ref f] news (fun L r news' => EncRet first ws (saltF ident ext) e ks 3 2 1 0 news g2 L r news') := by
  intro w e ident ext f cF cC c' callsA doc pm ctv oF oC oc vs tq tF first sec word ts tw te ti ks ws n1 ps news g1 g2 hf hc' hoc hvs hcF hoF hcC hoC U1 U2 hps hsec hword hkl hkev hwl hf0 hf1 he0 he1 hi0 hi1 p loose mean mg mb dp un gd cn cs a ccd cl outer A₀ base h₀ L m s Q E B F X N T hk hd hu hG hret
  exact decrypt_call w e ident ext f cF cC c' callsA doc pm ctv oF oC oc vs tq tF first sec word ts tw te ti ks ws n1 ps news g1 g2 hf hc' hoc hvs hcF hoF hcC hoC U1 U2 hps hsec hword hkl hkev hwl hf0 hf1 he0 he1 hi0 hi1 p loose mean mg mb dp un gd cn cs a ccd cl outer A₀ base h₀ L m s Q E B F X N T hk hd hu hG
    fun r news' h' tk' gs' hR => hret r news' h' tk' gs' (EncRet.of hkev hR)

theorem cut_K {prog : Program} {w : World} {A : Around} {E : Value → Shared → Prop} {s : Shared} {value slice : PySem.Expr} {b : Array UInt8} {t tk : Tok} {h₀ : Heap} {L : Addr} {m : PySem.Str → Option Value} {news : List (Addr × Obj)} {Q : Value → Shared → Prop} {ks : List Int} {k : Int}
    (hF : Fr h₀ L s.heap m) (hN : News h₀ L s.heap news) (hk : KBw.bInts b = ks) (h0 : 0 ≤ k) (h1 : k ≤ (ks.length : Int)) (hz : ks.length ≤ 60)
    (h : ∀ b' h' t' k' X, Fr h₀ L h' m → News h₀ L h' news → KBw.bInts b' = X → (X.length : Int) = k → Q (.bytes b' t') { s with heap := h', toks := k' })
    (hs : subscripted slice false (.bytes b t) (.ref s.heap.objs.size) = operate [.ref s.heap.objs.size, .bytes b t] (getItem (.bytes b t) (.ref s.heap.objs.size)) := by with_unfolding_all rfl)
    (ht : ∀ r, letTemporaryGo value (.bytes b t) r = pure () := by intro _; with_unfolding_all rfl) :
    wpAny (model prog w) A (subscriptTail value slice (.bytes b t) (.ref s.heap.objs.size)) Q E { s with heap := s.heap.push { cls := .type "slice", data := .fields #[.none, .int k tk, .none] } } := by
  refine KBc.slice_K hF hN hk (lo := none) (hi := some k) (by constructor) (by constructor) (by omega) (fun h' t' k' F' N' e => h _ _ _ _ _ F' N' e ?_) hs ht
  obtain ⟨n, rfl⟩ := Int.eq_ofNat_of_zero_le h0
  simp only [Option.elim, List.drop_zero, Nat.sub_zero, List.length_take, clipAt_nat]
  omega
theorem ints_of {b : Array UInt8} {n : Int} (h : (b.size : Int) = n) : ∃ X, KBw.bInts b = X ∧ (X.length : Int) = n := ⟨_, rfl, by rw [KBw.ints_length]; exact h⟩
theorem even_of {n : Nat} {k : Int} (hk : ¬ Int.fmod k 2 = 1) (h : (n : Int) = k) : n % 2 = 0 := by
  rw [Int.fmod_eq_emod_of_nonneg _ (by decide)] at hk
  omega
theorem odd_of {n : Nat} {k : Int} (hk : Int.fmod k 2 = 1) (h : (n : Int) = k) : n % 2 = 1 := by
  rw [Int.fmod_eq_emod_of_nonneg _ (by decide)] at hk
  omega
theorem it_eq (e : Int) : 2500 * 2 ^ e.toNat = itF e := by
  unfold itF
  rw [show (10000 : Int) * 2 ^ e.toNat = 4 * (2500 * 2 ^ e.toNat) by omega, Int.mul_fdiv_cancel_left _ (by decide)]

section
variable {prog : Program} {w : World} {A : Around} {E : Value → Shared → Prop} {s : Shared} {Q : Value → Shared → Prop} {h₀ : Heap} {L : Addr} {m : PySem.Str → Option Value} {news : List (Addr × Obj)}
/-- The salt of the law, its two ways met; the ledger keeps the two tables alone. -/
def SaltPost (s : Shared) (h₀ : Heap) (L : Addr) (m : PySem.Str → Option Value) (Y : List Int) (v : Value) (s' : Shared) : Prop :=
  ∃ b t h' tk, v = .bytes b t ∧ s' = { s with heap := h', toks := tk } ∧ Fr h₀ L h' m ∧ News h₀ L h' [((86 : Addr), tabObj #[]), ((30 : Addr), tabObj #[])] ∧ KBw.bInts b = Y
theorem join_salt {M : Model} {tree : Sem Value} {ident : Int} {ext : Bool} {ti : Tok} (_F : Fr h₀ L s.heap m) (_m1 : m (Str.ofString "identifier") = some (.int ident ti)) (_m2 : m (Str.ofString "longer") = some (.bool ext))
    (a : wpAny M A tree (SaltPost s h₀ L m (saltF ident ext)) E s)
    (h : ∀ b t h' tk X, Fr h₀ L h' m → News h₀ L h' [((86 : Addr), tabObj #[]), ((30 : Addr), tabObj #[])] → KBw.bInts b = X → X = saltF ident ext → X.length ≤ 8 → Q (.bytes b t) { s with heap := h', toks := tk }) : wpAny M A tree Q E s :=
  wpAny_mono a (fun v s' hv => by obtain ⟨b, t, h', tk, rfl, rfl, F, N, e⟩ := hv; exact h b t h' tk _ F N e rfl (salt_len _ _)) fun _ _ e => e
theorem salt_true {ident d : Int} (h : d = 1) : KBw.bInts #[] = saltF ident (d == 1) := by subst h; rfl
theorem salt_false {ident d : Int} {b : Array UInt8} (h : d ≠ 1) (e : KBw.bInts b = List.map (fun c : UInt8 => ((c.toNat : Nat) : Int)) [115, 104, 97, 109, 105, 114] ++ [Int.fdiv ident 256, Int.fmod ident 256]) : KBw.bInts b = saltF ident (d == 1) := by
  rw [show (d == 1) = false by simpa using h]
  exact e

variable {first e i0 i1 i2 i3 : Int} {ws ss ks X X' Y : List Int} {o0 o1 o2 o3 p0 p1 p2 p3 : Obj} {a b : Array UInt8} {t u : Tok}
theorem ne_enc (h1 : KBw.bInts a = X) (h2 : KBw.bInts b = X') (n1 : NetIs first ws ss e i0 i1 i2 i3 ks X o0 o1 o2 o3) (n2 : NetIs first ws ss e i0 i1 i2 i3 ks X' p0 p1 p2 p3)
    (h : X = X' → SameTup o0 p0 → SameTup o1 p1 → SameTup o2 p2 → SameTup o3 p3 → Q (.bool false) s) : wpAny (model prog w) A (compareOp .NotEq (.bytes a t) (.bytes b u)) Q E s := by
  obtain ⟨z, z0, z1, z2, z3⟩ := NetIs.same n1 n2
  exact ne_same (by rw [h1, h2, z]) (h z z0 z1 z2 z3)
theorem ne_dec (h1 : KBw.bInts a = Y) (h2 : KBw.bInts b = ks) (he : ks.length % 2 = 0) (n2 : NetIs first ws ss e i3 i2 i1 i0 X Y p0 p1 p2 p3) (n1 : NetIs first ws ss e i0 i1 i2 i3 ks X o0 o1 o2 o3)
    (h : Y = ks → SameTup p0 o3 → SameTup p1 o2 → SameTup p2 o1 → SameTup p3 o0 → Q (.bool false) s) : wpAny (model prog w) A (compareOp .NotEq (.bytes a t) (.bytes b u)) Q E s := by
  obtain ⟨z, z0, z1, z2, z3⟩ := NetIs.back (bInts_of h2) he n1 n2
  exact ne_same (by rw [h1, h2, z]) (h z z0 z1 z2 z3)
theorem eq_back (h1 : KBw.bInts a = Y) (h2 : KBw.bInts b = ks) (he : ks.length % 2 = 0) (n2 : NetIs first ws ss e i3 i2 i1 i0 X Y p0 p1 p2 p3) (n1 : NetIs first ws ss e i0 i1 i2 i3 ks X o0 o1 o2 o3)
    (h : Q (.bool true) s) : wpAny (model prog w) A (compareOp .Eq (.bytes a t) (.bytes b u)) Q E s :=
  eq_same (by rw [h1, h2]; exact (NetIs.back (bInts_of h2) he n1 n2).1) h
theorem rows_N {a b : Addr} {a0 a1 a2 a3 b0 b1 b2 b3 : Addr} {n k : Nat} (N : News h₀ L s.heap news) (ha : (a, listOf #[.ref a0, .ref a1, .ref a2, .ref a3] n) ∈ news) (hb : (b, listOf #[.ref b0, .ref b1, .ref b2, .ref b3] k) ∈ news)
    (ga0 : (a0, o0) ∈ news) (ga1 : (a1, o1) ∈ news) (ga2 : (a2, o2) ∈ news) (ga3 : (a3, o3) ∈ news) (gb0 : (b0, p0) ∈ news) (gb1 : (b1, p1) ∈ news) (gb2 : (b2, p2) ∈ news) (gb3 : (b3, p3) ∈ news)
    (n0 : @Ne Nat a0 b0) (n1 : @Ne Nat a1 b1) (n2 : @Ne Nat a2 b2) (n3 : @Ne Nat a3 b3) (hu : A.units + 64 < cLine)
    (h0 : SameTup o0 p0) (h1 : SameTup o1 p1) (h2 : SameTup o2 p2) (h3 : SameTup o3 p3) (h : Q (.bool false) s) : wpAny (model prog w) A (compareOp .NotEq (.ref a) (.ref b)) Q E s :=
  rows_ne (N.get ha) (N.get hb) (N.get ga0) (N.get ga1) (N.get ga2) (N.get ga3) (N.get gb0) (N.get gb1) (N.get gb2) (N.get gb3) n0 n1 n2 n3 hu h0 h1 h2 h3 h
theorem bytes_id {l : Addr} {i : Int} {t u : Tok} {n : Nat} (F : Fr h₀ L s.heap m) (N : News h₀ L s.heap news) (hm : (l, listOf #[.int (Int.fdiv i 256) t, .int (Int.fmod i 256) u] n) ∈ news) (h0 : 0 ≤ i) (h1 : i < 32768) (hh : A.handled = none)
    (h : ∀ h' t k c, Fr h₀ L h' m → News h₀ L h' news → KBw.bInts c = [Int.fdiv i 256, Int.fmod i 256] → Q (.bytes c t) { s with heap := h', toks := k }) : wpAny (model prog w) A (call (.type "bytes") [.ref l]) Q E s := by
  have hr : ∀ n ∈ [Int.fdiv i 256, Int.fmod i 256], 0 ≤ n ∧ n < 256 := by
    have e1 : Int.fdiv i 256 = i / 256 := Int.fdiv_eq_ediv_of_nonneg _ (by decide)
    have e2 : Int.fmod i 256 = i % 256 := Int.fmod_eq_emod_of_nonneg _ (by decide)
    intro n hn
    simp only [List.mem_cons, List.not_mem_nil, or_false] at hn
    rcases hn with e | e <;> rw [e] <;> omega
  refine bytes_K (ns := [Int.fdiv i 256, Int.fmod i 256]) F N (News.isList N hm) (IntsAre.cons _ _ (IntsAre.cons _ _ IntsAre.nil)) hr (by simp [sizeLine_eq]) hh fun h' t k F' N' hb => h h' t k _ F' N' ?_
  unfold KBw.bInts
  have a := byte_back (hr _ (.head _)).1 (hr _ (.head _)).2
  have b := byte_back (hr _ (.tail _ (.head _))).1 (hr _ (.tail _ (.head _))).2
  simp only [List.map_cons, List.map_nil, a, b]
end
theorem odd_ne {n : Nat} {k : Int} (hk : Int.fmod k 2 = 1) (h : (n : Int) = k) : Int.fmod (n : Int) 2 ≠ 0 := by
  rw [Int.fmod_eq_emod_of_nonneg _ (by decide)] at hk ⊢
  omega
theorem ne_odd {prog : Program} {w : World} {A : Around} {E : Value → Shared → Prop} {s : Shared} {Q : Value → Shared → Prop} {a b : Int} {t u : Tok} (h : a ≠ b) (k : Q (.bool true) s) : wpAny (model prog w) A (compareOp .NotEq (.int a t) (.int b u)) Q E s :=
  ne_int (by rw [show (a != b) = true by simpa using h]; exact k)
theorem even_same {a b : List Int} (h : a.length = b.length) (he : b.length % 2 = 0) : a.length % 2 = 0 := by rw [h]; exact he
theorem News.tl {h₀ h : Heap} {L : Addr} {p : Addr × Obj} {r : List (Addr × Obj)} (N : News h₀ L h (p :: r)) : News h₀ L h r := fun q hq => N q (.tail _ hq)
end Ja
end

section
set_option maxHeartbeats 4000000
namespace Ja
open PySem PySem.W PySem.Calls PyProof.Rows
local macro_rules | `(tactic| k_lt $h:ident) => `(tactic| (have l8 := head_lt $h; dsimp only at l8))
local macro_rules | `(tactic| k_ne) => `(tactic| (refine neN ?_; (try dsimp only); first | (with_reducible assumption) | exact Ne.symm (by with_reducible assumption) | exact Nat.ne_of_lt (lt_raw (by assumption) (by k_mem)) | exact Nat.ne_of_gt (lt_raw (by assumption) (by k_mem)) | decide | omega))

theorem main : PySem.Challenge.rw_ja0049_01.Holds := by
  k_with_none
  (k_with "exec Assign" => ((k_here; k_fold)))
  (k_with "exec Return some" => ((k_here; k_fold)))
  (k_with "exec Expr" => ((k_here; k_fold)))
  (k_with "eval Call" => ((k_here; k_fold)))
  (k_with "ja in" => ((refine' code_def ?qk19 ?qk29 ?qk39 ?qk49 ?qk59 ?qkA9 ?qkF9 ?qkK9 ?qk69 ?qk79 ?qk89 ?qk99 ?qkB9 ?_ ?qc29 ?qc39 ?qc49 ?qc59; (case qkA9 => exact rfl); (case qkF9 => exact rfl); (case qkK9 => first | exact rfl | assumption); (case qk19 => k_asm); (case qk29 => k_asm); (case qk39 => k_asm); (case qk49 => k_asm); (case qk59 => k_asm); (case qk69 => k_is); (case qk79 => k_is); (case qk89 => ktr_room); (case qk99 => exact BindsTo.of_eq rfl); (case qc59 => decide); (case qkB9 => exact locs rfl); (case qc29 => exact rfl); (case qc39 => exact rfl); (case qc49 => exact rfl); k_whole; intro g' L' h' FG' F' N' B' X' T'; (try dsimp only); (try k_lift B'); (try k_fold))))
  (k_with "call ref" => ((
      k_here
      first | (with_reducible show wpAny _ _ (call (Value.ref 56) _) _ _ _) | (with_reducible show wpAny _ _ (call (Value.ref 63) _) _ _ _)
      k_dflt (refine wpAny_call ?_; k_extra "ja in"))))
  (k_with "ja try" => ((refine' code_defS0 ?qk19 ?qk29 ?qk39 ?qk49 ?qk59 ?qkA9 ?qk69 ?qk79 ?qk89 ?qk99 ?qkB9 ?_ ?qcK9 ?qc29 ?qc39 ?qc49 ?qc59; (case qkA9 => exact rfl); (case qk29 => k_asm); (case qk19 => k_asm); (case qk39 => k_asm); (case qk49 => k_asm); (case qk59 => k_asm); (case qk69 => k_is); (case qk79 => k_is); (case qk89 => k_room); (case qk99 => exact BindsTo.of_eq rfl); (case qkB9 => exact locs rfl); (case qcK9 => exact rfl); (case qc29 => exact rfl); (case qc39 => exact rfl); (case qc49 => exact rfl); (case qc59 => decide); k_whole; intro g' L' h' FG' F' N' B' X' T' D'; (try dsimp only); (try k_lift B'); (try k_fold))))
  (k_with "call ref" => ((
      k_here
      (with_reducible show wpAny _ _ (call (Value.ref 110) _) _ _ _)
      k_dflt (refine wpAny_call ?_; k_extra "ja try"))))
  (k_with "ja many" => (first | assumption | decide | omega | exact Int.pow_pos (by decide)))
  (k_with "call ref" => ((
      k_here
      (with_reducible show wpAny _ _ (call (Value.ref 77) _) _ _ _)
      k_dflt (
        refine' CallsTo.use (draw_call _ _ _ _ _ _ _ _ _ _ _ _ _ _ ?qu19 ?qu29 ?qne9 ?qhI9 ?qhl9 ?qhm9) ?qB9 ?qF9 ?qX9 ?qN9 ?qT9 ?qK9 ?qd9 ?qu9 ?_
        (case qB9 => k_asm)
        (case qF9 => k_asm)
        (case qX9 => k_asm)
        (case qN9 => k_asm)
        (case qT9 => k_asm)
        (case qK9 => first | exact rfl | assumption)
        (case qu19 => k_updF)
        (case qu29 => (intro o9; (try dsimp only); k_updF))
        (case qne9 => k_ne)
        (case qhI9 => assumption)
        (case qhl9 => first | assumption | omega)
        (case qhm9 => k_extra "ja many")
        (case qd9 => ktr_room)
        (case qu9 => ktr_units)
        k_whole)
      intro r9 news9 h9 tk9 hR9 F9 N9
      obtain ⟨d9, t9, sd9, ts9, vs9, ns9, n19, n29, hr9, hd0, hd1, hI9, hl9, hn9⟩ := hR9
      subst hr9
      subst hn9
      (try dsimp only at N9)
      (try dsimp only)
      (try k_sweep))))
  (k_with "call ref" => ((
      k_here
      (with_reducible show wpAny _ _ (call (Value.ref 84) _) _ _ _)
      k_dflt (
        refine' CallsTo.use (octets_call _ _ _ _ _ _ _ _ _ _ _ _ _ _ ?qu19 ?qu29 ?qne9 ?qhI9 ?qhl9 ?qh29 ?qh409) ?qB9 ?qF9 ?qX9 ?qN9 ?qT9 ?qK9 ?qd9 ?qu9 ?_
        (case qB9 => k_asm)
        (case qF9 => k_asm)
        (case qX9 => k_asm)
        (case qN9 => k_asm)
        (case qT9 => k_asm)
        (case qK9 => first | exact rfl | assumption)
        (case qu19 => k_updF)
        (case qu29 => (intro o9; (try dsimp only); k_updF))
        (case qne9 => k_ne)
        (case qhI9 => assumption)
        (case qhl9 => first | assumption | omega)
        (case qh29 => decide)
        (case qh409 => decide)
        (case qd9 => ktr_room)
        (case qu9 => ktr_units)
        k_whole)
      intro r9 news9 h9 tk9 hR9 F9 N9
      obtain ⟨b9, t9, sd9, ts9, vs9, ns9, n19, n29, hr9, hz9, hI9, hl9, hn9⟩ := hR9
      obtain ⟨X9, hX9, hXl9⟩ := ints_of hz9
      clear hz9
      subst hr9
      subst hn9
      (try dsimp only at N9)
      (try dsimp only)
      (try k_sweep))))
  (k_with "subscriptTail" => ((
      k_here
      (with_reducible show wpAny _ _ (subscriptTail _ (Expr.Slice none (some _) none _) (Value.bytes _ _) (Value.ref _)) _ _ _)
      (with_reducible rename Fr _ _ _ _ => F')
      (with_reducible rename News _ _ _ _ => N')
      (refine cut_K (s := ⟨_, _, _, _, _⟩) F' N' (by kba_ints) (by first | assumption | omega) (by ((try simp only [List.length_append]); omega)) (by ((try simp only [List.length_append]); omega)) ?_)
      intro b9 h9 t9 k9 X9 F9 N9 hX9 hXl9
      (try k_sweep))))
  (k_with "call ref" => ((
      k_here
      (with_reducible show wpAny _ _ (call (Value.ref 91) _) _ _ _)
      k_dflt (
        refine' CallsTo.use (stretcher_next _ _ _ _ _ _ ?qM9) ?qB9 ?qF9 ?qX9 ?qN9 ?qT9 ?qK9 ?qd9 ?qu9 ?_
        (case qB9 => k_asm)
        (case qF9 => k_asm)
        (case qX9 => k_asm)
        (case qN9 => k_asm)
        (case qT9 => k_asm)
        (case qK9 => first | exact rfl | assumption)
        (case qM9 => k_mem)
        (case qd9 => ktr_room)
        (case qu9 => ktr_units)
        k_whole)
      intro r9 news9 h9 tk9 hR9 F9 N9
      obtain ⟨f9, cF9, cC9, doc9, pm9, ctv9, oF9, oC9, hr9, hn9, hoF9, hoC9, l9, lF9, lC9⟩ := hR9
      (have r1 := raw_cons oF9 l9 lF9)
      (have r2 := raw_cons oC9 r1 lC9)
      subst hr9
      subst hn9
      (try dsimp only at N9)
      (try dsimp only)
      (try k_lt l9)
      (try k_sweep))))
  (k_with "call ref" => ((
      k_here
      (with_reducible show wpAny _ _ (call (Value.ref 103) _) _ _ _)
      k_dflt (
        refine' CallsToG.use (due_call _ _ _ _ _ _ _ _ _ _ _ _ _ _ _ _ _ ?qU9 ?qhsec9 ?qhword9 ?qhsalt9 ?ql19 ?qev9 ?ql29 ?ql39 ?qf09 ?qf19 ?qro9) ?qB9 ?qF9 ?qX9 ?qN9 ?qT9 ?qK9 ?qd9 ?qu9 ?qG9 ?_
        (case qB9 => k_asm)
        (case qF9 => k_asm)
        (case qX9 => k_asm)
        (case qN9 => k_asm)
        (case qT9 => k_asm)
        (case qK9 => first | exact rfl | assumption)
        (case qU9 => k_updF)
        (case qhsec9 => kba_ints)
        (case qhword9 => kba_ints)
        (case qhsalt9 => kba_ints)
        (case ql19 => omega)
        (case qev9 => with_reducible assumption)
        (case ql29 => omega)
        (case ql39 => first | assumption | exact salt_len _ _ | omega)
        (case qf09 => assumption)
        (case qf19 => assumption)
        (case qro9 => first | assumption | exact it_eq _ | rfl)
        (case qd9 => ktr_room)
        (case qu9 => ktr_units)
        (case qG9 => assumption)
        k_whole)
      intro r9 news9 h9 tk9 gs9 hR9 G9 F9 N9
      k_dflt (obtain ⟨b9, t9, P9, CA9, a09, a19, a29, a39, o09, o19, o29, o39, c9, oc9, vs9, tq9, n29, X9, hn9, hr9, hX9, hnet9, hoc9, hvs9, l9, m0, m1, m2, m3, m4, m5, m6⟩ := hR9)
      (have r1 := raw_cons (listOf #[.ref a09, .ref a19, .ref a29, .ref a39] n29) l9 m0)
      (have r2 := raw_cons oc9 r1 m1)
      (have r3 := raw_cons o09 r2 m2)
      (have r4 := raw_cons o19 r3 m3)
      (have r5 := raw_cons o29 r4 m4)
      (have r6 := raw_cons o39 r5 m5)
      subst hr9
      subst hn9
      (try dsimp only at N9)
      (try dsimp only)
      (try k_lt l9)
      (try k_sweep))))
  (k_with "call ref" => ((
      k_here
      (with_reducible show wpAny _ _ (call (Value.ref 56) _) _ _ _)
      k_dflt (
        refine' CallsToG.use (enc_row _ _ _ _ _ _ _ _ _ _ _ _ _ _ _ _ _ _ _ _ _ _ _ _ _ _ _ _ _ _ _ _ ?qhf9 ?qhc9 ?qhoc9 ?qhvs9 ?qhF9 ?qhoF9 ?qhC9 ?qhoC9 ?qU19 ?qU29 ?qps9 ?qhsec9 ?qhword9 ?ql19 ?qev9 ?ql29 ?qf09 ?qf19 ?qe09 ?qe19 ?qi09 ?qi19) ?qB9 ?qF9 ?qX9 ?qN9 ?qT9 ?qK9 ?qd9 ?qu9 ?qG9 ?_
        (case qhsec9 => kba_ints)
        (case qev9 => with_reducible assumption)
        (case qB9 => k_asm)
        (case qF9 => k_asm)
        (case qX9 => k_asm)
        (case qN9 => k_asm)
        (case qT9 => k_asm)
        (case qK9 => first | exact rfl | assumption)
        (case qhf9 => k_mem)
        (case qhc9 => k_mem)
        (case qhoc9 => assumption)
        (case qhvs9 => assumption)
        (case qhF9 => k_mem)
        (case qhoF9 => assumption)
        (case qhC9 => k_mem)
        (case qhoC9 => assumption)
        (case qU19 => k_updF)
        (case qU29 => (intro o9; (try dsimp only); k_updF))
        (case qps9 => first | assumption | exact True.intro)
        (case qhword9 => kba_ints)
        (case ql19 => omega)
        (case ql29 => omega)
        (case qf09 => assumption)
        (case qf19 => assumption)
        (case qe09 => assumption)
        (case qe19 => assumption)
        (case qi09 => assumption)
        (case qi19 => assumption)
        (case qd9 => ktr_room)
        (case qu9 => ktr_units)
        (case qG9 => assumption)
        k_whole)
      intro r9 news9 h9 tk9 gs9 hR9 G9 F9 N9
      k_dflt (obtain ⟨b9, t9, X9, ps9, n29, a09, a19, a29, a39, o09, o19, o29, o39, hr9, hX9, hXl9, hnet9, hps9, hn9, l9, m0, m1, m2, m3⟩ := hR9)
      (have r1 := raw_cons o09 l9 m0)
      (have r2 := raw_cons o19 r1 m1)
      (have r3 := raw_cons o29 r2 m2)
      (have ev9 := even_same hXl9 (by assumption))
      subst hr9
      subst hn9
      (try dsimp only at N9)
      (try dsimp only)
      (try k_lt l9)
      (try k_sweep))))
  (k_with "call ref" => ((
      k_here
      (with_reducible show wpAny _ _ (call (Value.ref 63) _) _ _ _)
      k_dflt (
        refine' CallsToG.use (dec_row _ _ _ _ _ _ _ _ _ _ _ _ _ _ _ _ _ _ _ _ _ _ _ _ _ _ _ _ _ _ _ _ ?qhf9 ?qhc9 ?qhoc9 ?qhvs9 ?qhF9 ?qhoF9 ?qhC9 ?qhoC9 ?qU19 ?qU29 ?qps9 ?qhsec9 ?qhword9 ?ql19 ?qev9 ?ql29 ?qf09 ?qf19 ?qe09 ?qe19 ?qi09 ?qi19) ?qB9 ?qF9 ?qX9 ?qN9 ?qT9 ?qK9 ?qd9 ?qu9 ?qG9 ?_
        (case qhsec9 => kba_ints)
        (case qev9 => with_reducible assumption)
        (case qB9 => k_asm)
        (case qF9 => k_asm)
        (case qX9 => k_asm)
        (case qN9 => k_asm)
        (case qT9 => k_asm)
        (case qK9 => first | exact rfl | assumption)
        (case qhf9 => k_mem)
        (case qhc9 => k_mem)
        (case qhoc9 => assumption)
        (case qhvs9 => assumption)
        (case qhF9 => k_mem)
        (case qhoF9 => assumption)
        (case qhC9 => k_mem)
        (case qhoC9 => assumption)
        (case qU19 => k_updF)
        (case qU29 => (intro o9; (try dsimp only); k_updF))
        (case qps9 => first | assumption | exact True.intro)
        (case qhword9 => kba_ints)
        (case ql19 => omega)
        (case ql29 => omega)
        (case qf09 => assumption)
        (case qf19 => assumption)
        (case qe09 => assumption)
        (case qe19 => assumption)
        (case qi09 => assumption)
        (case qi19 => assumption)
        (case qd9 => ktr_room)
        (case qu9 => ktr_units)
        (case qG9 => assumption)
        k_whole)
      intro r9 news9 h9 tk9 gs9 hR9 G9 F9 N9
      k_dflt (obtain ⟨b9, t9, X9, ps9, n29, a09, a19, a29, a39, o09, o19, o29, o39, hr9, hX9, hXl9, hnet9, hps9, hn9, l9, m0, m1, m2, m3⟩ := hR9)
      (have r1 := raw_cons o09 l9 m0)
      (have r2 := raw_cons o19 r1 m1)
      (have r3 := raw_cons o29 r2 m2)
      (have ev9 := even_same hXl9 (by assumption))
      subst hr9
      subst hn9
      (try dsimp only at N9)
      (try dsimp only)
      (try k_lt l9)
      (try k_sweep))))
  (k_with "call type:bytes" => ((
      k_here
      k_dflt (
        refine' bytes_id ?qF9 ?qN9 ?qm9 ?qh09 ?qh19 ?qhh9 ?_
        (case qF9 => k_asm)
        (case qN9 => k_asm)
        (case qm9 => k_mem)
        (case qh09 => assumption)
        (case qh19 => assumption)
        (case qhh9 => rfl)
        k_whole)
      intro h9 t9 k9 c9 F9 N9 hc9
      (try k_sweep))))
  (k_with "eval IfExp" => ((
      k_here
      (with_reducible rename Fr _ _ _ _ => F9)
      k_dflt (
        refine' join_salt F9 ?qm19 ?qm29 ?qa9 ?_
        (case qm19 => exact rfl)
        (case qm29 => exact rfl)
        (case qa9 =>
          with_reducible refine IfExp_ ?_
          k_steps
          all_goals (
            refine' ⟨_, _, _, _, rfl, rfl, ?qsF9, ?qsN9, ?qsE9⟩
            (case qsF9 => k_asm)
            (case qsN9 => exact cb_drop (by assumption) (by kcj_all))
            (case qsE9 => first | exact salt_true (by assumption) | exact salt_false (by assumption) (by assumption)))))
      intro b9 t9 h9 tk9 X9 F9 N9 hX9 hS9 hXl9
      subst hS9
      (have ev9 := even_of (by assumption) (by assumption))
      (try k_sweep))))
  (k_with "compareOp NotEq bytes bytes" => ((
      k_here
      (with_reducible rename NetIs _ _ _ _ _ _ _ _ _ _ _ _ _ _ => z9)
      k_dflt (
        refine' ne_dec ?qh19 ?qh29 ?qhe9 z9 ?qn19 ?_
        (case qh19 => assumption)
        (case qh29 => assumption)
        (case qhe9 => with_reducible assumption)
        (case qn19 => assumption)
        k_whole)
      intro e9 s09 s19 s29 s39
      clear z9)))
  (k_with "compareOp NotEq bytes bytes" => ((
      k_here
      (with_reducible rename NetIs _ _ _ _ _ _ _ _ _ _ _ _ _ _ => z9)
      k_dflt (
        refine' ne_enc ?qh19 ?qh29 z9 ?qn29 ?_
        (case qh19 => assumption)
        (case qh29 => assumption)
        (case qn29 => assumption)
        k_whole)
      intro e9 s09 s19 s29 s39
      clear z9
      subst e9)))
  (k_with "compareOp Eq bytes bytes" => ((
      k_here
      k_dflt (
        refine' eq_back ?qh19 ?qh29 ?qhe9 ?qn29 ?qn19 ?_
        (case qh19 => assumption)
        (case qh29 => assumption)
        (case qhe9 => with_reducible assumption)
        (case qn29 => assumption)
        (case qn19 => assumption)
        k_whole))))
  (k_with "compareOp NotEq ref ref" => ((
      k_here
      k_dflt (
        refine' rows_N ?qN9 ?qha9 ?qhb9 ?qg09 ?qg19 ?qg29 ?qg39 ?qq09 ?qq19 ?qq29 ?qq39 ?qn09 ?qn19 ?qn29 ?qn39 ?qu9 ?qh09 ?qh19 ?qh29 ?qh39 ?_
        (case qN9 => k_asm)
        (case qha9 => k_mem)
        (case qhb9 => k_mem)
        (case qg09 => k_mem)
        (case qg19 => k_mem)
        (case qg29 => k_mem)
        (case qg39 => k_mem)
        (case qq09 => k_mem)
        (case qq19 => k_mem)
        (case qq29 => k_mem)
        (case qq39 => k_mem)
        (case qn09 => k_ne)
        (case qn19 => k_ne)
        (case qn29 => k_ne)
        (case qn39 => k_ne)
        (case qu9 => ke_room)
        (case qh09 => assumption)
        (case qh19 => assumption)
        (case qh29 => assumption)
        (case qh39 => assumption)
        k_whole)
      (with_reducible rename News _ _ _ _ => N9)
      (have N8 := News.tl (News.tl (News.tl (News.tl (News.tl (News.tl (News.tl (News.tl (News.tl N9)))))))))
      clear N9)))
  (k_with "AllBare" => (k_dflt assumption))
  (k_with "GoodW" => ((
      k_dflt (
        refine' law_true ?qF9 ?qg9 ?qo9
        (case qF9 => assumption)
        (case qg9 => rfl)
        (case qo9 => rfl)))))
  (k_with "call ref" => ((
      k_here
      (with_reducible show wpAny _ _ (call (Value.ref 91) _) _ _ _)
      k_dflt (
        refine' CallsTo.use (stretcher_first _ _ _ _ _ _ ?qU9) ?qB9 ?qF9 ?qX9 ?qN9 ?qT9 ?qK9 ?qd9 ?qu9 ?_
        (case qB9 => k_asm)
        (case qF9 => k_asm)
        (case qX9 => k_asm)
        (case qN9 => k_asm)
        (case qT9 => k_asm)
        (case qK9 => first | exact rfl | assumption)
        (case qU9 => k_updF)
        (case qd9 => ktr_room)
        (case qu9 => ktr_units)
        k_whole)
      intro r9 news9 h9 tk9 hR9 F9 N9
      obtain ⟨f9, cF9, cC9, doc9, pm9, c9, ctv9, oF9, oC9, oc9, vs9, tq9, hr9, hn9, hoF9, hoC9, hoc9, hvs9, l9, lF9, lC9, lc9⟩ := hR9
      (have r1 := raw_cons oF9 l9 lF9)
      (have r2 := raw_cons oC9 r1 lC9)
      (have r3 := raw_cons oc9 r2 lc9)
      subst hr9
      subst hn9
      (try dsimp only at N9)
      (try dsimp only)
      (try k_lt l9)
      (try k_sweep))))
  (k_with "compareOp NotEq int int" => ((
      k_here
      k_dflt (
        refine' ne_odd (odd_ne ?qh19 ?qh29) ?_
        (case qh19 => assumption)
        (case qh29 => assumption)
        k_whole))))
  refine Ja.head ?_
  k_fill
  intro w s₀ s₁ mg mb G Y fa o pm cd doc dV kV ho hd hcd hD hmg hg args vals as hpre hlay hrd hwl hlo
  have KX := km_in_of Y
  km_tabs Y
  have X := (Ground.X G).1
  have V := (Ground.X G).2
  refine Ground.open G ?_
  intro T B D TE TW
  try (refine guard_noD D (by decide +kernel) ?_; clear D)
  km_lay T hmg ho hd cd
  have hT7 := hT9
  clear hT9
  have hT9 : TabsAt [(90, 86), (34, 30)] s₁.heap := List.forall_mem_cons.mpr ⟨hT7 _ (.head _), List.forall_mem_cons.mpr ⟨tab30 KX T, fun _ h => nomatch h⟩⟩
  clear hT7
  clear hmg
  wrow_args hpre hlay hrd hwl hlo
  first | refine callC_kw (enter_call ?_) | refine enter_call ?_
  w_top on
  refine post_G hT9 (fun _ _ => rfl) ?_
  w_call any ho hd hcd hD T F
  clear hd
  kn_ghosts F T
  k_drop
  show wpAny _ _ _ _ _ _
  k_fold
  (k_with "pyIter ref" => k_state (fun pre seed => True) "seed")
  (k_with "state" => trivial)
  have hGb : AllBare s₁.gens := AllBare.of_eq hg
  k_steps
end Ja
end

theorem PySem.Challenge.cw_ja0049_01_holds : PySem.Challenge.rw_ja0049_01.Holds := by
  exact Ja.main
