import PyProof.Rows.All
import Wide.All
import OpenK.AllK
import Wide.FinOn
import PySem.Challenge.RW_br0002_01
open PySem PySem.W PyProof.Rows
set_option Elab.async false
namespace Mine
open PySem.Challenge
-- kind: theorem
set_option maxRecDepth 100000 in
set_option maxHeartbeats 8000000 in
open_top tp for PySem.Challenge.rw_br0002_01
-- kind: theorem
abbrev Led := List (Addr × Obj)

/-- a call of a def of the text's own that makes things and changes none -/
def Con (w : World) (f : Addr) (n : Nat) (vs : List Value) (Rel : Led → Prop) (Out : Led → Led → Value → Prop) : Prop :=
  ∀ (loose : List Str) (mean : ExcName → Option Value) (mg mb : Str → Option Value) (dp un : Nat) (gd : Option (List Code)) (cn : Str) (cs : Scope) (a : Addr) (ccd : Value) (cl : List (Str × Addr)) (outer : List Env)
    (A₀ : Around) (base h₀ : Heap) (L : Addr) (m : Str → Option Value) (news : Led) (s : Shared) (Q E : Value → Shared → Prop),
    Below A₀ base outer h₀ → Fr h₀ L s.heap m → (tp.heap_39 w.params).In h₀ → News h₀ L s.heap news → Top tp.view_39 loose mean mg mb h₀ → cs.kind = .function → Rel news →
    dp + n < recursionLimit → un + 8 * n < cLine →
    (∀ r tl h' tk', Fr h₀ L h' m → News h₀ L h' (tl ++ news) → (∀ q ∈ news, ∀ p ∈ tl, q.1 < p.1) → Out tl news r → Q r { s with heap := h', toks := tk' }) →
    wpAny (model rw_br0002_01.row.prog w) (ktrTop dp un gd cn cs L a ccd cl outer) (call (.ref f) vs) Q E s

/-- the same, where what comes back hangs on nothing made -/
def ConV (w : World) (f : Addr) (n : Nat) (vs : List Value) (Rel : Led → Prop) (Out : Value → Prop) : Prop :=
  ∀ (loose : List Str) (mean : ExcName → Option Value) (mg mb : Str → Option Value) (dp un : Nat) (gd : Option (List Code)) (cn : Str) (cs : Scope) (a : Addr) (ccd : Value) (cl : List (Str × Addr)) (outer : List Env)
    (A₀ : Around) (base h₀ : Heap) (L : Addr) (m : Str → Option Value) (news : Led) (s : Shared) (Q E : Value → Shared → Prop),
    Below A₀ base outer h₀ → Fr h₀ L s.heap m → (tp.heap_39 w.params).In h₀ → News h₀ L s.heap news → Top tp.view_39 loose mean mg mb h₀ → cs.kind = .function → Rel news →
    dp + n < recursionLimit → un + 8 * n < cLine →
    (∀ r h' tk', Fr h₀ L h' m → News h₀ L h' news → Out r → Q r { s with heap := h', toks := tk' }) →
    wpAny (model rw_br0002_01.row.prog w) (ktrTop dp un gd cn cs L a ccd cl outer) (call (.ref f) vs) Q E s

section
variable {w : World} {f : Addr} {n : Nat} {vs : List Value} {Rel : Led → Prop} {Out : Led → Led → Value → Prop} {OutV : Value → Prop} {loose : List Str} {mean : ExcName → Option Value} {mg mb : Str → Option Value} {dp un : Nat} {gd : Option (List Code)} {cn : Str} {cs : Scope} {a : Addr} {ccd : Value} {cl : List (Str × Addr)} {outer : List Env}
    {A₀ : Around} {base h₀ : Heap} {L : Addr} {m : Str → Option Value} {news : Led} {s : Shared} {Q E : Value → Shared → Prop}
theorem con_use (C : Con w f n vs Rel Out) (B : Below A₀ base outer h₀) (F : Fr h₀ L s.heap m) (X : (tp.heap_39 w.params).In h₀) (N : News h₀ L s.heap news) (T : Top tp.view_39 loose mean mg mb h₀) (hk : cs.kind = .function) (hR : Rel news)
    (hd : dp + n < recursionLimit) (hu : un + 8 * n < cLine)
    (ret : ∀ r tl h' tk', Fr h₀ L h' m → News h₀ L h' (tl ++ news) → (∀ q ∈ news, ∀ p ∈ tl, q.1 < p.1) → Out tl news r → Q r { s with heap := h', toks := tk' }) :
    wpAny (model rw_br0002_01.row.prog w) (ktrTop dp un gd cn cs L a ccd cl outer) (call (.ref f) vs) Q E s :=
  C loose mean mg mb dp un gd cn cs a ccd cl outer A₀ base h₀ L m news s Q E B F X N T hk hR hd hu ret
theorem conV_use (C : ConV w f n vs Rel OutV) (B : Below A₀ base outer h₀) (F : Fr h₀ L s.heap m) (X : (tp.heap_39 w.params).In h₀) (N : News h₀ L s.heap news) (T : Top tp.view_39 loose mean mg mb h₀) (hk : cs.kind = .function) (hR : Rel news)
    (hd : dp + n < recursionLimit) (hu : un + 8 * n < cLine)
    (ret : ∀ r h' tk', Fr h₀ L h' m → News h₀ L h' news → OutV r → Q r { s with heap := h', toks := tk' }) :
    wpAny (model rw_br0002_01.row.prog w) (ktrTop dp un gd cn cs L a ccd cl outer) (call (.ref f) vs) Q E s :=
  C loose mean mg mb dp un gd cn cs a ccd cl outer A₀ base h₀ L m news s Q E B F X N T hk hR hd hu ret
end

abbrev Fam := Int × Int
def fdat (f : Fam) : Dat := .tuple [.int f.1, .int f.2]
def fams4 : List Fam := [(1, 1), (2, 1), (1, 2), (1, 133)]

/-- a list object of families on the ledger -/
def RowAt (news : Led) (l : Addr) (R : List Fam) : Prop := ∃ vs n, (l, listOf (List.toArray vs) n) ∈ news ∧ DatAll news vs (R.map fdat)
def RowOk (R : List Fam) : Prop := R.Nodup ∧ ∀ f ∈ R, f ∈ fams4

structure Part where
  sec : Int
  fams : List Fam
  hops : List Fam
  refresh : Int
  large : Bool
  octets : Bool
  more : Bool

def Part.Ok (P : Part) : Prop := RowOk P.fams ∧ RowOk P.hops ∧ (P.refresh = 1 ∨ P.refresh = 2 ∨ P.refresh = 4) ∧ 0 ≤ P.sec ∧ P.sec < 200

def tell (P Q : Part) : Part :=
  { sec := min P.sec Q.sec, fams := Q.fams.filter (· ∈ P.fams), hops := Q.hops.filter (· ∈ P.hops), refresh := min P.refresh Q.refresh, large := P.large && Q.large, octets := P.octets && Q.octets, more := P.more && Q.more }

/-- the rows of an opening's capabilities -/
structure KvsOk (kvs : List (Int × Value)) (fa ha : Addr) (P : Part) : Prop where
  k1 : valueAt kvs 1 = some (.ref fa)
  k5 : valueAt kvs 5 = some (.ref ha)
  k2 : (valueAt kvs 2).isSome = decide (1 < P.refresh)
  k70 : (valueAt kvs 70).isSome = decide (P.refresh = 4)
  k6 : (valueAt kvs 6).isSome = P.large
  k65 : (valueAt kvs 65).isSome = P.octets
  k185 : (valueAt kvs 185).isSome = P.more
  k69 : valueAt kvs 69 = none
  k68 : (valueAt kvs 68).isSome = false
  k131 : (valueAt kvs 131).isSome = false

/-- the capabilities object -/
def CapsAt (w : World) (news : Led) (ca : Addr) (kvs : List (Int × Value)) : Prop :=
  ∃ dca ra o hsh t n, (ca, instObj 149 dca) ∈ news ∧ (dca, dictOf [⟨hsh, .str "rows" t, .ref ra⟩] n) ∈ news ∧ (ra, o) ∈ news ∧ Obj.IsDictOf (intKind rw_br0002_01.row.prog w) o kvs ∧ (ra == sysModules) = false

/-- an opening -/
def OpenAt (w : World) (news : Led) (v : Value) (P : Part) : Prop :=
  ∃ a da ca fa ha kvs h1 h2 h3 h4 t1 t2 t3 t4 t5 t6 t7 n, v = .ref a ∧ (a, instObj 170 da) ∈ news ∧
    (da, dictOf [⟨h1, .str "asn" t1, .int 65000 t2⟩, ⟨h2, .str "hold_time" t3, .int P.sec t4⟩, ⟨h3, .str "router_id" t5, .str "10.0.0.1" t6⟩, ⟨h4, .str "capabilities" t7, .ref ca⟩] n) ∈ news ∧
    CapsAt w news ca kvs ∧ KvsOk kvs fa ha P ∧ RowAt news fa P.fams ∧ RowAt news ha P.hops

/-- what was told: a tuple of seven -/
def ToldAt (news : Led) (v : Value) (P : Part) : Prop :=
  ∃ a fa ha t1 t2, v = .ref a ∧ (a, ({ cls := .type "tuple", data := .seq #[.int P.sec t1, .ref fa, .ref ha, .int P.refresh t2, .bool P.large, .bool P.octets, .bool P.more] } : Obj)) ∈ news ∧
    RowAt news fa P.fams ∧ RowAt news ha P.hops

section
variable {w : World} {news news' : Led} {v : Value} {P : Part} {a : Addr} {R : List Fam} {kvs : List (Int × Value)}
theorem RowAt.mono (hs : ∀ p ∈ news, p ∈ news') (h : RowAt news a R) : RowAt news' a R :=
  let ⟨vs, n, h1, h2⟩ := h
  ⟨vs, n, hs _ h1, h2.mono hs⟩
theorem CapsAt.mono (hs : ∀ p ∈ news, p ∈ news') (h : CapsAt w news a kvs) : CapsAt w news' a kvs :=
  let ⟨dca, ra, o, hsh, t, n, h1, h2, h3, h4, h5⟩ := h
  ⟨dca, ra, o, hsh, t, n, hs _ h1, hs _ h2, hs _ h3, h4, h5⟩
theorem OpenAt.mono (hs : ∀ p ∈ news, p ∈ news') (h : OpenAt w news v P) : OpenAt w news' v P := by
  obtain ⟨a, da, ca, fa, ha, kvs, h1, h2, h3, h4, t1, t2, t3, t4, t5, t6, t7, n, e, m1, m2, c, k, r1, r2⟩ := h
  exact ⟨a, da, ca, fa, ha, kvs, h1, h2, h3, h4, t1, t2, t3, t4, t5, t6, t7, n, e, hs _ m1, hs _ m2, c.mono hs, k, r1.mono hs, r2.mono hs⟩
theorem ToldAt.mono (hs : ∀ p ∈ news, p ∈ news') (h : ToldAt news v P) : ToldAt news' v P := by
  obtain ⟨a, fa, ha, t1, t2, e, m, r1, r2⟩ := h
  exact ⟨a, fa, ha, t1, t2, e, hs _ m, r1.mono hs, r2.mono hs⟩
theorem all_ne_of_allLt {d : Addr} (h : AllLt d news) : ∀ p ∈ news, p.1 ≠ d := fun p hp => Nat.ne_of_lt (ktn_ltOf h p hp)
theorem all_ne_of_lt {d : Addr} (h : ∀ p ∈ news, p.1 < d) : ∀ p ∈ news, p.1 ≠ d := fun p hp => Nat.ne_of_lt (h p hp)
theorem allLt_up {d e : Addr} (h : AllLt d news) (k : @LT.lt Nat _ d e) : AllLt e news := allLt_of fun p hp => Nat.lt_trans (ktn_ltOf h p hp) k
theorem allLt_succ {d : Nat} (h : ∀ p ∈ news, @LT.lt Nat _ p.1 d) : AllLt (d + 1) news := allLt_of fun p hp => Nat.lt_succ_of_lt (h p hp)
theorem ord_cons {tl : Led} {p : Addr × Obj} (h : AllLt p.1 news) (k : ∀ q ∈ news, ∀ p ∈ tl, q.1 < p.1) : ∀ q ∈ news, ∀ p' ∈ p :: tl, q.1 < p'.1 := by
  intro q hq p' hp
  rcases List.mem_cons.mp hp with rfl | hp
  · exact ktn_ltOf h q hq
  · exact k q hq p' hp
theorem ord_app {tl tl' : Led} (h : ∀ q ∈ tl' ++ news, ∀ p ∈ tl, q.1 < p.1) (k : ∀ q ∈ news, ∀ p ∈ tl', q.1 < p.1) : ∀ q ∈ news, ∀ p ∈ tl ++ tl', q.1 < p.1 := by
  intro q hq p hp
  rcases List.mem_append.mp hp with hp | hp
  · exact h q (List.mem_append.mpr (.inr hq)) p hp
  · exact k q hq p hp
theorem News.pick {h₀ h : Heap} {L : Addr} (N : News h₀ L h news') (hs : ∀ p ∈ news, p ∈ news') : News h₀ L h news := fun p hp => N p (hs p hp)
theorem sub_app {tl : Led} : ∀ p ∈ news, p ∈ tl ++ news := fun _ h => List.mem_append.mpr (.inr h)
end
-- kind: macro
local macro_rules | `(tactic| k_room) => `(tactic| ktr_room)
local macro_rules | `(tactic| k_units) => `(tactic| ktr_units)
local macro_rules | `(tactic| walk_at "ALT") => `(tactic| first | assumption | tbn_find | exact allLt_of (by assumption) | (refine' allLt_up ?hA ?hB; (case hB => assumption); (case hA => first | tbn_find | exact allLt_of (by assumption))))
local macro_rules | `(tactic| walk_at "ORD") => `(tactic| first | exact ktn_ord0 | assumption | (refine ord_cons ?hA ?hB; (case hA => (try dsimp only); walk_at "ALT"); (case hB => walk_at "ORD")) | (refine ord_app ?hA ?hB; (case hA => assumption); (case hB => walk_at "ORD")))
-- the entry of a def whose caller is some def
local macro_rules | `(tactic| walk_at "CON ENTER") => `(tactic| (refine wpAny_call ?_; k_dflt (first
  | (refine' code_def ?k1 ?k2 ?k3 ?k4 ?k5 ?kA ?kF ?kK ?k6 ?k7 ?k8 ?k9 ?kB ?_ ?c2 ?c3 ?c4 ?c5; (case kA => exact rfl); (case kF => exact rfl); (case kK => assumption); (case k1 => k_asm); (case k2 => k_asm); (case k3 => k_asm); (case k4 => k_asm); (case k5 => k_asm); (case k6 => k_is); (case k7 => k_is); (case k8 => ktr_room); (case k9 => first | exact BindsTo.of_eq rfl | exact binds_K (by k_in) rfl (by k_is) rfl rfl rfl); (case c5 => decide); (case kB => exact locs rfl); (case c2 => exact rfl); (case c3 => exact rfl); (case c4 => exact rfl); k_whole; intro g' L' h' FG' F' N' B' X' T'; (try dsimp only); (try k_fold))
  | (refine' code_defC ?k1 ?k2 ?k3 ?k4 ?k5 ?kA ?kF ?kK ?k6 ?k7 ?k8 ?k9 ?kB ?kD ?_ ?c2 ?c3 ?c4; (case kA => exact rfl); (case kF => exact rfl); (case kK => assumption); (case k1 => k_asm); (case k2 => k_asm); (case k3 => k_asm); (case k4 => k_asm); (case k5 => k_asm); (case k6 => k_is); (case k7 => k_is); (case k8 => ktr_room); (case k9 => first | exact BindsTo.of_eq rfl | exact binds_K (by k_in) rfl (by k_is) rfl rfl rfl); (case kB => exact rfl); (case kD => decide +kernel); (case c2 => exact rfl); (case c3 => exact rfl); (case c4 => exact rfl); k_whole; intro g' L' h' tk' cells' FG' F' N' Y' B' X' T' l1; (try k_lt l1); k_cells Y'; (try simp only [List.cons_append, List.nil_append] at N'); (try dsimp only); (try k_fold)))))
local macro_rules | `(tactic| walk_at "compareOp In int ref") => `(tactic| (k_here; k_dflt (refine kda_in (knd := PySem.intKind _ _) (by k_asm) (by walk_at "MEM") (by assumption) (by assumption) (intKind_is _ _ _ _) _ rfl ?_)))
local macro_rules | `(tactic| walk_at "subscriptTail") => `(tactic| (k_here; k_dflt ((with_reducible show wpAny _ _ (subscriptTail _ _ (Value.ref _) (Value.int _ _)) _ _ _); refine kda_item (knd := PySem.intKind _ _) (by k_asm) (by walk_at "MEM") (by assumption) (intKind_is _ _ _ _) (by assumption) ?_)))
local macro_rules | `(tactic| walk_at "getMethod ref") => `(tactic| (k_here; (with_reducible show wpAny _ _ (getMethod (Value.ref _) (Str.ofString "get") _) _ _ _); k_dflt (refine kdg_method (knd := PySem.intKind _ _) (by k_asm) (by walk_at "MEM") (by assumption) ?_)))
local macro_rules | `(tactic| walk_at "call builtin:dict.get") => `(tactic| (k_here; k_dflt (refine kdg_get2 (knd := PySem.intKind _ _) (by k_asm) (by walk_at "MEM") (by assumption) (by assumption) (intKind_is _ _ _ _) none (by assumption) ?_); (try dsimp only [Option.getD])))
local macro_rules | `(tactic| walk_at "setItem ref int") => `(tactic| (k_here; k_dflt (refine' kda_set (knd := PySem.intKind _ _) ?F ?N ?U ?d (intKind_is _ _ _ _) ?z ?_; (case F => k_asm); (case N => k_asm); (case U => k_updF); (case d => assumption); (case z => (rw [sizeLine_eq]; omega))); intro h' o' F' N' hd'; (try dsimp only at N')))
local macro_rules | `(tactic| walk_at "MEM") => `(tactic| first | exact List.mem_cons_self | ktr_member | (refine' List.mem_cons_of_mem _ ?_; walk_at "MEM") | (ktn_app; first | (refine List.mem_append.mpr (Or.inl ?_); walk_at "MEM") | (refine List.mem_append.mpr (Or.inr ?_); walk_at "MEM")))
local macro_rules | `(tactic| k_mem) => `(tactic| walk_at "MEM")
-- quick ways first: an own class's plain value, an own class's truth, a call of a def of the top's
local macro_rules | `(tactic| walk_at "getAttr ref") => `(tactic| (k_here; k_dflt (refine' cls_val ?k1 ?k2 ?k3 ?k4 ?k5 ?k6 ?_; (case k1 => k_asm); (case k2 => k_asm); (case k3 => k_is); (case k4 => k_is); (case k5 => k_is); (case k6 => k_handed); k_whole)))
local macro_rules | `(tactic| walk_at "truthy ref") => `(tactic| (k_here; k_dflt (refine' truthy_K0 ?k1 ?k2 ?k3 ?k4 ?k5 ?_; (case k1 => k_asm); (case k2 => k_asm); (case k3 => k_inst); (case k4 => k_is); (case k5 => k_is); k_whole)))
local macro_rules | `(tactic| walk_at "callWith ref") => `(tactic| (k_here; (with_reducible show wpAny _ _ (callWith _ (Value.ref _) _ (backTo _ (starEach [] _)) []) _ _ _); k_dflt (refine' callWith_K0 ?k1 ?k2 ?_; (case k1 => k_in); (case k2 => k_is); k_whole)))
local macro_rules | `(tactic| walk_at "subscriptTail") => `(tactic| (k_here; k_dflt ((with_reducible show wpAny _ _ (subscriptTail _ _ (Value.ref _) (Value.str _ _)) _ _ _); refine kda_item (knd := PySem.strKind _ _) (by k_asm) (by walk_at "MEM") (by assumption) (strKind_is _ _ _ _) (by rfl) ?_)))
local macro_rules | `(tactic| walk_at "subscriptTail Name") => `(tactic| (k_here; k_dflt ((with_reducible show wpAny _ _ (subscriptTail _ _ (Value.ref _) (Value.str _ _)) _ _ _); refine kda_item (knd := PySem.strKind _ _) (by k_asm) (by walk_at "MEM") (by assumption) (strKind_is _ _ _ _) (by rfl) ?_)))
local macro_rules | `(tactic| walk_at "subscriptTail Subscript") => `(tactic| (k_here; k_dflt ((with_reducible show wpAny _ _ (subscriptTail _ _ (Value.ref _) (Value.str _ _)) _ _ _); refine kda_item (knd := PySem.strKind _ _) (by k_asm) (by walk_at "MEM") (by assumption) (strKind_is _ _ _ _) (by rfl) ?_)))
-- kind: theorem
theorem valueAt_map {K : Type} [DecidableEq K] (r : List (K × Value)) (a : K) (v : Value) (j : K) (h : ¬ a = j) : (r.map fun kv => if kv.1 = a then (kv.1, v) else kv).find? (fun kv => decide (kv.1 = j)) = r.find? fun kv => decide (kv.1 = j) := by
  induction r with
  | nil => rfl
  | cons q r ih =>
    obtain ⟨b, x⟩ := q
    rw [List.map_cons, List.find?_cons, List.find?_cons]
    by_cases hb : b = a
    · subst hb; simp only [if_true, h, decide_false]; exact ih
    · simp only [hb, if_false]
      by_cases hj : b = j
      · simp only [hj, decide_true]
      · simp only [hj, decide_false]; exact ih
theorem valueAt_stored {K : Type} [DecidableEq K] (kvs : List (K × Value)) (k : K) (v : Value) (j : K) : valueAt (stored kvs k v) j = if j = k then some v else valueAt kvs j := by
  induction kvs with
  | nil =>
    simp only [stored, valueAt, List.any_nil, Bool.false_eq_true, if_false, List.nil_append, List.find?_cons, List.find?_nil]
    by_cases h : k = j
    · subst h; simp
    · rw [if_neg (fun e => h e.symm)]; simp [h]
  | cons p r ih =>
    obtain ⟨a, u⟩ := p
    by_cases ha : a = k
    · subst ha
      simp only [stored, valueAt, List.any_cons, decide_true, Bool.true_or, if_true, List.map_cons, List.find?_cons]
      by_cases h : a = j
      · subst h; simp
      · rw [if_neg (fun e => h e.symm)]
        simp only [h, decide_false]
        rw [valueAt_map r a v j h]
    · have e : stored ((a, u) :: r) k v = (a, u) :: stored r k v := by
        simp only [stored, List.any_cons, ha, decide_false, Bool.false_or, List.map_cons, if_false]
        split <;> rfl
      rw [e]
      by_cases h : a = j
      · subst h
        rw [if_neg ha]
        simp [valueAt]
      · have e1 : ∀ l : List (K × Value), valueAt ((a, u) :: l) j = valueAt l j := fun l => by simp [valueAt, h]
        rw [e1, e1]; exact ih

section
variable {prog : Program} {w : World} {M : Model} {A : Around} {E : Value → Shared → Prop} {s : Shared} {env : Env} {g : Heap} {L : Addr} {m : Str → Option Value} {news : Led} {st : Stmt} {rest : List Stmt} {Q : Flow → Shared → Prop}
/-- a statement by itself, its ways joined -/
theorem cut {α : Type} {C : α → Prop} {mm : α → Str → Option Value} {led : α → Led}
    (h1 : ∀ Q' : Flow → Shared → Prop, (∀ x h' tk', C x → Fr g L h' (mm x) → News g L h' (led x) → Q' .next { s with heap := h', toks := tk' }) → wpAny M A (exec st env) Q' E s)
    (h2 : ∀ x h' tk', C x → Fr g L h' (mm x) → News g L h' (led x) → wpAny M A (execs rest env) Q E { s with heap := h', toks := tk' }) : wpAny M A (execs (st :: rest) env) Q E s := by
  refine wpAny_execs_cons (wpAny_mono (h1 (fun f s' => f = .next ∧ ∃ x h' tk', C x ∧ Fr g L h' (mm x) ∧ News g L h' (led x) ∧ s' = { s with heap := h', toks := tk' }) ?_) ?_ fun _ _ e => e)
  · exact fun x h' tk' c F N => ⟨rfl, x, h', tk', c, F, N, rfl⟩
  · rintro f s' ⟨rfl, x, h', tk', c, F, N, rfl⟩
    exact h2 x h' tk' c F N

/-- a statement that stores one name -/
theorem cut_st {α : Type} (F : Fr g L s.heap m) (name : Str) (val : α → Value) (C : α → Prop) (led : α → Led)
    (h1 : ∀ Q' : Flow → Shared → Prop, (∀ x h' tk', C x → Fr g L h' (fun y => if y = name then some (val x) else m y) → News g L h' (led x) → Q' .next { s with heap := h', toks := tk' }) → wpAny M A (exec st env) Q' E s)
    (h2 : ∀ x h' tk', C x → Fr g L h' (fun y => if y = name then some (val x) else m y) → News g L h' (led x) → wpAny M A (execs rest env) Q E { s with heap := h', toks := tk' }) : wpAny M A (execs (st :: rest) env) Q E s :=
  let _ := F
  cut (mm := fun x y => if y = name then some (val x) else m y) h1 h2
/-- a store into a dict of ints under a test -/
theorem cut_o {d : Addr} {o : Obj} {kvs : List (Int × Value)} {n : Nat} (F : Fr g L s.heap m) (N : News g L s.heap ((d, o) :: news)) (hD : Obj.IsDictOf (intKind prog w) o kvs) (hz : kvs.length ≤ n) (hn : n ≤ 1000) (k : Int) (b : Bool)
    (h1 : ∀ Q' : Flow → Shared → Prop, (∀ h' tk' (o' : Obj) (kvs' : List (Int × Value)), Fr g L h' m → News g L h' ((d, o') :: news) → Obj.IsDictOf (intKind prog w) o' kvs' → kvs'.length ≤ n + 1 ∧ (valueAt kvs' k).isSome = b ∧ (∀ j, j ≠ k → valueAt kvs' j = valueAt kvs j) → Q' .next { s with heap := h', toks := tk' }) →
      wpAny M A (exec st env) Q' E s)
    (h2 : ∀ h' tk' (o' : Obj) (kvs' : List (Int × Value)), Fr g L h' m → News g L h' ((d, o') :: news) → Obj.IsDictOf (intKind prog w) o' kvs' → kvs'.length ≤ n + 1 → (valueAt kvs' k).isSome = b → (∀ j, j ≠ k → valueAt kvs' j = valueAt kvs j) →
      wpAny M A (execs rest env) Q E { s with heap := h', toks := tk' }) : wpAny M A (execs (st :: rest) env) Q E s := by
  have _ := F; have _ := N; have _ := hD; have _ := hz; have _ := hn
  refine cut (g := g) (L := L) (C := fun x : Obj × List (Int × Value) => Obj.IsDictOf (intKind prog w) x.1 x.2 ∧ x.2.length ≤ n + 1 ∧ (valueAt x.2 k).isSome = b ∧ ∀ j, j ≠ k → valueAt x.2 j = valueAt kvs j) (mm := fun _ => m) (led := fun x => (d, x.1) :: news) ?_ ?_
  · exact fun Q' hr => h1 Q' fun h' tk' o' kvs' F' N' hD' c => hr (o', kvs') h' tk' ⟨hD', c⟩ F' N'
  · rintro ⟨o', kvs'⟩ h' tk' ⟨hD', c1, c2, c3⟩ F' N'
    exact h2 h' tk' o' kvs' F' N' hD' c1 c2 c3

theorem cut_yes {kvs : List (Int × Value)} {n : Nat} {k : Int} {v : Value} {b : Bool} (hz : kvs.length ≤ n) (hb : b = true) : (stored kvs k v).length ≤ n + 1 ∧ (valueAt (stored kvs k v) k).isSome = b ∧ ∀ j, j ≠ k → valueAt (stored kvs k v) j = valueAt kvs j :=
  ⟨Nat.le_trans (stored_length_le kvs k v) (Nat.succ_le_succ hz), by rw [valueAt_stored, if_pos rfl, hb]; rfl, fun j hj => by rw [valueAt_stored, if_neg hj]⟩
theorem cut_no {kvs : List (Int × Value)} {n : Nat} {k : Int} {b : Bool} (hz : kvs.length ≤ n) (hk : valueAt kvs k = none) (hb : b = false) : kvs.length ≤ n + 1 ∧ (valueAt kvs k).isSome = b ∧ ∀ j, j ≠ k → valueAt kvs j = valueAt kvs j :=
  ⟨Nat.le_succ_of_le hz, by rw [hk, hb]; rfl, fun _ _ => rfl⟩
end

theorem upd_app_lt {d : Addr} {o o' : Obj} {tl r r' : Led} (lt : ∀ q ∈ r, ∀ p ∈ tl, q.1 < p.1) (U : Upd d o o' r r') : Upd d o o' (tl ++ r) (tl ++ r') := by
  have hd : ∀ p ∈ tl, p.1 ≠ d := by
    obtain ⟨pre, post, rfl, _, _, _⟩ := U.split
    exact fun p hp => (Nat.ne_of_lt (lt (d, o) (by simp) p hp)).symm
  clear lt
  induction tl with
  | nil => exact U
  | cons p tl ih => exact .tail (hd p (.head _)) (ih fun q hq => hd q (.tail _ hq))
theorem ne_app {d : Addr} {tl news : Led} (h : ∀ p ∈ tl, d < p.1) (k : AllLt d news) : ∀ p ∈ tl ++ news, p.1 ≠ d := by
  intro p hp
  rcases List.mem_append.mp hp with hp | hp
  · exact (Nat.ne_of_lt (h p hp)).symm
  · exact Nat.ne_of_lt (ktn_ltOf k p hp)

theorem my_len {prog : Program} {w : World} {A : Around} {E : Value → Shared → Prop} {s : Shared} {g : Heap} {L l : Addr} {news : Led} {vs : List Value} {n : Nat} {Q : Value → Shared → Prop} (N : News g L s.heap news) (hm : (l, listOf (List.toArray vs) n) ∈ news) (hz : vs.length ≤ 1000)
    (h : Q (.int (vs.length : Int) (s.toks + 1)) { s with toks := s.toks + 1 + 1 }) : wpAny (model prog w) A (call (.builtin "len") [.ref l]) Q E s :=
  len_list (items := List.toArray vs) (N.isList hm) (by rw [List.size_toArray]; omega) (by rw [List.size_toArray]; exact h)
theorem my_item {prog : Program} {w : World} {A : Around} {E : Value → Shared → Prop} {s : Shared} {g : Heap} {L l : Addr} {news : Led} {its : Array Value} {n : Nat} {value slice : PySem.Expr} {k : Int} {u : Tok} {v : Value} {Q : Value → Shared → Prop} (N : News g L s.heap news) (hm : (l, listOf its n) ∈ news)
    (h0 : 0 ≤ k) (hfit : k < 2 ^ 63) (hx : its[k.toNat]? = some v) (h : Q v s)
    (hs : subscripted slice false (.ref l) (.int k u) = operate [.ref l, .int k u] (getItem (.ref l) (.int k u)) := by with_unfolding_all rfl) (hg : ∀ r, letTemporaryGo value (.ref l) r = pure () := by intro _; with_unfolding_all rfl) :
    wpAny (model prog w) A (subscriptTail value slice (.ref l) (.int k u)) Q E s := item_list (N.isList hm) h0 hfit hx h hs hg
-- kind: theorem
set_option maxRecDepth 100000 in
set_option maxHeartbeats 8000000 in
theorem ann_c (w : World) (k : Int) (kvs : List (Int × Value)) (ca : Addr) (t : Tok) (b : Bool) (hb : (valueAt kvs k).isSome = b) :
    ConV w 124 4 [.ref ca, .int k t] (fun news => CapsAt w news ca kvs) (fun r => r = .bool b) := by
  unfold ConV
  w_top off
  k_fill
  intro loose mean mg mb dp un gd cn cs a ccd cl outer A₀ base h₀ L m news s Q E B F X N T hk hR hd hu hret
  obtain ⟨dca, ra, o, hsh, t', n, m1, m2, m3, hD, lo⟩ := hR
  walk_at "CON ENTER"
  k_steps
  all_goals exact hret _ _ _ (by assumption) (by assumption) (by rw [hb])
-- kind: theorem
set_option maxRecDepth 100000 in
set_option maxHeartbeats 8000000 in
theorem item_c (w : World) (k : Int) (kvs : List (Int × Value)) (ca : Addr) (t : Tok) (v : Value) (hb : valueAt kvs k = some v) :
    ConV w 139 4 [.ref ca, .int k t] (fun news => CapsAt w news ca kvs) (fun r => r = v) := by
  unfold ConV
  w_top off
  k_fill
  intro loose mean mg mb dp un gd cn cs a ccd cl outer A₀ base h₀ L m news s Q E B F X N T hk hR hd hu hret
  obtain ⟨dca, ra, o, hsh, t', n, m1, m2, m3, hD, lo⟩ := hR
  walk_at "CON ENTER"
  k_steps
  all_goals exact hret _ _ _ (by assumption) (by assumption) rfl
set_option maxRecDepth 100000 in
set_option maxHeartbeats 8000000 in
theorem get_c (w : World) (k : Int) (kvs : List (Int × Value)) (ca : Addr) (t : Tok) (d : Value) (hb : valueAt kvs k = none) :
    ConV w 132 4 [.ref ca, .int k t, d] (fun news => CapsAt w news ca kvs) (fun r => r = d) := by
  unfold ConV
  w_top off
  k_fill
  intro loose mean mg mb dp un gd cn cs a ccd cl outer A₀ base h₀ L m news s Q E B F X N T hk hR hd hu hret
  obtain ⟨dca, ra, o, hsh, t', n, m1, m2, m3, hD, lo⟩ := hR
  walk_at "CON ENTER"
  k_steps
  all_goals exact hret _ _ _ (by assumption) (by assumption) rfl
-- kind: theorem
set_option maxRecDepth 100000 in
set_option maxHeartbeats 8000000 in
theorem open_c (w : World) (P : Part) (f h : Addr) (t1 t2 : Tok) (hr : P.refresh = 1 ∨ P.refresh = 2 ∨ P.refresh = 4) :
    Con w 284 8 [.int P.sec t1, .ref f, .ref h, .int P.refresh t2, .bool P.large, .bool P.octets, .bool P.more] (fun news => RowAt news f P.fams ∧ RowAt news h P.hops) (fun tl news r => OpenAt w (tl ++ news) r P) := by
  unfold Con
  w_top off
  k_fill
  intro loose mean mg mb dp un gd cn cs a ccd cl outer A₀ base h₀ L m news s Q E B F X N T hk hR hd hu hret
  obtain ⟨r1, r2⟩ := hR
  obtain ⟨sec, fams, hops, refresh, large, octets, more⟩ := P
  dsimp only at hr r1 r2 hret ⊢
  walk_at "CON ENTER"
  rename_i g L' h1 FG F1 N1 B1 X1 T1
  refine cut_st F1 (Str.ofString "rows") (fun x : Addr × Obj => .ref x.1) (fun x => Obj.IsDictOf (intKind rw_br0002_01.row.prog w) x.2 [(1, .ref f), (5, .ref h)] ∧ (x.1 == sysModules) = false ∧ AllLt x.1 news) (fun x => x :: news) (fun Q' hq => ?_) ?_
  · k_steps
    all_goals exact hq (_, _) _ _ ⟨by assumption, by assumption, by walk_at "ALT"⟩ (by assumption) (by assumption)
  clear F1 N1
  rintro ⟨d, o⟩ h' tk' ⟨hD, lo, hl⟩ F1 N1
  dsimp only at hD lo hl F1 N1
  obtain ⟨kvs, hD, hz, k1, k5, k2, kn⟩ : ∃ kvs, Obj.IsDictOf (intKind rw_br0002_01.row.prog w) o kvs ∧ kvs.length ≤ 2 ∧ valueAt kvs 1 = some (.ref f) ∧ valueAt kvs 5 = some (.ref h) ∧ valueAt kvs 2 = none ∧ ∀ j : Int, j ≠ 1 → j ≠ 5 → valueAt kvs j = none :=
    ⟨_, hD, Nat.le_refl _, rfl, rfl, rfl, fun j h1 h5 => by simp [valueAt, Ne.symm h1, Ne.symm h5]⟩
  refine cut_o F1 N1 hD hz (by decide) 2 (decide (1 < refresh)) (fun Q' hq => ?_) ?_
  · have kz : valueAt kvs 2 = none := by simp only [kn, ne_eq, Int.reduceEq, not_false_eq_true]
    rcases hr with rfl | rfl | rfl <;> k_steps
    all_goals first
      | exact hq _ _ _ _ (by assumption) (cb_drop (by assumption) (fun _ hp => List.mem_cons_of_mem _ hp)) (by assumption) (cut_yes hz rfl)
      | exact hq _ _ _ _ (by assumption) (by assumption) (by assumption) (cut_yes hz rfl)
      | exact hq _ _ _ _ (by assumption) (by assumption) (by assumption) (cut_no hz kz rfl)
  clear F1 N1 hD hz
  intro h0' tk0' o0 kvs0 F1 N1 hD hz b0 e0
  refine cut_o F1 N1 hD hz (by decide) 70 (decide (refresh = 4)) (fun Q' hq => ?_) ?_
  · have kz : valueAt kvs0 70 = none := by simp only [kn, e0, ne_eq, Int.reduceEq, not_false_eq_true]
    rcases hr with rfl | rfl | rfl <;> k_steps
    all_goals first
      | exact hq _ _ _ _ (by assumption) (cb_drop (by assumption) (fun _ hp => List.mem_cons_of_mem _ hp)) (by assumption) (cut_yes hz rfl)
      | exact hq _ _ _ _ (by assumption) (by assumption) (by assumption) (cut_yes hz rfl)
      | exact hq _ _ _ _ (by assumption) (by assumption) (by assumption) (cut_no hz kz rfl)
  clear F1 N1 hD hz
  intro h1' tk1' o1 kvs1 F1 N1 hD hz b1 e1
  refine cut_o F1 N1 hD hz (by decide) 6 large (fun Q' hq => ?_) ?_
  · have kz : valueAt kvs1 6 = none := by simp only [kn, e0, e1, ne_eq, Int.reduceEq, not_false_eq_true]
    cases large <;> k_steps
    all_goals first
      | exact hq _ _ _ _ (by assumption) (cb_drop (by assumption) (fun _ hp => List.mem_cons_of_mem _ hp)) (by assumption) (cut_yes hz rfl)
      | exact hq _ _ _ _ (by assumption) (by assumption) (by assumption) (cut_yes hz rfl)
      | exact hq _ _ _ _ (by assumption) (by assumption) (by assumption) (cut_no hz kz rfl)
  clear F1 N1 hD hz
  intro h2' tk2' o2 kvs2 F1 N1 hD hz b2 e2
  refine cut_o F1 N1 hD hz (by decide) 65 octets (fun Q' hq => ?_) ?_
  · have kz : valueAt kvs2 65 = none := by simp only [kn, e0, e1, e2, ne_eq, Int.reduceEq, not_false_eq_true]
    cases octets <;> k_steps
    all_goals first
      | exact hq _ _ _ _ (by assumption) (cb_drop (by assumption) (fun _ hp => List.mem_cons_of_mem _ hp)) (by assumption) (cut_yes hz rfl)
      | exact hq _ _ _ _ (by assumption) (by assumption) (by assumption) (cut_yes hz rfl)
      | exact hq _ _ _ _ (by assumption) (by assumption) (by assumption) (cut_no hz kz rfl)
  clear F1 N1 hD hz
  intro h3' tk3' o3 kvs3 F1 N1 hD hz b3 e3
  refine cut_o F1 N1 hD hz (by decide) 185 more (fun Q' hq => ?_) ?_
  · have kz : valueAt kvs3 185 = none := by simp only [kn, e0, e1, e2, e3, ne_eq, Int.reduceEq, not_false_eq_true]
    cases more <;> k_steps
    all_goals first
      | exact hq _ _ _ _ (by assumption) (cb_drop (by assumption) (fun _ hp => List.mem_cons_of_mem _ hp)) (by assumption) (cut_yes hz rfl)
      | exact hq _ _ _ _ (by assumption) (by assumption) (by assumption) (cut_yes hz rfl)
      | exact hq _ _ _ _ (by assumption) (by assumption) (by assumption) (cut_no hz kz rfl)
  clear F1 N1 hD hz
  intro h4' tk4' o4 kvs4 F1 N1 hD hz b4 e4
  k_steps
  refine hret _ [_, _, _, _, _] _ _ (by assumption) (by assumption) (by walk_at "ORD") ?_
  refine ⟨_, _, _, f, h, kvs4, _, _, _, _, _, _, _, _, _, _, _, _, rfl, by k_mem, by k_mem, ⟨_, _, _, _, _, _, by k_mem, by k_mem, by k_mem, hD, lo⟩, ?_, r1.mono sub_app, r2.mono sub_app⟩
  constructor
  all_goals first
    | (simp only [e4, e3, e2, e1, e0, b4, b3, b2, b1, b0, k1, k5, kn, ne_eq, Int.reduceEq, not_false_eq_true, Option.isSome_none]; done)
-- kind: theorem
/-- the table of the four families, made anew -/
def FamsAt (news : Led) (r : Value) : Prop :=
  ∃ l n v0 v1 v2 v3, r = .ref l ∧ (l, listOf #[v0, v1, v2, v3] n) ∈ news ∧ DatIn news v0 (fdat (1, 1)) ∧ DatIn news v1 (fdat (2, 1)) ∧ DatIn news v2 (fdat (1, 2)) ∧ DatIn news v3 (fdat (1, 133))
theorem fam_dat {news : Led} {a : Addr} {x y : Int} {t u : Tok} {n : Nat} (h : (a, ({ cls := .type "tuple", data := .seq #[.int x t, .int y u] n } : Obj)) ∈ news) : DatIn news (.ref a) (fdat (x, y)) :=
  DatIn.tuple (vs := [.int x t, .int y u]) h (.cons (.int x t) (.cons (.int y u) .nil))
set_option maxRecDepth 100000 in
set_option maxHeartbeats 8000000 in
theorem fam_c (w : World) : Con w 270 4 [] (fun _ => True) (fun tl _ r => FamsAt tl r) := by
  unfold Con
  w_top off
  k_fill
  intro loose mean mg mb dp un gd cn cs a ccd cl outer A₀ base h₀ L m news s Q E B F X N T hk hR hd hu hret
  walk_at "CON ENTER"
  k_steps
  exact hret _ [_, _, _, _, _] _ _ (by assumption) (by assumption) (by walk_at "ORD") ⟨_, _, _, _, _, _, rfl, by k_mem, fam_dat (by k_mem), fam_dat (by k_mem), fam_dat (by k_mem), fam_dat (by k_mem)⟩
-- kind: macro
local macro_rules | `(tactic| walk_at "call ref") => `(tactic| (k_here; k_dflt ((show wpAny _ _ (call (Value.ref 270) _) _ _ _); (refine' con_use (fam_c _) ?k1 ?k2 ?k3 ?k4 ?k5 ?kK ?kR ?kd ?ku ?_); (case k1 => k_asm); (case k2 => k_asm); (case k3 => k_asm); (case k4 => k_asm); (case k5 => k_asm); (case kK => first | exact rfl | assumption); (case kR => trivial); (case kd => ktr_room); (case ku => ktr_units); intro r9 tl9 h9 tk9 F9 N9 lt9 ho9; obtain ⟨l9, n9, v09, v19, v29, v39, e9, m9, d09, d19, d29, d39⟩ := ho9; subst e9; (try dsimp only); (try k_fold))))
local macro_rules | `(tactic| k_all) => `(tactic| assumption)
local macro_rules | `(tactic| k_upd) => `(tactic| (refine' upd_app_lt ?a ?b; (case a => assumption); (case b => k_upd)))
local macro_rules | `(tactic| walk_at "call builtin:list.insert") => `(tactic| (k_here; (with_reducible show wpAny _ _ (call (Value.builtin _) [Value.ref _, Value.int _ _, _]) _ _ _); k_dflt (refine' kl_insert ?F ?N ?f ?e ?U ?z ?_; (case F => k_asm); (case N => k_asm); (case U => k_upd); (case f => k_extra "ins fits"); (case e => exact rfl); (case z => k_extra "ins size")); intro h9 F9 N9))
local macro_rules | `(tactic| walk_at "call builtin:len") => `(tactic| (k_here; (with_reducible show wpAny _ _ (call (Value.builtin "len") [Value.ref _]) _ _ _); k_dflt (refine' my_len ?k1 ?k2 ?k3 ?_; (case k1 => k_asm); (case k2 => walk_at "MEM"); (case k3 => omega))))
local macro_rules | `(tactic| walk_at "subscriptTail") => `(tactic| (k_here; k_dflt ((with_reducible show wpAny _ _ (subscriptTail _ _ (Value.ref _) (Value.int _ _)) _ _ _); refine' my_item ?N ?m ?h0 ?hf ?hx ?_; (case N => k_asm); (case m => walk_at "MEM"); (case h0 => decide); (case hf => decide); (case hx => exact rfl))))
-- kind: theorem
section
variable {prog : Program} {w : World} {A : Around} {E : Value → Shared → Prop} {s : Shared} {env : Env} {h₀ : Heap} {x : Str} {body : List Stmt} {Q : Flow → Shared → Prop}
/-- a written range by an invariant over its turns -/
theorem rangeRest_inv {I : Addr} {a : Int} {n : Nat} {J : Nat → (Str → Option Value) → Led → Prop}
    (turn : ∀ i m nx t h tk (Q' : Flow → Shared → Prop), i < n → J i m nx → Fr h₀ env.locals h (fun y => if y = x then some (.int (a + (i : Int)) t) else m y) →
      News h₀ env.locals h ((I, itR (a + ((i + 1 : Nat) : Int)) ((n : Int) - ((i + 1 : Nat) : Int))) :: nx) →
      (∀ h' tk' m' nx', Fr h₀ env.locals h' m' → News h₀ env.locals h' ((I, itR (a + ((i + 1 : Nat) : Int)) ((n : Int) - ((i + 1 : Nat) : Int))) :: nx') → (∀ p ∈ nx', p.1 ≠ I) → J (i + 1) m' nx' → Q' .next { s with heap := h', toks := tk' }) →
      wpAny (model prog w) A (execs body env) Q' E { s with heap := h, toks := tk })
    (done : ∀ m nx h tk, J n m nx → Fr h₀ env.locals h m → News h₀ env.locals h nx → Q .next { s with heap := h, toks := tk }) :
    ∀ k i m nx, i + k = n → J i m nx → RangeRest prog w A E h₀ env x body Q s I a n k i m nx := by
  intro k
  induction k with
  | zero =>
    intro i m nx hi hj
    rw [Nat.add_zero] at hi
    subst hi
    exact RangeRest.zero fun h tk F N => done m nx h tk hj F N
  | succ k ih =>
    intro i m nx hi hj
    refine RangeRest.succ fun t h tk F N => turn i m nx t h tk _ (by omega) hj F N ?_
    intro h' tk' m' nx' F' N' off hj'
    exact ⟨h', tk', m', nx', rfl, F', N', off, ih (i + 1) m' nx' (by omega) hj'⟩
end

theorem kl_ins_row {led : Led} {vs : List Value} {R : List Fam} {y : Value} {f : Fam} (h : DatAll led vs (R.map fdat)) (hy : DatIn led y (fdat f)) (x : Int) :
    ∃ R' : List Fam, DatAll led (kl_ins vs x y) (R'.map fdat) ∧ R'.Perm (f :: R) := by
  have split : ∀ (j : Nat) (vs : List Value) (R : List Fam), DatAll led vs (R.map fdat) → DatAll led (vs.take j ++ y :: vs.drop j) ((R.take j ++ f :: R.drop j).map fdat) := by
    intro j
    induction j with
    | zero => intro vs R h; exact .cons hy h
    | succ j ih =>
      intro vs R h
      cases R with
      | nil => cases h; exact .cons hy .nil
      | cons a R =>
        cases vs with
        | nil => cases h
        | cons v vs =>
          cases h with
          | cons h1 h2 => exact .cons h1 (ih vs R h2)
  refine ⟨_, split _ vs R h, ?_⟩
  refine List.perm_middle.trans (List.Perm.cons _ ?_)
  rw [List.take_append_drop]

theorem nodup_len {α : Type} [DecidableEq α] : ∀ {R l : List α}, R.Nodup → (∀ f ∈ R, f ∈ l) → R.length ≤ l.length
  | [], _, _, _ => Nat.zero_le _
  | a :: R, l, hn, hs => by
    have ha := hs a (.head _)
    have h2 := List.nodup_cons.mp hn
    have ih := nodup_len (R := R) (l := l.erase a) h2.2 fun f hf => (List.mem_erase_of_ne fun e => h2.1 (by rw [← e]; exact hf)).mpr (hs f (.tail _ hf))
    rw [List.length_erase_of_mem ha] at ih
    have : 0 < l.length := List.length_pos_of_mem ha
    rw [List.length_cons]
    omega
/-- the loop's state -/
def RowJ (I : Addr) (m0 : Str → Option Value) (rl : Addr) (news : Led) (i : Nat) (m : Str → Option Value) (nx : Led) : Prop :=
  ∃ (u : Option Value) (vs : List Value) (nn : Nat) (R : List Fam) (tl : Led), m = (fun y => if y = Str.ofString "k" then u else m0 y) ∧ nx = (rl, listOf (List.toArray vs) nn) :: (tl ++ news) ∧
    DatAll tl vs (R.map fdat) ∧ R.Nodup ∧ (∀ f ∈ R, f ∈ fams4.take i) ∧ (∀ q ∈ news, ∀ p ∈ tl, q.1 < p.1) ∧ ∀ p ∈ tl, @LT.lt Nat _ rl p.1 ∧ @LT.lt Nat _ I p.1
theorem rowJ_init {I : Addr} {m0 : Str → Option Value} {rl : Addr} {news : Led} : RowJ I m0 rl news 0 m0 ((rl, listOf #[] 0) :: news) :=
  ⟨m0 (Str.ofString "k"), [], 0, [], [], by funext y; split <;> simp_all, rfl, .nil, .nil, (fun _ h => nomatch h), (fun _ _ _ h => nomatch h), fun _ h => nomatch h⟩
section
variable {I rl : Addr} {m0 : Str → Option Value} {news tl tl9 : Led} {i : Nat} {u k : Option Value} {vs : List Value} {nn : Nat} {R : List Fam} {it : Obj}
theorem rowJ_map : (fun y => if y = Str.ofString "k" then k else if y = Str.ofString "k" then u else m0 y) = fun y => if y = Str.ofString "k" then k else m0 y := by
  funext y
  by_cases h : y = Str.ofString "k" <;> simp [h]
theorem rowJ_no (hD : DatAll tl vs (R.map fdat)) (hn : R.Nodup) (hf : ∀ f ∈ R, f ∈ fams4.take i) (ho : ∀ q ∈ news, ∀ p ∈ tl, q.1 < p.1) (hr : ∀ p ∈ tl, @LT.lt Nat _ rl p.1 ∧ @LT.lt Nat _ I p.1) :
    RowJ I m0 rl news (i + 1) (fun y => if y = Str.ofString "k" then k else if y = Str.ofString "k" then u else m0 y) ((rl, listOf (List.toArray vs) nn) :: (tl ++ news)) :=
  ⟨k, vs, nn, R, tl, rowJ_map, rfl, hD, hn, (fun f h => by rw [List.take_add_one]; exact List.mem_append.mpr (.inl (hf f h))), ho, hr⟩
theorem rowJ_yes {x : Int} {y : Value} {f : Fam} (hD : DatAll tl vs (R.map fdat)) (hn : R.Nodup) (hf : ∀ f ∈ R, f ∈ fams4.take i) (ho : ∀ q ∈ news, ∀ p ∈ tl, q.1 < p.1) (hr : ∀ p ∈ tl, @LT.lt Nat _ rl p.1 ∧ @LT.lt Nat _ I p.1)
    (hy : DatIn tl9 y (fdat f)) (h9 : ∀ q ∈ (I, it) :: (rl, listOf (List.toArray vs) nn) :: (tl ++ news), ∀ p ∈ tl9, q.1 < p.1) (hi : fams4[i]? = some f) :
    RowJ I m0 rl news (i + 1) (fun y => if y = Str.ofString "k" then k else if y = Str.ofString "k" then u else m0 y) ((rl, listOf (List.toArray (kl_ins (List.toArray vs).toList x y)) (nn + 1)) :: (tl9 ++ tl ++ news)) := by
  obtain ⟨R', hD', hp⟩ := kl_ins_row (led := tl9 ++ tl) (hD.mono fun _ h => List.mem_append.mpr (.inr h)) (hy.mono fun _ h => List.mem_append.mpr (.inl h)) x
  have hs : fams4.take (i + 1) = fams4.take i ++ [f] := by rw [List.take_add_one, hi]; rfl
  have hnew : f ∉ fams4.take i := by
    have h4 : i < 4 := (List.getElem?_eq_some_iff.mp hi).1
    have : i = 0 ∨ i = 1 ∨ i = 2 ∨ i = 3 := by omega
    rcases this with rfl | rfl | rfl | rfl <;> (cases hi; decide)
  refine ⟨k, _, nn + 1, R', tl9 ++ tl, rowJ_map, rfl, hD', ?_, ?_, ?_, ?_⟩
  · exact hp.nodup_iff.mpr (List.nodup_cons.mpr ⟨fun h => hnew (hf f h), hn⟩)
  · intro g hg
    rw [hs]
    rcases List.mem_cons.mp (hp.mem_iff.mp hg) with rfl | h
    · exact List.mem_append.mpr (.inr (.head _))
    · exact List.mem_append.mpr (.inl (hf g h))
  · intro q hq p hp
    rcases List.mem_append.mp hp with hp | hp
    · exact h9 q (.tail _ (.tail _ (List.mem_append.mpr (.inr hq)))) p hp
    · exact ho q hq p hp
  · intro p hp
    rcases List.mem_append.mp hp with hp | hp
    · exact ⟨h9 (rl, _) (.tail _ (.head _)) p hp, h9 (I, it) (.head _) p hp⟩
    · exact hr p hp
theorem rowJ_off {o : Obj} (hI : @LT.lt Nat _ rl I ∧ AllLt I news) (hr : ∀ p ∈ tl, @LT.lt Nat _ rl p.1 ∧ @LT.lt Nat _ I p.1) : ∀ p ∈ (rl, o) :: (tl ++ news), p.1 ≠ I := by
  intro p hp
  rcases List.mem_cons.mp hp with rfl | hp
  · exact Nat.ne_of_lt hI.1
  · rcases List.mem_append.mp hp with hp | hp
    · exact (Nat.ne_of_lt (hr p hp).2).symm
    · exact Nat.ne_of_lt (ktn_ltOf hI.2 p hp)
theorem rowJ_off9 {o o' : Obj} (hI : @LT.lt Nat _ rl I ∧ AllLt I news) (hr : ∀ p ∈ tl, @LT.lt Nat _ rl p.1 ∧ @LT.lt Nat _ I p.1) (h9 : ∀ q ∈ (I, it) :: (rl, o') :: (tl ++ news), ∀ p ∈ tl9, q.1 < p.1) : ∀ p ∈ (rl, o) :: (tl9 ++ tl ++ news), p.1 ≠ I := by
  refine rowJ_off hI fun p hp => ?_
  rcases List.mem_append.mp hp with hp | hp
  · exact ⟨h9 (rl, _) (.tail _ (.head _)) p hp, h9 (I, it) (.head _) p hp⟩
  · exact hr p hp
theorem rowJ_sub {a b : Addr × Obj} : ∀ p ∈ a :: b :: (tl9 ++ tl ++ news), p ∈ tl9 ++ a :: b :: (tl ++ news) := by
  intro p hp
  simp only [List.mem_cons, List.mem_append] at hp ⊢
  rcases hp with h | h | (h | h) | h <;> simp [h]
theorem rowJ_len (hD : DatAll tl vs (R.map fdat)) (hn : R.Nodup) (hf : ∀ f ∈ R, f ∈ fams4.take i) : vs.length ≤ 4 := by
  have h1 := hD.length
  rw [List.length_map] at h1
  have h2 : R.length ≤ (fams4.take i).length := nodup_len hn hf
  have h3 : (fams4.take i).length ≤ 4 := by rw [List.length_take]; exact Nat.min_le_right _ _
  omega
theorem ins_fits {x : Int} {n : Nat} (hn : n ≤ 4) : Builtin.List.listFitsIndex (Int.fmod x ((n : Int) + 1)) = true := by
  have h0 := Int.fmod_nonneg_of_pos x (show (0 : Int) < (n : Int) + 1 by omega)
  have h1 := Int.fmod_lt_of_pos x (show (0 : Int) < (n : Int) + 1 by omega)
  simp [Builtin.List.listFitsIndex]
  omega
end
set_option maxRecDepth 100000 in
set_option maxHeartbeats 8000000 in
theorem row_c (w : World) (d : Int) (t : Tok) : Con w 277 8 [.int d t] (fun _ => True) (fun tl _ r => ∃ l, ∃ R : List Fam, r = .ref l ∧ RowAt tl l R ∧ RowOk R) := by
  unfold Con
  w_top off
  k_fill
  intro loose mean mg mb dp un gd cn cs a ccd cl outer A₀ base h₀ L m news s Q E B F X N T hk hR hd hu hret
  walk_at "CON ENTER"
  rename_i g L' h1 FG F1 N1 B1 X1 T1
  refine cut_st F1 (Str.ofString "row") (fun x : Addr => .ref x) (fun x => AllLt x news) (fun x => (x, listOf #[] 0) :: news) (fun Q' hq => ?_) ?_
  · k_steps
    all_goals exact hq _ _ _ (by walk_at "ALT") (by assumption) (by assumption)
  clear F1 N1
  intro rl h2 tk2 hl F1 N1
  refine wpAny_execs_cons ?_
  iterate 8 (first | (k_unfold; (try dsimp only)) | walk1 | (dsimp only; walk1))
  k_rangeUnr
  rename_i I hI
  refine' rangeRest_inv (J := RowJ I ?m0 rl news) ?turn ?done 4 0 _ _ rfl ?init
  case init => exact rowJ_init
  case done =>
    rintro m1 nx h tk ⟨u, vs, nn, R, tl, rfl, rfl, hD, hn, hf, ho, hr⟩ F1 N1
    k_steps
    exact hret _ ((rl, listOf (List.toArray vs) nn) :: tl) _ _ (by assumption) (by assumption) (ord_cons hl ho) ⟨rl, R, rfl, ⟨vs, nn, .head _, hD.mono fun _ h => .tail _ h⟩, hn, hf⟩
  rintro i m1 nx t' h tk Q' hi ⟨u, vs, nn, R, tl, rfl, rfl, hD, hn, hf, ho, hr⟩ F1 N1 hq
  have hz := rowJ_len hD hn hf
  have hne := ne_app (fun p hp => (hr p hp).1) hl
  k_with "ins fits" => exact ins_fits hz
  k_with "ins size" => (rw [sizeLine_eq]; show vs.length ≤ _; omega)
  have hoff : ∀ p ∈ (rl, listOf (List.toArray vs) nn) :: (tl ++ news), p.1 ≠ I := rowJ_off hI hr
  obtain rfl | rfl | rfl | rfl : i = 0 ∨ i = 1 ∨ i = 2 ∨ i = 3 := by omega
  all_goals
    k_steps
    · exact hq _ _ _ _ (by assumption) (cb_drop (by assumption) rowJ_sub) (rowJ_off9 hI hr (by assumption)) (rowJ_yes hD hn hf ho hr (by assumption) (by assumption) rfl)
    · exact hq _ _ _ _ (by assumption) (by assumption) hoff (rowJ_no hD hn hf ho hr)
-- kind: macro
local macro_rules | `(tactic| walk_at "SUB") => `(tactic| first | exact fun _ h => h | (intro p9 h9; repeat' (first | exact h9 | exact List.mem_append.mpr (Or.inl h9) | apply List.mem_cons_of_mem | (apply List.mem_append.mpr; apply Or.inr))))
local macro_rules | `(tactic| walk_at "CAPS") => `(tactic| first | assumption | (refine CapsAt.mono ?sub9 (by assumption); (case sub9 => walk_at "SUB")))
-- the capabilities' methods
local macro_rules | `(tactic| walk_at "call ref") => `(tactic| (k_here; k_dflt ((show wpAny _ _ (call (Value.ref 124) _) _ _ _); (refine' conV_use (ann_c _ _ _ _ _ _ ?hb) ?k1 ?k2 ?k3 ?k4 ?k5 ?kK ?kR ?kd ?ku ?_); (case k1 => k_asm); (case k2 => k_asm); (case k3 => k_asm); (case k4 => k_asm); (case k5 => k_asm); (case kK => first | exact rfl | assumption); (case kR => walk_at "CAPS"); (case hb => assumption); (case kd => ktr_room); (case ku => ktr_units); intro r9 h9 tk9 F9 N9 e9; subst e9; (try dsimp only); (try k_fold))))
local macro_rules | `(tactic| walk_at "call ref") => `(tactic| (k_here; k_dflt ((show wpAny _ _ (call (Value.ref 139) _) _ _ _); (refine' conV_use (item_c _ _ _ _ _ _ ?hb) ?k1 ?k2 ?k3 ?k4 ?k5 ?kK ?kR ?kd ?ku ?_); (case k1 => k_asm); (case k2 => k_asm); (case k3 => k_asm); (case k4 => k_asm); (case k5 => k_asm); (case kK => first | exact rfl | assumption); (case kR => walk_at "CAPS"); (case hb => assumption); (case kd => ktr_room); (case ku => ktr_units); intro r9 h9 tk9 F9 N9 e9; subst e9; (try dsimp only); (try k_fold))))
local macro_rules | `(tactic| walk_at "call ref") => `(tactic| (k_here; k_dflt ((show wpAny _ _ (call (Value.ref 132) _) _ _ _); (refine' conV_use (get_c _ _ _ _ _ _ ?hb) ?k1 ?k2 ?k3 ?k4 ?k5 ?kK ?kR ?kd ?ku ?_); (case k1 => k_asm); (case k2 => k_asm); (case k3 => k_asm); (case k4 => k_asm); (case k5 => k_asm); (case kK => first | exact rfl | assumption); (case kR => walk_at "CAPS"); (case hb => assumption); (case kd => ktr_room); (case ku => ktr_units); intro r9 h9 tk9 F9 N9 e9; subst e9; (try dsimp only); (try k_fold))))
local macro_rules | `(tactic| walk_at "exec For") => `(tactic| (k_here; (rename Fr _ _ _ _ => lF'); k_dflt ((with_unfolding_all refine' For_invVF lF' ?k1 ?k2 ?_; (case k1 => exact rfl); (case k2 => exact rfl)))))
-- kind: theorem
section
open PyProof.V PySem.Spec PySem.Calls
theorem fr_but {h₀ h h' : Heap} {L S : Addr} {m : Str → Option Value} (F : Fr h₀ L h m) (hk : ∀ b o, b ≠ S → h.get? b = some o → h'.get? b = some o) (hL : S ≠ L) (h0 : h₀.get? S = none) : Fr h₀ L h' m := by
  obtain ⟨oL, a1, a2, hoL, a3⟩ := F.ns
  refine ⟨⟨oL, a1, a2, hk L oL hL.symm hoL, a3⟩, fun b x e => hk b x ?_ (F.keep b x e), F.above⟩
  rintro rfl
  rw [h0] at e; cases e
theorem news_but {h₀ h h' : Heap} {L S : Addr} {news : List (Addr × Obj)} (N : News h₀ L h news) (hk : ∀ b o, b ≠ S → h.get? b = some o → h'.get? b = some o) (hn : ∀ p ∈ news, p.1 ≠ S) : News h₀ L h' news :=
  fun p hp => ⟨hk _ _ (hn p hp) (N p hp).1, (N p hp).2⟩
section
variable {prog : Program} {w : World} {A : Around} {E : Value → Shared → Prop} {s : Shared} {h₀ : Heap} {L S r d : Addr} {m : Str → Option Value} {news news' : List (Addr × Obj)} {Q : Value → Shared → Prop} {K : Type} [DecidableEq K] {knd : KeyKind prog w K} {o : Obj} {c₀ : Nat}
theorem ext_keys (hh : A.handled = none) (F : Fr h₀ L s.heap m) (N : News h₀ L s.heap news) (hS : (S, listOf #[] c₀) ∈ news) (hr : (r, ({ cls := .type "dict_keys", data := .fields #[.ref d] } : Obj)) ∈ news) (hd : (d, o) ∈ news) (hD : o.IsDictOf knd [])
    (hSr : @Ne Nat S r) (hSd : @Ne Nat S d) {g : Nat → Led} (U : ∀ c, Upd S (listOf #[] c₀) (listOf #[] c) news (g c))
    (h : ∀ c h' tk, Fr h₀ L h' m → News h₀ L h' (g c) → Q .none { s with heap := h', toks := tk }) :
    wpAny (model prog w) A (call (.builtin "list.extend") [.ref S, .ref r]) Q E s := by
  have z := N _ hS
  obtain ⟨ep, hat⟩ := (kda_dict N hd hD).dictAt
  refine wpAny_call (codeAny_call_builtin PySem.F.slot_list_extend.plain PySem.F.entry_list_extend (PySem.F.slot_list_extend.check _ _ _ _ _ _ _ _ ⟨_, z.1, rfl⟩ (PySem.F.args_list_extend_2 _ _) ?_))
  show wpAny _ _ (Builtin.List.listExtendWith (.ref S) (.ref r) .none) _ _ s
  refine kdl_extend (R := fun r s' => match r with | .ok (.ret v) => Q v s' | .ok _ => False | .error e => E e s') (kdl_keys (knd := knd) (kvs := []) (ep := ep) (r := r) (d := d)) hh ⟨⟨_, (N _ hr).1, rfl, rfl⟩, hat⟩ S hSr hSd .none c₀ z.1 (fun h' tk acc' c' hk hS' hacc => ?_) (Nat.zero_le _)
  have e : acc' = #[] := Array.eq_empty_of_size_eq_zero hacc.1
  subst e
  refine h c' h' tk (fr_but F hk z.2.1 z.2.2) ?_
  obtain ⟨pre, post, hn, hg, hp, hq⟩ := (U c').split
  rw [hg]
  intro p hm
  rcases List.mem_append.mp hm with h1 | h1
  · have z1 := N p (by rw [hn]; exact List.mem_append.mpr (.inl h1))
    exact ⟨hk _ _ (hp p h1) z1.1, z1.2⟩
  · rcases List.mem_cons.mp h1 with rfl | h1
    · exact ⟨hS', z.2⟩
    · have z1 := N p (by rw [hn]; exact List.mem_append.mpr (.inr (.tail _ h1)))
      exact ⟨hk _ _ (hq p h1) z1.1, z1.2⟩
end
section
variable {prog : Program} {w : World} {A : Around} {E : Value → Shared → Prop} {s : Shared} {env : Env} {h₀ : Heap} {L : Addr} {m : Str → Option Value} {K : Type} [DecidableEq K]
/-- the source of such a comprehension, and what is wanted behind it -/
structure KeysEnd (knd : KeyKind prog w K) (h₀ : Heap) (L : Addr) (m : Str → Option Value) (Q : Value → Shared → Prop) (xv : Value) (s₁ : Shared) : Prop where
  ex : ∃ r d o news, xv = .ref r ∧ Fr h₀ L s₁.heap m ∧ News h₀ L s₁.heap news ∧ (r, ({ cls := .type "dict_keys", data := .fields #[.ref d] } : Obj)) ∈ news ∧ (d, o) ∈ news ∧ o.IsDictOf knd [] ∧
      (∀ D c h' tk, Fr h₀ L h' m → News h₀ L h' ((D, listOf #[] c) :: news) → (∀ q ∈ news, @Ne Nat q.1 D) → Q (.ref D) { s₁ with heap := h', toks := tk })
theorem KeysEnd.intro {knd : KeyKind prog w K} {Q : Value → Shared → Prop} {s₁ : Shared} {r d : Addr} {o : Obj} {news : Led} (F : Fr h₀ L s₁.heap m) (N : News h₀ L s₁.heap news) (h1 : (r, ({ cls := .type "dict_keys", data := .fields #[.ref d] } : Obj)) ∈ news) (h2 : (d, o) ∈ news) (h3 : o.IsDictOf knd [])
    (h : ∀ D c h' tk, Fr h₀ L h' m → News h₀ L h' ((D, listOf #[] c) :: news) → (∀ q ∈ news, @Ne Nat q.1 D) → Q (.ref D) { s₁ with heap := h', toks := tk }) : KeysEnd knd h₀ L m Q (.ref r) s₁ := ⟨r, d, o, news, rfl, F, N, h1, h2, h3, h⟩
/-- a list comprehension over the keys of an empty dict -/
theorem comp_keys0 {knd : KeyKind prog w K} {elt iter : PySem.Expr} {x : Str} {px : Pos} {ifs : List PySem.Expr} {scope : Scope} {cl : List (Str × Addr)} {pos : Pos} {Q : Value → Shared → Prop}
    (hh : A.handled = none) (hclos : closureFor scope env = pure cl) (hcell : ∀ y ∈ scope.names, y.2 ≠ .cell) (hkind : scope.kind = .function)
    (hnames : ∀ y ∈ scope.names, y.2 = .local → scope.names.lookup y.1 = some .local) (hx : scope.names.lookup x = some .local)
    (_F₀ : Fr h₀ L s.heap m) (h : wpAny (model prog w) A (eval iter env) (KeysEnd knd h₀ L m Q) E s)
    (hs : ∀ x, foldedSetIterable iter env x = pure x := by intro _; rfl) :
    wpAny (model prog w) A (eval (.ListComp elt [⟨.Name x px, iter, ifs, 0⟩] scope pos) env) Q E s := by
  refine wpAny_ListComp_free (fun _ => true) (fun _ _ => True) hclos hcell hkind hnames hx (wpAny_mono h (fun xv s₁ h₁ => ?_) fun _ _ e => e) hs
  obtain ⟨r, d, o, news, rfl, F, N, hr, hd, hD, hQ⟩ := h₁.ex
  obtain ⟨ep, hat⟩ := (kda_dict N hd hD).dictAt
  have hdlt := Heap.lt_size (N _ hd).1
  refine kdl_pyIter_keys (knd := knd) (kvs := []) (ep := ep) ⟨_, (N _ hr).1, rfl, rfl⟩ hat ?_
  have up : ∀ b o, s₁.heap.get? b = some o → (s₁.heap.push { cls := .type "dict_keyiterator", data := .fields #[.ref d, .int 0 0, .int (([] : List (K × Value)).length : Int) 0, .int ep 0] }).get? b = some o := fun b o e => Heap.get?_push_of_some _ e
  refine ⟨s₁.heap.objs.size, _, _, 0, _, _, rfl, Walks.dictKeys (knd := knd) hh s₁.heap.objs.size d (Nat.ne_of_lt hdlt) [] ep, Nat.zero_le _, ⟨⟨_, Heap.get?_push_size _ rfl, rfl, rfl⟩, hat.push _⟩, ?_, ?_, ?_⟩
  · intro b hb
    show b < (s₁.heap.push _).objs.size
    rw [Heap.size_push]
    rcases List.mem_cons.mp hb with rfl | hb
    · exact Nat.lt_succ_self _
    · rw [List.mem_singleton.mp hb]; exact Nat.lt_succ_of_lt hdlt
  · constructor
    · rintro C i v s₃ m₃ E' _ ⟨k, x, hk, _⟩; simp at hk
    · rintro C i v s₃ m₃ E' _ ⟨k, x, hk, _⟩; simp at hk
  · intro D h' tk ys vs hD0 hl hpl hlen _ hF hk
    have hv : vs = [] := List.eq_nil_of_length_eq_zero hlen
    subst hv
    have hy : ys.toList = [] := by
      cases e : ys.toList with
      | nil => rfl
      | cons a b => rw [e] at hF; simp at hF; cases hF
    have hy' : ys = #[] := Array.toList_inj.mp (by rw [hy])
    subst hy'
    obtain ⟨c, hc⟩ := hpl
    have keep : ∀ b o, s₁.heap.get? b = some o → h'.get? b = some o := fun b o e => hk b o (by simp only [List.mem_singleton]; exact Nat.ne_of_lt (Heap.lt_size e)) (up b o e)
    have hDs : s₁.heap.get? D = none := by
      cases e : s₁.heap.get? D with
      | none => rfl
      | some o' => rw [up _ _ e] at hD0; cases hD0
    have hL : D ≠ L := by
      rintro rfl
      obtain ⟨oL, _, _, e, _⟩ := F.ns
      rw [hDs] at e; cases e
    have h0 : h₀.get? D = none := by
      cases e : h₀.get? D with
      | none => rfl
      | some o' => rw [F.keep _ _ e] at hDs; cases hDs
    refine hQ D c h' tk (F.keeps keep) ?_ ?_
    · intro p hp
      rcases List.mem_cons.mp hp with rfl | hp
      · exact ⟨hc, hL, h0⟩
      · exact ⟨keep _ _ (N p hp).1, (N p hp).2⟩
    · rintro q hq rfl
      rw [(N q hq).1] at hDs; cases hDs
end
section
variable {prog : Program} {w : World} {A : Around} {E : Value → Shared → Prop} {s : Shared} {env : Env} {h₀ : Heap} {x : Str} {body : List Stmt} {Q : Flow → Shared → Prop}
/-- a for over an empty list of the ledger's -/
theorem iter_nil {l : Addr} {nn : Nat} {m₀ : Str → Option Value} {news : Led} (hh : A.handled = none) (hl : (l, listOf #[] nn) ∈ news) (F : Fr h₀ env.locals s.heap m₀) (N : News h₀ env.locals s.heap news)
    (done : ∀ h tk, Fr h₀ env.locals h m₀ → News h₀ env.locals h news → Q .next { s with heap := h, toks := tk }) :
    wpAny (model prog w) A (pyIter (.ref l)) (fun it s₂ => LoopAtV prog w A h₀ env x body Q E it s₂) E s := by
  refine kdl_iter (vs := []) (fun _ m nx => m = m₀ ∧ nx = news) hh hl F N ⟨rfl, rfl⟩ ?_ ?_
  · intro i v m₁ news₁ h tk own hv
    simp at hv
  · rintro m₁ news₁ h tk ⟨rfl, rfl⟩ F' N'
    exact done h tk F' N'
end
end
section
-- kind: macro-for A8_setup
local macro_rules | `(tactic| walk_at "call builtin:list.extend") => `(tactic| (k_here; k_dflt ((show wpAny _ _ (call (Value.builtin _) [Value.ref _, Value.ref _]) _ _ _); (refine' ext_keys (knd := PySem.intKind _ _) ?hh ?F ?N ?S ?r ?d ?D ?n1 ?n2 ?U ?_); (case hh => rfl); (case F => k_asm); (case N => k_asm); (case S => walk_at "MEM"); (case r => walk_at "MEM"); (case d => walk_at "MEM"); (case D => assumption); (case n1 => k_ne); (case n2 => k_ne); (case U => intro c9; k_upd); intro c9 h9 tk9 F9 N9)))
local macro_rules | `(tactic| walk_at "KeysEnd") => `(tactic| (k_here; k_dflt ((refine' KeysEnd.intro ?F ?N ?r ?d ?D ?_); (case F => k_asm); (case N => k_asm); (case r => walk_at "MEM"); (case d => walk_at "MEM"); (case D => assumption); intro D9 c9 h9 tk9 F9 N9 l9; (simp only [List.forall_mem_cons] at l9))))
local macro_rules | `(tactic| walk_at "eval ListComp") => `(tactic| (k_here; k_dflt ((refine' comp_keys0 (knd := PySem.intKind _ _) ?hh ?c ?cell ?k ?n ?x ?F ?_ ?s); (case hh => rfl); (case F => k_asm); (case c => rfl); (case cell => decide); (case k => rfl); (case n => decide); (case x => rfl); (case s => intro _; rfl))))
local macro_rules | `(tactic| walk_at "pyIter ref") => `(tactic| (k_here; k_dflt ((refine' iter_nil ?hh ?l ?F ?N ?_); (case hh => rfl); (case F => k_asm); (case N => k_asm); (case l => walk_at "MEM")); intro h9 tk9 F9 N9))
-- kind: theorem
set_option maxRecDepth 100000 in
set_option maxHeartbeats 8000000 in
theorem setup_c (w : World) (P R : Part) (ap : Addr) (ro so : Value) :
    ConV w 242 8 [.ref ap, ro, so] (fun news => OpenAt w news ro R ∧ OpenAt w news so P) (fun r => r = .none) := by
  unfold ConV
  w_top off
  k_fill
  intro loose mean mg mb dp un gd cn cs a ccd cl outer A₀ base h₀ L m news s Q E B F X N T hk hR hd hu hret
  obtain ⟨o1, o2⟩ := hR
  obtain ⟨a1, da1, ca1, fa1, ha1, kvs1, x1, x2, x3, x4, t1, t2, t3, t4, t5, t6, t7, n1, rfl, m1, md1, c1, k1, r11, r12⟩ := o1
  obtain ⟨a2, da2, ca2, fa2, ha2, kvs2, y1, y2, y3, y4, u1, u2, u3, u4, u5, u6, u7, n2, rfl, m2, md2, c2, k2, r21, r22⟩ := o2
  obtain ⟨dca1, ra1, ob1, hs1, tt1, nn1, mc1, mdc1, mr1, hD1, lo1⟩ := id c1
  obtain ⟨dca2, ra2, ob2, hs2, tt2, nn2, mc2, mdc2, mr2, hD2, lo2⟩ := id c2
  have q1 := k1.k69
  have q2 := k2.k69
  walk_at "CON ENTER"
  have hc9 := allLt_succ (news := news) (by assumption)
  k_steps
  exact hret _ _ _ (by assumption) (cb_drop (by assumption) (by walk_at "SUB")) rfl
end
-- kind: macro
local macro_rules | `(tactic| walk_at "OPEN") => `(tactic| first | assumption | (refine OpenAt.mono ?sub9 (by assumption); (case sub9 => walk_at "SUB")))
local macro_rules | `(tactic| walk_at "call ref") => `(tactic| (k_here; k_dflt ((show wpAny _ _ (call (Value.ref 242) _) _ _ _); (refine' conV_use (setup_c _ _ _ _ _ _) ?k1 ?k2 ?k3 ?k4 ?k5 ?kK ?kR ?kd ?ku ?_); (case k1 => k_asm); (case k2 => k_asm); (case k3 => k_asm); (case k4 => k_asm); (case k5 => k_asm); (case kK => first | exact rfl | assumption); (case kR => refine ⟨?c8, ?c9⟩; (case c8 => walk_at "OPEN"); (case c9 => walk_at "OPEN")); (case kd => ktr_room); (case ku => ktr_units); intro r9 h9 tk9 F9 N9 e9; subst e9; (try dsimp only); (try k_fold))))
local macro_rules | `(tactic| walk_at "PICK") => `(tactic| first | (refine List.forall_mem_cons.mpr ⟨?a9, ?b9⟩; (case a9 => walk_at "MEM"); (case b9 => walk_at "PICK")) | walk_at "SUB")
-- kind: theorem
/-- a session's names: their hashes, their keys' tokens -/
structure SessK where
  h0 : Int
  h1 : Int
  h2 : Int
  h3 : Int
  h4 : Int
  h5 : Int
  h6 : Int
  h7 : Int
  h8 : Int
  h9 : Int
  h10 : Int
  h11 : Int
  h12 : Int
  h13 : Int
  h14 : Int
  h15 : Int
  h16 : Int
  h17 : Int
  t0 : Tok
  t1 : Tok
  t2 : Tok
  t3 : Tok
  t4 : Tok
  t5 : Tok
  t6 : Tok
  t7 : Tok
  t8 : Tok
  t9 : Tok
  t10 : Tok
  t11 : Tok
  t12 : Tok
  t13 : Tok
  t14 : Tok
  t15 : Tok
  t16 : Tok
  t17 : Tok
/-- a session's own dict -/
abbrev sessD (k : SessK) (v0 v1 v2 v3 v4 v5 v6 v7 v8 v9 v10 v11 v12 v13 v14 v15 v16 v17 : Value) : Obj := dictOf [⟨k.h0, .str "neighbor" k.t0, v0⟩, ⟨k.h1, .str "sent_open" k.t1, v1⟩, ⟨k.h2, .str "received_open" k.t2, v2⟩, ⟨k.h3, .str "holdtime" k.t3, v3⟩, ⟨k.h4, .str "local_as" k.t4, v4⟩, ⟨k.h5, .str "peer_as" k.t5, v5⟩, ⟨k.h6, .str "families" k.t6, v6⟩, ⟨k.h7, .str "nexthop" k.t7, v7⟩, ⟨k.h8, .str "asn4" k.t8, v8⟩, ⟨k.h9, .str "addpath" k.t9, v9⟩, ⟨k.h10, .str "multisession" k.t10, v10⟩, ⟨k.h11, .str "msg_size" k.t11, v11⟩, ⟨k.h12, .str "operational" k.t12, v12⟩, ⟨k.h13, .str "refresh" k.t13, v13⟩, ⟨k.h14, .str "aigp" k.t14, v14⟩, ⟨k.h15, .str "mismatch" k.t15, v15⟩, ⟨k.h16, .str "cached_attributes" k.t16, v16⟩, ⟨k.h17, .str "cached_wire" k.t17, v17⟩] 18

/-- what stands behind the making of a session -/
structure SessZ where
  k : SessK
  x : Addr
  dx : Addr
  ap : Addr
  dap : Addr
  v0 : Value
  v3 : Value
  v4 : Value
  v5 : Value
  v6 : Value
  v7 : Value
  v15 : Value
  v17 : Value
  q11 : Tok
  q13 : Tok
  ha : Int
  hb : Int
  ta : Tok
  tb : Tok
  va : Value
  vb : Value
abbrev SessZ.led (z : SessZ) (news : Led) : Led :=
  (z.dx, sessD z.k z.v0 .none .none z.v3 z.v4 z.v5 z.v6 z.v7 (.bool false) (.ref z.ap) (.bool false) (.int 4096 z.q11) (.bool false) (.int 1 z.q13) (.bool false) z.v15 .none z.v17) ::
  (z.x, instObj 219 z.dx) :: (z.ap, instObj 259 z.dap) :: (z.dap, dictOf [⟨z.ha, .str "_send" z.ta, z.va⟩, ⟨z.hb, .str "_receive" z.tb, z.vb⟩] 2) :: news
-- kind: theorem
section
variable {M : Model} {A : Around} {E : Value → Shared → Prop} {s : Shared} {env : Env} {g : Heap} {L : Addr} {m : Str → Option Value} {news : Led} {x y : PySem.Expr} {pos : Pos} {b1 b2 b : Bool}
/-- «x and y» of two bools, its two ways joined -/
theorem and_cut {Q : Value → Shared → Prop} (_F : Fr g L s.heap m) (_N : News g L s.heap news)
    (hx : ∀ Q' : Value → Shared → Prop, (∀ h' tk', Fr g L h' m → News g L h' news → Q' (.bool b1) { s with heap := h', toks := tk' }) → wpAny M A (eval x env) Q' E s)
    (hy : ∀ (Q' : Value → Shared → Prop) (h : Heap) (tk : Nat), Fr g L h m → News g L h news → (∀ h' tk', Fr g L h' m → News g L h' news → Q' (.bool b2) { s with heap := h', toks := tk' }) → wpAny M A (eval y env) Q' E { s with heap := h, toks := tk })
    (hb : (b1 && b2) = b) (h : ∀ h' tk', Fr g L h' m → News g L h' news → Q (.bool b) { s with heap := h', toks := tk' }) : wpAny M A (eval (.BoolOp .And [x, y] pos) env) Q E s := by
  refine BoolOp_and (wpAny_mono (hx (fun v s' => v = .bool b1 ∧ ∃ h' tk', Fr g L h' m ∧ News g L h' news ∧ s' = { s with heap := h', toks := tk' }) fun h' tk' F N => ⟨rfl, h', tk', F, N, rfl⟩) ?_ fun _ _ e => e)
  rintro v s' ⟨rfl, h', tk', F, N, rfl⟩
  refine wpAny_truthy_bool ?_
  cases b1 with
  | false =>
    rw [Bool.false_and] at hb
    subst hb
    exact h h' tk' F N
  | true =>
    rw [Bool.true_and] at hb
    subst hb
    exact BoolOp_one (hy Q h' tk' F N h)
/-- the same as a test -/
theorem and_test {Q : Bool → Shared → Prop} {whole : Sem Value} (_F : Fr g L s.heap m) (_N : News g L s.heap news)
    (hx : ∀ Q' : Bool → Shared → Prop, (∀ h' tk', Fr g L h' m → News g L h' news → Q' b1 { s with heap := h', toks := tk' }) → wpAny M A (isTrue x env (eval x env)) Q' E s)
    (hy : ∀ (Q' : Bool → Shared → Prop) (h : Heap) (tk : Nat), Fr g L h m → News g L h news → (∀ h' tk', Fr g L h' m → News g L h' news → Q' b2 { s with heap := h', toks := tk' }) → wpAny M A (isTrue y env (eval y env)) Q' E { s with heap := h, toks := tk })
    (hb : (b1 && b2) = b) (h : ∀ h' tk', Fr g L h' m → News g L h' news → Q b { s with heap := h', toks := tk' }) : wpAny M A (isTrue (.BoolOp .And [x, y] pos) env whole) Q E s := by
  refine isTrue_and (wpAny_mono (hx (fun v s' => v = b1 ∧ ∃ h' tk', Fr g L h' m ∧ News g L h' news ∧ s' = { s with heap := h', toks := tk' }) fun h' tk' F N => ⟨rfl, h', tk', F, N, rfl⟩) ?_ fun _ _ e => e)
  rintro v s' ⟨rfl, h', tk', F, N, rfl⟩
  cases v with
  | false =>
    rw [Bool.false_and] at hb
    subst hb
    exact h h' tk' F N
  | true =>
    rw [Bool.true_and] at hb
    subst hb
    refine isTrue_and (hy _ h' tk' F N fun h'' tk'' F' N' => ?_)
    cases b2 with
    | false => exact h h'' tk'' F' N'
    | true => exact isTrue_and_nil (h h'' tk'' F' N')
end
-- kind: macro
local macro_rules | `(tactic| walk_at "AND B") => `(tactic| first | exact Bool.false_and _ | exact Bool.and_false _ | rfl)
local macro_rules | `(tactic| walk_at "eval BoolOp") => `(tactic| (k_here; k_dflt ((show wpAny _ _ (eval (PySem.Expr.BoolOp BoolOp.And [_, _] _) _) _ _ _); (rename Fr _ _ _ _ => F9); (rename News _ _ _ _ => N9); (refine' and_cut F9 N9 ?hx ?hy ?hb ?_); (case hx => (intro Q9 hq9; k_steps; all_goals exact hq9 _ _ (by assumption) (by assumption))); (case hy => (intro Q9 h9 tk9 F8 N8 hq9; k_steps; all_goals exact hq9 _ _ (by assumption) (by assumption))); (case hb => walk_at "AND B"); intro h9 tk9 F8 N8; (try clear F9 N9); (try dsimp only))))
local macro_rules | `(tactic| walk_at "isTrue BoolOp") => `(tactic| (k_here; k_dflt ((show wpAny _ _ (isTrue (PySem.Expr.BoolOp BoolOp.And [_, _] _) _ _) _ _ _); (rename Fr _ _ _ _ => F9); (rename News _ _ _ _ => N9); (refine' and_test F9 N9 ?hx ?hy ?hb ?_); (case hx => (intro Q9 hq9; k_steps; all_goals exact hq9 _ _ (by assumption) (by assumption))); (case hy => (intro Q9 h9 tk9 F8 N8 hq9; k_steps; all_goals exact hq9 _ _ (by assumption) (by assumption))); (case hb => walk_at "AND B"); intro h9 tk9 F8 N8; (try clear F9 N9); (try dsimp only))))
-- kind: theorem
section
variable {prog : Program} {w : World} {A : Around} {E : Value → Shared → Prop} {s : Shared} {env : Env} {h₀ : Heap} {x : Str} {body : List Stmt} {Q : Flow → Shared → Prop}
/-- a loop over a row that fills another with those of its families that are asked for -/
theorem fam_iter {l : Addr} {vs : List Value} {nn c0 : Nat} {m₀ : Str → Option Value} {fl : Addr} {rest news : Led} (ds : List Fam) (p : Fam → Bool)
    (hh : A.handled = none) (hl : (l, listOf (List.toArray vs) nn) ∈ rest) (hD : DatAll news vs (ds.map fdat)) (hs : ∀ q ∈ news, q ∈ rest) (F : Fr h₀ env.locals s.heap m₀) (N : News h₀ env.locals s.heap ((fl, listOf #[] c0) :: rest))
    (turn : ∀ (v : Value) (f : Fam) (u : Option Value) (acc : List Value) (c : Nat) (own : Led) h tk (Q' : Flow → Shared → Prop), DatIn news v (fdat f) → f ∈ ds → acc.length ≤ vs.length → OwnOff own (fl :: rest.map (·.1)) →
      Fr h₀ env.locals h (fun y => if y = x then some v else if y = x then u else m₀ y) → News h₀ env.locals h ((fl, listOf (List.toArray acc) c) :: (rest ++ own)) →
      (∀ h' tk' c' acc', (p f = true ∧ acc' = acc ++ [v] ∨ p f = false ∧ acc' = acc) → Fr h₀ env.locals h' (fun y => if y = x then some v else if y = x then u else m₀ y) → News h₀ env.locals h' ((fl, listOf (List.toArray acc') c') :: (rest ++ own)) → Q' .next { s with heap := h', toks := tk' }) →
      wpAny (model prog w) A (execs body env) Q' E { s with heap := h, toks := tk })
    (done : ∀ (u : Option Value) (acc : List Value) (c : Nat) h tk, Fr h₀ env.locals h (fun y => if y = x then u else m₀ y) → News h₀ env.locals h ((fl, listOf (List.toArray acc) c) :: rest) → DatAll news acc ((ds.filter p).map fdat) → Q .next { s with heap := h, toks := tk }) :
    wpAny (model prog w) A (pyIter (.ref l)) (fun it s₂ => LoopAtV prog w A h₀ env x body Q E it s₂) E s := by
  have hlen : vs.length = ds.length := by rw [hD.length, List.length_map]
  refine kdl_iter (fun i m nx => ∃ (u : Option Value) (acc : List Value) (c : Nat), m = (fun y => if y = x then u else m₀ y) ∧ nx = (fl, listOf (List.toArray acc) c) :: rest ∧ DatAll news acc (((ds.take i).filter p).map fdat) ∧ acc.length ≤ i) hh (List.mem_cons_of_mem _ hl) F N ?_ ?_ ?_
  · exact ⟨m₀ x, [], c0, by funext y; split <;> simp_all, rfl, .nil, Nat.le_refl _⟩
  · rintro i v m₁ nx h tk own hv hoff _ ⟨u, acc, c, rfl, rfl, hA, hz⟩ F₁ N₁
    have hi : i < ds.length := by rw [← hlen]; exact (List.getElem?_eq_some_iff.mp hv).1
    obtain ⟨v', hv', hd⟩ := hD.get (k := i) (by rw [List.length_map]; exact hi)
    rw [hv] at hv'
    cases hv'
    rw [List.getElem_map] at hd
    have hmem : ds[i] ∈ ds := List.getElem_mem hi
    refine wpAny_mono (turn v ds[i] u acc c own h tk (fun f s₂ => f = .next ∧ ∃ h' tk' c' acc', (p ds[i] = true ∧ acc' = acc ++ [v] ∨ p ds[i] = false ∧ acc' = acc) ∧ Fr h₀ env.locals h' (fun y => if y = x then some v else if y = x then u else m₀ y) ∧ News h₀ env.locals h' ((fl, listOf (List.toArray acc') c') :: (rest ++ own)) ∧ s₂ = { s with heap := h', toks := tk' }) hd hmem (by omega) (by simpa using hoff) F₁ N₁ ?_) ?_ fun _ _ e => e
    · exact fun h' tk' c' acc' a F' N' => ⟨rfl, h', tk', c', acc', a, F', N', rfl⟩
    · rintro f s₂ ⟨rfl, h', tk', c', acc', hacc, F', N', rfl⟩
      refine ⟨h', tk', _, _, (fl, listOf (List.toArray acc') c') :: rest, rfl, F', N', ?_, ?_, ?_, List.mem_cons_of_mem _ hl, some v, _, c', ?_, rfl, ?_, ?_⟩
      · intro q hq
        rcases List.mem_cons.mp hq with rfl | hq
        · exact List.mem_cons_self
        · exact List.mem_cons_of_mem _ (List.mem_append.mpr (.inl hq))
      · intro q hq
        exact List.mem_cons_of_mem _ (List.mem_append.mpr (.inr hq))
      · simpa using hoff
      · funext y
        by_cases h : y = x <;> simp [h]
      · have ht : ds.take (i + 1) = ds.take i ++ [ds[i]] := by rw [List.take_add_one, List.getElem?_eq_getElem hi]; rfl
        rw [ht, List.filter_append]
        rcases hacc with ⟨hp, rfl⟩ | ⟨hp, rfl⟩
        · rw [List.filter_cons_of_pos hp, List.filter_nil, List.map_append]
          exact hA.append (DatAll.one hd)
        · rw [List.filter_cons_of_neg (by rw [hp]; exact Bool.false_ne_true), List.filter_nil, List.append_nil]
          exact hA
      · rcases hacc with ⟨hp, rfl⟩ | ⟨hp, rfl⟩
        · rw [List.length_append]; simp; omega
        · omega
  · rintro m₁ nx h tk ⟨u, acc, c, rfl, rfl, hA, hz⟩ F₁ N₁
    rw [hlen, List.take_length] at hA
    exact done u acc c h tk F₁ N₁ hA
end
theorem fdat_inj {a b : Fam} (h : fdat a = fdat b) : a = b := by
  obtain ⟨a1, a2⟩ := a
  obtain ⟨b1, b2⟩ := b
  simp only [fdat, Dat.tuple.injEq, List.cons.injEq, Dat.int.injEq, and_true] at h
  rw [h.1, h.2]
theorem fdat_mem {f : Fam} {R : List Fam} : fdat f ∈ R.map fdat ↔ f ∈ R := by
  constructor
  · intro h
    obtain ⟨g, hg, e⟩ := List.mem_map.mp h
    exact fdat_inj e ▸ hg
  · exact fun h => List.mem_map.mpr ⟨f, h, rfl⟩
theorem fdat_ok (f : Fam) (n : Nat) : kqdOk (n + 1) (fdat f) = true := by
  cases n <;> simp [fdat, kqdOk]
theorem fdats_ok (R : List Fam) (n : Nat) : ∀ d ∈ R.map fdat, kqdOk (n + 1) d = true := by
  intro d hd
  obtain ⟨f, _, rfl⟩ := List.mem_map.mp hd
  exact fdat_ok f n
section
variable {prog : Program} {w : World} {A : Around} {E : Value → Shared → Prop} {s : Shared} {h₀ : Heap} {L l : Addr} {news n₁ n₂ : Led} {vs : List Value} {n : Nat} {R : List Fam} {v : Value} {f : Fam} {Q : Value → Shared → Prop}
/-- «family in row» -/
theorem row_in (N : News h₀ L s.heap news) (hl : (l, listOf (List.toArray vs) n) ∈ news) (D : DatAll n₁ vs (R.map fdat)) (s1 : ∀ p ∈ n₁, p ∈ news) (hv : DatIn n₂ v (fdat f)) (s2 : ∀ p ∈ n₂, p ∈ news) (hu : A.units + 64 < cLine)
    (h : Q (.bool (decide (f ∈ R))) s) : wpAny (model prog w) A (compareOp .In v (.ref l)) Q E s := by
  refine kqd_isIn N hl rfl rfl D s1 hv s2 (fdats_ok R 7) (fdat_ok f 7) hu ?_
  have e : ∀ (i : Decidable (fdat f ∈ R.map fdat)), @decide _ i = decide (f ∈ R) := fun i => by
    by_cases hf : f ∈ R
    · rw [decide_eq_true hf, decide_eq_true (fdat_mem.mpr hf)]
    · rw [decide_eq_false hf, decide_eq_false fun c => hf (fdat_mem.mp c)]
  rw [e]
  exact h
end
theorem own_ne {news own : Led} {fl : Addr} {r : List Addr} (h : AllLt fl news) (ho : OwnOff own (fl :: r)) : ∀ p ∈ news ++ own, p.1 ≠ fl := by
  intro p hp
  rcases List.mem_append.mp hp with hp | hp
  · exact Nat.ne_of_lt (ktn_ltOf h p hp)
  · exact ho p hp fl List.mem_cons_self
theorem app_row {prog : Program} {w : World} {A : Around} {E : Value → Shared → Prop} {s : Shared} {h₀ : Heap} {L D : Addr} {m : Str → Option Value} {news news' : Led} {acc : List Value} {n : Nat} {x : Value} {Q : Value → Shared → Prop} (F : Fr h₀ L s.heap m) (N : News h₀ L s.heap news) (hz : acc.length ≤ 1000)
    (U : Upd D (listOf (List.toArray acc) n) (listOf (List.toArray (acc ++ [x])) (n + 1)) news news') (h : ∀ h', Fr h₀ L h' m → News h₀ L h' news' → Q .none { s with heap := h' }) : wpAny (model prog w) A (call (.builtin "list.append") [.ref D, x]) Q E s := by
  exact append_K F N (its := List.toArray acc) (n := n) (by rw [List.push_toArray]; exact U) h (by rw [List.size_toArray, sizeLine_eq]; omega)
theorem row_len {R : List Fam} {news : Led} {vs : List Value} (h : RowOk R) (D : DatAll news vs (R.map fdat)) : vs.length ≤ 4 := by
  have h1 := D.length
  rw [List.length_map] at h1
  have h2 := nodup_len h.1 h.2
  have h3 : fams4.length = 4 := rfl
  omega
/-- a dict's i-th value set -/
def setV : List DictEntry → Nat → Value → List DictEntry
  | [], _, _ => []
  | e :: r, 0, v => ⟨e.hash, e.key, v⟩ :: r
  | e :: r, i + 1, v => e :: setV r i v
section
variable {M : Model} {A : Around} {E : Value → Shared → Prop} {s : Shared} {env : Env} {g : Heap} {L : Addr} {m : Str → Option Value} {st : Stmt} {rest : List Stmt} {Q : Flow → Shared → Prop}
/-- a statement that sets one name of one object, its ways joined -/
theorem cut_set {α : Type} {dx : Addr} {es : List DictEntry} {n : Nat} {lit : Led} {gf : Obj → Led} (i : Nat) (val : α → Value) (_F : Fr g L s.heap m) (_N : News g L s.heap lit) (_U : UpdF dx (dictOf es n) lit gf)
    (h1 : ∀ Q' : Flow → Shared → Prop, (∀ x h' tk', Fr g L h' m → News g L h' (gf (dictOf (setV es i (val x)) n)) → Q' .next { s with heap := h', toks := tk' }) → wpAny M A (exec st env) Q' E s)
    (h2 : ∀ x h' tk', Fr g L h' m → News g L h' (gf (dictOf (setV es i (val x)) n)) → wpAny M A (execs rest env) Q E { s with heap := h', toks := tk' }) : wpAny M A (execs (st :: rest) env) Q E s :=
  cut (C := fun _ => True) (mm := fun _ => m) (led := fun x => gf (dictOf (setV es i (val x)) n)) (fun Q' hr => h1 Q' fun x h' tk' F N => hr x h' tk' trivial F N) fun x h' tk' _ F N => h2 x h' tk' F N
end

theorem min_rf4 {p r : Int} (h : (decide (r = 4) && decide (p = 4)) = true) : min p r = 4 := by
  simp only [Bool.and_eq_true, decide_eq_true_eq] at h
  omega
theorem min_rf2 {p r : Int} (hp : p = 1 ∨ p = 2 ∨ p = 4) (hr : r = 1 ∨ r = 2 ∨ r = 4) (h1 : (decide (r = 4) && decide (p = 4)) = false) (h2 : (decide (1 < r) && decide (1 < p)) = true) : min p r = 2 := by
  simp only [Bool.and_eq_true, Bool.and_eq_false_iff, decide_eq_true_eq, decide_eq_false_iff_not] at h1 h2
  omega
theorem min_rf1 {p r : Int} (hp : p = 1 ∨ p = 2 ∨ p = 4) (hr : r = 1 ∨ r = 2 ∨ r = 4) (h2 : (decide (1 < r) && decide (1 < p)) = false) : min p r = 1 := by
  simp only [Bool.and_eq_false_iff, decide_eq_false_iff_not] at h2
  omega
theorem min_ite (p r : Int) : (if r < p then r else p) = min p r := by
  by_cases h : r < p
  · rw [if_pos h]; omega
  · rw [if_neg h]; omega
theorem msz_yes {p r : Bool} (h : (r && p) = true) : (if (p && r) = true then (65535 : Int) else 4096) = 65535 := by rw [Bool.and_comm, h]; rfl
theorem msz_no {p r : Bool} (h : (r && p) = false) : (if (p && r) = true then (65535 : Int) else 4096) = 4096 := by rw [Bool.and_comm, h]; rfl
-- kind: macro
local macro_rules | `(tactic| walk_at "compareOp In") => `(tactic| (k_here; k_dflt ((refine' row_in ?N ?a ?d ?e ?x ?sx ?n ?_); (case N => k_asm); (case a => walk_at "MEM"); (case d => assumption); (case e => walk_at "SUB"); (case x => assumption); (case sx => walk_at "SUB"); (case n => ktr_units))))
local macro_rules | `(tactic| walk_at "call builtin:list.append") => `(tactic| (k_here; k_dflt ((refine' app_row ?F ?N ?z ?U ?_); (case F => k_asm); (case N => k_asm); (case U => k_upd); (case z => omega)); intro h9 F9 N9))
-- kind: theorem
set_option maxRecDepth 100000 in
set_option maxHeartbeats 8000000 in
theorem neg_c {w : World} {P R : Part} {k : SessK} {x dx ap dap : Addr} {v0 v3 v4 v5 v6 v7 v8 v10 v12 v14 v15 v16 v17 va vb so ro : Value} {q11 q13 : Tok} {ha hb : Int} {ta tb : Tok}
    {loose : List Str} {mean : ExcName → Option Value} {mg mb : Str → Option Value} {dp un : Nat} {gd : Option (List Code)} {cn : Str} {cs : Scope} {a : Addr} {ccd : Value} {cl : List (Str × Addr)} {outer : List Env}
    {A₀ : Around} {base h₀ : Heap} {L : Addr} {m : Str → Option Value} {news : Led} {s : Shared} {Q E : Value → Shared → Prop}
    (B : Below A₀ base outer h₀) (F : Fr h₀ L s.heap m) (X : (tp.heap_39 w.params).In h₀)
    (N : News h₀ L s.heap ((dx, sessD k v0 so ro v3 v4 v5 v6 v7 v8 (.ref ap) v10 (.int 4096 q11) v12 (.int 1 q13) v14 v15 v16 v17) :: news))
    (T : Top tp.view_39 loose mean mg mb h₀) (hk : cs.kind = .function) (hne : ∀ p ∈ news, p.1 ≠ dx)
    (mx : (x, instObj 219 dx) ∈ news) (map : (ap, instObj 259 dap) ∈ news) (mdap : (dap, dictOf [⟨ha, .str "_send" ta, va⟩, ⟨hb, .str "_receive" tb, vb⟩] 2) ∈ news)
    (o1 : OpenAt w news so P) (o2 : OpenAt w news ro R) (p1 : P.Ok) (p2 : R.Ok) (hd : dp + 16 < recursionLimit) (hu : un + 8 * 16 < cLine)
    (hret : ∀ (tl : Led) (h' : Heap) (tk' : Nat) (fl hl : Addr) (q3 q11' q13' : Tok) (la pa : Value), Fr h₀ L h' m →
      News h₀ L h' ((dx, sessD k v0 so ro (.int (min P.sec R.sec) q3) la pa (.ref fl) (.ref hl) (.bool (P.octets && R.octets)) (.ref ap) (.bool false) (.int (if P.large && R.large then 65535 else 4096) q11') (.bool (P.more && R.more)) (.int (min P.refresh R.refresh) q13') v14 v15 v16 v17) :: (tl ++ news)) →
      (∀ q ∈ news, ∀ p ∈ tl, q.1 < p.1) → RowAt (tl ++ news) fl (tell P R).fams → RowAt (tl ++ news) hl (tell P R).hops → Q .none { s with heap := h', toks := tk' }) :
    wpAny (model rw_br0002_01.row.prog w) (ktrTop dp un gd cn cs L a ccd cl outer) (call (.ref 209) [.ref x]) Q E s := by
  revert X
  w_top off
  k_fill
  intro X
  obtain ⟨a1, da1, ca1, fa1, ha1, kvs1, x1, x2, x3, x4, t1, t2, t3, t4, t5, t6, t7, n1, rfl, m1, md1, c1, k1, r11, r12⟩ := id o1
  obtain ⟨a2, da2, ca2, fa2, ha2, kvs2, y1, y2, y3, y4, u1, u2, u3, u4, u5, u6, u7, n2, rfl, m2, md2, c2, k2, r21, r22⟩ := id o2
  obtain ⟨e1, e5, e2, e70, e6, e65, e185, e69, e68, e131⟩ := k1
  obtain ⟨f1, f5, f2, f70, f6, f65, f185, f69, f68, f131⟩ := k2
  have i1 : (valueAt kvs1 1).isSome = true := by rw [e1]; rfl
  have i5 : (valueAt kvs1 5).isSome = true := by rw [e5]; rfl
  have j1 : (valueAt kvs2 1).isSome = true := by rw [f1]; rfl
  have j5 : (valueAt kvs2 5).isSome = true := by rw [f5]; rfl
  obtain ⟨dca1, ra1, ob1, hs1, tt1, nn1, mc1, mdc1, mr1, hD1, lo1⟩ := id c1
  obtain ⟨dca2, ra2, ob2, hs2, tt2, nn2, mc2, mdc2, mr2, hD2, lo2⟩ := id c2
  clear hD1 hD2 mr1 mr2 lo1 lo2
  obtain ⟨w11, z11, s11, D11⟩ := id r11
  obtain ⟨w12, z12, s12, D12⟩ := id r12
  obtain ⟨w21, z21, s21, D21⟩ := id r21
  obtain ⟨w22, z22, s22, D22⟩ := id r22
  have hw21 := row_len p2.1 D21
  have hw22 := row_len p2.2.1 D22
  walk_at "CON ENTER"
  k_steps
  obtain ⟨hl1, hl2⟩ := ‹_ ∧ AllLt _ news›
  rename Fr _ _ _ _ => F1
  rename News _ _ _ _ => N1
  refine' fam_iter (news := news) R.fams (fun f => decide (f ∈ P.fams)) rfl (by walk_at "MEM") D21 (by walk_at "SUB") F1 N1 ?turn ?done
  case turn =>
    clear F1 N1
    intro v f u acc c own h tk Q' hv hf hz hoff F1 N1 hq
    have hno := own_ne hl2 hoff
    simp only [List.cons_append] at N1
    k_steps
    all_goals first
      | exact hq _ _ _ _ (.inl ⟨decide_eq_true (by assumption), rfl⟩) (by assumption) (by assumption)
      | exact hq _ _ _ _ (.inr ⟨decide_eq_false (by assumption), rfl⟩) (by assumption) (by assumption)
  case done =>
    clear F1 N1
    intro u acc c h tk F1 N1 hA
    k_steps
    obtain ⟨hm1, hm2, hm3⟩ := ‹_ ∧ _ ∧ AllLt _ news›
    rename Fr _ _ _ _ => F1
    rename News _ _ _ _ => N1
    refine' fam_iter (news := news) R.hops (fun f => decide (f ∈ P.hops)) rfl (by walk_at "MEM") D22 (by walk_at "SUB") F1 N1 ?turn2 ?done2
    case turn2 =>
      clear F1 N1
      intro v f u acc2 c own h tk Q' hv hf hz hoff F1 N1 hq
      have hno := own_ne hm3 hoff
      simp only [List.cons_append] at N1
      k_steps
      all_goals first
        | exact hq _ _ _ _ (.inl ⟨decide_eq_true (by assumption), rfl⟩) (by assumption) (by assumption)
        | exact hq _ _ _ _ (.inr ⟨decide_eq_false (by assumption), rfl⟩) (by assumption) (by assumption)
    case done2 =>
      clear F1 N1
      intro u2 acc2 c2' h tk F1 N1 hA2
      iterate 1 (first | (k_unfold; (try dsimp only)) | walk1 | (dsimp only; walk1))
      (try dsimp only)
      refine' cut_set (dx := dx) 13 (fun q : Tok => Value.int (min P.refresh R.refresh) q) F1 N1 ?U ?h1 ?h2a
      case U => k_updF
      case h1 =>
        intro Q' hq
        k_steps
        all_goals first
          | (have e9 := min_rf4 (p := P.refresh) (r := R.refresh) (by assumption); refine' hq _ _ _ (by assumption) ?n9; (case n9 => (simp only [setV, e9]; assumption)))
          | (have e9 := min_rf2 (p := P.refresh) (r := R.refresh) p1.2.2.1 p2.2.2.1 (by assumption) (by assumption); refine' hq _ _ _ (by assumption) ?n9; (case n9 => (simp only [setV, e9]; assumption)))
          | (have e9 := min_rf1 (p := P.refresh) (r := R.refresh) p1.2.2.1 p2.2.2.1 (by assumption); refine' hq _ _ _ (by assumption) ?n9; (case n9 => (simp only [setV, e9]; assumption)))
      clear F1 N1
      intro q13' h tk F1 N1
      simp only [setV] at N1
      refine' cut_set (dx := dx) 11 (fun q : Tok => Value.int (if (P.large && R.large) = true then 65535 else 4096) q) F1 N1 ?U2 ?h1b ?h2b
      case U2 => k_updF
      case h1b =>
        intro Q' hq
        k_steps
        all_goals first
          | (have e9 := msz_yes (p := P.large) (r := R.large) (by assumption); refine' hq _ _ _ (by assumption) ?n9; (case n9 => (simp only [setV, e9]; assumption)))
          | (have e9 := msz_no (p := P.large) (r := R.large) (by assumption); refine' hq _ _ _ (by assumption) ?n9; (case n9 => (simp only [setV, e9]; assumption)))
      clear F1 N1
      intro q11' h tk F1 N1
      simp only [setV] at N1
      k_steps
      rename News h₀ L _ _ => N9
      simp only [min_ite] at N9
      refine hret [(_, listOf (List.toArray acc2) c2'), (_, listOf (List.toArray acc) c)] _ _ _ _ _ _ _ _ _ (by assumption) (News.pick N9 (by walk_at "PICK")) (by walk_at "ORD") ⟨acc, c, by walk_at "MEM", hA.mono sub_app⟩ ⟨acc2, c2', by walk_at "MEM", hA2.mono sub_app⟩
-- kind: macro
local macro_rules | `(tactic| walk_at "call ref") => `(tactic| (k_here; k_dflt ((show wpAny _ _ (call (Value.ref 209) _) _ _ _); (refine' neg_c ?k1 ?k2 ?k3 ?k4 ?k5 ?kK ?hne ?mx ?map ?mdap ?o1 ?o2 ?p1 ?p2 ?kd ?ku ?_); (case k1 => k_asm); (case k2 => k_asm); (case k3 => k_asm); (case k4 => k_asm); (case k5 => k_asm); (case kK => first | exact rfl | assumption); (case hne => k_all); (case mx => walk_at "MEM"); (case map => walk_at "MEM"); (case mdap => walk_at "MEM"); (case o1 => walk_at "OPEN"); (case o2 => walk_at "OPEN"); (case p1 => assumption); (case p2 => assumption); (case kd => ktr_room); (case ku => ktr_units); intro tl9 h9 tk9 fl9 hl9 q39 q119 q139 la9 pa9 F9 N9 lt9 r19 r29; (try dsimp only); (try k_fold))))
-- kind: theorem
theorem msz_eq (b : Bool) : ((if b = true then (65535 : Int) else 4096) == 65535) = b := by cases b <;> rfl
theorem told_close {h₀ h : Heap} {L : Addr} {m : Str → Option Value} {news tl9 : Led} {a b c dxo : Addr × Obj} {tup fl hl : Addr} {Pt : Part} {q1 q2 : Tok} {s : Shared} {tk : Nat} {Q : Value → Shared → Prop}
    (hret : ∀ r tl h' tk', Fr h₀ L h' m → News h₀ L h' (tl ++ news) → (∀ q ∈ news, ∀ p ∈ tl, q.1 < p.1) → ToldAt (tl ++ news) r Pt → Q r { s with heap := h', toks := tk' })
    (F : Fr h₀ L h m)
    (N : News h₀ L h ((tup, ({ cls := .type "tuple", data := .seq #[.int Pt.sec q1, .ref fl, .ref hl, .int Pt.refresh q2, .bool Pt.large, .bool Pt.octets, .bool Pt.more] } : Obj)) :: dxo :: (tl9 ++ a :: b :: c :: news)))
    (l2 : AllLt tup (tl9 ++ a :: b :: c :: news)) (lt : ∀ q ∈ a :: b :: c :: news, ∀ p ∈ tl9, q.1 < p.1) (la : AllLt a.1 news) (lb : AllLt b.1 news) (lc : AllLt c.1 news)
    (r1 : RowAt (tl9 ++ a :: b :: c :: news) fl Pt.fams) (r2 : RowAt (tl9 ++ a :: b :: c :: news) hl Pt.hops) : Q (.ref tup) { s with heap := h, toks := tk } := by
  have e : ∀ T : Addr × Obj, T :: (tl9 ++ [a, b, c]) ++ news = T :: (tl9 ++ a :: b :: c :: news) := fun T => by simp
  refine hret (.ref tup) ((tup, _) :: (tl9 ++ [a, b, c])) h tk F (fun p hp => N p ?_) ?_ ⟨tup, fl, hl, q1, q2, rfl, List.mem_cons_self, ?_, ?_⟩
  · rw [e] at hp
    rcases List.mem_cons.mp hp with rfl | hp
    · exact List.mem_cons_self
    · exact List.mem_cons_of_mem _ (List.mem_cons_of_mem _ hp)
  · have hall := ktn_ltOf l2
    intro q hq p hp
    rcases List.mem_cons.mp hp with rfl | hp
    · exact hall q (by simp [hq])
    · rcases List.mem_append.mp hp with hp | hp
      · exact lt q (by simp [hq]) p hp
      · simp only [List.mem_cons, List.not_mem_nil, or_false] at hp
        rcases hp with rfl | rfl | rfl
        · exact ktn_ltOf la q hq
        · exact ktn_ltOf lb q hq
        · exact ktn_ltOf lc q hq
  · rw [e]; exact r1.mono fun _ h => List.mem_cons_of_mem _ h
  · rw [e]; exact r2.mono fun _ h => List.mem_cons_of_mem _ h
-- kind: theorem
set_option maxRecDepth 100000 in
set_option maxHeartbeats 8000000 in
theorem told_c (w : World) (P R : Part) (o t : Value) (late : Bool) (p1 : P.Ok) (p2 : R.Ok) :
    Con w 291 24 [o, t, .bool late] (fun news => OpenAt w news o P ∧ OpenAt w news t R) (fun tl news r => ToldAt (tl ++ news) r (tell P R)) := by
  unfold Con
  w_top off
  k_fill
  intro loose mean mg mb dp un gd cn cs a ccd cl outer A₀ base h₀ L m news s Q E B F X N T hk hR hd hu hret
  obtain ⟨o1, o2⟩ := hR
  obtain ⟨a1, da1, ca1, fa1, ha1, kvs1, x1, x2, x3, x4, t1, t2, t3, t4, t5, t6, t7, n1, rfl, m1, md1, -⟩ := id o1
  obtain ⟨a2, da2, ca2, fa2, ha2, kvs2, y1, y2, y3, y4, u1, u2, u3, u4, u5, u6, u7, n2, rfl, m2, md2, -⟩ := id o2
  walk_at "CON ENTER"
  rename_i g L' h1 FG F1 N1 B1 X1 T1
  refine cut_st F1 (Str.ofString "session") (fun z : SessZ => .ref z.x) (fun z => AllLt z.dx news ∧ @LT.lt Nat _ z.dx z.x ∧ @LT.lt Nat _ z.dx z.ap ∧ @LT.lt Nat _ z.dx z.dap) (fun z => z.led news) (fun Q' hq => ?_) ?_
  · k_steps
    refine' hq ⟨⟨_, _, _, _, _, _, _, _, _, _, _, _, _, _, _, _, _, _, _, _, _, _, _, _, _, _, _, _, _, _, _, _, _, _, _, _⟩, _, _, _, _, _, _, _, _, _, _, _, _, _, _, _, _, _, _, _, _⟩ _ _ ?c ?F ?N
    case F => assumption
    case N => exact News.pick (by assumption) (by walk_at "PICK")
    case c => exact ⟨by walk_at "ALT", by (dsimp only; omega), by (dsimp only; omega), by (dsimp only; omega)⟩
  clear F1 N1
  rintro z h2 tk2 ⟨z1, z2, z3, z4⟩ F1 N1
  dsimp only [SessZ.led] at z1 z2 z3 z4 F1 N1
  cases late
  all_goals
    k_steps
    rename News h₀ L _ _ => N9
    simp only [msz_eq] at N9
    exact told_close hret (by assumption) N9 (by first | assumption | (refine And.right ?_; assumption) | tbn_find) (by assumption) (allLt_up z1 z2) (allLt_up z1 z3) (allLt_up z1 z4) (by assumption) (by assumption)
-- kind: macro
local macro_rules | `(tactic| walk_at "call ref") => `(tactic| (k_here; k_dflt ((show wpAny _ _ (call (Value.ref 291) _) _ _ _); (refine' con_use (told_c _ _ _ _ _ _ ?p1 ?p2) ?k1 ?k2 ?k3 ?k4 ?k5 ?kK ?kR ?kd ?ku ?_); (case k1 => k_asm); (case k2 => k_asm); (case k3 => k_asm); (case k4 => k_asm); (case k5 => k_asm); (case kK => first | exact rfl | assumption); (case kR => refine ⟨?c8, ?c9⟩; (case c8 => walk_at "OPEN"); (case c9 => walk_at "OPEN")); (case p1 => assumption); (case p2 => assumption); (case kd => ktr_room); (case ku => ktr_units); intro r9 tl9 h9 tk9 F9 N9 lt9 ho9; obtain ⟨a9, fa9, ha9, t19, t29, e9, m9, r19, r29⟩ := ho9; subst e9; (try dsimp only); (try k_fold))))
local macro_rules | `(tactic| walk_at "call ref") => `(tactic| (k_here; k_dflt ((show wpAny _ _ (call (Value.ref 284) _) _ _ _); (refine' con_use (open_c _ _ _ _ _ _ ?hr) ?k1 ?k2 ?k3 ?k4 ?k5 ?kK ?kR ?kd ?ku ?_); (case k1 => k_asm); (case k2 => k_asm); (case k3 => k_asm); (case k4 => k_asm); (case k5 => k_asm); (case kK => first | exact rfl | assumption); (case kR => refine ⟨?c8, ?c9⟩; (case c8 => walk_at "ROW"); (case c9 => walk_at "ROW")); (case hr => assumption); (case kd => ktr_room); (case ku => ktr_units); intro r9 tl9 h9 tk9 F9 N9 lt9 ho9; (try dsimp only); (try k_fold))))
local macro_rules | `(tactic| walk_at "ROW") => `(tactic| first | assumption | (refine RowAt.mono ?sub9 (by assumption); (case sub9 => walk_at "SUB")))
-- kind: theorem
theorem filter_ok {A B : List Fam} (h : RowOk B) : RowOk (B.filter (· ∈ A)) :=
  ⟨h.1.filter _, fun f hf => h.2 f (List.mem_filter.mp hf).1⟩
theorem tell_ok {P R : Part} (p1 : P.Ok) (p2 : R.Ok) : (tell P R).Ok := by
  obtain ⟨a1, a2, a3, a4, a5⟩ := p1
  obtain ⟨b1, b2, b3, b4, b5⟩ := p2
  refine ⟨filter_ok b1, filter_ok b2, ?_, ?_, ?_⟩
  · show min P.refresh R.refresh = 1 ∨ min P.refresh R.refresh = 2 ∨ min P.refresh R.refresh = 4
    omega
  · show 0 ≤ min P.sec R.sec
    omega
  · show min P.sec R.sec < 200
    omega
theorem joined_close {w : World} {h₀ h : Heap} {L : Addr} {m : Str → Option Value} {news t1 t2 : Led} {r : Value} {Pt : Part} {s : Shared} {tk : Nat} {Q : Value → Shared → Prop}
    (hret : ∀ r tl h' tk', Fr h₀ L h' m → News h₀ L h' (tl ++ news) → (∀ q ∈ news, ∀ p ∈ tl, q.1 < p.1) → OpenAt w (tl ++ news) r Pt → Q r { s with heap := h', toks := tk' })
    (F : Fr h₀ L h m) (N : News h₀ L h (t2 ++ (t1 ++ news))) (l1 : ∀ q ∈ news, ∀ p ∈ t1, q.1 < p.1) (l2 : ∀ q ∈ t1 ++ news, ∀ p ∈ t2, q.1 < p.1) (o : OpenAt w (t2 ++ (t1 ++ news)) r Pt) : Q r { s with heap := h, toks := tk } :=
  hret r (t2 ++ t1) h tk F (by rw [List.append_assoc]; exact N) (ord_app l2 l1) (by rw [List.append_assoc]; exact o)
set_option maxRecDepth 100000 in
set_option maxHeartbeats 8000000 in
theorem joined_c (w : World) (P R : Part) (o t : Value) (late : Bool) (p1 : P.Ok) (p2 : R.Ok) :
    Con w 298 30 [o, t, .bool late] (fun news => OpenAt w news o P ∧ OpenAt w news t R) (fun tl news r => OpenAt w (tl ++ news) r (tell P R)) := by
  unfold Con
  w_top off
  k_fill
  intro loose mean mg mb dp un gd cn cs a ccd cl outer A₀ base h₀ L m news s Q E B F X N T hk hR hd hu hret
  obtain ⟨o1, o2⟩ := hR
  have p3 : (tell P R).refresh = 1 ∨ (tell P R).refresh = 2 ∨ (tell P R).refresh = 4 := (tell_ok p1 p2).2.2.1
  walk_at "CON ENTER"
  k_steps
  exact joined_close hret (by assumption) (by assumption) (by assumption) (by assumption) (by assumption)
-- kind: theorem
/-- the walk stops here -/
def Halt (p : Prop) : Prop := p
theorem Halt.out {p : Prop} (h : Halt p) : p := h
theorem Halt.in {p : Prop} (h : p) : Halt p := h
theorem ints_succ {vs : List Value} {cs : List Int} {n : Nat} (h : IntsAre vs cs) (hl : cs.length = n + 1) : ∃ c t vs' cs', vs = .int c t :: vs' ∧ IntsAre vs' cs' ∧ cs'.length = n := by
  cases h with
  | nil => cases hl
  | cons => exact ⟨_, _, _, _, rfl, by assumption, Nat.succ.inj hl⟩
theorem ints_zero {vs : List Value} {cs : List Int} (h : IntsAre vs cs) (hl : cs.length = 0) : vs = [] := by
  cases h with
  | nil => rfl
  | cons => cases hl
theorem cells13 {vs : List Value} {cs : List Int} (h : IntsAre vs cs) (hl : cs.length = 13) :
    ∃ c0 c1 c2 c3 c4 c5 c6 c7 c8 c9 c10 c11 c12 t0 t1 t2 t3 t4 t5 t6 t7 t8 t9 t10 t11 t12, vs = [.int c0 t0, .int c1 t1, .int c2 t2, .int c3 t3, .int c4 t4, .int c5 t5, .int c6 t6, .int c7 t7, .int c8 t8, .int c9 t9, .int c10 t10, .int c11 t11, .int c12 t12] := by
  obtain ⟨c0, t0, vs, cs, rfl, h, hl⟩ := ints_succ h hl
  obtain ⟨c1, t1, vs, cs, rfl, h, hl⟩ := ints_succ h hl
  obtain ⟨c2, t2, vs, cs, rfl, h, hl⟩ := ints_succ h hl
  obtain ⟨c3, t3, vs, cs, rfl, h, hl⟩ := ints_succ h hl
  obtain ⟨c4, t4, vs, cs, rfl, h, hl⟩ := ints_succ h hl
  obtain ⟨c5, t5, vs, cs, rfl, h, hl⟩ := ints_succ h hl
  obtain ⟨c6, t6, vs, cs, rfl, h, hl⟩ := ints_succ h hl
  obtain ⟨c7, t7, vs, cs, rfl, h, hl⟩ := ints_succ h hl
  obtain ⟨c8, t8, vs, cs, rfl, h, hl⟩ := ints_succ h hl
  obtain ⟨c9, t9, vs, cs, rfl, h, hl⟩ := ints_succ h hl
  obtain ⟨c10, t10, vs, cs, rfl, h, hl⟩ := ints_succ h hl
  obtain ⟨c11, t11, vs, cs, rfl, h, hl⟩ := ints_succ h hl
  obtain ⟨c12, t12, vs, cs, rfl, h, hl⟩ := ints_succ h hl
  rw [ints_zero h hl]
  exact ⟨c0, c1, c2, c3, c4, c5, c6, c7, c8, c9, c10, c11, c12, t0, t1, t2, t3, t4, t5, t6, t7, t8, t9, t10, t11, t12, rfl⟩
theorem cells_len (f : Int → Int) (s r : List Int) (hr : r.length = 13) : (List.map f (List.take 13 s) ++ List.drop ((List.take 13 s).length : Int).toNat r).length = 13 := by
  simp only [List.length_append, List.length_map, List.length_drop, List.length_take, Int.toNat_natCast, hr]
  omega
theorem law_repack {g h : Heap} {L a : Addr} {o : Obj} {x1 x2 x3 x5 x6 x7 x8 x9 y1 y2 : Addr × Obj} (N : News g L h [x1, x2, x3, (a, o), x5, x6, x7, x8, x9, y1, y2]) : News g L h [x2, x3, (a, o), y1, y2] :=
  News.pick N fun p hp => by
    simp only [List.mem_cons, List.not_mem_nil, or_false] at hp ⊢
    rcases hp with h | h | h | h | h <;> simp [h]
/-- a part's facts, of a draw -/
def partOf (c d : Int) (F H : List Fam) : Part := { sec := c.fmod 200, fams := F, hops := H, refresh := if d.fmod 3 = 0 then 1 else if d.fmod 3 = 1 then 2 else 4, large := (d.fdiv 3).fmod 2 == 0, octets := (d.fdiv 6).fmod 2 == 0, more := (d.fdiv 12).fmod 2 == 0 }
theorem partOf_ok (c d : Int) {F H : List Fam} (hF : RowOk F) (hH : RowOk H) : (partOf c d F H).Ok := by
  refine ⟨hF, hH, ?_, ?_, ?_⟩
  · show (if d.fmod 3 = 0 then (1 : Int) else if d.fmod 3 = 1 then 2 else 4) = 1 ∨ (if d.fmod 3 = 0 then (1 : Int) else if d.fmod 3 = 1 then 2 else 4) = 2 ∨ (if d.fmod 3 = 0 then (1 : Int) else if d.fmod 3 = 1 then 2 else 4) = 4
    split
    · exact .inl rfl
    · split
      · exact .inr (.inl rfl)
      · exact .inr (.inr rfl)
  · exact Int.fmod_nonneg_of_pos _ (by decide)
  · exact Int.fmod_lt_of_pos _ (by decide)
-- kind: theorem
/-- an opening, of things made anew but for its two rows -/
def OpenNew (w : World) (tl : Led) (v : Value) (P : Part) (fa ha : Addr) : Prop :=
  ∃ a da ca kvs h1 h2 h3 h4 t1 t2 t3 t4 t5 t6 t7 n, v = .ref a ∧ (a, instObj 170 da) ∈ tl ∧
    (da, dictOf [⟨h1, .str "asn" t1, .int 65000 t2⟩, ⟨h2, .str "hold_time" t3, .int P.sec t4⟩, ⟨h3, .str "router_id" t5, .str "10.0.0.1" t6⟩, ⟨h4, .str "capabilities" t7, .ref ca⟩] n) ∈ tl ∧
    CapsAt w tl ca kvs ∧ KvsOk kvs fa ha P
theorem OpenNew.at {w : World} {tl W : Led} {v : Value} {P : Part} {fa ha : Addr} (h : OpenNew w tl v P fa ha) (hs : ∀ p ∈ tl, p ∈ W) (r1 : RowAt W fa P.fams) (r2 : RowAt W ha P.hops) : OpenAt w W v P := by
  obtain ⟨a, da, ca, kvs, h1, h2, h3, h4, t1, t2, t3, t4, t5, t6, t7, n, e, m1, m2, c, k⟩ := h
  exact ⟨a, da, ca, fa, ha, kvs, h1, h2, h3, h4, t1, t2, t3, t4, t5, t6, t7, n, e, hs _ m1, hs _ m2, c.mono hs, k, r1, r2⟩
set_option maxRecDepth 100000 in
set_option maxHeartbeats 8000000 in
theorem open_n (w : World) (P : Part) (f h : Addr) (t1 t2 : Tok) (hr : P.refresh = 1 ∨ P.refresh = 2 ∨ P.refresh = 4) :
    Con w 284 8 [.int P.sec t1, .ref f, .ref h, .int P.refresh t2, .bool P.large, .bool P.octets, .bool P.more] (fun news => RowAt news f P.fams ∧ RowAt news h P.hops) (fun tl _ r => OpenNew w tl r P f h) := by
  unfold Con
  w_top off
  k_fill
  intro loose mean mg mb dp un gd cn cs a ccd cl outer A₀ base h₀ L m news s Q E B F X N T hk hR hd hu hret
  obtain ⟨r1, r2⟩ := hR
  obtain ⟨sec, fams, hops, refresh, large, octets, more⟩ := P
  dsimp only at hr r1 r2 hret ⊢
  walk_at "CON ENTER"
  rename_i g L' h1 FG F1 N1 B1 X1 T1
  refine cut_st F1 (Str.ofString "rows") (fun x : Addr × Obj => .ref x.1) (fun x => Obj.IsDictOf (intKind rw_br0002_01.row.prog w) x.2 [(1, .ref f), (5, .ref h)] ∧ (x.1 == sysModules) = false ∧ AllLt x.1 news) (fun x => x :: news) (fun Q' hq => ?_) ?_
  · k_steps
    all_goals exact hq (_, _) _ _ ⟨by assumption, by assumption, by walk_at "ALT"⟩ (by assumption) (by assumption)
  clear F1 N1
  rintro ⟨d, o⟩ h' tk' ⟨hD, lo, hl⟩ F1 N1
  dsimp only at hD lo hl F1 N1
  obtain ⟨kvs, hD, hz, k1, k5, k2, kn⟩ : ∃ kvs, Obj.IsDictOf (intKind rw_br0002_01.row.prog w) o kvs ∧ kvs.length ≤ 2 ∧ valueAt kvs 1 = some (.ref f) ∧ valueAt kvs 5 = some (.ref h) ∧ valueAt kvs 2 = none ∧ ∀ j : Int, j ≠ 1 → j ≠ 5 → valueAt kvs j = none :=
    ⟨_, hD, Nat.le_refl _, rfl, rfl, rfl, fun j h1 h5 => by simp [valueAt, Ne.symm h1, Ne.symm h5]⟩
  refine cut_o F1 N1 hD hz (by decide) 2 (decide (1 < refresh)) (fun Q' hq => ?_) ?_
  · have kz : valueAt kvs 2 = none := by simp only [kn, ne_eq, Int.reduceEq, not_false_eq_true]
    rcases hr with rfl | rfl | rfl <;> k_steps
    all_goals first
      | exact hq _ _ _ _ (by assumption) (cb_drop (by assumption) (fun _ hp => List.mem_cons_of_mem _ hp)) (by assumption) (cut_yes hz rfl)
      | exact hq _ _ _ _ (by assumption) (by assumption) (by assumption) (cut_yes hz rfl)
      | exact hq _ _ _ _ (by assumption) (by assumption) (by assumption) (cut_no hz kz rfl)
  clear F1 N1 hD hz
  intro h0' tk0' o0 kvs0 F1 N1 hD hz b0 e0
  refine cut_o F1 N1 hD hz (by decide) 70 (decide (refresh = 4)) (fun Q' hq => ?_) ?_
  · have kz : valueAt kvs0 70 = none := by simp only [kn, e0, ne_eq, Int.reduceEq, not_false_eq_true]
    rcases hr with rfl | rfl | rfl <;> k_steps
    all_goals first
      | exact hq _ _ _ _ (by assumption) (cb_drop (by assumption) (fun _ hp => List.mem_cons_of_mem _ hp)) (by assumption) (cut_yes hz rfl)
      | exact hq _ _ _ _ (by assumption) (by assumption) (by assumption) (cut_yes hz rfl)
      | exact hq _ _ _ _ (by assumption) (by assumption) (by assumption) (cut_no hz kz rfl)
  clear F1 N1 hD hz
  intro h1' tk1' o1 kvs1 F1 N1 hD hz b1 e1
  refine cut_o F1 N1 hD hz (by decide) 6 large (fun Q' hq => ?_) ?_
  · have kz : valueAt kvs1 6 = none := by simp only [kn, e0, e1, ne_eq, Int.reduceEq, not_false_eq_true]
    cases large <;> k_steps
    all_goals first
      | exact hq _ _ _ _ (by assumption) (cb_drop (by assumption) (fun _ hp => List.mem_cons_of_mem _ hp)) (by assumption) (cut_yes hz rfl)
      | exact hq _ _ _ _ (by assumption) (by assumption) (by assumption) (cut_yes hz rfl)
      | exact hq _ _ _ _ (by assumption) (by assumption) (by assumption) (cut_no hz kz rfl)
  clear F1 N1 hD hz
  intro h2' tk2' o2 kvs2 F1 N1 hD hz b2 e2
  refine cut_o F1 N1 hD hz (by decide) 65 octets (fun Q' hq => ?_) ?_
  · have kz : valueAt kvs2 65 = none := by simp only [kn, e0, e1, e2, ne_eq, Int.reduceEq, not_false_eq_true]
    cases octets <;> k_steps
    all_goals first
      | exact hq _ _ _ _ (by assumption) (cb_drop (by assumption) (fun _ hp => List.mem_cons_of_mem _ hp)) (by assumption) (cut_yes hz rfl)
      | exact hq _ _ _ _ (by assumption) (by assumption) (by assumption) (cut_yes hz rfl)
      | exact hq _ _ _ _ (by assumption) (by assumption) (by assumption) (cut_no hz kz rfl)
  clear F1 N1 hD hz
  intro h3' tk3' o3 kvs3 F1 N1 hD hz b3 e3
  refine cut_o F1 N1 hD hz (by decide) 185 more (fun Q' hq => ?_) ?_
  · have kz : valueAt kvs3 185 = none := by simp only [kn, e0, e1, e2, e3, ne_eq, Int.reduceEq, not_false_eq_true]
    cases more <;> k_steps
    all_goals first
      | exact hq _ _ _ _ (by assumption) (cb_drop (by assumption) (fun _ hp => List.mem_cons_of_mem _ hp)) (by assumption) (cut_yes hz rfl)
      | exact hq _ _ _ _ (by assumption) (by assumption) (by assumption) (cut_yes hz rfl)
      | exact hq _ _ _ _ (by assumption) (by assumption) (by assumption) (cut_no hz kz rfl)
  clear F1 N1 hD hz
  intro h4' tk4' o4 kvs4 F1 N1 hD hz b4 e4
  k_steps
  refine hret _ [_, _, _, _, _] _ _ (by assumption) (by assumption) (by walk_at "ORD") ?_
  refine ⟨_, _, _, kvs4, _, _, _, _, _, _, _, _, _, _, _, _, rfl, by k_mem, by k_mem, ⟨_, _, _, _, _, _, by k_mem, by k_mem, by k_mem, hD, lo⟩, ?_⟩
  constructor
  all_goals first
    | (simp only [e4, e3, e2, e1, e0, b4, b3, b2, b1, b0, k1, k5, kn, ne_eq, Int.reduceEq, not_false_eq_true, Option.isSome_none]; done)
-- kind: theorem
/-- the law's own text, its statements, its names -/
def lawD : Option Stmt := pw_br0002_01.main.body[21]?
def lawB : List Stmt := match lawD with | some (.FunctionDef _ _ body _ _ _ _ _ _ _) => body | _ => []
def lawS : Scope := match lawD with | some (.FunctionDef _ _ _ _ _ _ sc _ _ _) => sc | _ => {kind := .function, names := [], isGenerator := false, isCoroutine := false}
def lawSt (i : Nat) : Stmt := (lawB[i]?).getD (.Pass ⟨0, 0, 0, 0⟩)
abbrev lawE (L a : Addr) (cc : Value) : Env := envOfC (Str.ofString "law") lawS L a cc
abbrev lawA (L a : Addr) (cc : Value) : Around := callerA.deeper (lawE L a cc)
theorem lawB_eq : lawB = [lawSt 0, lawSt 1, lawSt 2, lawSt 3, lawSt 4, lawSt 5, lawSt 6, lawSt 7, lawSt 8, lawSt 9, lawSt 10, lawSt 11, lawSt 12, lawSt 13] := rfl
/-- a frame's map, of a name that it is known to hold -/
theorem fr_name {g h : Heap} {L : Addr} {m : Str → Option Value} {x : Str} {v : Value} (F : Fr g L h m) (e : m x = some v) : Fr g L h (fun y => if y = x then some v else m y) := by
  have : (fun y => if y = x then some v else m y) = m := by
    funext y
    by_cases hy : y = x
    · subst hy; simp [e]
    · simp [hy]
  rw [this]; exact F
theorem news_tail {g h : Heap} {L : Addr} {x : Addr × Obj} {W : Led} (N : News g L h (x :: W)) : News g L h W := News.pick N fun _ hp => List.mem_cons_of_mem _ hp
-- kind: theorem
/-- the law from its first loop on -/
def LawRest : Prop := ∀ (w : World) (L a : Addr) (cc : Value) (h₀ : Heap) (mean : ExcName → Option Value) (mg mb : Str → Option Value) (loose : List Str) (u : Str → Option Value) (W : Led) (s : Shared) (Q : Flow → Shared → Prop) (E : Value → Shared → Prop)
    (sl pl cl : Addr) (n3 : Nat) (c0 c1 c2 c3 c4 c5 c6 c7 c8 c9 c10 c11 c12 : Int) (x0 x1 x2 x3 x4 x5 x6 x7 x8 x9 x10 x11 x12 : Tok) (pco qco : Obj) (qv : Option Value) (late : Bool),
    Below callerA h₀ [] h₀ → (tp.heap_39 w.params).In h₀ → Top tp.view_39 loose mean mg mb h₀ →
    Fr h₀ L s.heap (fun y => if y = Str.ofString "cells" then some (.ref cl) else if y = Str.ofString "some" then some (.ref sl) else if y = Str.ofString "late" then some (.bool late) else u y) →
    News h₀ L s.heap ((sl, listOf #[] 0) :: (pl, listOf #[] 0) :: (cl, listOf #[.int c0 x0, .int c1 x1, .int c2 x2, .int c3 x3, .int c4 x4, .int c5 x5, .int c6 x6, .int c7 x7, .int c8 x8, .int c9 x9, .int c10 x10, .int c11 x11, .int c12 x12] n3) :: W) →
    @LT.lt Nat _ pl sl → @LT.lt Nat _ cl pl → (∀ p ∈ W, p.1 ≠ sl) → (∀ p ∈ W, p.1 ≠ pl) →
    (L + 1, pco) ∈ W → pco.data = .cell (some (.ref pl)) → (L + 1 + 1, qco) ∈ W → qco.data = .cell qv →
    (∀ h' tk m' W', Fr h₀ L h' m' → News h₀ L h' W' → Q (.ret (.bool true)) { s with heap := h', toks := tk }) →
    wpAny (model rw_br0002_01.row.prog w) (lawA L a cc) (execs [lawSt 3, lawSt 4, lawSt 5, lawSt 6, lawSt 7, lawSt 8, lawSt 9, lawSt 10, lawSt 11, lawSt 12, lawSt 13] (lawE L a cc)) Q E s
section
-- kind: macro-for D3_law
local macro_rules | `(tactic| walk_at "execs cons") => `(tactic| (k_here; (with_reducible show wpAny _ _ (execs (Stmt.For _ _ _ _ _ :: _) _) _ _ _); refine Halt.out ?_))
-- kind: theorem
set_option maxRecDepth 100000 in
set_option maxHeartbeats 8000000 in
theorem law_pre (hrest : LawRest) : rw_br0002_01.Holds := tp (by
  w_top off
  k_go0
  all_goals try k_fold
  k_steps
  rename News _ _ _ _ => N9
  rename Fr _ _ _ _ => F9
  have N8 := law_repack N9
  have F8 := fr_name (x := Str.ofString "cells") (fr_name (x := Str.ofString "some") (fr_name (x := Str.ofString "late") F9 rfl) rfl) rfl
  rename IntsAre _ (_ ++ _) => hI9
  obtain ⟨c0, c1, c2, c3, c4, c5, c6, c7, c8, c9, c10, c11, c12, t0, t1, t2, t3, t4, t5, t6, t7, t8, t9, t10, t11, t12, e9⟩ := cells13 hI9 (cells_len _ _ _ rfl)
  subst e9
  clear hI9
  refine Halt.in ?_
  refine' hrest _ _ _ _ _ _ _ _ _ _ _ _ _ _ _ _ _ _ c0 c1 c2 c3 c4 c5 c6 c7 c8 c9 c10 c11 c12 t0 t1 t2 t3 t4 t5 t6 t7 t8 t9 t10 t11 t12 _ _ _ _ ?B ?X ?T F8 N8 ?a1 ?a2 ?a3 ?a4 ?a5 ?a6 ?a7 ?a8 ?h
  case B => first | assumption
  case X => first | assumption
  case T => first | assumption
  case a1 => first | assumption | (dsimp only; omega) | omega
  case a2 => first | assumption | (dsimp only; omega) | omega
  case a3 => first | exact List.forall_mem_cons.mpr ⟨Nat.ne_of_lt (by (dsimp only; omega)), List.forall_mem_cons.mpr ⟨Nat.ne_of_lt (by (dsimp only; omega)), List.forall_mem_nil _⟩⟩
  case a4 => first | exact List.forall_mem_cons.mpr ⟨Nat.ne_of_lt (by (dsimp only; omega)), List.forall_mem_cons.mpr ⟨Nat.ne_of_lt (by (dsimp only; omega)), List.forall_mem_nil _⟩⟩
  case a5 => first | k_mem
  case a6 => first | assumption
  case a7 => first | k_mem
  case a8 => first | assumption
  case h =>
    clear F9 N9 F8 N8
    intro h' tk m' W' F9 N9
    k_steps)
end
-- kind: macro
local macro_rules | `(tactic| walk_at "call ref") => `(tactic| (k_here; k_dflt ((show wpAny _ _ (call (Value.ref 298) _) _ _ _); (refine' con_use (joined_c _ _ _ _ _ _ ?p1 ?p2) ?k1 ?k2 ?k3 ?k4 ?k5 ?kK ?kR ?kd ?ku ?_); (case k1 => k_asm); (case k2 => k_asm); (case k3 => k_asm); (case k4 => k_asm); (case k5 => k_asm); (case kK => first | exact rfl | assumption); (case kR => refine ⟨?c8, ?c9⟩; (case c8 => walk_at "OPEN"); (case c9 => walk_at "OPEN")); (case p1 => assumption); (case p2 => assumption); (case kd => ktr_room); (case ku => ktr_units); intro r9 tl9 h9 tk9 F9 N9 lt9 ho9; (try dsimp only); (try k_fold))))
-- kind: theorem
/-- a sort's questions answered by a pure order -/
def kasRun {α : Type} (lt : Nat → Nat → Bool) : KasT α → α
  | .ret a => a
  | .ask i j k => kasRun lt (k (lt i j))
def kasOk {α : Type} (n : Nat) (lt : Nat → Nat → Bool) : KasT α → Bool
  | .ret _ => true
  | .ask i j k => decide (i < n) && decide (j < n) && kasOk n lt (k (lt i j))
theorem kasRun_wp {α : Type} {cmp : Nat → Nat → (Bool → Shared → Prop) → Shared → Prop} {n : Nat} {lt : Nat → Nat → Bool} {Q : α → Shared → Prop} {s : Shared} (hc : ∀ i j (C : Bool → Shared → Prop), i < n → j < n → C (lt i j) s → cmp i j C s) :
    ∀ t : KasT α, kasOk n lt t = true → Q (kasRun lt t) s → t.kasWp cmp Q s
  | .ret _, _, h => h
  | .ask i j k, ho, h => by
    simp only [kasOk, Bool.and_eq_true, decide_eq_true_eq] at ho
    exact hc i j _ ho.1.1 ho.1.2 (kasRun_wp hc (k (lt i j)) ho.2 h)
def famLt (a b : Fam) : Bool := if (a.1 == b.1) = true then (if (a.2 == b.2) = true then false else decide (a.2 < b.2)) else decide (a.1 < b.1)
def ltR (R : List Fam) (i j : Nat) : Bool := famLt (R.getD i (0, 0)) (R.getD j (0, 0))
/-- a row sorted -/
def srt (R : List Fam) : List Fam := [(1, 1), (1, 2), (1, 133), (2, 1)].filter (· ∈ R)
def rowsN : Nat → List (List Fam)
  | 0 => [[]]
  | n + 1 => [] :: fams4.flatMap fun a => (rowsN n).map (a :: ·)
theorem mem_rowsN : ∀ (n : Nat) (R : List Fam), R.length ≤ n → (∀ f ∈ R, f ∈ fams4) → R ∈ rowsN n
  | 0, [], _, _ => List.mem_singleton.mpr rfl
  | 0, _ :: _, h, _ => absurd h (Nat.not_succ_le_zero _)
  | n + 1, [], _, _ => List.mem_cons_self
  | n + 1, a :: R, h, hf => List.mem_cons_of_mem _ (List.mem_flatMap.mpr ⟨a, hf a (.head _), List.mem_map.mpr ⟨R, mem_rowsN n R (Nat.le_of_succ_le_succ h) fun f hm => hf f (.tail _ hm), rfl⟩⟩)
def sortGood (R : List Fam) : Bool :=
  kasOk R.length (ltR R) (kas_sort R.length) && (kasRun (ltR R) (kas_sort R.length)).toList.all (fun i => decide (i < R.length)) && ((kasRun (ltR R) (kas_sort R.length)).toList.map (fun i => R.getD i (0, 0)) == srt R)
theorem sort_all : ((rowsN 4).all fun R => !decide R.Nodup || (if R.length < 2 then srt R == R else sortGood R)) = true := by decide +kernel
theorem row_in_all {R : List Fam} (h : RowOk R) : (if R.length < 2 then srt R == R else sortGood R) = true := by
  have h2 := nodup_len h.1 h.2
  have h3 : fams4.length = 4 := rfl
  have := List.all_eq_true.mp sort_all R (mem_rowsN 4 R (by omega) h.2)
  simpa [h.1] using this
section
variable {prog : Program} {w : World} {A : Around} {E : Value → Shared → Prop} {s : Shared} {h₀ : Heap} {L l : Addr} {m : Str → Option Value} {news n₁ : Led} {vs : List Value} {R : List Fam}
theorem fam_open {v : Value} {f : Fam} (h : DatIn news v (fdat f)) : ∃ a k t u, v = .ref a ∧ (a, ({ cls := .type "tuple", data := .seq #[.int f.1 t, .int f.2 u] k } : Obj)) ∈ news := by
  obtain ⟨x, y⟩ := f
  cases h with
  | tuple hm r =>
    cases r with
    | cons h1 r =>
      cases r with
      | cons h2 r =>
        cases r
        cases h1
        cases h2
        exact ⟨_, _, _, _, rfl, hm⟩
theorem fam_tups {h : Heap} (N : News h₀ L h news) : ∀ {vs : List Value} {R : List Fam}, DatAll news vs (R.map fdat) → ∃ fs, KatTups h vs fs ∧ fs.length = R.length ∧ ∀ v ∈ fs, ∃ i t, v = Value.int i t
  | [], [], _ => ⟨[], trivial, rfl, fun _ h => nomatch h⟩
  | [], _ :: _, h => by cases h
  | _ :: _, [], h => by cases h
  | v :: vs, f :: R, h => by
    cases h with
    | cons h r =>
      obtain ⟨fs, q1, q2, q3⟩ := fam_tups N r
      obtain ⟨a, k, t, u, rfl, hm⟩ := fam_open h
      refine ⟨.int f.1 t :: fs, KatTups.cons (N.get hm) rfl rfl rfl q1, by simp [q2], ?_⟩
      intro v hv
      rcases List.mem_cons.mp hv with rfl | hv
      · exact ⟨_, _, rfl⟩
      · exact q3 v hv
theorem dat_getD (h : DatAll news vs (R.map fdat)) {i : Nat} (hi : i < R.length) : DatIn news (vs.getD i Value.none) (fdat (R.getD i (0, 0))) := by
  obtain ⟨v, hv, hd⟩ := h.get (k := i) (by rw [List.length_map]; exact hi)
  rw [List.getElem_map] at hd
  rw [List.getD_eq_getElem?_getD, hv, List.getD_eq_getElem?_getD, List.getElem?_eq_getElem hi]
  exact hd
theorem dat_pick (h : DatAll news vs (R.map fdat)) : ∀ p : List Nat, (∀ i ∈ p, i < R.length) → DatAll news (p.map fun i => vs.getD i Value.none) ((p.map fun i => R.getD i (0, 0)).map fdat)
  | [], _ => .nil
  | i :: p, hp => .cons (dat_getD h (hp i (.head _))) (dat_pick h p fun j hj => hp j (.tail _ hj))
theorem fam_ask {b : Bool} {C : Bool → Shared → Prop} (hb : b = true) (N : News h₀ L s.heap news) (D : DatAll news vs (R.map fdat)) {i j : Nat} (hi : i < R.length) (hj : j < R.length) (h : C (ltR R i j) s) : kas_ask prog w A (tuples' b) vs i j C s := by
  unfold kas_ask
  obtain ⟨a1, k1, t1, u1, e1, m1⟩ := fam_open (dat_getD D hi)
  obtain ⟨a2, k2, t2, u2, e2, m2⟩ := fam_open (dat_getD D hj)
  rw [e1, e2]
  unfold ltR famLt at h
  revert h
  generalize R.getD i (0, 0) = f at m1
  generalize R.getD j (0, 0) = g at m2
  intro h
  subst hb
  refine kat_lt (N.get m1) rfl (N.get m2) rfl ?_
  refine kat_cons (wpAny_eqBool_int ?_)
  by_cases hx : (f.1 == g.1) = true
  · rw [if_pos hx] at h
    rw [hx]
    refine kat_yes (kat_cons (wpAny_eqBool_int ?_))
    by_cases hy : (f.2 == g.2) = true
    · rw [if_pos hy] at h
      rw [hy]
      exact kat_yes (kat_nil h)
    · rw [if_neg hy] at h
      rw [Bool.not_eq_true] at hy
      rw [hy]
      refine kat_no ?_
      show wpAny _ _ (oneLt' false _ _) _ _ _
      exact kat_one _ _ (lt_int (show PySem.W.BoolBack C (Value.bool _) s from h))
  · rw [if_neg hx] at h
    rw [Bool.not_eq_true] at hx
    rw [hx]
    refine kat_no ?_
    show wpAny _ _ (oneLt' true _ _) _ _ _
    exact oneLt_int h
theorem zip_snd : ∀ l : List Value, (l.zip l).map (fun x => x.2) = l
  | [] => rfl
  | _ :: l => congrArg _ (zip_snd l)
/-- a row of at most one item, sorted -/
theorem small_list {a : Addr} {k : Nat} {P : PySem.Fin → Shared → Prop} (ho : s.heap.get? a = some (seqObj "list" vs.toArray k)) (h2 : vs.length < 2)
    (h : P (.done (.ret .none)) { s with heap := sortedHeap s.heap a vs vs.toArray }) : wpAny (model prog w) A (Builtin.«list.sort» ⟨[.ref a], []⟩) P E s := by
  have lt := Heap.lt_size ho
  have hz : vs.toArray.size < 2 := by rw [List.size_toArray]; exact h2
  have hl : vs.length ≤ sizeLine := by rw [sizeLine_eq]; omega
  obtain ⟨e1, ho1⟩ : ∃ e1, (s.heap.update a (Obj.mapSeq fun _ => (#[] : Array Value))).get? a = some (seqObj "list" #[] e1) := ⟨_, get?_update_seq ho fun _ => #[]⟩
  have ho2 : (((s.heap.update a (Obj.mapSeq fun _ => (#[] : Array Value))).push (seqObj "tuple" vs.toArray 0)).push (seqObj "list" #[] 0)).get? a = some (seqObj "list" #[] e1) :=
    Heap.get?_push_of_some _ (Heap.get?_push_of_some _ ho1)
  have hout : (arrOf (SortSt.mk' general' (vs.toArray.zip vs.toArray) #[] 7 none)).map (·.2) = vs.toArray := by
    show (vs.toArray.zip vs.toArray).map (·.2) = vs.toArray
    apply Array.toList_inj.mp
    rw [Array.toList_map]
    simp only [Array.toList_zip]
    exact zip_snd vs
  rw [list_sort_plain]
  refine wpAny_bind (listItems_at ho rfl ?_)
  refine wpAny_bind (listUpdate_at ho rfl ?_ (by rw [List.size_toArray]; exact hl) (Nat.zero_le _))
  refine wpAny_bind (seqEpoch_at ho1 rfl ?_)
  refine wpAny_bind (wpAny_newTuple ?_ (by show vs.length ≤ _; exact hl))
  refine wpAny_bind (wpAny_newList ?_ (Nat.zero_le _))
  refine wpAny_holding ?_
  show wpAny (model prog w) A _ P E { s with heap := ((s.heap.update a (Obj.mapSeq fun _ => (#[] : Array Value))).push (seqObj "tuple" vs.toArray 0)).push (seqObj "list" #[] 0) }
  dsimp only
  rw [if_pos hz, if_pos hz]
  refine wpAny_bind (wpAny_pure ?_)
  rw [StateT.run_pure]
  refine wpAny_bind (wpAny_pure ?_)
  dsimp only
  refine wpAny_bind (seqEpoch_at ho2 rfl ?_)
  rw [hout]
  refine wpAny_bind (listUpdate_at ho2 rfl ?_ (Nat.zero_le _) (by rw [List.size_toArray]; exact Nat.le_succ_of_le hl))
  simp only [bne_self_eq_false, Bool.false_eq_true, if_false]
  exact wpAny_pure h
theorem small_sorted {Q : Value → Shared → Prop} (F : Fr h₀ L s.heap m) (N : News h₀ L s.heap news) (hl : s.heap.IsList l vs.toArray) (h2 : vs.length < 2)
    (h : ∀ D c h', Fr h₀ L h' m → News h₀ L h' ((D, listOf vs.toArray c) :: news) → Q (.ref D) { s with heap := h' }) : wpAny (model prog w) A (call (.builtin "sorted") [.ref l]) Q E s := by
  have hz : vs.length ≤ sizeLine := by rw [sizeLine_eq]; omega
  refine Calls.call_function_entry kind_sorted plain_sorted entry_sorted (args_sorted1 _) ?_
  unfold Builtin.«sorted»
  refine wpAny_bind (m := checkCount "sorted" 1 1 _) (wpAny_pure ?_)
  refine wpAny_bind (collect_list hl ?_ hz)
  refine wpAny_bind (wpAny_newList ?_ hz)
  have hsz : ((s.heap.push (seqObj "list" #[] 0)).update s.heap.objs.size (Obj.mapSeq (· ++ vs.toArray))).objs.size = s.heap.objs.size + 1 := by
    rw [Heap.size_update, size_push']
  have hoL : (((s.heap.push (seqObj "list" #[] 0)).update s.heap.objs.size (Obj.mapSeq (· ++ vs.toArray))).push (seqObj "list" vs.toArray 0)).get? (s.heap.objs.size + 1) = some (seqObj "list" vs.toArray 0) := by
    rw [← hsz]; exact Heap.get?_push_size _ rfl
  show wpAny _ _ _ _ _ { s with heap := ((s.heap.push (seqObj "list" #[] 0)).update s.heap.objs.size (Obj.mapSeq (· ++ vs.toArray))).push (seqObj "list" vs.toArray 0) }
  rw [hsz]
  obtain ⟨e, he⟩ := sortedAll_at s.heap vs vs.toArray
  refine wpAny_bind (wpAny_holding (wpAny_call_entry slot_list_sort ⟨_, hoL, rfl⟩ entry_list_sort (small_list hoL h2 ⟨_, rfl, ?_⟩) (args_list_sort _)))
  exact wpAny_pure ⟨_, rfl, h _ e _ (F.kept fun _ _ => sortedAll_old) (N.kept_cons F (fun _ _ => sortedAll_old) (Nat.le_succ _) he)⟩
/-- a row sorted -/
theorem row_sorted {Q : Value → Shared → Prop} (F : Fr h₀ L s.heap m) (N : News h₀ L s.heap news) (hR : RowAt news l R) (hok : RowOk R)
    (h : ∀ D h' W', Fr h₀ L h' m → News h₀ L h' (W' ++ news) → RowAt (W' ++ news) D (srt R) → Q (.ref D) { s with heap := h' }) : wpAny (model prog w) A (call (.builtin "sorted") [.ref l]) Q E s := by
  obtain ⟨vs, k, hm, hD⟩ := hR
  have good := row_in_all hok
  have hlen : vs.length = R.length := by rw [hD.length, List.length_map]
  by_cases h2 : R.length < 2
  · rw [if_pos h2, beq_iff_eq] at good
    refine small_sorted F N (N.isList hm) (by omega) fun D c h' F' N' => h D h' [(D, listOf vs.toArray c)] F' N' ⟨vs, c, .head _, ?_⟩
    rw [good]
    exact hD.mono fun _ h => .tail _ h
  · rw [if_neg h2] at good
    simp only [sortGood, Bool.and_eq_true, beq_iff_eq, List.all_eq_true, decide_eq_true_eq] at good
    obtain ⟨⟨g1, g2⟩, g3⟩ := good
    have hz := row_len hok hD
    refine kat_sorted F N (N.isList hm) (by omega) (by omega) fun D e1 h' F' N' lt => ?_
    have N0 : News h₀ L h' news := News.pick N' fun _ hp => List.mem_cons_of_mem _ hp
    obtain ⟨fs, q1, q2, q3⟩ := fam_tups N0 hD
    refine kat_kind (T := Value.type "int") (s := { s with heap := h' }) q1 (by omega) (fun v hv => ?_) rfl ?_
    · obtain ⟨i, t, rfl⟩ := q3 v hv
      exact Looks.of_pure rfl
    · rw [hlen]
      refine kasRun_wp (n := R.length) (lt := ltR R) (fun i j C hi hj hC => fam_ask rfl N0 hD hi hj hC) _ g1 ?_
      refine KasFin.intro F' N' (UpdF.head fun p hp => Nat.ne_of_lt (lt p hp)) fun h'' c F'' N'' => h D h'' [_] F'' N'' ⟨_, c, .head _, ?_⟩
      have := (dat_pick hD _ g2).mono (news' := (D, listOf (List.toArray ((kasRun (ltR R) (kas_sort R.length)).toList.map fun i => vs.getD i Value.none)) c) :: news) fun _ h => .tail _ h
      rw [g3] at this
      exact this
end
-- kind: theorem
/-- what a told tuple reads as -/
def partD (P : Part) : PyData := .tuple [.int P.sec, .list (kqdPs (P.fams.map fdat)), .list (kqdPs (P.hops.map fdat)), .int P.refresh, .bool P.large, .bool P.octets, .bool P.more]
theorem partD_ok (P : Part) : SeqAt.shaped (partD P) = true := by
  have h1 := kqd_layL (fdats_ok P.fams 7)
  have h2 := kqd_layL (fdats_ok P.hops 7)
  have a1 := h1.2
  have a2 := h2.2
  refine Bool.and_eq_true_iff.mpr ⟨?_, decide_eq_true ?_⟩
  · simp only [partD, PyData.canLay0, PyData.canLayAll0, h1.1, h2.1, Bool.and_self]
  · simp only [partD, PyData.depth, PyData.depthAll]
    omega
theorem rowD_ok (R : List Fam) : SeqAt.shaped (.list (kqdPs (R.map fdat))) = true := by
  have h1 := kqd_layL (fdats_ok R 7)
  have a1 := h1.2
  refine Bool.and_eq_true_iff.mpr ⟨?_, decide_eq_true ?_⟩
  · simp only [PyData.canLay0, h1.1]
  · simp only [PyData.depth]
    omega
section
variable {prog : Program} {w : World} {A : Around} {E : Value → Shared → Prop} {s : Shared} {h₀ : Heap} {L l : Addr} {m : Str → Option Value} {news n₁ n₂ : Led} {P P' : Part} {R : List Fam} {u v : Value}
theorem row_reads {h : Heap} (N : News h₀ L h news) (hR : RowAt n₁ l R) (hs : ∀ p ∈ n₁, p ∈ news) : ∃ as, Reads h (.ref l) (.list (kqdPs (R.map fdat))) as := by
  obtain ⟨vs, n, hm, hD⟩ := hR
  obtain ⟨as, r⟩ := kqd_all N 8 (hD.mono hs) (fdats_ok R 7)
  exact ⟨_, reads_list_at (N.get (hs _ hm)) rfl rfl (by simpa using r)⟩
theorem told_reads {h : Heap} (N : News h₀ L h news) (hT : ToldAt n₁ v P) (hs : ∀ p ∈ n₁, p ∈ news) : ∃ as, Reads h v (partD P) as := by
  obtain ⟨a, fa, ha, t1, t2, rfl, hm, r1, r2⟩ := hT
  obtain ⟨as1, q1⟩ := row_reads N r1 hs
  obtain ⟨as2, q2⟩ := row_reads N r2 hs
  exact ⟨_, reads_tuple_at (N.get (hs _ hm)) rfl rfl (.cons (Reads.int _ _) (.cons q1 (.cons q2 (.cons (Reads.int _ _) (.cons (Reads.bool _) (.cons (Reads.bool _) (.cons (Reads.bool _) .nil)))))))⟩
theorem same_ne {as bs : List Addr} {d : PyData} {Q : Value → Shared → Prop} (ra : Reads s.heap u d as) (rb : Reads s.heap v d bs) (hd : SeqAt.shaped d = true) (hu : A.units + 64 < cLine) (h : Q (.bool false) s) : wpAny (model prog w) A (compareOp .NotEq u v) Q E s :=
  ne_dataH ra rb hd hd hu (by rw [SeqAt.eqv_refl d (SeqAt.canLay_of_shaped hd)]; exact h)
theorem same_eq {as bs : List Addr} {d : PyData} {Q : Value → Shared → Prop} (ra : Reads s.heap u d as) (rb : Reads s.heap v d bs) (hd : SeqAt.shaped d = true) (hu : A.units + 64 < cLine) (h : Q (.bool true) s) : wpAny (model prog w) A (compareOp .Eq u v) Q E s :=
  eq_dataH ra rb hd hd hu (by rw [SeqAt.eqv_refl d (SeqAt.canLay_of_shaped hd)]; exact h)
theorem told_ne {Q : Value → Shared → Prop} (N : News h₀ L s.heap news) (T1 : ToldAt n₁ u P) (s1 : ∀ p ∈ n₁, p ∈ news) (T2 : ToldAt n₂ v P') (s2 : ∀ p ∈ n₂, p ∈ news) (e : P = P') (hu : A.units + 64 < cLine) (h : Q (.bool false) s) : wpAny (model prog w) A (compareOp .NotEq u v) Q E s := by
  subst e
  obtain ⟨as, ra⟩ := told_reads N T1 s1
  obtain ⟨bs, rb⟩ := told_reads N T2 s2
  exact same_ne ra rb (partD_ok P) hu h
theorem told_eq {Q : Value → Shared → Prop} (N : News h₀ L s.heap news) (T1 : ToldAt n₁ u P) (s1 : ∀ p ∈ n₁, p ∈ news) (T2 : ToldAt n₂ v P') (s2 : ∀ p ∈ n₂, p ∈ news) (e : P = P') (hu : A.units + 64 < cLine) (h : Q (.bool true) s) : wpAny (model prog w) A (compareOp .Eq u v) Q E s := by
  subst e
  obtain ⟨as, ra⟩ := told_reads N T1 s1
  obtain ⟨bs, rb⟩ := told_reads N T2 s2
  exact same_eq ra rb (partD_ok P) hu h
theorem row_ne {l' : Addr} {R' : List Fam} {Q : Value → Shared → Prop} (N : News h₀ L s.heap news) (T1 : RowAt n₁ l R) (s1 : ∀ p ∈ n₁, p ∈ news) (T2 : RowAt n₂ l' R') (s2 : ∀ p ∈ n₂, p ∈ news) (e : R = R') (hu : A.units + 64 < cLine) (h : Q (.bool false) s) : wpAny (model prog w) A (compareOp .NotEq (.ref l) (.ref l')) Q E s := by
  subst e
  obtain ⟨as, ra⟩ := row_reads N T1 s1
  obtain ⟨bs, rb⟩ := row_reads N T2 s2
  exact same_ne ra rb (rowD_ok R) hu h
end
/-- the plain law -/
theorem part_ext {P Q : Part} (h1 : P.sec = Q.sec) (h2 : P.fams = Q.fams) (h3 : P.hops = Q.hops) (h4 : P.refresh = Q.refresh) (h5 : P.large = Q.large) (h6 : P.octets = Q.octets) (h7 : P.more = Q.more) : P = Q := by
  cases P; cases Q; cases h1; cases h2; cases h3; cases h4; cases h5; cases h6; cases h7; rfl
theorem min_self' (x : Int) : min x x = x := by omega
theorem filt_self (R : List Fam) : R.filter (· ∈ R) = R := List.filter_eq_self.mpr fun a h => decide_eq_true h
theorem tell_self (P : Part) : tell P P = P :=
  part_ext (min_self' _) (filt_self _) (filt_self _) (min_self' _) (Bool.and_self _) (Bool.and_self _) (Bool.and_self _)
theorem filt_mem {R S T : List Fam} (h : ∀ f ∈ R, (f ∈ S ↔ f ∈ T)) : R.filter (· ∈ S) = R.filter (· ∈ T) := List.filter_congr fun f hf => by
  by_cases hs : f ∈ S
  · rw [decide_eq_true hs, decide_eq_true ((h f hf).mp hs)]
  · rw [decide_eq_false hs, decide_eq_false fun x => hs ((h f hf).mpr x)]
theorem filt_all {R S : List Fam} (h : ∀ f ∈ R, f ∈ S) : R.filter (· ∈ S) = R := List.filter_eq_self.mpr fun f hf => decide_eq_true (h f hf)
theorem filt_in {f : Fam} {R S : List Fam} : f ∈ R.filter (· ∈ S) ↔ f ∈ R ∧ f ∈ S := by rw [List.mem_filter, decide_eq_true_eq]
theorem tell_right (P R : Part) : tell R (tell P R) = tell P R := by
  refine part_ext ?_ (filt_all fun f hf => (filt_in.mp hf).1) (filt_all fun f hf => (filt_in.mp hf).1) ?_ ?_ ?_ ?_
  · show min R.sec (min P.sec R.sec) = min P.sec R.sec; omega
  · show min R.refresh (min P.refresh R.refresh) = min P.refresh R.refresh; omega
  · show (R.large && (P.large && R.large)) = (P.large && R.large); cases P.large <;> cases R.large <;> rfl
  · show (R.octets && (P.octets && R.octets)) = (P.octets && R.octets); cases P.octets <;> cases R.octets <;> rfl
  · show (R.more && (P.more && R.more)) = (P.more && R.more); cases P.more <;> cases R.more <;> rfl
theorem tell_left (P R : Part) : tell P (tell P R) = tell P R := by
  refine part_ext ?_ (filt_all fun f hf => (filt_in.mp hf).2) (filt_all fun f hf => (filt_in.mp hf).2) ?_ ?_ ?_ ?_
  · show min P.sec (min P.sec R.sec) = min P.sec R.sec; omega
  · show min P.refresh (min P.refresh R.refresh) = min P.refresh R.refresh; omega
  · show (P.large && (P.large && R.large)) = (P.large && R.large); cases P.large <;> cases R.large <;> rfl
  · show (P.octets && (P.octets && R.octets)) = (P.octets && R.octets); cases P.octets <;> cases R.octets <;> rfl
  · show (P.more && (P.more && R.more)) = (P.more && R.more); cases P.more <;> cases R.more <;> rfl
theorem filt_assoc (A B C : List Fam) : C.filter (· ∈ B.filter (· ∈ A)) = (C.filter (· ∈ B)).filter (· ∈ A) := by
  rw [List.filter_filter]
  refine List.filter_congr fun f _ => ?_
  by_cases h1 : f ∈ A <;> by_cases h2 : f ∈ B <;> simp [h1, h2]
theorem tell_assoc (P R S : Part) : tell (tell P R) S = tell P (tell R S) := by
  refine part_ext ?_ (filt_assoc _ _ _) (filt_assoc _ _ _) ?_ (Bool.and_assoc _ _ _) (Bool.and_assoc _ _ _) (Bool.and_assoc _ _ _)
  · show min (min P.sec R.sec) S.sec = min P.sec (min R.sec S.sec); omega
  · show min (min P.refresh R.refresh) S.refresh = min P.refresh (min R.refresh S.refresh); omega
theorem srt_comm (A B : List Fam) : srt (B.filter (· ∈ A)) = srt (A.filter (· ∈ B)) := filt_mem fun f _ => by rw [filt_in, filt_in]; exact And.comm
section
variable {prog : Program} {w : World} {A : Around} {E : Value → Shared → Prop} {s : Shared} {g : Heap} {L l : Addr} {news n₁ : Led} {v0 v1 v2 v3 v4 v5 v6 : Value} {n : Nat} {value slice : PySem.Expr} {u : Tok} {Q : Value → Shared → Prop}
theorem at4_0 (hm : (l, listOf #[v0, v1, v2, v3] n) ∈ n₁) (N : News g L s.heap news) (sb : ∀ p ∈ n₁, p ∈ news) (h : Q v0 s) (hs : subscripted slice false (.ref l) (.int 0 u) = operate [.ref l, .int 0 u] (getItem (.ref l) (.int 0 u)) := by with_unfolding_all rfl) (hg : ∀ r, letTemporaryGo value (.ref l) r = pure () := by intro _; with_unfolding_all rfl) :
    wpAny (model prog w) A (subscriptTail value slice (.ref l) (.int 0 u)) Q E s := my_item N (sb _ hm) (by decide) (by decide) rfl h hs hg
theorem at4_1 (hm : (l, listOf #[v0, v1, v2, v3] n) ∈ n₁) (N : News g L s.heap news) (sb : ∀ p ∈ n₁, p ∈ news) (h : Q v1 s) (hs : subscripted slice false (.ref l) (.int 1 u) = operate [.ref l, .int 1 u] (getItem (.ref l) (.int 1 u)) := by with_unfolding_all rfl) (hg : ∀ r, letTemporaryGo value (.ref l) r = pure () := by intro _; with_unfolding_all rfl) :
    wpAny (model prog w) A (subscriptTail value slice (.ref l) (.int 1 u)) Q E s := my_item N (sb _ hm) (by decide) (by decide) rfl h hs hg
theorem at4_2 (hm : (l, listOf #[v0, v1, v2, v3] n) ∈ n₁) (N : News g L s.heap news) (sb : ∀ p ∈ n₁, p ∈ news) (h : Q v2 s) (hs : subscripted slice false (.ref l) (.int 2 u) = operate [.ref l, .int 2 u] (getItem (.ref l) (.int 2 u)) := by with_unfolding_all rfl) (hg : ∀ r, letTemporaryGo value (.ref l) r = pure () := by intro _; with_unfolding_all rfl) :
    wpAny (model prog w) A (subscriptTail value slice (.ref l) (.int 2 u)) Q E s := my_item N (sb _ hm) (by decide) (by decide) rfl h hs hg
theorem at4_3 (hm : (l, listOf #[v0, v1, v2, v3] n) ∈ n₁) (N : News g L s.heap news) (sb : ∀ p ∈ n₁, p ∈ news) (h : Q v3 s) (hs : subscripted slice false (.ref l) (.int 3 u) = operate [.ref l, .int 3 u] (getItem (.ref l) (.int 3 u)) := by with_unfolding_all rfl) (hg : ∀ r, letTemporaryGo value (.ref l) r = pure () := by intro _; with_unfolding_all rfl) :
    wpAny (model prog w) A (subscriptTail value slice (.ref l) (.int 3 u)) Q E s := my_item N (sb _ hm) (by decide) (by decide) rfl h hs hg
theorem at7_0 (hm : (l, ({ cls := .type "tuple", data := .seq #[v0, v1, v2, v3, v4, v5, v6] n } : Obj)) ∈ n₁) (N : News g L s.heap news) (sb : ∀ p ∈ n₁, p ∈ news) (h : Q v0 s) (hs : subscripted slice false (.ref l) (.int 0 u) = operate [.ref l, .int 0 u] (getItem (.ref l) (.int 0 u)) := by with_unfolding_all rfl) (hg : ∀ r, letTemporaryGo value (.ref l) r = pure () := by intro _; with_unfolding_all rfl) :
    wpAny (model prog w) A (subscriptTail value slice (.ref l) (.int 0 u)) Q E s := item_tuple (j := 0) (N.isTup (sb _ hm)) (by decide) (by decide) rfl rfl h hs hg
theorem at7_1 (hm : (l, ({ cls := .type "tuple", data := .seq #[v0, v1, v2, v3, v4, v5, v6] n } : Obj)) ∈ n₁) (N : News g L s.heap news) (sb : ∀ p ∈ n₁, p ∈ news) (h : Q v1 s) (hs : subscripted slice false (.ref l) (.int 1 u) = operate [.ref l, .int 1 u] (getItem (.ref l) (.int 1 u)) := by with_unfolding_all rfl) (hg : ∀ r, letTemporaryGo value (.ref l) r = pure () := by intro _; with_unfolding_all rfl) :
    wpAny (model prog w) A (subscriptTail value slice (.ref l) (.int 1 u)) Q E s := item_tuple (j := 1) (N.isTup (sb _ hm)) (by decide) (by decide) rfl rfl h hs hg
theorem at7_2 (hm : (l, ({ cls := .type "tuple", data := .seq #[v0, v1, v2, v3, v4, v5, v6] n } : Obj)) ∈ n₁) (N : News g L s.heap news) (sb : ∀ p ∈ n₁, p ∈ news) (h : Q v2 s) (hs : subscripted slice false (.ref l) (.int 2 u) = operate [.ref l, .int 2 u] (getItem (.ref l) (.int 2 u)) := by with_unfolding_all rfl) (hg : ∀ r, letTemporaryGo value (.ref l) r = pure () := by intro _; with_unfolding_all rfl) :
    wpAny (model prog w) A (subscriptTail value slice (.ref l) (.int 2 u)) Q E s := item_tuple (j := 2) (N.isTup (sb _ hm)) (by decide) (by decide) rfl rfl h hs hg
theorem at7_3 (hm : (l, ({ cls := .type "tuple", data := .seq #[v0, v1, v2, v3, v4, v5, v6] n } : Obj)) ∈ n₁) (N : News g L s.heap news) (sb : ∀ p ∈ n₁, p ∈ news) (h : Q v3 s) (hs : subscripted slice false (.ref l) (.int 3 u) = operate [.ref l, .int 3 u] (getItem (.ref l) (.int 3 u)) := by with_unfolding_all rfl) (hg : ∀ r, letTemporaryGo value (.ref l) r = pure () := by intro _; with_unfolding_all rfl) :
    wpAny (model prog w) A (subscriptTail value slice (.ref l) (.int 3 u)) Q E s := item_tuple (j := 3) (N.isTup (sb _ hm)) (by decide) (by decide) rfl rfl h hs hg
theorem at7_4 (hm : (l, ({ cls := .type "tuple", data := .seq #[v0, v1, v2, v3, v4, v5, v6] n } : Obj)) ∈ n₁) (N : News g L s.heap news) (sb : ∀ p ∈ n₁, p ∈ news) (h : Q v4 s) (hs : subscripted slice false (.ref l) (.int 4 u) = operate [.ref l, .int 4 u] (getItem (.ref l) (.int 4 u)) := by with_unfolding_all rfl) (hg : ∀ r, letTemporaryGo value (.ref l) r = pure () := by intro _; with_unfolding_all rfl) :
    wpAny (model prog w) A (subscriptTail value slice (.ref l) (.int 4 u)) Q E s := item_tuple (j := 4) (N.isTup (sb _ hm)) (by decide) (by decide) rfl rfl h hs hg
theorem at7_5 (hm : (l, ({ cls := .type "tuple", data := .seq #[v0, v1, v2, v3, v4, v5, v6] n } : Obj)) ∈ n₁) (N : News g L s.heap news) (sb : ∀ p ∈ n₁, p ∈ news) (h : Q v5 s) (hs : subscripted slice false (.ref l) (.int 5 u) = operate [.ref l, .int 5 u] (getItem (.ref l) (.int 5 u)) := by with_unfolding_all rfl) (hg : ∀ r, letTemporaryGo value (.ref l) r = pure () := by intro _; with_unfolding_all rfl) :
    wpAny (model prog w) A (subscriptTail value slice (.ref l) (.int 5 u)) Q E s := item_tuple (j := 5) (N.isTup (sb _ hm)) (by decide) (by decide) rfl rfl h hs hg
theorem at7_6 (hm : (l, ({ cls := .type "tuple", data := .seq #[v0, v1, v2, v3, v4, v5, v6] n } : Obj)) ∈ n₁) (N : News g L s.heap news) (sb : ∀ p ∈ n₁, p ∈ news) (h : Q v6 s) (hs : subscripted slice false (.ref l) (.int 6 u) = operate [.ref l, .int 6 u] (getItem (.ref l) (.int 6 u)) := by with_unfolding_all rfl) (hg : ∀ r, letTemporaryGo value (.ref l) r = pure () := by intro _; with_unfolding_all rfl) :
    wpAny (model prog w) A (subscriptTail value slice (.ref l) (.int 6 u)) Q E s := item_tuple (j := 6) (N.isTup (sb _ hm)) (by decide) (by decide) rfl rfl h hs hg
end
-- kind: theorem
section
open PyProof.Rows
variable {prog : Program} {w : World} {A : Around} {E : Value → Shared → Prop} {s : Shared} {h₀ : Heap} {L : Addr} {m : Str → Option Value} {news : Led}
theorem applied_one {sl : Addr} {u : Tok} {Q : Int × Int × Nat → Shared → Prop} (hs : s.heap.IsSliceOf sl .none (.int 1 u) .none) (h : Q (0, 1, 1) s) :
    wpAny (model prog w) A (Builtin.Slice.sliceApplied (.ref sl) (pure ((7 : Nat) : Int))) Q E s := by
  obtain ⟨os, hos, hcs, hds⟩ := id hs
  unfold Builtin.Slice.sliceApplied Builtin.Slice.sliceFields
  refine wpAny_bind (wpAny_bind (wpAny_field hos hds (x := .none) rfl (wpAny_bind (wpAny_field hos hds (x := .int 1 u) rfl (wpAny_bind (wpAny_field hos hds (x := .none) rfl (wpAny_pure ?_)))))))
  refine wpAny_bind (slicePart_none ?_)
  show wpAny _ _ (if ((1 : Int) == 0) = true then _ else _) _ _ s
  rw [if_neg (by decide)]
  refine wpAny_bind (slicePart_none (wpAny_bind (slicePart_int (wpAny_bind (wpAny_pure ?_)))))
  exact wpAny_pure h
theorem item_one {t sl : Addr} {v0 v1 v2 v3 v4 v5 v6 : Value} {u : Tok} {Q : Value → Shared → Prop} (ht : IsTup s.heap t #[v0, v1, v2, v3, v4, v5, v6]) (hs : s.heap.IsSliceOf sl .none (.int 1 u) .none)
    (h : Q (.ref s.heap.objs.size) { s with heap := s.heap.push { cls := .type "tuple", data := .seq #[v0] } }) : wpAny (model prog w) A (getItem (.ref t) (.ref sl)) Q E s := by
  have hz : sizeOk (.seq #[v0]) := by
    show 1 ≤ sizeLine
    rw [sizeLine_eq]; omega
  obtain ⟨os, hos, hcs, hds⟩ := id hs
  have hTs : s.TypeIs (.ref sl) "slice" := ⟨os, hos, hcs⟩
  unfold getItem
  try with_reducible refine wpAny_holding ?_
  first | refine wpAny_bind (wpAny_pure ?_) | skip
  refine wpAny_bind (wpAny_sequenceKey ht.typeIs (by decide) ?_)
  refine wpAny_bind (wpAny_callSpecial?_slot (name := Str.ofString "__getitem__") ht.typeIs slot_tuple_getitem
    (wpAny_call_entry slot_tuple_getitem ht.typeIs entry_tuple_getitem ?_ (args_tuple_getitem _ _)))
  show wpAny _ _ (Builtin.Tuple.tupleItemsOf (.ref t) >>= _) _ _ s
  refine wpAny_bind (tupleItemsOf_ ht ?_)
  refine wpAny_bind (wpAny_typeOf hTs ?_)
  rw [if_pos (by decide)]
  refine wpAny_bind (applied_one hs ?_)
  show wpAny _ _ (if ((0 : Int) == 0 && (1 : Int) == 1 && (1 : Nat) == 7) = true then _ else _) _ _ s
  rw [if_neg (by decide)]
  have e : ((List.range 1).filterMap fun (k : Nat) => #[v0, v1, v2, v3, v4, v5, v6][((0 : Int) + (k : Int) * 1).toNat]?).toArray = #[v0] := rfl
  rw [e]
  first
    | exact wpAny_bind (m := Builtin.Tuple.tupleExact _) (wpAny_newObj_type (wpAny_pure ⟨_, rfl, wpAny_pure h⟩) hz)
    | exact wpAny_bind (m := Builtin.Tuple.tupleExact _) (wpAny_newObj_type (wpAny_bind (wpAny_pure (wpAny_pure ⟨_, rfl, wpAny_pure h⟩))) hz)
    | exact wpAny_bind (wpAny_bind (m := Builtin.Tuple.tupleExact _) (wpAny_newObj_type (wpAny_pure (wpAny_pure ⟨_, rfl, wpAny_pure h⟩)) hz))
    | exact wpAny_bind (wpAny_bind (m := Builtin.Tuple.tupleExact _) (wpAny_newObj_type (wpAny_pure ⟨_, rfl, wpAny_pure h⟩) hz))
/-- «t[:1]» of a tuple of seven -/
theorem cut_one {value slice : PySem.Expr} {t : Addr} {n : Nat} {v0 v1 v2 v3 v4 v5 v6 : Value} {u : Tok} {Q : Value → Shared → Prop} (F : Fr h₀ L s.heap m) (N : News h₀ L s.heap news)
    (hm : (t, ({ cls := .type "tuple", data := .seq #[v0, v1, v2, v3, v4, v5, v6] n } : Obj)) ∈ news)
    (h : ∀ D h', Fr h₀ L h' m → News h₀ L h' ((D, ({ cls := .type "tuple", data := .seq #[v0] } : Obj)) :: news) → Q (.ref D) { s with heap := h' })
    (hs : subscripted slice false (.ref t) (.ref s.heap.objs.size) = operate [.ref s.heap.objs.size, .ref t] (getItem (.ref t) (.ref s.heap.objs.size)) := by with_unfolding_all rfl)
    (hg : ∀ r, letTemporaryGo value (.ref t) r = pure () := by intro _; with_unfolding_all rfl) :
    wpAny (model prog w) A (subscriptTail value slice (.ref t) (.ref s.heap.objs.size)) Q E { s with heap := s.heap.push { cls := .type "slice", data := .fields #[.none, .int 1 u, .none] } } := by
  have ht : IsTup s.heap t #[v0, v1, v2, v3, v4, v5, v6] := N.isTup hm
  have ht' : IsTup (s.heap.push { cls := .type "slice", data := .fields #[.none, .int 1 u, .none] }) t #[v0, v1, v2, v3, v4, v5, v6] := ht.keeps fun _ _ e => Heap.get?_push_of_some _ e
  refine subscriptTail_ops (s := { s with heap := s.heap.push { cls := .type "slice", data := .fields #[.none, .int 1 u, .none] } }) ht'.typeIs slot_tuple_getitem.lookup
    (item_one ht' (Heap.IsSliceOf.new ..) ?_) hs hg
  have N1 := News.push (F.push { cls := .type "slice", data := .fields #[.none, .int 1 u, .none] }) (N.grown fun _ _ e => Heap.get?_push_of_some _ e) { cls := .type "tuple", data := .seq #[v0] }
  exact h _ _ ((F.push _).push _) N1
/-- «t[3:]» of a tuple of seven -/
theorem cut_three {value slice : PySem.Expr} {t : Addr} {n : Nat} {v0 v1 v2 v3 v4 v5 v6 : Value} {u : Tok} {Q : Value → Shared → Prop} (F : Fr h₀ L s.heap m) (N : News h₀ L s.heap news)
    (hm : (t, ({ cls := .type "tuple", data := .seq #[v0, v1, v2, v3, v4, v5, v6] n } : Obj)) ∈ news)
    (h : ∀ D h', Fr h₀ L h' m → News h₀ L h' ((D, ({ cls := .type "tuple", data := .seq #[v3, v4, v5, v6] } : Obj)) :: news) → Q (.ref D) { s with heap := h' })
    (hs : subscripted slice false (.ref t) (.ref s.heap.objs.size) = operate [.ref s.heap.objs.size, .ref t] (getItem (.ref t) (.ref s.heap.objs.size)) := by with_unfolding_all rfl)
    (hg : ∀ r, letTemporaryGo value (.ref t) r = pure () := by intro _; with_unfolding_all rfl) :
    wpAny (model prog w) A (subscriptTail value slice (.ref t) (.ref s.heap.objs.size)) Q E { s with heap := s.heap.push { cls := .type "slice", data := .fields #[.int 3 u, .none, .none] } } :=
  slice_tuple_from (a := 3) F N (N.isTup hm) (by decide) (show 3 ≤ 7 by decide) (fun h' F' N' => h _ h' F' N') hs hg (show 7 ≤ sizeLine by rw [sizeLine_eq]; omega)
end
-- kind: theorem
section
open PyProof.Rows PyProof.Rows.LCg
theorem env_cell {M : Model} {A : Around} {E : Value → Shared → Prop} {s : Shared} {scope : Scope} {cl : List (Str × Addr)} {env : Env} {x : Str} {Q : Env → Shared → Prop} (hc : ∀ n, cellsFrom n scope.names cl = (x, n) :: cl)
    (hp : ∀ h : Heap, pushCells h scope.names = h.push { cls := .type "cell", data := .cell none })
    (h : Q { scope := scope, locals := s.heap.objs.size, globals := env.globals, cells := (x, s.heap.objs.size + 1) :: cl, qual := env.qual, func := none, code := env.code, frame := env.frame, builtins := env.builtins }
      { s with heap := (s.heap.push { cls := .type "dict", data := .dict #[] }).push { cls := .type "cell", data := .cell none } }) :
    wpAny M A (newFunctionEnv scope env.globals cl [] env.qual none .none (some env)) Q E s := by
  simp only [newFunctionEnv, Option.isSome_some, if_true]
  refine wpAny_bind (wpAny_alloc ?_)
  refine wpAny_bind (wpAny_layCells _ (fun name kind cells => by cases hkc : kind == NameKind.cell <;> simp [hkc]) _ _ _ _ ?_)
  rw [hc, hp]
  rw [show ({ s with heap := s.heap.push { cls := .type "dict", data := .dict #[] } } : Shared).heap.objs.size = s.heap.objs.size + 1 from Heap.size_push ..]
  rw [List.forIn_nil]
  exact wpAny_bind (wpAny_pure (wpAny_pure h))
theorem lookup_relabel_cell {env : Env} : ∀ {names : List (Str × NameKind)} {x : Str}, names.lookup x = some .cell →
    (names.map fun (n, k) => if (k == NameKind.free && env.scope.kind == .function && env.kindOf n == some .cell) then (n, NameKind.cell) else (n, k)).lookup x = some .cell
  | [], _, h => by cases h
  | (n, k) :: r, x, h => by
    rw [List.lookup_cons] at h
    rw [List.map_cons]
    dsimp only
    cases hx : x == n with
    | true =>
      rw [hx] at h
      cases h
      simp [List.lookup_cons, hx]
    | false =>
      rw [hx] at h
      by_cases hc : (k == NameKind.free && env.scope.kind == .function && env.kindOf n == some .cell) = true
      · rw [if_pos hc]; simp only [List.lookup_cons, hx]; exact lookup_relabel_cell h
      · rw [if_neg hc]; simp only [List.lookup_cons, hx]; exact lookup_relabel_cell h
variable {prog : Program} {w : World} {A : Around} {E : Value → Shared → Prop} {s : Shared} {env : Env} {h₀ : Heap} {L : Addr} {m : Str → Option Value}
/-- the test of one turn -/
def RowTest (prog : Program) (w : World) (A : Around) (env : Env) (h₀ : Heap) (L : Addr) (m : Str → Option Value) (ct : PySem.Expr) (x : Str) (scope : Scope) (cl : List (Str × Addr)) (R : List Fam) (p : Fam → Bool) (s₁ : Shared) (n₁ news : Led) : Prop :=
  ∀ (v : Value) (f : Fam) (I C c D : Addr) (oI oC oc : Obj) (ys : List Value) (n : Nat) (h : Heap) (tk : Nat) (Q' : Bool → Shared → Prop) (E' : Value → Shared → Prop), DatIn n₁ v (fdat f) → f ∈ R → oc.data = .cell (some v) → Fr h₀ L h m →
    News h₀ L h ((I, oI) :: (C, oC) :: (c, oc) :: (D, listOf (List.toArray ys) n) :: news) →
    (∀ h' tk', Fr h₀ L h' m → News h₀ L h' ((I, oI) :: (C, oC) :: (c, oc) :: (D, listOf (List.toArray ys) n) :: news) → Q' (p f) { s₁ with heap := h', toks := tk' }) →
    wpAny (model prog w) A (isTrue ct (compEnvC scope ((x, c) :: cl) C env) (eval ct (compEnvC scope ((x, c) :: cl) C env))) Q' E' { s₁ with heap := h, toks := tk }
/-- the source of such a comprehension, and what is wanted behind it -/
structure RowsEnd (prog : Program) (w : World) (A : Around) (env : Env) (h₀ : Heap) (L : Addr) (m : Str → Option Value) (ct : PySem.Expr) (x : Str) (scope : Scope) (cl : List (Str × Addr)) (Q : Value → Shared → Prop) (xv : Value) (s₁ : Shared) : Prop where
  ex : ∃ l R p n₁ news, xv = .ref l ∧ Fr h₀ L s₁.heap m ∧ News h₀ L s₁.heap news ∧ RowAt n₁ l R ∧ (∀ p ∈ n₁, p ∈ news) ∧ RowOk R ∧ (∀ s₂ : Shared, (∃ h, s₂ = { s₁ with heap := h }) → RowTest prog w A env h₀ L m ct x scope cl R p s₂ n₁ news) ∧
      (∀ D h' W tk, Fr h₀ L h' m → News h₀ L h' (W ++ news) → (∀ p ∈ W, ∀ q ∈ news, @LT.lt Nat _ q.1 p.1) → RowAt (W ++ n₁) D (R.filter p) → Q (.ref D) { s₁ with heap := h', toks := tk })
theorem RowsEnd.intro {ct : PySem.Expr} {x : Str} {scope : Scope} {cl : List (Str × Addr)} {Q : Value → Shared → Prop} {s₁ : Shared} {l : Addr} {n₁ news : Led} {R : List Fam} (p : Fam → Bool) (F : Fr h₀ L s₁.heap m) (N : News h₀ L s₁.heap news) (hR : RowAt n₁ l R) (hs : ∀ p ∈ n₁, p ∈ news) (ok : RowOk R)
    (test : ∀ g, RowTest prog w A env h₀ L m ct x scope cl R p { s₁ with heap := g } n₁ news)
    (h : ∀ D h' W tk, Fr h₀ L h' m → News h₀ L h' (W ++ news) → (∀ p ∈ W, ∀ q ∈ news, @LT.lt Nat _ q.1 p.1) → RowAt (W ++ n₁) D (R.filter p) → Q (.ref D) { s₁ with heap := h', toks := tk }) :
    RowsEnd prog w A env h₀ L m ct x scope cl Q (.ref l) s₁ := ⟨l, R, p, n₁, news, rfl, F, N, hR, hs, ok, fun _ ⟨g, e⟩ => e ▸ test g, h⟩
theorem comp_block {ct iter : PySem.Expr} {x : Str} {px px2 : Pos} {scope : Scope} {cl : List (Str × Addr)} {pos : Pos} {s₂ : Shared} {I l : Addr} {vs : List Value} {nn : Nat} {R : List Fam} {p : Fam → Bool} {n₁ news : Led} {RR : Value → Addr → Result → Shared → Prop}
    (hh : A.handled = none) (hc : ∀ n, cellsFrom n scope.names cl = (x, n) :: cl) (hp : ∀ h : Heap, pushCells h scope.names = h.push { cls := .type "cell", data := .cell none }) (hkind : scope.kind = .function) (hx : scope.names.lookup x = some .cell) (hxd : (x == ("__debug__" : Str)) = false)
    (hne : l ≠ I) (hit : s₂.heap.IsListIter I l 0) (hm : (l, listOf (List.toArray vs) nn) ∈ news) (hD : DatAll n₁ vs (R.map fdat)) (hz : vs.length ≤ sizeLine)
    (F : Fr h₀ L s₂.heap m) (N : News h₀ L s₂.heap news) (hIL : L ≠ I) (hI₀ : h₀.get? I = none) (off : ∀ p ∈ news, p.1 ≠ I) (test : RowTest prog w A env h₀ L m ct x scope cl R p s₂ n₁ news)
    (hRR : ∀ D C h tk m' ys n, Fr h₀ L h m → News h₀ L h ((D, listOf (List.toArray ys) n) :: news) → (∀ q ∈ news, @LT.lt Nat _ q.1 D) → h.Ns C m' → h₀.get? C = none → C ≠ L → C ≠ D → (∀ p ∈ news, p.1 ≠ C) → DatAll n₁ ys ((R.filter p).map fdat) → RR (.ref D) C (.ok .next) { s₂ with heap := h, toks := tk }) :
    wpAny (model prog w) A (newList []) (fun acc s₃ => wpAny (model prog w) A (newFunctionEnv scope env.globals cl [] env.qual none .none (some env)) (fun cenv s₄ =>
      codeAny (model prog w) A (.compStart (.ListComp (.Name x px2) [⟨.Name x px, iter, [ct], 0⟩] scope pos) 0 (.ref I) acc { cenv with scope := relabel scope env }) (RR acc cenv.locals) s₄) E s₃) E s₂ := by
  refine wpAny_newObj_type (env_cell hc hp ?_)
  dsimp only
  have hol := (N _ hm).1
  have hl : s₂.heap.IsList l (List.toArray vs) := N.isList hm
  have hllt : l < s₂.heap.objs.size := Heap.lt_size hol
  have hIlt : I < s₂.heap.objs.size := by obtain ⟨o, e, _⟩ := hit; exact Heap.lt_size e
  have hLlt : L < s₂.heap.objs.size := F.ns.lt
  have hlen : vs.length = R.length := by rw [hD.length, List.length_map]
  generalize hD' : s₂.heap.objs.size = D at hllt hIlt hLlt ⊢
  generalize hH1 : s₂.heap.push { cls := .type "list", dict := none, data := .seq ([] : List Value).toArray } = H1
  have hC : H1.objs.size = D + 1 := by rw [← hH1, Heap.size_push, hD']
  have hH1D : H1.get? D = some { cls := .type "list", dict := none, data := .seq ([] : List Value).toArray } := by rw [← hH1, ← hD']; exact Heap.get?_push_size _ rfl
  generalize hCg : H1.objs.size = C at hC ⊢
  generalize hH2 : H1.push { cls := .type "dict", data := .dict #[] } = H2
  have hH2C : H2.get? C = some { cls := .type "dict", data := .dict #[] } := by rw [← hH2, ← hCg]; exact Heap.get?_push_size _ rfl
  have hH2s : H2.objs.size = C + 1 := by rw [← hH2, Heap.size_push, hCg]
  generalize hH3 : H2.push { cls := .type "cell", data := .cell none } = H3
  have hH3c : H3.get? (C + 1) = some { cls := .type "cell", data := .cell none } := by rw [← hH3, ← hH2s]; exact Heap.get?_push_size _ rfl
  have up : ∀ b o, s₂.heap.get? b = some o → H3.get? b = some o := fun b o e => by
    rw [← hH3, ← hH2, ← hH1]; exact Heap.get?_push_of_some _ (Heap.get?_push_of_some _ (Heap.get?_push_of_some _ e))
  have hH3C : H3.get? C = some { cls := .type "dict", data := .dict #[] } := by rw [← hH3]; exact Heap.get?_push_of_some _ hH2C
  have hH3D : H3.get? D = some (listOf (List.toArray []) 0) := by rw [← hH3, ← hH2]; exact Heap.get?_push_of_some _ (Heap.get?_push_of_some _ hH1D)
  have nsC : H3.Ns C (fun _ => none) := by
    have := (Heap.Ns.new H1 (.type "dict"))
    rw [hCg, hH2] at this
    exact this.keeps fun b o e => by rw [← hH3]; exact Heap.get?_push_of_some _ e
  have fresh₀ : ∀ a, D ≤ a → h₀.get? a = none := fun a ha => by
    cases e : h₀.get? a with
    | none => rfl
    | some o' => exact absurd (Heap.lt_size (F.keep a o' e)) (Nat.not_lt.mpr (by rw [hD']; exact ha))
  have hD₀ : h₀.get? D = none := fresh₀ _ (Nat.le_refl _)
  have hC₀ : h₀.get? C = none := fresh₀ _ (by omega)
  have hc₀ : h₀.get? (C + 1) = none := fresh₀ _ (by omega)
  have nD : ∀ q ∈ news, @LT.lt Nat _ q.1 D := fun q hq => by rw [← hD']; exact Heap.lt_size (N q hq).1
  have neD : ∀ q ∈ news, @Ne Nat q.1 D := fun q hq => Nat.ne_of_lt (nD q hq)
  have neC : ∀ q ∈ news, @Ne Nat q.1 C := fun q hq => Nat.ne_of_lt (by have := nD q hq; show @LT.lt Nat _ q.1 C; omega)
  have nec : ∀ q ∈ news, @Ne Nat q.1 (C + 1) := fun q hq => Nat.ne_of_lt (by have := nD q hq; show @LT.lt Nat _ q.1 (C + 1); omega)
  have hDL : @Ne Nat D L := Nat.ne_of_gt hLlt
  have hCL : @Ne Nat C L := by intro e; have : @LT.lt Nat _ L D := hLlt; omega
  have hcL : @Ne Nat (C + 1) L := by intro e; have : @LT.lt Nat _ L D := hLlt; omega
  have hID : @Ne Nat I D := Nat.ne_of_lt hIlt
  have hIC : @Ne Nat I C := by intro e; have : @LT.lt Nat _ I D := hIlt; omega
  have hIc : @Ne Nat I (C + 1) := by intro e; have : @LT.lt Nat _ I D := hIlt; omega
  have hlc : @Ne Nat l (C + 1) := by intro e; have : @LT.lt Nat _ l D := hllt; omega
  have hlD : @Ne Nat l D := Nat.ne_of_lt hllt
  have hDc : @Ne Nat D (C + 1) := by omega
  have hDC : @Ne Nat D C := by omega
  have hCc : @Ne Nat C (C + 1) := by omega
  have W := Walks.list (prog := prog) (w := w) hh I l hne (List.toArray vs)
  rw [List.size_toArray] at W
  have hkc : (compEnvC scope ((x, C + 1) :: cl) C env).kindOf x = some .cell := lookup_relabel_cell hx
  have hcc : (compEnvC scope ((x, C + 1) :: cl) C env).cells.lookup x = some (C + 1) := by show List.lookup x ((x, C + 1) :: cl) = _; simp
  have hkk : (compEnvC scope ((x, C + 1) :: cl) C env).scope.kind = .function := hkind
  have loop : ∀ s₃ : Shared, s₃ = { s₂ with heap := H3 } →
      codeAny (model prog w) A (.compLoop (.ListComp (.Name x px2) [⟨.Name x px, iter, [ct], 0⟩] scope pos) 0 (.ref I) (.ref D) (compEnvC scope ((x, C + 1) :: cl) C env)) (RR (.ref D) C) s₃ := by
    rintro s₃ rfl
    refine codeAny_compLoop_tests
      (fun k s' => ∃ h' tk i ys n m', s' = { s₂ with heap := h', toks := tk } ∧ i ≤ R.length ∧ k = R.length + 1 - i ∧ ys.length ≤ i ∧ (h'.IsListIter I l i ∧ h'.IsList l (List.toArray vs)) ∧ Fr h₀ L h' m ∧ h'.Ns C m' ∧ (∃ v₀, h'.IsCell (C + 1) v₀) ∧
        News h₀ L h' ((D, listOf (List.toArray ys) n) :: news) ∧ DatAll n₁ ys (((R.take i).filter p).map fdat)) ?_ (R.length + 1)
      ⟨H3, s₂.toks, 0, [], 0, _, rfl, Nat.zero_le _, rfl, Nat.le_refl _, ⟨hit.at fun o e => up _ o e, hl.at fun o e => up _ o e⟩, F.keeps up, nsC, ⟨none, _, hH3c, rfl⟩, fun q hq => ?_, .nil⟩
    · rintro k s' ⟨h', tk, i, ys, n, m', rfl, hi, rfl, hyl, hst', F', hn', ⟨v₀, hcell'⟩, N', hA⟩
      have N0 : News h₀ L h' news := News.pick N' fun _ hq => List.mem_cons_of_mem _ hq
      by_cases hlt : i < R.length
      · refine W.item i _ _ _ (by omega) hst' fun v h₂ tk₂ hPv hst₂ hk₂ => ?_
        obtain ⟨v', hv', hdv⟩ := hD.get (k := i) (by rw [List.length_map]; exact hlt)
        have hPv' : vs[i]? = some v := by simpa using hPv
        rw [hPv'] at hv'
        cases hv'
        rw [List.getElem_map] at hdv
        have keepI : ∀ {b : Addr} {o : Obj}, @Ne Nat b I → h'.get? b = some o → h₂.get? b = some o := fun {b o} hb e => hk₂ b o (by intro hm; exact hb (List.mem_singleton.mp hm)) e
        have hcell₂ : h₂.IsCell (C + 1) v₀ := by obtain ⟨o, e, r⟩ := hcell'; exact ⟨o, keepI hIc.symm e, r⟩
        refine wpAny_assign_Name (wpAny_storeName_cell hkk hkc hcc hcell₂ fun h₃ hcell₃ hs₃ => ?_)
        refine wpAny_tests_one ?_
        obtain ⟨oc, heoc, hoc⟩ := hcell₃
        have keepc : ∀ {b : Addr} {o : Obj}, @Ne Nat b (C + 1) → h₂.get? b = some o → h₃.get? b = some o := fun {b o} hb e => hs₃.extBut b o hb e
        have hst₃ : h₃.IsListIter I l (i + 1) ∧ h₃.IsList l (List.toArray vs) := W.frame _ _ _ hst₂ fun b hb o e => keepc (by
          rcases List.mem_cons.mp hb with rfl | hb
          · exact hIc
          · rw [List.mem_singleton.mp hb]; exact hlc) e
        obtain ⟨oI, heI, rI⟩ := id hst₃.1
        obtain ⟨oC, heC', hoC⟩ := ns_obj hn'
        have heC : h₃.get? C = some oC := keepc hCc (keepI hIC.symm heC')
        have F₃ : Fr h₀ L h₃ m := (PyProof.Rows.LCg.fr_but F' hk₂ hIL hI₀).change hs₃ hcL hc₀
        have N₃ : News h₀ L h₃ ((I, oI) :: (C, oC) :: (C + 1, oc) :: (D, listOf (List.toArray ys) n) :: news) := fun q hq => by
          rcases List.mem_cons.mp hq with rfl | hq
          · exact ⟨heI, hIL.symm, hI₀⟩
          · rcases List.mem_cons.mp hq with rfl | hq
            · exact ⟨heC, hCL, hC₀⟩
            · rcases List.mem_cons.mp hq with rfl | hq
              · exact ⟨heoc, hcL, hc₀⟩
              · rcases List.mem_cons.mp hq with rfl | hq
                · exact ⟨keepc hDc (keepI hID.symm (N' _ (.head _)).1), hDL, hD₀⟩
                · exact ⟨keepc (nec q hq) (keepI (off q hq) (N0 q hq).1), (N q hq).2⟩
        have ht : R.take (i + 1) = R.take i ++ [R[i]] := by rw [List.take_add_one, List.getElem?_eq_getElem hlt]; rfl
        refine test v R[i] I C (C + 1) D oI oC oc ys n h₃ _ _ _ hdv (List.getElem_mem hlt) hoc F₃ N₃ fun h₄ tk₄ F₄ N₄ => ?_
        have zI := (N₄ (I, oI) (.head _)).1
        have zC := (N₄ (C, oC) (.tail _ (.head _))).1
        have zc := (N₄ (C + 1, oc) (.tail _ (.tail _ (.head _)))).1
        have zD := (N₄ (D, listOf (List.toArray ys) n) (.tail _ (.tail _ (.tail _ (.head _))))).1
        have N₄' : News h₀ L h₄ ((D, listOf (List.toArray ys) n) :: news) := fun q hq => N₄ q (.tail _ (.tail _ (.tail _ hq)))
        have hst₄ : h₄.IsListIter I l (i + 1) ∧ h₄.IsList l (List.toArray vs) := ⟨⟨oI, zI, rI⟩, N₄'.isList (.tail _ hm)⟩
        cases hpf : p R[i] with
        | true =>
          rw [if_pos rfl]
          refine wpAny_Name (wpAny_loadName_cell hkk hkc hcc ⟨oc, zc, hoc⟩ ?_) hxd
          refine append_at (hsz := by rw [List.size_toArray, sizeLine_eq]; rw [sizeLine_eq] at hz; omega) zD fun h₅ hs₅ hD₅ => ?_
          refine ⟨R.length + 1 - (i + 1), by omega, h₅, tk₄, i + 1, ys ++ [v], n + 1, _, rfl, hlt, rfl, by rw [List.length_append, List.length_singleton]; omega, ?_, F₄.change hs₅ hDL hD₀, (hoC.ns zC).sameBut hs₅ hDC.symm, ⟨some v, oc, hs₅.extBut _ _ hDc.symm zc, hoc⟩, ?_, ?_⟩
          · refine W.frame _ _ _ hst₄ fun b hb o e => hs₅.extBut b o (by
              rcases List.mem_cons.mp hb with rfl | hb
              · exact hID
              · rw [List.mem_singleton.mp hb]; exact hlD) e
          · intro q hq
            rcases List.mem_cons.mp hq with rfl | hq
            · exact ⟨by rw [hD₅]; simp, hDL, hD₀⟩
            · exact ⟨hs₅.extBut _ _ (neD q hq) (N₄' q (.tail _ hq)).1, (N q hq).2⟩
          · rw [ht, List.filter_append, List.filter_cons_of_pos hpf, List.filter_nil, List.map_append]
            exact hA.append (DatAll.one hdv)
        | false =>
          rw [if_neg Bool.false_ne_true]
          refine ⟨R.length + 1 - (i + 1), by omega, h₄, tk₄, i + 1, ys, n, _, rfl, hlt, rfl, by omega, hst₄, F₄, hoC.ns zC, ⟨some v, oc, zc, hoc⟩, N₄', ?_⟩
          rw [ht, List.filter_append, List.filter_cons_of_neg (by rw [hpf]; exact Bool.false_ne_true), List.filter_nil, List.append_nil]
          exact hA
      · obtain rfl : i = R.length := Nat.le_antisymm hi (Nat.not_lt.mp hlt)
        rw [List.take_length] at hA
        rw [hlen] at W
        refine W.done _ _ _ hst' fun h₂ tk₂ hk₂ => ?_
        exact hRR D C h₂ tk₂ _ ys n (PyProof.Rows.LCg.fr_but F' hk₂ hIL hI₀) (PyProof.Rows.LCg.news_but N' hk₂ fun q hq => by
          rcases List.mem_cons.mp hq with rfl | hq
          · exact hID.symm
          · exact off q hq) nD (hn'.at' fun o e => hk₂ _ o (by simpa using hIC.symm) e) hC₀ hCL hDC.symm neC hA
    · rcases List.mem_cons.mp hq with rfl | hq
      · exact ⟨hH3D, hDL, hD₀⟩
      · exact ⟨up _ _ (N q hq).1, (N q hq).2⟩
  exact codeAny_compStart_list (loop _ rfl) (W.self 0 _ _ _ ⟨hit.at fun o e => up _ o e, hl.at fun o e => up _ o e⟩ (loop _ rfl))
/-- a list comprehension over a row whose own name is a cell -/
theorem comp_rows {ct iter : PySem.Expr} {x : Str} {px px2 : Pos} {scope : Scope} {cl : List (Str × Addr)} {pos : Pos} {Q : Value → Shared → Prop}
    (_F : Fr h₀ L s.heap m) (hh : A.handled = none) (hclos : closureFor scope env = pure cl) (hc : ∀ n, cellsFrom n scope.names cl = (x, n) :: cl) (hp : ∀ h : Heap, pushCells h scope.names = h.push { cls := .type "cell", data := .cell none }) (hkind : scope.kind = .function)
    (hnames : ∀ y ∈ scope.names, y.2 = .local → scope.names.lookup y.1 = some .local) (hx : scope.names.lookup x = some .cell) (hxd : (x == ("__debug__" : Str)) = false)
    (h : wpAny (model prog w) A (eval iter env) (RowsEnd prog w A env h₀ L m ct x scope cl Q) E s) (hs : ∀ x, foldedSetIterable iter env x = pure x) :
    wpAny (model prog w) A (eval (.ListComp (.Name x px2) [⟨.Name x px, iter, [ct], 0⟩] scope pos) env) Q E s := by
  rw [eval_ListComp]
  refine wpAny_comprehension_free (use := none) rfl hs hclos hkind hnames (wpAny_mono h (fun xv s₁ h₁ => ?_) fun _ _ e => e)
  obtain ⟨l, R, p, n₁, news, rfl, F, N, ⟨vs, nn, hm₁, hD⟩, hsub, ok, test, hQ⟩ := h₁.ex
  have hm := hsub _ hm₁
  have hz := row_len ok hD
  have hol := (N _ hm).1
  have hlt : l < s₁.heap.objs.size := Heap.lt_size hol
  refine wpAny_pyIter_list (N.isList hm) ?_
  have up : ∀ b o, s₁.heap.get? b = some o → (s₁.heap.push { cls := .type "list_iterator", data := .fields #[.ref l, .int 0 0] }).get? b = some o := fun b o e => Heap.get?_push_of_some _ e
  refine comp_block hh hc hp hkind hx hxd (Nat.ne_of_lt hlt) ⟨_, Heap.get?_push_size _ rfl, rfl, rfl⟩ hm hD (by rw [sizeLine_eq]; omega) (F.keeps up) (N.grown up) (Nat.ne_of_lt F.ns.lt) (next_is_new F) (fun q hq => Nat.ne_of_lt (Heap.lt_size (N q hq).1)) (test _ ⟨_, rfl⟩) ?_
  intro D C h' tk m' ys n F' N' nD hn hC₀ hCL hCD offC hA
  refine ⟨m', hn, fun h'' hs'' => hQ D h'' [(D, listOf (List.toArray ys) n)] tk (F'.change hs'' hCL hC₀) (fun q hq => ?_) (fun p hp q hq => by rw [List.mem_singleton.mp hp]; exact nD q hq) ⟨ys, n, .head _, hA.mono fun _ h => .tail _ h⟩⟩
  refine ⟨hs''.extBut _ _ ?_ (N' q hq).1, (N' q hq).2⟩
  rcases List.mem_cons.mp hq with rfl | hq
  · exact hCD.symm
  · exact offC q hq
end
-- kind: theorem
def NoCell (o : Obj) : Prop := ∀ v, o.data ≠ .cell v
section
variable {w : World} {news news' : Led}
mutual
theorem datIn_off (hs : ∀ p ∈ news, NoCell p.2 → p ∈ news') : ∀ {v : Value} {d : Dat}, DatIn news v d → DatIn news' v d
  | _, _, .none => .none
  | _, _, .bool b => .bool b
  | _, _, .int i t => .int i t
  | _, _, .str x t => .str x t
  | _, _, .bytes b t => .bytes b t
  | _, _, .tuple h r => .tuple (hs _ h (fun _ e => by cases e)) (datAll_off hs r)
  | _, _, .list h r => .list (hs _ h (fun _ e => by cases e)) (datAll_off hs r)
theorem datAll_off (hs : ∀ p ∈ news, NoCell p.2 → p ∈ news') : ∀ {vs : List Value} {ds : List Dat}, DatAll news vs ds → DatAll news' vs ds
  | _, _, .nil => .nil
  | _, _, .cons h r => .cons (datIn_off hs h) (datAll_off hs r)
end
theorem RowAt.off {a : Addr} {R : List Fam} (hs : ∀ p ∈ news, NoCell p.2 → p ∈ news') (h : RowAt news a R) : RowAt news' a R :=
  let ⟨vs, n, h1, h2⟩ := h
  ⟨vs, n, hs _ h1 (fun _ e => by cases e), datAll_off hs h2⟩
theorem ToldAt.off {v : Value} {P : Part} (hs : ∀ p ∈ news, NoCell p.2 → p ∈ news') (h : ToldAt news v P) : ToldAt news' v P := by
  obtain ⟨a, fa, ha, t1, t2, e, m, r1, r2⟩ := h
  exact ⟨a, fa, ha, t1, t2, e, hs _ m (fun _ e => by cases e), r1.off hs, r2.off hs⟩
theorem CapsAt.off {a : Addr} {kvs : List (Int × Value)} (hs : ∀ p ∈ news, NoCell p.2 → p ∈ news') (h : CapsAt w news a kvs) : CapsAt w news' a kvs := by
  obtain ⟨dca, ra, o, hsh, t, n, h1, h2, h3, h4, h5⟩ := h
  refine ⟨dca, ra, o, hsh, t, n, hs _ h1 (fun _ e => by cases e), hs _ h2 (fun _ e => by cases e), hs _ h3 (fun v e => ?_), h4, h5⟩
  obtain ⟨es, ep, _, hd, _⟩ := h4
  rw [show o.data = _ from hd] at e
  cases e
theorem OpenAt.off {v : Value} {P : Part} (hs : ∀ p ∈ news, NoCell p.2 → p ∈ news') (h : OpenAt w news v P) : OpenAt w news' v P := by
  obtain ⟨a, da, ca, fa, ha, kvs, h1, h2, h3, h4, t1, t2, t3, t4, t5, t6, t7, n, e, m1, m2, c, k, r1, r2⟩ := h
  exact ⟨a, da, ca, fa, ha, kvs, h1, h2, h3, h4, t1, t2, t3, t4, t5, t6, t7, n, e, hs _ m1 (fun _ e => by cases e), hs _ m2 (fun _ e => by cases e), c.off hs, k, r1.off hs, r2.off hs⟩
/-- a cell of the ledger to its front -/
def offOf (c : Addr) (W : Led) : Led := W.filter fun p => decide (@Ne Nat p.1 c)
theorem off_front {g h : Heap} {L c : Addr} {W : Led} {o : Obj} (N : News g L h W) (hm : (c, o) ∈ W) : News g L h ((c, o) :: offOf c W) :=
  News.pick N fun p hp => by
    rcases List.mem_cons.mp hp with rfl | hp
    · exact hm
    · exact (List.mem_filter.mp hp).1
theorem off_ne {c : Addr} {W : Led} : ∀ p ∈ offOf c W, p.1 ≠ c := fun p hp => of_decide_eq_true (List.mem_filter.mp hp).2
theorem off_in {c : Addr} {W : Led} {p : Addr × Obj} (h : p ∈ W) (hne : @Ne Nat p.1 c) : p ∈ offOf c W := List.mem_filter.mpr ⟨h, decide_eq_true hne⟩
theorem off_sub {g h : Heap} {L c : Addr} {W : Led} {o : Obj} {v : Option Value} (N : News g L h W) (hm : (c, o) ∈ W) (hd : o.data = .cell v) : ∀ p ∈ W, NoCell p.2 → p ∈ offOf c W := fun p hp hn => off_in hp (by
  intro e
  have h1 := (N _ hm).1
  have h2 := (N _ hp).1
  rw [e, h1] at h2
  cases h2
  exact hn v hd)
end
-- kind: macro
local macro_rules | `(tactic| walk_at "call ref") => `(tactic| (k_here; k_dflt ((show wpAny _ _ (call (Value.ref 291) _) _ _ _); (refine' con_use (told_c _ _ _ _ _ _ ?p1 ?p2) ?k1 ?k2 ?k3 ?k4 ?k5 ?kK ?kR ?kd ?ku ?_); (case k1 => k_asm); (case k2 => k_asm); (case k3 => k_asm); (case k4 => k_asm); (case k5 => k_asm); (case kK => first | exact rfl | assumption); (case kR => refine ⟨?c8, ?c9⟩; (case c8 => walk_at "OPEN"); (case c9 => walk_at "OPEN")); (case p1 => assumption); (case p2 => assumption); (case kd => ktr_room); (case ku => ktr_units); intro r9 tl9 h9 tk9 F9 N9 lt9 ho9; obtain ⟨a9, _, _, _, _, e9, _⟩ := id ho9; subst e9; (try dsimp only); (try k_fold))))
local macro_rules | `(tactic| walk_at "PARTEQ") => `(tactic| first | exact rfl | exact tell_self _ | exact tell_right _ _ | exact tell_left _ _ | exact tell_assoc _ _ _ | assumption)
local macro_rules | `(tactic| walk_at "compareOp NotEq ref ref") => `(tactic| (k_here; k_dflt ((show wpAny _ _ (compareOp CmpOp.NotEq (Value.ref _) (Value.ref _)) _ _ _); (refine' told_ne ?N ?T1 ?s1 ?T2 ?s2 ?e ?u ?_); (case N => k_asm); (case T1 => assumption); (case T2 => assumption); (case s1 => walk_at "SUB"); (case s2 => walk_at "SUB"); (case e => walk_at "PARTEQ"); (case u => ktr_units))))
local macro_rules | `(tactic| walk_at "compareOp Eq ref ref") => `(tactic| (k_here; k_dflt ((show wpAny _ _ (compareOp CmpOp.Eq (Value.ref _) (Value.ref _)) _ _ _); (refine' told_eq ?N ?T1 ?s1 ?T2 ?s2 ?e ?u ?_); (case N => k_asm); (case T1 => assumption); (case T2 => assumption); (case s1 => walk_at "SUB"); (case s2 => walk_at "SUB"); (case e => walk_at "PARTEQ"); (case u => ktr_units))))
local macro_rules | `(tactic| walk_at "subscriptTail") => `(tactic| (k_here; (with_reducible show wpAny _ _ (subscriptTail _ _ (Value.ref _) (Value.int _ _)) _ _ _); (first | (with_reducible refine' at4_0 (by with_reducible assumption) ?N ?sb ?_) | (with_reducible refine' at4_1 (by with_reducible assumption) ?N ?sb ?_) | (with_reducible refine' at4_2 (by with_reducible assumption) ?N ?sb ?_) | (with_reducible refine' at4_3 (by with_reducible assumption) ?N ?sb ?_) | (with_reducible refine' at7_0 (by with_reducible assumption) ?N ?sb ?_) | (with_reducible refine' at7_1 (by with_reducible assumption) ?N ?sb ?_) | (with_reducible refine' at7_2 (by with_reducible assumption) ?N ?sb ?_) | (with_reducible refine' at7_3 (by with_reducible assumption) ?N ?sb ?_) | (with_reducible refine' at7_4 (by with_reducible assumption) ?N ?sb ?_) | (with_reducible refine' at7_5 (by with_reducible assumption) ?N ?sb ?_) | (with_reducible refine' at7_6 (by with_reducible assumption) ?N ?sb ?_)); (case N => k_asm); (case sb => walk_at "SUB")))
local macro_rules | `(tactic| walk_at "subscriptTail Name Slice ref ref") => `(tactic| (k_here; k_dflt (first | (refine' cut_one ?F ?N ?m ?_; (case F => k_asm); (case N => k_asm); (case m => walk_at "MEM")) | (refine' cut_three ?F ?N ?m ?_; (case F => k_asm); (case N => k_asm); (case m => walk_at "MEM"))); intro D9 h9 F9 N9))
local macro_rules | `(tactic| walk_at "call builtin:sorted") => `(tactic| (k_here; (with_reducible show wpAny _ _ (call (Value.builtin "sorted") [Value.ref _]) _ _ _); k_dflt (refine' row_sorted ?F ?N ?r ?o ?_; (case F => k_asm); (case N => k_asm); (case r => walk_at "ROW"); (case o => assumption)); intro D9 h9 W9 F9 N9 r9))
local macro_rules | `(tactic| walk_at "compareOp NotEq ref ref") => `(tactic| (k_here; k_dflt ((show wpAny _ _ (compareOp CmpOp.NotEq (Value.ref _) (Value.ref _)) _ _ _); (refine' row_ne ?N ?T1 ?s1 ?T2 ?s2 ?e ?u ?_); (case N => k_asm); (case T1 => with_reducible assumption); (case T2 => with_reducible assumption); (case s1 => walk_at "SUB"); (case s2 => walk_at "SUB"); (case e => first | assumption | exact rfl); (case u => ktr_units))))
-- kind: theorem
set_option maxRecDepth 100000 in
set_option maxHeartbeats 8000000 in
theorem seg4 {w : World} {L a : Addr} {cc : Value} {h₀ : Heap} {mean : ExcName → Option Value} {mg mb : Str → Option Value} {loose : List Str} {u : Str → Option Value} {W : Led} {s : Shared} {Q : Flow → Shared → Prop} {E : Value → Shared → Prop}
    {o0 o1 o2 o3 : Value} {sl : Addr} {ns : Nat}
    (B : Below callerA h₀ [] h₀) (X : (tp.heap_39 w.params).In h₀) (T : Top tp.view_39 loose mean mg mb h₀)
    (F : Fr h₀ L s.heap (fun y => if y = Str.ofString "some" then some (.ref sl) else u y)) (N : News h₀ L s.heap W)
    (hm : (sl, listOf #[o0, o1, o2, o3] ns) ∈ W)
    (h : ∀ h' tk, Fr h₀ L h' (fun y => if y = Str.ofString "d" then some o3 else if y = Str.ofString "c" then some o2 else if y = Str.ofString "b" then some o1 else if y = Str.ofString "a" then some o0 else if y = Str.ofString "some" then some (.ref sl) else u y) → News h₀ L h' W → Q .next { s with heap := h', toks := tk }) :
    wpAny (model rw_br0002_01.row.prog w) (lawA L a cc) (exec (lawSt 4) (lawE L a cc)) Q E s := by
  revert X
  w_top off
  k_fill
  intro X
  delta lawA lawE
  conv in (occs := *) lawSt _ => all_goals whnf
  conv in (occs := *) lawS => all_goals whnf
  k_steps
  exact h _ _ (by assumption) (News.pick (by assumption) (by walk_at "SUB"))
-- kind: theorem
set_option maxRecDepth 100000 in
set_option maxHeartbeats 8000000 in
theorem seg5 {w : World} {L a : Addr} {cc : Value} {h₀ : Heap} {mean : ExcName → Option Value} {mg mb : Str → Option Value} {loose : List Str} {u : Str → Option Value} {W : Led} {s : Shared} {Q : Flow → Shared → Prop} {E : Value → Shared → Prop}
    {o0 o1 : Value} {P0 P1 : Part} {late : Bool}
    (B : Below callerA h₀ [] h₀) (X : (tp.heap_39 w.params).In h₀) (T : Top tp.view_39 loose mean mg mb h₀)
    (F : Fr h₀ L s.heap (fun y => if y = Str.ofString "a" then some o0 else if y = Str.ofString "b" then some o1 else if y = Str.ofString "late" then some (.bool late) else u y)) (N : News h₀ L s.heap W)
    (d0 : OpenAt w W o0 P0) (d1 : OpenAt w W o1 P1) (p0 : P0.Ok) (p1 : P1.Ok)
    (h : ∀ v1 v2 W' h' tk, (∀ p ∈ W, p ∈ W') → Fr h₀ L h' (fun y => if y = Str.ofString "one" then some v1 else if y = Str.ofString "other" then some v2 else if y = Str.ofString "a" then some o0 else if y = Str.ofString "b" then some o1 else if y = Str.ofString "late" then some (.bool late) else u y) → News h₀ L h' W' → ToldAt W' v1 (tell P0 P1) → ToldAt W' v2 (tell P1 P0) → Q .next { s with heap := h', toks := tk }) :
    wpAny (model rw_br0002_01.row.prog w) (lawA L a cc) (exec (lawSt 5) (lawE L a cc)) Q E s := by
  revert X
  w_top off
  k_fill
  intro X
  delta lawA lawE
  conv in (occs := *) lawSt _ => all_goals whnf
  conv in (occs := *) lawS => all_goals whnf
  k_steps
  rename News _ _ _ _ => N9
  have N8 := news_tail N9
  exact h _ _ _ _ _ (fun p hp => List.mem_append.mpr (.inr (List.mem_append.mpr (.inr hp)))) (by assumption) N8 (ToldAt.mono sub_app (by assumption)) (by assumption)
-- kind: theorem
set_option maxRecDepth 100000 in
set_option maxHeartbeats 8000000 in
theorem seg7 {w : World} {L a : Addr} {cc : Value} {h₀ : Heap} {mean : ExcName → Option Value} {mg mb : Str → Option Value} {loose : List Str} {u : Str → Option Value} {W : Led} {s : Shared} {Q : Flow → Shared → Prop} {E : Value → Shared → Prop}
    {o0 o1 : Value} {P0 P1 : Part} {late : Bool}
    (B : Below callerA h₀ [] h₀) (X : (tp.heap_39 w.params).In h₀) (T : Top tp.view_39 loose mean mg mb h₀)
    (F : Fr h₀ L s.heap (fun y => if y = Str.ofString "a" then some o0 else if y = Str.ofString "b" then some o1 else if y = Str.ofString "late" then some (.bool late) else u y)) (N : News h₀ L s.heap W)
    (d0 : OpenAt w W o0 P0) (d1 : OpenAt w W o1 P1) (p0 : P0.Ok) (p1 : P1.Ok)
    (h : ∀ v W' h' tk, (∀ p ∈ W, p ∈ W') → Fr h₀ L h' (fun y => if y = Str.ofString "joined" then some v else if y = Str.ofString "a" then some o0 else if y = Str.ofString "b" then some o1 else if y = Str.ofString "late" then some (.bool late) else u y) → News h₀ L h' W' → OpenAt w W' v (tell P0 P1) → Q .next { s with heap := h', toks := tk }) :
    wpAny (model rw_br0002_01.row.prog w) (lawA L a cc) (exec (lawSt 7) (lawE L a cc)) Q E s := by
  revert X
  w_top off
  k_fill
  intro X
  delta lawA lawE
  conv in (occs := *) lawSt _ => all_goals whnf
  conv in (occs := *) lawS => all_goals whnf
  k_steps
  exact h _ _ _ _ sub_app (by assumption) (by assumption) (by assumption)
-- kind: theorem
set_option maxRecDepth 100000 in
set_option maxHeartbeats 8000000 in
theorem seg8 {w : World} {L a : Addr} {cc : Value} {h₀ : Heap} {mean : ExcName → Option Value} {mg mb : Str → Option Value} {loose : List Str} {u : Str → Option Value} {W : Led} {s : Shared} {Q : Flow → Shared → Prop} {E : Value → Shared → Prop}
    {o0 o1 oj : Value} {P0 P1 : Part} {t0 t1 pl : Addr} {q1 q2 q3 : Addr} {np : Nat} {pco : Obj} {late : Bool}
    (B : Below callerA h₀ [] h₀) (X : (tp.heap_39 w.params).In h₀) (T : Top tp.view_39 loose mean mg mb h₀)
    (F : Fr h₀ L s.heap (fun y => if y = Str.ofString "a" then some o0 else if y = Str.ofString "b" then some o1 else if y = Str.ofString "joined" then some oj else if y = Str.ofString "one" then some (.ref t1) else if y = Str.ofString "late" then some (.bool late) else u y)) (N : News h₀ L s.heap W)
    (d0 : OpenAt w W o0 P0) (d1 : OpenAt w W o1 P1) (dj : OpenAt w W oj (tell P0 P1)) (p0 : P0.Ok) (p1 : P1.Ok) (pj : (tell P0 P1).Ok) (e0 : ToldAt W (.ref t0) P0) (e1 : ToldAt W (.ref t1) (tell P0 P1))
    (hpc : (L + 1, pco) ∈ W) (hpd : pco.data = .cell (some (.ref pl))) (hpl : (pl, listOf #[.ref t0, .ref q1, .ref q2, .ref q3] np) ∈ W)
    (h : ∀ h' tk, Fr h₀ L h' (fun y => if y = Str.ofString "a" then some o0 else if y = Str.ofString "b" then some o1 else if y = Str.ofString "joined" then some oj else if y = Str.ofString "one" then some (.ref t1) else if y = Str.ofString "late" then some (.bool late) else u y) → News h₀ L h' W → Q .next { s with heap := h', toks := tk }) :
    wpAny (model rw_br0002_01.row.prog w) (lawA L a cc) (exec (lawSt 8) (lawE L a cc)) Q E s := by
  revert X
  w_top off
  k_fill
  intro X
  delta lawA lawE
  conv in (occs := *) lawSt _ => all_goals whnf
  conv in (occs := *) lawS => all_goals whnf
  k_steps
  exact h _ _ (by assumption) (News.pick (by assumption) (by walk_at "SUB"))
-- kind: theorem
set_option maxRecDepth 100000 in
set_option maxHeartbeats 8000000 in
theorem seg9 {w : World} {L a : Addr} {cc : Value} {h₀ : Heap} {mean : ExcName → Option Value} {mg mb : Str → Option Value} {loose : List Str} {u : Str → Option Value} {W : Led} {s : Shared} {Q : Flow → Shared → Prop} {E : Value → Shared → Prop}
    {o0 o1 o2 oj : Value} {P0 P1 P2 : Part} {late : Bool}
    (B : Below callerA h₀ [] h₀) (X : (tp.heap_39 w.params).In h₀) (T : Top tp.view_39 loose mean mg mb h₀)
    (F : Fr h₀ L s.heap (fun y => if y = Str.ofString "a" then some o0 else if y = Str.ofString "b" then some o1 else if y = Str.ofString "c" then some o2 else if y = Str.ofString "joined" then some oj else if y = Str.ofString "late" then some (.bool late) else u y)) (N : News h₀ L s.heap W)
    (d0 : OpenAt w W o0 P0) (d1 : OpenAt w W o1 P1) (d2 : OpenAt w W o2 P2) (dj : OpenAt w W oj (tell P0 P1)) (p0 : P0.Ok) (p1 : P1.Ok) (p2 : P2.Ok) (pj : (tell P0 P1).Ok) (p12 : (tell P1 P2).Ok)
    (h : ∀ h' tk, Fr h₀ L h' (fun y => if y = Str.ofString "a" then some o0 else if y = Str.ofString "b" then some o1 else if y = Str.ofString "c" then some o2 else if y = Str.ofString "joined" then some oj else if y = Str.ofString "late" then some (.bool late) else u y) → News h₀ L h' W → Q .next { s with heap := h', toks := tk }) :
    wpAny (model rw_br0002_01.row.prog w) (lawA L a cc) (exec (lawSt 9) (lawE L a cc)) Q E s := by
  revert X
  w_top off
  k_fill
  intro X
  delta lawA lawE
  conv in (occs := *) lawSt _ => all_goals whnf
  conv in (occs := *) lawS => all_goals whnf
  k_steps
  exact h _ _ (by assumption) (News.pick (by assumption) (by walk_at "SUB"))
-- kind: theorem
set_option maxRecDepth 100000 in
set_option maxHeartbeats 8000000 in
theorem seg6 {w : World} {L a : Addr} {cc : Value} {h₀ : Heap} {mean : ExcName → Option Value} {mg mb : Str → Option Value} {loose : List Str} {u : Str → Option Value} {W : Led} {s : Shared} {Q : Flow → Shared → Prop} {E : Value → Shared → Prop}
    {t1 t2 f1 f2 g1 g2 : Addr} {se rf : Int} {lg oc mo : Bool} {q1 q2 q3 q4 : Tok} {F1 F2 G1 G2 : List Fam}
    (B : Below callerA h₀ [] h₀) (X : (tp.heap_39 w.params).In h₀) (T : Top tp.view_39 loose mean mg mb h₀)
    (F : Fr h₀ L s.heap (fun y => if y = Str.ofString "one" then some (.ref t1) else if y = Str.ofString "other" then some (.ref t2) else u y)) (N : News h₀ L s.heap W)
    (h1 : (t1, ({ cls := .type "tuple", data := .seq #[.int se q1, .ref f1, .ref f2, .int rf q2, .bool lg, .bool oc, .bool mo] } : Obj)) ∈ W) (h2 : (t2, ({ cls := .type "tuple", data := .seq #[.int se q3, .ref g1, .ref g2, .int rf q4, .bool lg, .bool oc, .bool mo] } : Obj)) ∈ W)
    (r1 : RowAt W f1 F1) (r2 : RowAt W f2 F2) (r3 : RowAt W g1 G1) (r4 : RowAt W g2 G2) (k1 : RowOk F1) (k2 : RowOk F2) (k3 : RowOk G1) (k4 : RowOk G2) (x1 : srt F1 = srt G1) (x2 : srt F2 = srt G2)
    (h : ∀ h' tk, Fr h₀ L h' (fun y => if y = Str.ofString "one" then some (.ref t1) else if y = Str.ofString "other" then some (.ref t2) else u y) → News h₀ L h' W → Q .next { s with heap := h', toks := tk }) :
    wpAny (model rw_br0002_01.row.prog w) (lawA L a cc) (exec (lawSt 6) (lawE L a cc)) Q E s := by
  revert X
  w_top off
  k_fill
  intro X
  delta lawA lawE
  conv in (occs := *) lawSt _ => all_goals whnf
  conv in (occs := *) lawS => all_goals whnf
  k_steps
  exact h _ _ (by assumption) (News.pick (by assumption) (by walk_at "SUB"))
-- kind: theorem
set_option maxRecDepth 100000 in
set_option maxHeartbeats 8000000 in
theorem seg10 {w : World} {L a : Addr} {cc : Value} {h₀ : Heap} {mean : ExcName → Option Value} {mg mb : Str → Option Value} {loose : List Str} {u : Str → Option Value} {W : Led} {s : Shared} {Q : Flow → Shared → Prop} {E : Value → Shared → Prop}
    {v0 : Value}
    (B : Below callerA h₀ [] h₀) (X : (tp.heap_39 w.params).In h₀) (T : Top tp.view_39 loose mean mg mb h₀)
    (F : Fr h₀ L s.heap (fun y => if y = Str.ofString "joined" then some v0 else u y)) (N : News h₀ L s.heap W)
    (_h0 : True)
    (h : ∀ D h' tk, Fr h₀ L h' (fun y => if y = Str.ofString "rows" then some (.ref D) else if y = Str.ofString "joined" then some v0 else u y) → News h₀ L h' ((D, listOf #[] 0) :: W) → AllLt D W → Q .next { s with heap := h', toks := tk }) :
    wpAny (model rw_br0002_01.row.prog w) (lawA L a cc) (exec (lawSt 10) (lawE L a cc)) Q E s := by
  revert X
  w_top off
  k_fill
  intro X
  delta lawA lawE
  conv in (occs := *) lawSt _ => all_goals whnf
  conv in (occs := *) lawS => all_goals whnf
  k_steps
  exact h _ _ _ (by assumption) (by assumption) (by walk_at "ALT")
-- kind: theorem
section
open PyProof.Rows PyProof.Rows.LCg
variable {prog : Program} {w : World} {A : Around} {E : Value → Shared → Prop} {s : Shared} {env : Env} {h₀ : Heap} {L : Addr} {m : Str → Option Value}
/-- one turn of a comprehension over four: its own value -/
def FourTurn (prog : Program) (w : World) (A : Around) (env : Env) (h₀ : Heap) (L : Addr) (m : Str → Option Value) (elt : PySem.Expr) (x : Str) (scope : Scope) (cl : List (Str × Addr)) (s₁ : Shared) (news : Led) (v y : Value) : Prop :=
  ∀ (I C D : Addr) (oI oC oD : Obj) (m₂ : Str → Option Value) (h : Heap) (tk : Nat) (Q' E' : Value → Shared → Prop), NsObj oC m₂ → m₂ x = some v → Fr h₀ L h m → News h₀ L h ((I, oI) :: (C, oC) :: (D, oD) :: news) →
    (∀ h' tk', Fr h₀ L h' m → News h₀ L h' ((I, oI) :: (C, oC) :: (D, oD) :: news) → Q' y { s₁ with heap := h', toks := tk' }) → wpAny (model prog w) A (eval elt (compEnvC scope cl C env)) Q' E' { s₁ with heap := h, toks := tk }
structure FourEnd (prog : Program) (w : World) (A : Around) (env : Env) (h₀ : Heap) (L : Addr) (m : Str → Option Value) (elt : PySem.Expr) (x : Str) (scope : Scope) (cl : List (Str × Addr)) (Q : Value → Shared → Prop) (xv : Value) (s₁ : Shared) : Prop where
  ex : ∃ l v0 v1 v2 v3 y0 y1 y2 y3 n news, xv = .ref l ∧ Fr h₀ L s₁.heap m ∧ News h₀ L s₁.heap news ∧ (l, listOf #[v0, v1, v2, v3] n) ∈ news ∧
    FourTurn prog w A env h₀ L m elt x scope cl s₁ news v0 y0 ∧ FourTurn prog w A env h₀ L m elt x scope cl s₁ news v1 y1 ∧ FourTurn prog w A env h₀ L m elt x scope cl s₁ news v2 y2 ∧ FourTurn prog w A env h₀ L m elt x scope cl s₁ news v3 y3 ∧
    (∀ D h' tk, Fr h₀ L h' m → News h₀ L h' ((D, listOf #[y0, y1, y2, y3] 4) :: news) → Q (.ref D) { s₁ with heap := h', toks := tk })
theorem FourEnd.intro {elt : PySem.Expr} {x : Str} {scope : Scope} {cl : List (Str × Addr)} {Q : Value → Shared → Prop} {s₁ : Shared} {l : Addr} {v0 v1 v2 v3 y0 y1 y2 y3 : Value} {n : Nat} {n₁ news : Led} (hm : (l, listOf #[v0, v1, v2, v3] n) ∈ n₁) (F : Fr h₀ L s₁.heap m) (N : News h₀ L s₁.heap news) (hs : ∀ p ∈ n₁, p ∈ news)
    (t0 : FourTurn prog w A env h₀ L m elt x scope cl s₁ news v0 y0) (t1 : FourTurn prog w A env h₀ L m elt x scope cl s₁ news v1 y1) (t2 : FourTurn prog w A env h₀ L m elt x scope cl s₁ news v2 y2) (t3 : FourTurn prog w A env h₀ L m elt x scope cl s₁ news v3 y3)
    (h : ∀ D h' tk, Fr h₀ L h' m → News h₀ L h' ((D, listOf #[y0, y1, y2, y3] 4) :: news) → Q (.ref D) { s₁ with heap := h', toks := tk }) :
    FourEnd prog w A env h₀ L m elt x scope cl Q (.ref l) s₁ := ⟨l, v0, v1, v2, v3, y0, y1, y2, y3, n, news, rfl, F, N, hs _ hm, t0, t1, t2, t3, h⟩
theorem four_turn {elt : PySem.Expr} {x : Str} {scope : Scope} {cl : List (Str × Addr)} {s₁ : Shared} {g : Heap} {news : Led} {v y : Value} {S : Led → Prop} {P : Nat → Value → Prop} {Fin : List Value → Led → Prop} {k i : Nat} {ys : List Value}
    (hP : ∀ u, P i u → u = v) (hS : S news) (t : FourTurn prog w A env h₀ L m elt x scope cl s₁ news v y)
    (h : CompRest prog w A h₀ L m env elt x scope cl { s₁ with heap := g } S P Fin k (i + 1) (ys ++ [y]) news) : CompRest prog w A h₀ L m env elt x scope cl { s₁ with heap := g } S P Fin (k + 1) i ys news := by
  refine CompRest.succ fun u I oI C oC D oD h' tk E' hu hC hx F N off ne => ?_
  cases hP u hu
  exact t I C D oI oC _ oD h' tk _ E' hC hx F N fun h'' tk' F' N' => CompEnd.intro F' N' news (fun _ hp => hp) off hS h
theorem comp4 {elt iter : PySem.Expr} {x : Str} {px : Pos} {scope : Scope} {cl : List (Str × Addr)} {pos : Pos} {Q : Value → Shared → Prop} (F₀ : Fr h₀ L s.heap m) (hh : A.handled = none)
    (hclos : closureFor scope env = pure cl) (hcell : ∀ y ∈ scope.names, y.2 ≠ .cell) (hkind : scope.kind = .function)
    (hnames : ∀ y ∈ scope.names, y.2 = .local → scope.names.lookup y.1 = some .local) (hx : scope.names.lookup x = some .local)
    (h : wpAny (model prog w) A (eval iter env) (FourEnd prog w A env h₀ L m elt x scope cl Q) E s)
    (hs : ∀ x, foldedSetIterable iter env x = pure x) :
    wpAny (model prog w) A (eval (.ListComp elt [⟨.Name x px, iter, [], 0⟩] scope pos) env) Q E s := by
  refine ListComp_U F₀ hclos hcell hkind hnames hx (wpAny_mono h (fun xv s₁ h₁ => ?_) fun _ _ e => e) hs
  obtain ⟨l, v0, v1, v2, v3, y0, y1, y2, y3, n, news, rfl, F, N, hm, t0, t1, t2, t3, hQ⟩ := h₁.ex
  refine CompSrc.ledger hh F N hm (by show 4 ≤ sizeLine; rw [sizeLine_eq]; omega) fun g => ?_
  have hS : SrcAt h₀ l #[v0, v1, v2, v3] news := .inr ⟨_, hm, rfl, _, rfl⟩
  show CompRest prog w A h₀ L m env elt x scope cl { s₁ with heap := g } _ _ _ 4 0 [] news
  refine four_turn (fun u hu => (Option.some.inj hu).symm) hS t0 (four_turn (fun u hu => (Option.some.inj hu).symm) hS t1 (four_turn (fun u hu => (Option.some.inj hu).symm) hS t2 (four_turn (fun u hu => (Option.some.inj hu).symm) hS t3 (CompRest.zero ?_))))
  intro D h' tk F' N' _
  exact hQ D h' tk F' N'
end
theorem sub_via {a b c : Led} (h : ∀ p ∈ b, p ∈ c) (k : ∀ p ∈ a, p ∈ b) : ∀ p ∈ a, p ∈ c := fun p hp => h p (k p hp)
theorem sub_cons9 {x : Addr × Obj} {a b : Led} (k : ∀ p ∈ a, p ∈ b) : ∀ p ∈ a, p ∈ x :: b := fun p hp => .tail _ (k p hp)
theorem sub_app9 {a b c : Led} (k : ∀ p ∈ a, p ∈ b) : ∀ p ∈ a, p ∈ c ++ b := fun p hp => List.mem_append.mpr (.inr (k p hp))
theorem mem_via {a c : Led} {q : Addr × Obj} (m : q ∈ a) (h : ∀ p ∈ a, p ∈ c) : q ∈ c := h q m
theorem row_inR {prog : Program} {w : World} {A : Around} {E : Value → Shared → Prop} {s : Shared} {h₀ : Heap} {L l : Addr} {news n₁ n₂ : Led} {R : List Fam} {v : Value} {f : Fam} {Q : Value → Shared → Prop} (N : News h₀ L s.heap news) (hR : RowAt n₁ l R) (s1 : ∀ p ∈ n₁, p ∈ news)
    (hv : DatIn n₂ v (fdat f)) (s2 : ∀ p ∈ n₂, p ∈ news) (hu : A.units + 64 < cLine) (h : Q (.bool (decide (f ∈ R))) s) : wpAny (model prog w) A (compareOp .In v (.ref l)) Q E s := by
  obtain ⟨vs, n, hm, hD⟩ := hR
  exact row_in N (s1 _ hm) hD s1 hv s2 hu h
section
variable {prog : Program} {w : World} {A : Around} {E : Value → Shared → Prop} {s : Shared} {g : Heap} {L l : Addr} {news n₁ : Led} {v0 v1 : Value} {n : Nat} {value slice : PySem.Expr} {u : Tok} {Q : Value → Shared → Prop}
theorem at2_0 (hm : (l, listOf #[v0, v1] n) ∈ n₁) (N : News g L s.heap news) (sb : ∀ p ∈ n₁, p ∈ news) (h : Q v0 s) (hs : subscripted slice false (.ref l) (.int 0 u) = operate [.ref l, .int 0 u] (getItem (.ref l) (.int 0 u)) := by with_unfolding_all rfl) (hg : ∀ r, letTemporaryGo value (.ref l) r = pure () := by intro _; with_unfolding_all rfl) :
    wpAny (model prog w) A (subscriptTail value slice (.ref l) (.int 0 u)) Q E s := my_item N (sb _ hm) (by decide) (by decide) rfl h hs hg
theorem at2_1 (hm : (l, listOf #[v0, v1] n) ∈ n₁) (N : News g L s.heap news) (sb : ∀ p ∈ n₁, p ∈ news) (h : Q v1 s) (hs : subscripted slice false (.ref l) (.int 1 u) = operate [.ref l, .int 1 u] (getItem (.ref l) (.int 1 u)) := by with_unfolding_all rfl) (hg : ∀ r, letTemporaryGo value (.ref l) r = pure () := by intro _; with_unfolding_all rfl) :
    wpAny (model prog w) A (subscriptTail value slice (.ref l) (.int 1 u)) Q E s := my_item N (sb _ hm) (by decide) (by decide) rfl h hs hg
end
-- kind: macro
local macro_rules | `(tactic| walk_at "eval ListComp") => `(tactic| (k_here; (with_reducible show wpAny _ _ (eval (PySem.Expr.ListComp (PySem.Expr.Name _ _) [⟨PySem.Expr.Name _ _, _, [_], _⟩] _ _) _) _ _ _); k_dflt (refine' comp_rows ?F ?hh ?cl ?c ?p ?k ?n ?x ?d ?_ ?s; (case F => k_asm); (case hh => rfl); (case cl => with_unfolding_all rfl); (case x => rfl); (case c => intro n; rfl); (case p => intro h; rfl); (case k => rfl); (case n => decide); (case d => decide); (case s => intro _; rfl))))
local macro_rules | `(tactic| walk_at "SUB") => `(tactic| first | exact fun _ h => h | assumption | (refine' sub_via ?_ ?_; rotate_left; assumption; walk_at "SUB") | (refine' sub_cons9 ?_; walk_at "SUB") | (refine' sub_app9 ?_; walk_at "SUB"))
local macro_rules | `(tactic| walk_at "MEM") => `(tactic| (refine' mem_via ?_ ?_; rotate_left; (with_reducible assumption); walk_at "SUB"))
local macro_rules | `(tactic| walk_at "eval ListComp") => `(tactic| (k_here; (with_reducible show wpAny _ _ (eval (PySem.Expr.ListComp _ [⟨PySem.Expr.Name _ _, _, [], _⟩] _ _) _) _ _ _); k_dflt (refine' comp4 ?F ?hh ?cl ?c ?k ?n ?x ?_ ?s; (case F => k_asm); (case hh => rfl); (case cl => with_unfolding_all rfl); (case c => decide); (case k => rfl); (case n => decide); (case x => rfl); (case s => intro _; rfl))))
local macro_rules | `(tactic| walk_at "TURN") => `(tactic| (intro I9 C9 D9 oI9 oC9 oD9 m9 h9 tk9 Q9 E9 hC9 hx9 F9 N9 hq9; k_steps; exact hq9 _ _ (by assumption) (by assumption)))
local macro_rules | `(tactic| walk_at "FourEnd") => `(tactic| (k_here; k_dflt (refine' FourEnd.intro (by with_reducible assumption) ?F ?N ?s ?t0 ?t1 ?t2 ?t3 ?_; (case F => k_asm); (case N => k_asm); (case s => walk_at "SUB")); (case t0 => walk_at "TURN"); (case t1 => walk_at "TURN"); (case t2 => walk_at "TURN"); (case t3 => walk_at "TURN"); intro D9 h9 tk9 F9 N9))
local macro_rules | `(tactic| walk_at "eval Name") => `(tactic| (k_here; (with_reducible show wpAny _ _ (eval (PySem.Expr.Name _ _) (compEnvC _ _ _ _)) _ _ _); k_dflt ((refine' LCgL.ld_own ?nn ?mm ?cc ?xx ?_); (case nn => k_asm); (case mm => walk_at "MEM"); (case cc => assumption); (case xx => assumption))))
local macro_rules | `(tactic| walk_at "compareOp In") => `(tactic| (k_here; (with_reducible show wpAny _ _ (compareOp CmpOp.In _ (Value.ref _)) _ _ _); k_dflt ((refine' row_inR ?N ?r ?s ?v ?t ?u ?_); (case N => k_asm); (case r => with_reducible assumption); (case v => with_reducible assumption); (case s => walk_at "SUB"); (case t => walk_at "SUB"); (case u => ktr_units))))
local macro_rules | `(tactic| walk_at "subscriptTail") => `(tactic| (k_here; (with_reducible show wpAny _ _ (subscriptTail _ _ (Value.ref _) (Value.int _ _)) _ _ _); (first | (with_reducible refine' at2_0 (by with_reducible assumption) ?N ?sb ?_) | (with_reducible refine' at2_1 (by with_reducible assumption) ?N ?sb ?_)); (case N => k_asm); (case sb => walk_at "SUB")))
-- kind: theorem
def lawT : PySem.Expr := match lawSt 11 with | .For t _ _ _ _ => t | _ => .Name (Str.ofString "") ⟨0, 0, 0, 0⟩
def lawF : List Stmt := match lawSt 11 with | .For _ _ b _ _ => b | _ => []
theorem told_open {W : Led} {t : Addr} {P : Part} (h : ToldAt W (.ref t) P) : ∃ fa ha t1 t2, (t, ({ cls := .type "tuple", data := .seq #[.int P.sec t1, .ref fa, .ref ha, .int P.refresh t2, .bool P.large, .bool P.octets, .bool P.more] } : Obj)) ∈ W ∧ RowAt W fa P.fams ∧ RowAt W ha P.hops := by
  obtain ⟨a, fa, ha, t1, t2, e, m, r1, r2⟩ := h
  cases e
  exact ⟨fa, ha, t1, t2, m, r1, r2⟩
theorem ord_swap {a b : Led} (h : ∀ p ∈ a, ∀ q ∈ b, @LT.lt Nat _ q.1 p.1) : ∀ q ∈ b, ∀ p ∈ a, q.1 < p.1 := fun q hq p hp => h p hp q hq
theorem turn_sub {a b c d : Addr × Obj} {U W : Led} : ∀ p ∈ a :: b :: c :: d :: (U ++ W), p ∈ U ++ a :: b :: c :: d :: W := by
  intro p hp
  simp only [List.mem_cons, List.mem_append] at hp ⊢
  rcases hp with h | h | h | h | h | h <;> simp [h]
/-- what all four have -/
def inAll (R0 R1 R2 R3 : List Fam) : List Fam := R3.filter fun f => decide (f ∈ R0) && (decide (f ∈ R1) && (decide (f ∈ R2) && decide (f ∈ R3)))
set_option maxRecDepth 100000 in
set_option maxHeartbeats 8000000 in
theorem turn1 {w : World} {L a : Addr} {cc : Value} {h₀ : Heap} {mean : ExcName → Option Value} {mg mb : Str → Option Value} {loose : List Str} {u : Str → Option Value} {W : Led} {s : Shared} {Q : Flow → Shared → Prop} {E : Value → Shared → Prop}
    {rl pl t0 t1 t2 t3 I D : Addr} {np nr : Nat} {pco qco oI oD : Obj} {qv : Option Value} {its : List Value} {tk0 : Tok} {P0 P1 P2 P3 : Part}
    (B : Below callerA h₀ [] h₀) (X : (tp.heap_39 w.params).In h₀) (T : Top tp.view_39 loose mean mg mb h₀)
    (F : Fr h₀ L s.heap (fun y => if y = Str.ofString "rows" then some (.ref rl) else u y)) (N : News h₀ L s.heap ((I, oI) :: (D, oD) :: (rl, listOf (List.toArray its) nr) :: (L + 1 + 1, qco) :: W))
    (hW : ∀ p ∈ W, p.1 ≠ L + 1 + 1) (hrl : ∀ p ∈ W, p.1 ≠ rl) (hlr : @LT.lt Nat _ (L + 1 + 1) rl) (hrD : @LT.lt Nat _ rl D) (hDI : @LT.lt Nat _ D I) (hz : its.length ≤ 10)
    (hpc : (L + 1, pco) ∈ W) (hpd : pco.data = .cell (some (.ref pl))) (hpl : (pl, listOf #[.ref t0, .ref t1, .ref t2, .ref t3] np) ∈ W) (hqd : qco.data = .cell qv)
    (e0 : ToldAt W (.ref t0) P0) (e1 : ToldAt W (.ref t1) P1) (e2 : ToldAt W (.ref t2) P2) (e3 : ToldAt W (.ref t3) P3) (p0 : P0.Ok) (p1 : P1.Ok) (p2 : P2.Ok) (p3 : P3.Ok)
    (h : ∀ ra nr' qco' W9 h' tk', Fr h₀ L h' (fun y => if y = Str.ofString "rows" then some (.ref rl) else u y) → News h₀ L h' ((I, oI) :: (D, oD) :: (rl, listOf (List.toArray (its ++ [.ref ra])) nr') :: (L + 1 + 1, qco') :: (W9 ++ W)) → (∃ v, qco'.data = .cell v) → (∀ p ∈ W9, @LT.lt Nat _ I p.1) →
      RowAt (W9 ++ W) ra (inAll P0.fams P1.fams P2.fams P3.fams) → Q .next { s with heap := h', toks := tk' }) :
    wpAny (model rw_br0002_01.row.prog w) (lawA L a cc) (assign lawT (lawE L a cc) (.int 1 tk0)) (fun _ s₂ => wpAny (model rw_br0002_01.row.prog w) (lawA L a cc) (execs lawF (lawE L a cc)) Q E s₂) E s := by
  revert X
  w_top off
  k_fill
  intro X
  obtain ⟨fa0, ha0, q0, q0', m0, r0, r0'⟩ := told_open e0
  obtain ⟨fa1, ha1, q1, q1', m1, r1, r1'⟩ := told_open e1
  obtain ⟨fa2, ha2, q2, q2', m2, r2, r2'⟩ := told_open e2
  obtain ⟨fa3, ha3, q3, q3', m3, r3, r3'⟩ := told_open e3
  clear e0 e1 e2 e3
  delta lawA lawE
  conv in (occs := *) lawT => all_goals whnf
  conv in (occs := *) lawF => all_goals whnf
  conv in (occs := *) lawS => all_goals whnf
  k_steps
  rename Fr _ _ _ _ => F9
  rename News _ _ _ _ => N9
  rename _ = Data.cell (some (Value.int 1 tk0)) => d9
  rename Obj => o9
  refine' RowsEnd.intro (n₁ := W) (R := P3.fams) (fun f => decide (f ∈ P0.fams) && (decide (f ∈ P1.fams) && (decide (f ∈ P2.fams) && decide (f ∈ P3.fams)))) F9 N9 r3 (by walk_at "SUB") p3.1 ?test ?done
  case test =>
    intro g v f I' C c D' oI' oC oc ys n h1 tk1 Q' E' hv hf hoc F1 N1 hq
    clear F9 N9
    k_steps
    exact hq _ _ (by assumption) (News.pick (by assumption) (by walk_at "SUB"))
  case done =>
    intro ra h1 W9 tk1 F1 N1 hlt9 hra
    clear F9 N9
    have hlt8 := ord_swap hlt9
    have hoff : ∀ p ∈ (L + 1 + 1, o9) :: W, p.1 ≠ rl := List.forall_mem_cons.mpr ⟨Nat.ne_of_lt hlr, hrl⟩
    k_steps
    exact h ra _ o9 W9 _ _ (by assumption) (News.pick (by assumption) turn_sub) ⟨_, d9⟩ (fun p hp => hlt9 p hp (I, oI) (.head _)) hra
set_option maxRecDepth 100000 in
set_option maxHeartbeats 8000000 in
theorem turn2 {w : World} {L a : Addr} {cc : Value} {h₀ : Heap} {mean : ExcName → Option Value} {mg mb : Str → Option Value} {loose : List Str} {u : Str → Option Value} {W : Led} {s : Shared} {Q : Flow → Shared → Prop} {E : Value → Shared → Prop}
    {rl pl t0 t1 t2 t3 I D : Addr} {np nr : Nat} {pco qco oI oD : Obj} {qv : Option Value} {its : List Value} {tk0 : Tok} {P0 P1 P2 P3 : Part}
    (B : Below callerA h₀ [] h₀) (X : (tp.heap_39 w.params).In h₀) (T : Top tp.view_39 loose mean mg mb h₀)
    (F : Fr h₀ L s.heap (fun y => if y = Str.ofString "rows" then some (.ref rl) else u y)) (N : News h₀ L s.heap ((I, oI) :: (D, oD) :: (rl, listOf (List.toArray its) nr) :: (L + 1 + 1, qco) :: W))
    (hW : ∀ p ∈ W, p.1 ≠ L + 1 + 1) (hrl : ∀ p ∈ W, p.1 ≠ rl) (hlr : @LT.lt Nat _ (L + 1 + 1) rl) (hrD : @LT.lt Nat _ rl D) (hDI : @LT.lt Nat _ D I) (hz : its.length ≤ 10)
    (hpc : (L + 1, pco) ∈ W) (hpd : pco.data = .cell (some (.ref pl))) (hpl : (pl, listOf #[.ref t0, .ref t1, .ref t2, .ref t3] np) ∈ W) (hqd : qco.data = .cell qv)
    (e0 : ToldAt W (.ref t0) P0) (e1 : ToldAt W (.ref t1) P1) (e2 : ToldAt W (.ref t2) P2) (e3 : ToldAt W (.ref t3) P3) (p0 : P0.Ok) (p1 : P1.Ok) (p2 : P2.Ok) (p3 : P3.Ok)
    (h : ∀ ra nr' qco' W9 h' tk', Fr h₀ L h' (fun y => if y = Str.ofString "rows" then some (.ref rl) else u y) → News h₀ L h' ((I, oI) :: (D, oD) :: (rl, listOf (List.toArray (its ++ [.ref ra])) nr') :: (L + 1 + 1, qco') :: (W9 ++ W)) → (∃ v, qco'.data = .cell v) → (∀ p ∈ W9, @LT.lt Nat _ I p.1) →
      RowAt (W9 ++ W) ra (inAll P0.hops P1.hops P2.hops P3.hops) → Q .next { s with heap := h', toks := tk' }) :
    wpAny (model rw_br0002_01.row.prog w) (lawA L a cc) (assign lawT (lawE L a cc) (.int 2 tk0)) (fun _ s₂ => wpAny (model rw_br0002_01.row.prog w) (lawA L a cc) (execs lawF (lawE L a cc)) Q E s₂) E s := by
  revert X
  w_top off
  k_fill
  intro X
  obtain ⟨fa0, ha0, q0, q0', m0, r0, r0'⟩ := told_open e0
  obtain ⟨fa1, ha1, q1, q1', m1, r1, r1'⟩ := told_open e1
  obtain ⟨fa2, ha2, q2, q2', m2, r2, r2'⟩ := told_open e2
  obtain ⟨fa3, ha3, q3, q3', m3, r3, r3'⟩ := told_open e3
  clear e0 e1 e2 e3
  delta lawA lawE
  conv in (occs := *) lawT => all_goals whnf
  conv in (occs := *) lawF => all_goals whnf
  conv in (occs := *) lawS => all_goals whnf
  k_steps
  rename Fr _ _ _ _ => F9
  rename News _ _ _ _ => N9
  rename _ = Data.cell (some (Value.int 2 tk0)) => d9
  rename Obj => o9
  refine' RowsEnd.intro (n₁ := W) (R := P3.hops) (fun f => decide (f ∈ P0.hops) && (decide (f ∈ P1.hops) && (decide (f ∈ P2.hops) && decide (f ∈ P3.hops)))) F9 N9 r3' (by walk_at "SUB") p3.2.1 ?test ?done
  case test =>
    intro g v f I' C c D' oI' oC oc ys n h1 tk1 Q' E' hv hf hoc F1 N1 hq
    clear F9 N9
    k_steps
    exact hq _ _ (by assumption) (News.pick (by assumption) (by walk_at "SUB"))
  case done =>
    intro ra h1 W9 tk1 F1 N1 hlt9 hra
    clear F9 N9
    have hlt8 := ord_swap hlt9
    have hoff : ∀ p ∈ (L + 1 + 1, o9) :: W, p.1 ≠ rl := List.forall_mem_cons.mpr ⟨Nat.ne_of_lt hlr, hrl⟩
    k_steps
    exact h ra _ o9 W9 _ _ (by assumption) (News.pick (by assumption) turn_sub) ⟨_, d9⟩ (fun p hp => hlt9 p hp (I, oI) (.head _)) hra
-- kind: theorem
-- uses: S11a_turn
set_option maxRecDepth 100000 in
set_option maxHeartbeats 8000000 in
theorem seg11 {w : World} {L a : Addr} {cc : Value} {h₀ : Heap} {mean : ExcName → Option Value} {mg mb : Str → Option Value} {loose : List Str} {u : Str → Option Value} {W : Led} {s : Shared} {Q : Flow → Shared → Prop}
    {rl pl t0 t1 t2 t3 : Addr} {np : Nat} {pco qco : Obj} {qv : Option Value} {P0 P1 P2 P3 : Part}
    (B : Below callerA h₀ [] h₀) (X : (tp.heap_39 w.params).In h₀) (T : Top tp.view_39 loose mean mg mb h₀)
    (F : Fr h₀ L s.heap (fun y => if y = Str.ofString "rows" then some (.ref rl) else u y)) (N : News h₀ L s.heap ((rl, listOf #[] 0) :: (L + 1 + 1, qco) :: W))
    (hrl : ∀ p ∈ W, @LT.lt Nat _ p.1 rl) (hW : ∀ p ∈ W, p.1 ≠ L + 1 + 1) (hlr : @LT.lt Nat _ (L + 1 + 1) rl) (hpc : (L + 1, pco) ∈ W) (hpd : pco.data = .cell (some (.ref pl))) (hpl : (pl, listOf #[.ref t0, .ref t1, .ref t2, .ref t3] np) ∈ W) (hqd : qco.data = .cell qv)
    (e0 : ToldAt W (.ref t0) P0) (e1 : ToldAt W (.ref t1) P1) (e2 : ToldAt W (.ref t2) P2) (e3 : ToldAt W (.ref t3) P3) (p0 : P0.Ok) (p1 : P1.Ok) (p2 : P2.Ok) (p3 : P3.Ok)
    (h : ∀ ra rb nr W3 h' tk, Fr h₀ L h' (fun y => if y = Str.ofString "rows" then some (.ref rl) else u y) → News h₀ L h' ((rl, listOf #[.ref ra, .ref rb] nr) :: W3) → (∀ p ∈ W, p ∈ W3) → RowAt W3 ra (inAll P0.fams P1.fams P2.fams P3.fams) → RowAt W3 rb (inAll P0.hops P1.hops P2.hops P3.hops) → Q .next { s with heap := h', toks := tk }) :
    wpAny (model rw_br0002_01.row.prog w) (lawA L a cc) (exec (lawSt 11) (lawE L a cc)) Q (fun _ _ => False) s := by
  revert X
  w_top off
  k_fill
  intro X
  delta lawA lawE
  conv in (occs := *) lawSt _ => all_goals whnf
  conv in (occs := *) lawS => all_goals whnf
  refine For_turns F ?_ (hE := PassesOwn.never)
  iterate 7 (first | (k_unfold; (try dsimp only)) | walk1 | (dsimp only; walk1))
  obtain ⟨hrD, hcD, -⟩ := ‹_ ∧ _ ∧ AllLt _ W›
  rename Fr _ _ _ _ => F9
  rename News _ _ _ _ => N9
  rename Addr => D
  refine iter_tupTurns (vs := [.int 1 s.toks, .int 2 (s.toks + 1)]) rfl F9 N9 (.head _) rfl rfl fun I hI => ?_
  have hDI := hI _ (.head _)
  refine ItemsRest.val fun h1 tk1 F1 => ?_
  refine AllObj.cons fun oI hoI => ?_
  refine AllObj.nil fun N1 => ?_
  have hrl' : ∀ p ∈ W, p.1 ≠ rl := fun p hp => Nat.ne_of_lt (hrl p hp)
  refine turn1 (its := []) B X T F1 N1 hW hrl' hlr hrD hDI (Nat.zero_le _) hpc hpd hpl hqd e0 e1 e2 e3 p0 p1 p2 p3 ?_
  intro ra n1 q1 W1 h1' tk1' F1' N1' hq1 hl1 r1
  obtain ⟨v1, hq1⟩ := hq1
  have lt1 : ∀ p ∈ W1, @LT.lt Nat _ rl p.1 := fun p hp => Nat.lt_trans hrD (Nat.lt_trans hDI (hl1 p hp))
  refine ⟨h1', tk1', _, (D, _) :: (rl, listOf #[.ref ra] n1) :: (L + 1 + 1, q1) :: (W1 ++ W), rfl, F1', N1', ?off1, ⟨List.mem_cons_self, trivial⟩, ?rest⟩
  case off1 =>
    intro p hp q hq
    rw [List.mem_singleton.mp hq]
    rcases List.mem_cons.mp hp with rfl | hp
    · exact Nat.ne_of_lt hDI
    · rcases List.mem_cons.mp hp with rfl | hp
      · exact Nat.ne_of_lt (Nat.lt_trans hrD hDI)
      · rcases List.mem_cons.mp hp with rfl | hp
        · exact Nat.ne_of_lt (Nat.lt_trans hcD hDI)
        · rcases List.mem_append.mp hp with hp | hp
          · exact Nat.ne_of_gt (hl1 p hp)
          · exact Nat.ne_of_lt (Nat.lt_trans (hrl p hp) (Nat.lt_trans hrD hDI))
  clear F1 N1
  refine ItemsRest.val fun h2 tk2 F2 => ?_
  refine AllObj.cons fun oI2 hoI2 => ?_
  refine AllObj.nil fun N2 => ?_
  refine turn2 (its := [.ref ra]) (W := W1 ++ W) B X T F2 N2 ?w ?r hlr hrD hDI (Nat.le_of_ble_eq_true rfl) (sub_app _ hpc) hpd (sub_app _ hpl) hq1 (e0.mono sub_app) (e1.mono sub_app) (e2.mono sub_app) (e3.mono sub_app) p0 p1 p2 p3 ?_
  case w =>
    intro p hp
    rcases List.mem_append.mp hp with hp | hp
    · exact Nat.ne_of_gt (Nat.lt_trans hlr (lt1 p hp))
    · exact hW p hp
  case r =>
    intro p hp
    rcases List.mem_append.mp hp with hp | hp
    · exact Nat.ne_of_gt (lt1 p hp)
    · exact hrl' p hp
  intro rb n2 q2 W2 h2' tk2' F2' N2' hq2 hl2 r2
  refine ⟨h2', tk2', _, (D, _) :: (rl, listOf #[.ref ra, .ref rb] n2) :: (L + 1 + 1, q2) :: (W2 ++ (W1 ++ W)), rfl, F2', N2', ?off2, ⟨List.mem_cons_self, trivial⟩, ?rest2⟩
  case off2 =>
    intro p hp q hq
    rw [List.mem_singleton.mp hq]
    rcases List.mem_cons.mp hp with rfl | hp
    · exact Nat.ne_of_lt hDI
    · rcases List.mem_cons.mp hp with rfl | hp
      · exact Nat.ne_of_lt (Nat.lt_trans hrD hDI)
      · rcases List.mem_cons.mp hp with rfl | hp
        · exact Nat.ne_of_lt (Nat.lt_trans hcD hDI)
        · rcases List.mem_append.mp hp with hp | hp
          · exact Nat.ne_of_gt (hl2 p hp)
          · rcases List.mem_append.mp hp with hp | hp
            · exact Nat.ne_of_gt (hl1 p hp)
            · exact Nat.ne_of_lt (Nat.lt_trans (hrl p hp) (Nat.lt_trans hrD hDI))
  refine ItemsRest.zero fun h3 tk3 F3 N3 => ?_
  exact h ra rb n2 (W2 ++ (W1 ++ W)) h3 tk3 F3 (News.pick N3 fun p hp => by
    rcases List.mem_cons.mp hp with rfl | hp
    · exact .tail _ (.head _)
    · exact .tail _ (.tail _ (.tail _ hp))) (fun p hp => sub_app _ (sub_app _ hp)) (r1.mono sub_app) r2
-- kind: theorem
-- uses: S11a_turn
/-- what is due of all four -/
def dueOf (P0 P1 P2 P3 : Part) : Part :=
  { sec := min P0.sec (min P1.sec (min P2.sec P3.sec)), fams := inAll P0.fams P1.fams P2.fams P3.fams, hops := inAll P0.hops P1.hops P2.hops P3.hops, refresh := min P0.refresh (min P1.refresh (min P2.refresh P3.refresh)), large := P0.large && (P1.large && (P2.large && P3.large)), octets := P0.octets && (P1.octets && (P2.octets && P3.octets)), more := P0.more && (P1.more && (P2.more && P3.more)) }
theorem due_told {W : Led} {D ra rb : Addr} {M1 M2 : Int} {t1 t2 : Tok} {P0 P1 P2 P3 : Part}
    (hm : (D, ({ cls := .type "tuple", data := .seq #[.int M1 t1, .ref ra, .ref rb, .int M2 t2, .bool (P0.large && (P1.large && (P2.large && P3.large))), .bool (P0.octets && (P1.octets && (P2.octets && P3.octets))), .bool (P0.more && (P1.more && (P2.more && P3.more)))] } : Obj)) ∈ W)
    (a1 : M1 = P0.sec ∨ M1 = P1.sec ∨ M1 = P2.sec ∨ M1 = P3.sec) (b1 : M1 ≤ P0.sec ∧ M1 ≤ P1.sec ∧ M1 ≤ P2.sec ∧ M1 ≤ P3.sec)
    (a2 : M2 = P0.refresh ∨ M2 = P1.refresh ∨ M2 = P2.refresh ∨ M2 = P3.refresh) (b2 : M2 ≤ P0.refresh ∧ M2 ≤ P1.refresh ∧ M2 ≤ P2.refresh ∧ M2 ≤ P3.refresh)
    (ea : RowAt W ra (inAll P0.fams P1.fams P2.fams P3.fams)) (eb : RowAt W rb (inAll P0.hops P1.hops P2.hops P3.hops)) : ToldAt W (.ref D) (dueOf P0 P1 P2 P3) := by
  have e1 : M1 = min P0.sec (min P1.sec (min P2.sec P3.sec)) := by omega
  have e2 : M2 = min P0.refresh (min P1.refresh (min P2.refresh P3.refresh)) := by omega
  subst e1
  subst e2
  exact ⟨D, ra, rb, t1, t2, rfl, hm, ea, eb⟩
set_option maxRecDepth 100000 in
set_option maxHeartbeats 4000000 in
theorem seg12 {w : World} {L a : Addr} {cc : Value} {h₀ : Heap} {mean : ExcName → Option Value} {mg mb : Str → Option Value} {loose : List Str} {u : Str → Option Value} {W : Led} {s : Shared} {Q : Flow → Shared → Prop} {E : Value → Shared → Prop}
    {rl pl ra rb t0 t1 t2 t3 : Addr} {np nr : Nat} {pco : Obj} {P0 P1 P2 P3 : Part}
    (B : Below callerA h₀ [] h₀) (X : (tp.heap_39 w.params).In h₀) (T : Top tp.view_39 loose mean mg mb h₀)
    (F : Fr h₀ L s.heap (fun y => if y = Str.ofString "rows" then some (.ref rl) else u y)) (N : News h₀ L s.heap W)
    (hpc : (L + 1, pco) ∈ W) (hpd : pco.data = .cell (some (.ref pl))) (hpl : (pl, listOf #[.ref t0, .ref t1, .ref t2, .ref t3] np) ∈ W) (hrl : (rl, listOf #[.ref ra, .ref rb] nr) ∈ W)
    (e0 : ToldAt W (.ref t0) P0) (e1 : ToldAt W (.ref t1) P1) (e2 : ToldAt W (.ref t2) P2) (e3 : ToldAt W (.ref t3) P3) (ea : RowAt W ra (inAll P0.fams P1.fams P2.fams P3.fams)) (eb : RowAt W rb (inAll P0.hops P1.hops P2.hops P3.hops))
    (h : ∀ dt W' h' tk, (∀ p ∈ W, p ∈ W') → Fr h₀ L h' (fun y => if y = Str.ofString "due" then some (.ref dt) else if y = Str.ofString "rows" then some (.ref rl) else u y) → News h₀ L h' W' → ToldAt W' (.ref dt) (dueOf P0 P1 P2 P3) → Q .next { s with heap := h', toks := tk }) :
    wpAny (model rw_br0002_01.row.prog w) (lawA L a cc) (exec (lawSt 12) (lawE L a cc)) Q E s := by
  revert X
  w_top off
  k_fill
  intro X
  delta lawA lawE
  conv in (occs := *) lawSt _ => all_goals whnf
  conv in (occs := *) lawS => all_goals whnf
  obtain ⟨fa0, ha0, q0, q0', m0, r0, r0'⟩ := told_open e0
  obtain ⟨fa1, ha1, q1, q1', m1, r1, r1'⟩ := told_open e1
  obtain ⟨fa2, ha2, q2, q2', m2, r2, r2'⟩ := told_open e2
  obtain ⟨fa3, ha3, q3, q3', m3, r3, r3'⟩ := told_open e3
  clear e0 e1 e2 e3
  k_steps
  rename News _ _ _ _ => N9
  refine' h _ _ _ _ ?sb (by assumption) N9 (due_told ?m ?a1 ?b1 ?a2 ?b2 ?ea ?eb)
  case sb => walk_at "SUB"
  case m => exact List.mem_cons_self
  case a1 => assumption
  case b1 => assumption
  case a2 => assumption
  case b2 => assumption
  case ea => exact ea.mono (by walk_at "SUB")
  case eb => exact eb.mono (by walk_at "SUB")
-- kind: theorem
set_option maxRecDepth 100000 in
set_option maxHeartbeats 8000000 in
theorem seg13 {w : World} {L a : Addr} {cc : Value} {h₀ : Heap} {mean : ExcName → Option Value} {mg mb : Str → Option Value} {loose : List Str} {u : Str → Option Value} {W : Led} {s : Shared} {Q : Flow → Shared → Prop} {E : Value → Shared → Prop}
    {o2 o3 oj : Value} {dt : Addr} {Pj P2 P3 PD : Part} {late : Bool}
    (B : Below callerA h₀ [] h₀) (X : (tp.heap_39 w.params).In h₀) (T : Top tp.view_39 loose mean mg mb h₀)
    (F : Fr h₀ L s.heap (fun y => if y = Str.ofString "joined" then some oj else if y = Str.ofString "c" then some o2 else if y = Str.ofString "d" then some o3 else if y = Str.ofString "due" then some (.ref dt) else if y = Str.ofString "late" then some (.bool late) else u y)) (N : News h₀ L s.heap W)
    (dj : OpenAt w W oj Pj) (d2 : OpenAt w W o2 P2) (d3 : OpenAt w W o3 P3) (ed : ToldAt W (.ref dt) PD) (pj : Pj.Ok) (p2 : P2.Ok) (p3 : P3.Ok) (pj2 : (tell Pj P2).Ok) (p23 : (tell P2 P3).Ok)
    (x1 : tell (tell Pj P2) P3 = PD) (x2 : tell Pj (tell P2 P3) = PD)
    (h : ∀ h' tk, Fr h₀ L h' (fun y => if y = Str.ofString "joined" then some oj else if y = Str.ofString "c" then some o2 else if y = Str.ofString "d" then some o3 else if y = Str.ofString "due" then some (.ref dt) else if y = Str.ofString "late" then some (.bool late) else u y) → News h₀ L h' W → Q (.ret (.bool true)) { s with heap := h', toks := tk }) :
    wpAny (model rw_br0002_01.row.prog w) (lawA L a cc) (exec (lawSt 13) (lawE L a cc)) Q E s := by
  revert X
  w_top off
  k_fill
  intro X
  delta lawA lawE
  conv in (occs := *) lawSt _ => all_goals whnf
  conv in (occs := *) lawS => all_goals whnf
  k_steps
  exact h _ _ (by assumption) (News.pick (by assumption) (by walk_at "SUB"))
-- kind: theorem
section
variable {w : World} {f : Addr} {n : Nat} {vs : List Value} {Rel : Led → Prop} {Out : Led → Led → Value → Prop} {loose : List Str} {mean : ExcName → Option Value} {mg mb : Str → Option Value} {dp un : Nat} {gd : Option (List Code)} {cn : Str} {cs : Scope} {a : Addr} {ccd : Value} {cl : List (Str × Addr)} {outer : List Env}
    {A₀ : Around} {base h₀ : Heap} {L I : Addr} {it : Obj} {m : Str → Option Value} {news : Led} {s : Shared} {Q E : Value → Shared → Prop}
theorem con_useI (hI : (I, it) ∈ news) (C : Con w f n vs Rel Out) (B : Below A₀ base outer h₀) (F : Fr h₀ L s.heap m) (X : (tp.heap_39 w.params).In h₀) (N : News h₀ L s.heap news) (T : Top tp.view_39 loose mean mg mb h₀) (hk : cs.kind = .function) (hR : Rel news)
    (hd : dp + n < recursionLimit) (hu : un + 8 * n < cLine)
    (ret : ∀ r tl h' tk', Fr h₀ L h' m → News h₀ L h' (tl ++ news) → (∀ p ∈ tl, @LT.lt Nat _ I p.1) → Out tl news r → Q r { s with heap := h', toks := tk' }) :
    wpAny (model rw_br0002_01.row.prog w) (ktrTop dp un gd cn cs L a ccd cl outer) (call (.ref f) vs) Q E s :=
  con_use C B F X N T hk hR hd hu fun r tl h' tk' F' N' lt o => ret r tl h' tk' F' N' (fun p hp => lt _ hI p hp) o
end
theorem open_f (w : World) (sec refresh : Int) (fams hops : List Fam) (large octets more : Bool) (f h : Addr) (t1 t2 : Tok) (hr : refresh = 1 ∨ refresh = 2 ∨ refresh = 4) :
    Con w 284 8 [.int sec t1, .ref f, .ref h, .int refresh t2, .bool large, .bool octets, .bool more] (fun news => RowAt news f fams ∧ RowAt news h hops) (fun tl _ r => OpenNew w tl r ⟨sec, fams, hops, refresh, large, octets, more⟩ f h) :=
  open_n w ⟨sec, fams, hops, refresh, large, octets, more⟩ f h t1 t2 hr
theorem upd_app_gt {d I : Addr} {o o' : Obj} {tl r r' : Led} (ht : ∀ p ∈ tl, @LT.lt Nat _ I p.1) (hd : @LT.lt Nat _ d I) (U : Upd d o o' r r') : Upd d o o' (tl ++ r) (tl ++ r') := by
  have hne : ∀ p ∈ tl, p.1 ≠ d := fun p hp => Nat.ne_of_gt (Nat.lt_trans hd (ht p hp))
  clear ht
  induction tl with
  | nil => exact U
  | cons p tl ih => exact .tail (hne p (.head _)) (ih fun q hq => hne q (.tail _ hq))
theorem sub_left9 {a b : Led} : ∀ p ∈ a, p ∈ a ++ b := fun _ hp => List.mem_append.mpr (.inl hp)
section
variable {prog : Program} {w : World} {A : Around} {E : Value → Shared → Prop} {s : Shared} {h₀ : Heap} {L D : Addr} {m : Str → Option Value} {news news' : Led} {n : Nat} {v0 v1 v2 x : Value} {Q : Value → Shared → Prop}
theorem appL0 (F : Fr h₀ L s.heap m) (N : News h₀ L s.heap news) (U : Upd D (listOf #[] n) (listOf #[x] (n + 1)) news news') (h : ∀ h', Fr h₀ L h' m → News h₀ L h' news' → Q .none { s with heap := h' }) : wpAny (model prog w) A (call (.builtin "list.append") [.ref D, x]) Q E s :=
  app_row (acc := []) F N (by simp) U h
theorem appL1 (F : Fr h₀ L s.heap m) (N : News h₀ L s.heap news) (U : Upd D (listOf #[v0] n) (listOf #[v0, x] (n + 1)) news news') (h : ∀ h', Fr h₀ L h' m → News h₀ L h' news' → Q .none { s with heap := h' }) : wpAny (model prog w) A (call (.builtin "list.append") [.ref D, x]) Q E s :=
  app_row (acc := [v0]) F N (by simp) U h
theorem appL2 (F : Fr h₀ L s.heap m) (N : News h₀ L s.heap news) (U : Upd D (listOf #[v0, v1] n) (listOf #[v0, v1, x] (n + 1)) news news') (h : ∀ h', Fr h₀ L h' m → News h₀ L h' news' → Q .none { s with heap := h' }) : wpAny (model prog w) A (call (.builtin "list.append") [.ref D, x]) Q E s :=
  app_row (acc := [v0, v1]) F N (by simp) U h
theorem appL3 (F : Fr h₀ L s.heap m) (N : News h₀ L s.heap news) (U : Upd D (listOf #[v0, v1, v2] n) (listOf #[v0, v1, v2, x] (n + 1)) news news') (h : ∀ h', Fr h₀ L h' m → News h₀ L h' news' → Q .none { s with heap := h' }) : wpAny (model prog w) A (call (.builtin "list.append") [.ref D, x]) Q E s :=
  app_row (acc := [v0, v1, v2]) F N (by simp) U h
end
section
variable {prog : Program} {w : World} {A : Around} {E : Value → Shared → Prop} {s : Shared} {g : Heap} {L l : Addr} {news : Led} {v0 v1 v2 v3 : Value} {n : Nat} {value slice : PySem.Expr} {u : Tok} {Q : Value → Shared → Prop}
theorem lit1 (N : News g L s.heap news) (hm : (l, listOf #[v0] n) ∈ news) (h : Q v0 s) (hs : subscripted slice false (.ref l) (.int 0 u) = operate [.ref l, .int 0 u] (getItem (.ref l) (.int 0 u)) := by with_unfolding_all rfl) (hg : ∀ r, letTemporaryGo value (.ref l) r = pure () := by intro _; with_unfolding_all rfl) :
    wpAny (model prog w) A (subscriptTail value slice (.ref l) (.int 0 u)) Q E s := my_item N hm (by decide) (by decide) rfl h hs hg
theorem lit2 (N : News g L s.heap news) (hm : (l, listOf #[v0, v1] n) ∈ news) (h : Q v1 s) (hs : subscripted slice false (.ref l) (.int 1 u) = operate [.ref l, .int 1 u] (getItem (.ref l) (.int 1 u)) := by with_unfolding_all rfl) (hg : ∀ r, letTemporaryGo value (.ref l) r = pure () := by intro _; with_unfolding_all rfl) :
    wpAny (model prog w) A (subscriptTail value slice (.ref l) (.int 1 u)) Q E s := my_item N hm (by decide) (by decide) rfl h hs hg
theorem lit3 (N : News g L s.heap news) (hm : (l, listOf #[v0, v1, v2] n) ∈ news) (h : Q v2 s) (hs : subscripted slice false (.ref l) (.int 2 u) = operate [.ref l, .int 2 u] (getItem (.ref l) (.int 2 u)) := by with_unfolding_all rfl) (hg : ∀ r, letTemporaryGo value (.ref l) r = pure () := by intro _; with_unfolding_all rfl) :
    wpAny (model prog w) A (subscriptTail value slice (.ref l) (.int 2 u)) Q E s := my_item N hm (by decide) (by decide) rfl h hs hg
theorem lit4 (N : News g L s.heap news) (hm : (l, listOf #[v0, v1, v2, v3] n) ∈ news) (h : Q v3 s) (hs : subscripted slice false (.ref l) (.int 3 u) = operate [.ref l, .int 3 u] (getItem (.ref l) (.int 3 u)) := by with_unfolding_all rfl) (hg : ∀ r, letTemporaryGo value (.ref l) r = pure () := by intro _; with_unfolding_all rfl) :
    wpAny (model prog w) A (subscriptTail value slice (.ref l) (.int 3 u)) Q E s := my_item N hm (by decide) (by decide) rfl h hs hg
end
theorem ne_all {news : Led} {D d : Addr} {o : Obj} (h : ∀ p ∈ news, p.1 < D) (hm : (d, o) ∈ news) : D ≠ d := Nat.ne_of_gt (h _ hm)
theorem ne_allLt {A : Prop} {news : Led} {D d : Addr} {o : Obj} (h : A ∧ AllLt D news) (hm : (d, o) ∈ news) : D ≠ d := Nat.ne_of_gt (ktn_ltOf h.2 _ hm)
theorem pick124 {x : Int} (h0 : 0 ≤ x) (h1 : x < 3) : ([1, 2, 4] : List Int).getD x.toNat 0 = 1 ∨ ([1, 2, 4] : List Int).getD x.toNat 0 = 2 ∨ ([1, 2, 4] : List Int).getD x.toNat 0 = 4 := by
  obtain rfl | rfl | rfl : x = 0 ∨ x = 1 ∨ x = 2 := by omega
  · exact .inl rfl
  · exact .inr (.inl rfl)
  · exact .inr (.inr rfl)
theorem close_sub {x y z i j k l : Addr × Obj} {U3 U2 U1 W : Led} : ∀ p ∈ i :: j :: k :: l :: ((U3 ++ x :: (U2 ++ U1)) ++ W), p ∈ U3 ++ x :: y :: (U2 ++ (U1 ++ z :: i :: j :: k :: l :: W)) := by
  intro p hp
  simp only [List.mem_cons, List.mem_append] at hp ⊢
  rcases hp with h | h | h | h | (h | h | h | h) | h <;> simp [h]
theorem close_gt {I : Addr} {x : Addr × Obj} {U3 U2 U1 : Led} (h3 : ∀ p ∈ U3, @LT.lt Nat _ I p.1) (hx : @LT.lt Nat _ I x.1) (h2 : ∀ p ∈ U2, @LT.lt Nat _ I p.1) (h1 : ∀ p ∈ U1, @LT.lt Nat _ I p.1) : ∀ p ∈ U3 ++ x :: (U2 ++ U1), @LT.lt Nat _ I p.1 := by
  intro p hp
  simp only [List.mem_cons, List.mem_append] at hp
  rcases hp with h | h | h | h
  · exact h3 p h
  · rw [h]; exact hx
  · exact h2 p h
  · exact h1 p h
theorem in3 {x : Addr × Obj} {U3 U2 U1 : Led} : ∀ p ∈ U3, p ∈ U3 ++ x :: (U2 ++ U1) := fun _ h => List.mem_append.mpr (.inl h)
theorem in2 {x : Addr × Obj} {U3 U2 U1 : Led} : ∀ p ∈ U2, p ∈ U3 ++ x :: (U2 ++ U1) := fun _ h => List.mem_append.mpr (.inr (.tail _ (List.mem_append.mpr (.inl h))))
theorem in1 {x : Addr × Obj} {U3 U2 U1 : Led} : ∀ p ∈ U1, p ∈ U3 ++ x :: (U2 ++ U1) := fun _ h => List.mem_append.mpr (.inr (.tail _ (List.mem_append.mpr (.inr h))))
theorem inx {x : Addr × Obj} {U3 U2 U1 : Led} : x ∈ U3 ++ x :: (U2 ++ U1) := List.mem_append.mpr (.inr (.head _))
theorem lt_in2 {A : Prop} {I D : Addr} {it : Obj} {x : Addr × Obj} {U2 U1 r : Led} (h : A ∧ AllLt D (U2 ++ (U1 ++ x :: (I, it) :: r))) : @LT.lt Nat _ I D :=
  ktn_ltOf h.2 (I, it) (List.mem_append.mpr (.inr (List.mem_append.mpr (.inr (.tail _ (.head _))))))
-- kind: macro
local macro_rules | `(tactic| walk_at "SUB") => `(tactic| first | exact fun _ h => h | assumption | exact sub_left9 | (refine' sub_via ?_ ?_; rotate_left; assumption; walk_at "SUB") | (refine' sub_cons9 ?_; walk_at "SUB") | (refine' sub_app9 ?_; walk_at "SUB"))
local macro_rules | `(tactic| k_upd) => `(tactic| (refine' upd_app_gt ?a ?d ?b; (case a => assumption); (case d => assumption); (case b => k_upd)))
local macro_rules | `(tactic| k_all) => `(tactic| (refine List.forall_mem_cons.mpr ⟨?x9, ?y9⟩; (case x9 => k_ne); (case y9 => k_all)))
local macro_rules | `(tactic| walk_at "call ref") => `(tactic| (k_here; k_dflt ((show wpAny _ _ (call (Value.ref 277) _) _ _ _); (refine' con_useI (it := itR _ _) ?kI (row_c _ _ _) ?k1 ?k2 ?k3 ?k4 ?k5 ?kK ?kR ?kd ?ku ?_); (case k1 => k_asm); (case k2 => k_asm); (case k3 => k_asm); (case k4 => k_asm); (case k5 => k_asm); (case kK => first | exact rfl | assumption); (case kR => trivial); (case kd => ktr_room); (case ku => ktr_units); (case kI => walk_at "MEM"); intro r9 tl9 h9 tk9 F9 N9 lt9 ho9; obtain ⟨l9, R9, e9, rr9, ro9⟩ := ho9; subst e9; (try dsimp only); (try k_fold))))
local macro_rules | `(tactic| walk_at "call ref") => `(tactic| (k_here; k_dflt ((show wpAny _ _ (call (Value.ref 284) _) _ _ _); (refine' con_useI (it := itR _ _) ?kI (open_f _ _ _ _ _ _ _ _ _ _ _ _ ?hr) ?k1 ?k2 ?k3 ?k4 ?k5 ?kK ?kR ?kd ?ku ?_); (case k1 => k_asm); (case k2 => k_asm); (case k3 => k_asm); (case k4 => k_asm); (case k5 => k_asm); (case kK => first | exact rfl | assumption); (case kR => refine ⟨?c8, ?c9⟩; (case c8 => walk_at "ROW"); (case c9 => walk_at "ROW")); (case hr => first | assumption | (refine' pick124 ?_ ?_ <;> assumption) | exact .inl rfl | exact .inr (.inl rfl) | exact .inr (.inr rfl)); (case kd => ktr_room); (case ku => ktr_units); (case kI => walk_at "MEM"); intro r9 tl9 h9 tk9 F9 N9 lt9 ho9; (try dsimp only); (try k_fold))))
local macro_rules | `(tactic| walk_at "call builtin:list.append") => `(tactic| (k_here; k_dflt ((show wpAny _ _ (call (Value.builtin _) [Value.ref _, _]) _ _ _); first | (refine' appL0 ?F ?N ?U ?_; (case F => k_asm); (case N => k_asm); (case U => k_upd)) | (refine' appL1 ?F ?N ?U ?_; (case F => k_asm); (case N => k_asm); (case U => k_upd)) | (refine' appL2 ?F ?N ?U ?_; (case F => k_asm); (case N => k_asm); (case U => k_upd)) | (refine' appL3 ?F ?N ?U ?_; (case F => k_asm); (case N => k_asm); (case U => k_upd))); intro h9 F9 N9))
local macro_rules | `(tactic| walk_at "subscriptTail") => `(tactic| (k_here; (with_reducible show wpAny _ _ (subscriptTail (PySem.Expr.Name _ _) _ (Value.ref _) (Value.int 0 _)) _ _ _); k_dflt ((refine' lit1 ?N ?m ?_); (case N => k_asm); (case m => walk_at "MEM"))))
local macro_rules | `(tactic| walk_at "subscriptTail") => `(tactic| (k_here; (with_reducible show wpAny _ _ (subscriptTail (PySem.Expr.Name _ _) _ (Value.ref _) (Value.int 1 _)) _ _ _); k_dflt ((refine' lit2 ?N ?m ?_); (case N => k_asm); (case m => walk_at "MEM"))))
local macro_rules | `(tactic| walk_at "subscriptTail") => `(tactic| (k_here; (with_reducible show wpAny _ _ (subscriptTail (PySem.Expr.Name _ _) _ (Value.ref _) (Value.int 2 _)) _ _ _); k_dflt ((refine' lit3 ?N ?m ?_); (case N => k_asm); (case m => walk_at "MEM"))))
local macro_rules | `(tactic| walk_at "subscriptTail") => `(tactic| (k_here; (with_reducible show wpAny _ _ (subscriptTail (PySem.Expr.Name _ _) _ (Value.ref _) (Value.int 3 _)) _ _ _); k_dflt ((refine' lit4 ?N ?m ?_); (case N => k_asm); (case m => walk_at "MEM"))))
local macro_rules | `(tactic| k_ne) => `(tactic| (refine' ne_all ?h9 ?m9; (case h9 => assumption); (case m9 => walk_at "MEM")))
local macro_rules | `(tactic| k_ne) => `(tactic| (refine' ne_allLt ?h9 ?m9; (case h9 => assumption); (case m9 => walk_at "MEM")))
-- kind: theorem
def lawK : List Stmt := match lawSt 3 with | .For _ _ b _ _ => b | _ => []
set_option maxRecDepth 100000 in
set_option maxHeartbeats 8000000 in
theorem lturn0 {w : World} {L a : Addr} {cc : Value} {h₀ : Heap} {mean : ExcName → Option Value} {mg mb : Str → Option Value} {loose : List Str} {u : Str → Option Value} {W : Led} {s : Shared} {Q : Flow → Shared → Prop} {E : Value → Shared → Prop}
    {sl pl cl I : Addr} {n1 n2 n3 : Nat} {q1 q2 : Int} {c0 c1 c2 c3 c4 c5 c6 c7 c8 c9 c10 c11 c12 : Int} {x0 x1 x2 x3 x4 x5 x6 x7 x8 x9 x10 x11 x12 : Tok} {pco : Obj} {late : Bool} {tk0 : Tok}
    (B : Below callerA h₀ [] h₀) (X : (tp.heap_39 w.params).In h₀) (T : Top tp.view_39 loose mean mg mb h₀)
    (F : Fr h₀ L s.heap (fun y => if y = Str.ofString "k" then some (.int 0 tk0) else if y = Str.ofString "cells" then some (.ref cl) else if y = Str.ofString "some" then some (.ref sl) else if y = Str.ofString "late" then some (.bool late) else u y))
    (N : News h₀ L s.heap ((I, itR q1 q2) :: (sl, listOf #[] n1) :: (pl, listOf #[] n2) :: (cl, listOf #[.int c0 x0, .int c1 x1, .int c2 x2, .int c3 x3, .int c4 x4, .int c5 x5, .int c6 x6, .int c7 x7, .int c8 x8, .int c9 x9, .int c10 x10, .int c11 x11, .int c12 x12] n3) :: W))
    (hps : @LT.lt Nat _ pl sl) (hsI : @LT.lt Nat _ sl I) (hpI : @LT.lt Nat _ pl I) (hcp : @LT.lt Nat _ cl pl) (hcs : @LT.lt Nat _ cl sl) (hWs : ∀ p ∈ W, p.1 ≠ sl) (hWp : ∀ p ∈ W, p.1 ≠ pl)
    (hpc : (L + 1, pco) ∈ W) (hpd : pco.data = .cell (some (.ref pl)))
    (h : ∀ o t P W' n1' n2' (u' : Str → Option Value) h' tk', P.Ok → Fr h₀ L h' (fun y => if y = Str.ofString "cells" then some (.ref cl) else if y = Str.ofString "some" then some (.ref sl) else if y = Str.ofString "late" then some (.bool late) else u' y) → News h₀ L h' ((I, itR q1 q2) :: (sl, listOf #[o] n1') :: (pl, listOf #[.ref t] n2') :: (cl, listOf #[.int c0 x0, .int c1 x1, .int c2 x2, .int c3 x3, .int c4 x4, .int c5 x5, .int c6 x6, .int c7 x7, .int c8 x8, .int c9 x9, .int c10 x10, .int c11 x11, .int c12 x12] n3) :: (W' ++ W)) → (∀ p ∈ W', @LT.lt Nat _ I p.1) → OpenAt w W' o P → ToldAt W' (.ref t) P → Q .next { s with heap := h', toks := tk' }) :
    wpAny (model rw_br0002_01.row.prog w) (lawA L a cc) (execs lawK (lawE L a cc)) Q E s := by
  revert X
  w_top off
  k_fill
  intro X
  delta lawA lawE
  conv in (occs := *) lawK => all_goals whnf
  conv in (occs := *) lawS => all_goals whnf
  k_steps
  rename Fr _ _ _ _ => F9
  rename News _ _ _ _ => N9
  have F8 := fr_name (x := Str.ofString "cells") (fr_name (x := Str.ofString "some") (fr_name (x := Str.ofString "late") F9 rfl) rfl) rfl
  refine' h _ _ _ _ _ _ _ _ _ ?ok F8 (News.pick N9 close_sub) ?gt ?op ?to
  case gt => exact close_gt (by assumption) (lt_in2 (by assumption)) (by assumption) (by assumption)
  case op => exact OpenNew.at (by assumption) in3 (RowAt.mono in1 (by assumption)) (RowAt.mono in2 (by assumption))
  case to => exact ⟨_, _, _, _, _, rfl, inx, RowAt.mono in1 (by assumption), RowAt.mono in2 (by assumption)⟩
  case ok => exact ⟨by assumption, by assumption, pick124 (by assumption) (by assumption), Int.fmod_nonneg_of_pos _ (by decide), Int.fmod_lt_of_pos _ (by decide)⟩
set_option maxRecDepth 100000 in
set_option maxHeartbeats 8000000 in
theorem lturn1 {w : World} {L a : Addr} {cc : Value} {h₀ : Heap} {mean : ExcName → Option Value} {mg mb : Str → Option Value} {loose : List Str} {u : Str → Option Value} {W : Led} {s : Shared} {Q : Flow → Shared → Prop} {E : Value → Shared → Prop}
    {sl pl cl I : Addr} {n1 n2 n3 : Nat} {q1 q2 : Int} {c0 c1 c2 c3 c4 c5 c6 c7 c8 c9 c10 c11 c12 : Int} {x0 x1 x2 x3 x4 x5 x6 x7 x8 x9 x10 x11 x12 : Tok} {o0 : Value} {t0 : Addr} {pco : Obj} {late : Bool} {tk0 : Tok}
    (B : Below callerA h₀ [] h₀) (X : (tp.heap_39 w.params).In h₀) (T : Top tp.view_39 loose mean mg mb h₀)
    (F : Fr h₀ L s.heap (fun y => if y = Str.ofString "k" then some (.int 1 tk0) else if y = Str.ofString "cells" then some (.ref cl) else if y = Str.ofString "some" then some (.ref sl) else if y = Str.ofString "late" then some (.bool late) else u y))
    (N : News h₀ L s.heap ((I, itR q1 q2) :: (sl, listOf #[o0] n1) :: (pl, listOf #[.ref t0] n2) :: (cl, listOf #[.int c0 x0, .int c1 x1, .int c2 x2, .int c3 x3, .int c4 x4, .int c5 x5, .int c6 x6, .int c7 x7, .int c8 x8, .int c9 x9, .int c10 x10, .int c11 x11, .int c12 x12] n3) :: W))
    (hps : @LT.lt Nat _ pl sl) (hsI : @LT.lt Nat _ sl I) (hpI : @LT.lt Nat _ pl I) (hcp : @LT.lt Nat _ cl pl) (hcs : @LT.lt Nat _ cl sl) (hWs : ∀ p ∈ W, p.1 ≠ sl) (hWp : ∀ p ∈ W, p.1 ≠ pl)
    (hpc : (L + 1, pco) ∈ W) (hpd : pco.data = .cell (some (.ref pl)))
    (h : ∀ o t P W' n1' n2' (u' : Str → Option Value) h' tk', P.Ok → Fr h₀ L h' (fun y => if y = Str.ofString "cells" then some (.ref cl) else if y = Str.ofString "some" then some (.ref sl) else if y = Str.ofString "late" then some (.bool late) else u' y) → News h₀ L h' ((I, itR q1 q2) :: (sl, listOf #[o0, o] n1') :: (pl, listOf #[.ref t0, .ref t] n2') :: (cl, listOf #[.int c0 x0, .int c1 x1, .int c2 x2, .int c3 x3, .int c4 x4, .int c5 x5, .int c6 x6, .int c7 x7, .int c8 x8, .int c9 x9, .int c10 x10, .int c11 x11, .int c12 x12] n3) :: (W' ++ W)) → (∀ p ∈ W', @LT.lt Nat _ I p.1) → OpenAt w W' o P → ToldAt W' (.ref t) P → Q .next { s with heap := h', toks := tk' }) :
    wpAny (model rw_br0002_01.row.prog w) (lawA L a cc) (execs lawK (lawE L a cc)) Q E s := by
  revert X
  w_top off
  k_fill
  intro X
  delta lawA lawE
  conv in (occs := *) lawK => all_goals whnf
  conv in (occs := *) lawS => all_goals whnf
  k_steps
  rename Fr _ _ _ _ => F9
  rename News _ _ _ _ => N9
  have F8 := fr_name (x := Str.ofString "cells") (fr_name (x := Str.ofString "some") (fr_name (x := Str.ofString "late") F9 rfl) rfl) rfl
  refine' h _ _ _ _ _ _ _ _ _ ?ok F8 (News.pick N9 close_sub) ?gt ?op ?to
  case gt => exact close_gt (by assumption) (lt_in2 (by assumption)) (by assumption) (by assumption)
  case op => exact OpenNew.at (by assumption) in3 (RowAt.mono in1 (by assumption)) (RowAt.mono in2 (by assumption))
  case to => exact ⟨_, _, _, _, _, rfl, inx, RowAt.mono in1 (by assumption), RowAt.mono in2 (by assumption)⟩
  case ok => exact ⟨by assumption, by assumption, pick124 (by assumption) (by assumption), Int.fmod_nonneg_of_pos _ (by decide), Int.fmod_lt_of_pos _ (by decide)⟩
set_option maxRecDepth 100000 in
set_option maxHeartbeats 8000000 in
theorem lturn2 {w : World} {L a : Addr} {cc : Value} {h₀ : Heap} {mean : ExcName → Option Value} {mg mb : Str → Option Value} {loose : List Str} {u : Str → Option Value} {W : Led} {s : Shared} {Q : Flow → Shared → Prop} {E : Value → Shared → Prop}
    {sl pl cl I : Addr} {n1 n2 n3 : Nat} {q1 q2 : Int} {c0 c1 c2 c3 c4 c5 c6 c7 c8 c9 c10 c11 c12 : Int} {x0 x1 x2 x3 x4 x5 x6 x7 x8 x9 x10 x11 x12 : Tok} {o0 o1 : Value} {t0 t1 : Addr} {pco : Obj} {late : Bool} {tk0 : Tok}
    (B : Below callerA h₀ [] h₀) (X : (tp.heap_39 w.params).In h₀) (T : Top tp.view_39 loose mean mg mb h₀)
    (F : Fr h₀ L s.heap (fun y => if y = Str.ofString "k" then some (.int 2 tk0) else if y = Str.ofString "cells" then some (.ref cl) else if y = Str.ofString "some" then some (.ref sl) else if y = Str.ofString "late" then some (.bool late) else u y))
    (N : News h₀ L s.heap ((I, itR q1 q2) :: (sl, listOf #[o0, o1] n1) :: (pl, listOf #[.ref t0, .ref t1] n2) :: (cl, listOf #[.int c0 x0, .int c1 x1, .int c2 x2, .int c3 x3, .int c4 x4, .int c5 x5, .int c6 x6, .int c7 x7, .int c8 x8, .int c9 x9, .int c10 x10, .int c11 x11, .int c12 x12] n3) :: W))
    (hps : @LT.lt Nat _ pl sl) (hsI : @LT.lt Nat _ sl I) (hpI : @LT.lt Nat _ pl I) (hcp : @LT.lt Nat _ cl pl) (hcs : @LT.lt Nat _ cl sl) (hWs : ∀ p ∈ W, p.1 ≠ sl) (hWp : ∀ p ∈ W, p.1 ≠ pl)
    (hpc : (L + 1, pco) ∈ W) (hpd : pco.data = .cell (some (.ref pl)))
    (h : ∀ o t P W' n1' n2' (u' : Str → Option Value) h' tk', P.Ok → Fr h₀ L h' (fun y => if y = Str.ofString "cells" then some (.ref cl) else if y = Str.ofString "some" then some (.ref sl) else if y = Str.ofString "late" then some (.bool late) else u' y) → News h₀ L h' ((I, itR q1 q2) :: (sl, listOf #[o0, o1, o] n1') :: (pl, listOf #[.ref t0, .ref t1, .ref t] n2') :: (cl, listOf #[.int c0 x0, .int c1 x1, .int c2 x2, .int c3 x3, .int c4 x4, .int c5 x5, .int c6 x6, .int c7 x7, .int c8 x8, .int c9 x9, .int c10 x10, .int c11 x11, .int c12 x12] n3) :: (W' ++ W)) → (∀ p ∈ W', @LT.lt Nat _ I p.1) → OpenAt w W' o P → ToldAt W' (.ref t) P → Q .next { s with heap := h', toks := tk' }) :
    wpAny (model rw_br0002_01.row.prog w) (lawA L a cc) (execs lawK (lawE L a cc)) Q E s := by
  revert X
  w_top off
  k_fill
  intro X
  delta lawA lawE
  conv in (occs := *) lawK => all_goals whnf
  conv in (occs := *) lawS => all_goals whnf
  k_steps
  rename Fr _ _ _ _ => F9
  rename News _ _ _ _ => N9
  have F8 := fr_name (x := Str.ofString "cells") (fr_name (x := Str.ofString "some") (fr_name (x := Str.ofString "late") F9 rfl) rfl) rfl
  refine' h _ _ _ _ _ _ _ _ _ ?ok F8 (News.pick N9 close_sub) ?gt ?op ?to
  case gt => exact close_gt (by assumption) (lt_in2 (by assumption)) (by assumption) (by assumption)
  case op => exact OpenNew.at (by assumption) in3 (RowAt.mono in1 (by assumption)) (RowAt.mono in2 (by assumption))
  case to => exact ⟨_, _, _, _, _, rfl, inx, RowAt.mono in1 (by assumption), RowAt.mono in2 (by assumption)⟩
  case ok => exact ⟨by assumption, by assumption, pick124 (by assumption) (by assumption), Int.fmod_nonneg_of_pos _ (by decide), Int.fmod_lt_of_pos _ (by decide)⟩
set_option maxRecDepth 100000 in
set_option maxHeartbeats 8000000 in
theorem lturn3 {w : World} {L a : Addr} {cc : Value} {h₀ : Heap} {mean : ExcName → Option Value} {mg mb : Str → Option Value} {loose : List Str} {u : Str → Option Value} {W : Led} {s : Shared} {Q : Flow → Shared → Prop} {E : Value → Shared → Prop}
    {sl pl cl I : Addr} {n1 n2 n3 : Nat} {q1 q2 : Int} {c0 c1 c2 c3 c4 c5 c6 c7 c8 c9 c10 c11 c12 : Int} {x0 x1 x2 x3 x4 x5 x6 x7 x8 x9 x10 x11 x12 : Tok} {o0 o1 o2 : Value} {t0 t1 t2 : Addr} {pco : Obj} {late : Bool} {tk0 : Tok}
    (B : Below callerA h₀ [] h₀) (X : (tp.heap_39 w.params).In h₀) (T : Top tp.view_39 loose mean mg mb h₀)
    (F : Fr h₀ L s.heap (fun y => if y = Str.ofString "k" then some (.int 3 tk0) else if y = Str.ofString "cells" then some (.ref cl) else if y = Str.ofString "some" then some (.ref sl) else if y = Str.ofString "late" then some (.bool late) else u y))
    (N : News h₀ L s.heap ((I, itR q1 q2) :: (sl, listOf #[o0, o1, o2] n1) :: (pl, listOf #[.ref t0, .ref t1, .ref t2] n2) :: (cl, listOf #[.int c0 x0, .int c1 x1, .int c2 x2, .int c3 x3, .int c4 x4, .int c5 x5, .int c6 x6, .int c7 x7, .int c8 x8, .int c9 x9, .int c10 x10, .int c11 x11, .int c12 x12] n3) :: W))
    (hps : @LT.lt Nat _ pl sl) (hsI : @LT.lt Nat _ sl I) (hpI : @LT.lt Nat _ pl I) (hcp : @LT.lt Nat _ cl pl) (hcs : @LT.lt Nat _ cl sl) (hWs : ∀ p ∈ W, p.1 ≠ sl) (hWp : ∀ p ∈ W, p.1 ≠ pl)
    (hpc : (L + 1, pco) ∈ W) (hpd : pco.data = .cell (some (.ref pl)))
    (h : ∀ o t P W' n1' n2' (u' : Str → Option Value) h' tk', P.Ok → Fr h₀ L h' (fun y => if y = Str.ofString "cells" then some (.ref cl) else if y = Str.ofString "some" then some (.ref sl) else if y = Str.ofString "late" then some (.bool late) else u' y) → News h₀ L h' ((I, itR q1 q2) :: (sl, listOf #[o0, o1, o2, o] n1') :: (pl, listOf #[.ref t0, .ref t1, .ref t2, .ref t] n2') :: (cl, listOf #[.int c0 x0, .int c1 x1, .int c2 x2, .int c3 x3, .int c4 x4, .int c5 x5, .int c6 x6, .int c7 x7, .int c8 x8, .int c9 x9, .int c10 x10, .int c11 x11, .int c12 x12] n3) :: (W' ++ W)) → (∀ p ∈ W', @LT.lt Nat _ I p.1) → OpenAt w W' o P → ToldAt W' (.ref t) P → Q .next { s with heap := h', toks := tk' }) :
    wpAny (model rw_br0002_01.row.prog w) (lawA L a cc) (execs lawK (lawE L a cc)) Q E s := by
  revert X
  w_top off
  k_fill
  intro X
  delta lawA lawE
  conv in (occs := *) lawK => all_goals whnf
  conv in (occs := *) lawS => all_goals whnf
  k_steps
  rename Fr _ _ _ _ => F9
  rename News _ _ _ _ => N9
  have F8 := fr_name (x := Str.ofString "cells") (fr_name (x := Str.ofString "some") (fr_name (x := Str.ofString "late") F9 rfl) rfl) rfl
  refine' h _ _ _ _ _ _ _ _ _ ?ok F8 (News.pick N9 close_sub) ?gt ?op ?to
  case gt => exact close_gt (by assumption) (lt_in2 (by assumption)) (by assumption) (by assumption)
  case op => exact OpenNew.at (by assumption) in3 (RowAt.mono in1 (by assumption)) (RowAt.mono in2 (by assumption))
  case to => exact ⟨_, _, _, _, _, rfl, inx, RowAt.mono in1 (by assumption), RowAt.mono in2 (by assumption)⟩
  case ok => exact ⟨by assumption, by assumption, pick124 (by assumption) (by assumption), Int.fmod_nonneg_of_pos _ (by decide), Int.fmod_lt_of_pos _ (by decide)⟩
-- kind: theorem
-- uses: S03a_turn
/-- the loop's state -/
def LoopJ (w : World) (I sl pl cl : Addr) (Co : Obj) (late : Bool) (W : Led) (i : Nat) (m : Str → Option Value) (nx : Led) : Prop :=
  ∃ (X : List (Value × Addr × Part)) (W' : Led) (n1 n2 : Nat) (u : Str → Option Value), X.length = i ∧ m = (fun y => if y = Str.ofString "cells" then some (.ref cl) else if y = Str.ofString "some" then some (.ref sl) else if y = Str.ofString "late" then some (.bool late) else u y) ∧
    nx = (sl, listOf (List.toArray (X.map fun x => x.1)) n1) :: (pl, listOf (List.toArray (X.map fun x => Value.ref x.2.1)) n2) :: (cl, Co) :: (W' ++ W) ∧ (∀ p ∈ W', @LT.lt Nat _ I p.1) ∧
    ∀ x ∈ X, x.2.2.Ok ∧ OpenAt w W' x.1 x.2.2 ∧ ToldAt W' (.ref x.2.1) x.2.2
theorem off_app {a b : Led} {d : Addr} (h1 : ∀ p ∈ a, p.1 ≠ d) (h2 : ∀ p ∈ b, p.1 ≠ d) : ∀ p ∈ a ++ b, p.1 ≠ d := fun p hp => (List.mem_append.mp hp).elim (h1 p) (h2 p)
theorem gt_app {a b : Led} {I : Addr} (h1 : ∀ p ∈ a, @LT.lt Nat _ I p.1) (h2 : ∀ p ∈ b, @LT.lt Nat _ I p.1) : ∀ p ∈ a ++ b, @LT.lt Nat _ I p.1 := fun p hp => (List.mem_append.mp hp).elim (h1 p) (h2 p)
theorem loop_off {I sl pl cl : Addr} {a b c : Obj} {U : Led} (h1 : @LT.lt Nat _ sl I) (h2 : @LT.lt Nat _ pl I) (h3 : @LT.lt Nat _ cl I) (h : ∀ p ∈ U, p.1 ≠ I) : ∀ p ∈ (sl, a) :: (pl, b) :: (cl, c) :: U, p.1 ≠ I :=
  List.forall_mem_cons.mpr ⟨Nat.ne_of_lt h1, List.forall_mem_cons.mpr ⟨Nat.ne_of_lt h2, List.forall_mem_cons.mpr ⟨Nat.ne_of_lt h3, h⟩⟩⟩
theorem loop_all {w : World} {X : List (Value × Addr × Part)} {W1 W' : Led} {o : Value} {t : Addr} {P : Part} (h : ∀ x ∈ X, x.2.2.Ok ∧ OpenAt w W' x.1 x.2.2 ∧ ToldAt W' (.ref x.2.1) x.2.2) (h1 : P.Ok) (h2 : OpenAt w W1 o P) (h3 : ToldAt W1 (.ref t) P) :
    ∀ x ∈ X ++ [(o, t, P)], x.2.2.Ok ∧ OpenAt w (W1 ++ W') x.1 x.2.2 ∧ ToldAt (W1 ++ W') (.ref x.2.1) x.2.2 := by
  intro x hx
  rcases List.mem_append.mp hx with hx | hx
  · have z := h x hx
    exact ⟨z.1, z.2.1.mono sub_app, z.2.2.mono sub_app⟩
  · rw [List.mem_singleton.mp hx]
    exact ⟨h1, h2.mono fun _ hp => List.mem_append.mpr (.inl hp), h3.mono fun _ hp => List.mem_append.mpr (.inl hp)⟩
theorem len0 {α : Type} {X : List α} (h : X.length = 0) : X = [] := List.length_eq_zero_iff.mp h
theorem len1 {α : Type} {X : List α} (h : X.length = 1) : ∃ a, X = [a] := by
  cases X with
  | nil => cases h
  | cons a X => obtain rfl := len0 (Nat.succ.inj h); exact ⟨a, rfl⟩
theorem len2 {α : Type} {X : List α} (h : X.length = 2) : ∃ a b, X = [a, b] := by
  cases X with
  | nil => cases h
  | cons a X => obtain ⟨b, rfl⟩ := len1 (Nat.succ.inj h); exact ⟨a, b, rfl⟩
theorem len3 {α : Type} {X : List α} (h : X.length = 3) : ∃ a b c, X = [a, b, c] := by
  cases X with
  | nil => cases h
  | cons a X => obtain ⟨b, c, rfl⟩ := len2 (Nat.succ.inj h); exact ⟨a, b, c, rfl⟩
theorem len4 {α : Type} {X : List α} (h : X.length = 4) : ∃ a b c d, X = [a, b, c, d] := by
  cases X with
  | nil => cases h
  | cons a X => obtain ⟨b, c, d, rfl⟩ := len3 (Nat.succ.inj h); exact ⟨a, b, c, d, rfl⟩
set_option maxRecDepth 100000 in
set_option maxHeartbeats 8000000 in
theorem seg3 {w : World} {L a : Addr} {cc : Value} {h₀ : Heap} {mean : ExcName → Option Value} {mg mb : Str → Option Value} {loose : List Str} {u : Str → Option Value} {W : Led} {s : Shared} {Q : Flow → Shared → Prop}
    {sl pl cl : Addr} {n3 : Nat} {c0 c1 c2 c3 c4 c5 c6 c7 c8 c9 c10 c11 c12 : Int} {x0 x1 x2 x3 x4 x5 x6 x7 x8 x9 x10 x11 x12 : Tok} {pco : Obj} {late : Bool}
    (B : Below callerA h₀ [] h₀) (X : (tp.heap_39 w.params).In h₀) (T : Top tp.view_39 loose mean mg mb h₀)
    (F : Fr h₀ L s.heap (fun y => if y = Str.ofString "cells" then some (.ref cl) else if y = Str.ofString "some" then some (.ref sl) else if y = Str.ofString "late" then some (.bool late) else u y))
    (N : News h₀ L s.heap ((sl, listOf #[] 0) :: (pl, listOf #[] 0) :: (cl, listOf #[.int c0 x0, .int c1 x1, .int c2 x2, .int c3 x3, .int c4 x4, .int c5 x5, .int c6 x6, .int c7 x7, .int c8 x8, .int c9 x9, .int c10 x10, .int c11 x11, .int c12 x12] n3) :: W))
    (hps : @LT.lt Nat _ pl sl) (hcp : @LT.lt Nat _ cl pl) (hWs : ∀ p ∈ W, p.1 ≠ sl) (hWp : ∀ p ∈ W, p.1 ≠ pl)
    (hpc : (L + 1, pco) ∈ W) (hpd : pco.data = .cell (some (.ref pl)))
    (h : ∀ o0 o1 o2 o3 t0 t1 t2 t3 P0 P1 P2 P3 W' n1 n2 (u' : Str → Option Value) h' tk, Fr h₀ L h' (fun y => if y = Str.ofString "cells" then some (.ref cl) else if y = Str.ofString "some" then some (.ref sl) else if y = Str.ofString "late" then some (.bool late) else u' y) →
      News h₀ L h' ((sl, listOf #[o0, o1, o2, o3] n1) :: (pl, listOf #[.ref t0, .ref t1, .ref t2, .ref t3] n2) :: (cl, listOf #[.int c0 x0, .int c1 x1, .int c2 x2, .int c3 x3, .int c4 x4, .int c5 x5, .int c6 x6, .int c7 x7, .int c8 x8, .int c9 x9, .int c10 x10, .int c11 x11, .int c12 x12] n3) :: (W' ++ W)) → P0.Ok → P1.Ok → P2.Ok → P3.Ok → (∀ p ∈ W', @LT.lt Nat _ sl p.1) →
      OpenAt w W' o0 P0 → OpenAt w W' o1 P1 → OpenAt w W' o2 P2 → OpenAt w W' o3 P3 → ToldAt W' (.ref t0) P0 → ToldAt W' (.ref t1) P1 → ToldAt W' (.ref t2) P2 → ToldAt W' (.ref t3) P3 → Q .next { s with heap := h', toks := tk }) :
    wpAny (model rw_br0002_01.row.prog w) (lawA L a cc) (exec (lawSt 3) (lawE L a cc)) Q (fun _ _ => False) s := by
  revert X
  w_top off
  k_fill
  intro X
  have hcs : @LT.lt Nat _ cl sl := Nat.lt_trans hcp hps
  delta lawA lawE
  conv in (occs := *) lawSt _ => all_goals whnf
  conv in (occs := *) lawS => all_goals whnf
  refine For_invVF F rfl rfl ?_ (hE := PassesOwn.never)
  iterate 7 (first | (k_unfold; (try dsimp only)) | walk1 | (dsimp only; walk1))
  k_rangeUnr
  rename_i I hI
  have hWI : ∀ p ∈ W, @LT.lt Nat _ p.1 I := ktn_ltOf hI.2.2.2
  obtain ⟨hsI, hpI, hcI, -⟩ := hI
  refine' rangeRest_inv (J := LoopJ w I sl pl cl (listOf #[.int c0 x0, .int c1 x1, .int c2 x2, .int c3 x3, .int c4 x4, .int c5 x5, .int c6 x6, .int c7 x7, .int c8 x8, .int c9 x9, .int c10 x10, .int c11 x11, .int c12 x12] n3) late W) ?turn ?done 4 0 _ _ rfl ?init
  case init => exact ⟨[], [], 0, 0, u, rfl, rfl, rfl, (fun _ hp => nomatch hp), fun _ hx => nomatch hx⟩
  case done =>
    rintro m1 nx h1 tk ⟨Xs, W', n1, n2, u', hX, rfl, rfl, hgt, hall⟩ F1 N1
    obtain ⟨a0, a1, a2, a3, rfl⟩ := len4 hX
    have z0 := hall a0 (by simp)
    have z1 := hall a1 (by simp)
    have z2 := hall a2 (by simp)
    have z3 := hall a3 (by simp)
    exact h a0.1 a1.1 a2.1 a3.1 a0.2.1 a1.2.1 a2.2.1 a3.2.1 a0.2.2 a1.2.2 a2.2.2 a3.2.2 W' n1 n2 u' h1 tk F1 N1 z0.1 z1.1 z2.1 z3.1 (fun p hp => Nat.lt_trans hsI (hgt p hp)) z0.2.1 z1.2.1 z2.2.1 z3.2.1 z0.2.2 z1.2.2 z2.2.2 z3.2.2
  rintro i m1 nx t' h1 tk Q' hi ⟨Xs, W', n1, n2, u', hX, rfl, rfl, hgt, hall⟩ F1 N1 hq
  obtain rfl | rfl | rfl | rfl : i = 0 ∨ i = 1 ∨ i = 2 ∨ i = 3 := by omega
  · obtain rfl := len0 hX
    have hW' : ∀ p ∈ W' ++ W, p.1 ≠ sl := off_app (fun p hp => Nat.ne_of_gt (Nat.lt_trans hsI (hgt p hp))) hWs
    have hV' : ∀ p ∈ W' ++ W, p.1 ≠ pl := off_app (fun p hp => Nat.ne_of_gt (Nat.lt_trans hpI (hgt p hp))) hWp
    refine lturn0 (W := W' ++ W) B X T F1 N1 hps hsI hpI hcp hcs hW' hV' (sub_app _ hpc) hpd ?_
    intro o t P W1 n1' n2' u' h1 tk1 hok F2 N2 hgt1 hop hto
    refine hq h1 tk1 _ _ F2 N2 (loop_off hsI hpI hcI (off_app (fun p hp => Nat.ne_of_gt (hgt1 p hp)) (off_app (fun p hp => Nat.ne_of_gt (hgt p hp)) (fun p hp => Nat.ne_of_lt (hWI p hp))))) ⟨[(o, t, P)], W1 ++ W', n1', n2', u', rfl, rfl, ?_, gt_app hgt1 hgt, ?_⟩
    · rw [List.append_assoc]; rfl
    · exact loop_all (X := []) hall hok hop hto
  · obtain ⟨a0, rfl⟩ := len1 hX
    have hW' : ∀ p ∈ W' ++ W, p.1 ≠ sl := off_app (fun p hp => Nat.ne_of_gt (Nat.lt_trans hsI (hgt p hp))) hWs
    have hV' : ∀ p ∈ W' ++ W, p.1 ≠ pl := off_app (fun p hp => Nat.ne_of_gt (Nat.lt_trans hpI (hgt p hp))) hWp
    refine lturn1 (W := W' ++ W) B X T F1 N1 hps hsI hpI hcp hcs hW' hV' (sub_app _ hpc) hpd ?_
    intro o t P W1 n1' n2' u' h1 tk1 hok F2 N2 hgt1 hop hto
    refine hq h1 tk1 _ _ F2 N2 (loop_off hsI hpI hcI (off_app (fun p hp => Nat.ne_of_gt (hgt1 p hp)) (off_app (fun p hp => Nat.ne_of_gt (hgt p hp)) (fun p hp => Nat.ne_of_lt (hWI p hp))))) ⟨[a0, (o, t, P)], W1 ++ W', n1', n2', u', rfl, rfl, ?_, gt_app hgt1 hgt, ?_⟩
    · rw [List.append_assoc]; rfl
    · exact loop_all (X := [a0]) hall hok hop hto
  · obtain ⟨a0, a1, rfl⟩ := len2 hX
    have hW' : ∀ p ∈ W' ++ W, p.1 ≠ sl := off_app (fun p hp => Nat.ne_of_gt (Nat.lt_trans hsI (hgt p hp))) hWs
    have hV' : ∀ p ∈ W' ++ W, p.1 ≠ pl := off_app (fun p hp => Nat.ne_of_gt (Nat.lt_trans hpI (hgt p hp))) hWp
    refine lturn2 (W := W' ++ W) B X T F1 N1 hps hsI hpI hcp hcs hW' hV' (sub_app _ hpc) hpd ?_
    intro o t P W1 n1' n2' u' h1 tk1 hok F2 N2 hgt1 hop hto
    refine hq h1 tk1 _ _ F2 N2 (loop_off hsI hpI hcI (off_app (fun p hp => Nat.ne_of_gt (hgt1 p hp)) (off_app (fun p hp => Nat.ne_of_gt (hgt p hp)) (fun p hp => Nat.ne_of_lt (hWI p hp))))) ⟨[a0, a1, (o, t, P)], W1 ++ W', n1', n2', u', rfl, rfl, ?_, gt_app hgt1 hgt, ?_⟩
    · rw [List.append_assoc]; rfl
    · exact loop_all (X := [a0, a1]) hall hok hop hto
  · obtain ⟨a0, a1, a2, rfl⟩ := len3 hX
    have hW' : ∀ p ∈ W' ++ W, p.1 ≠ sl := off_app (fun p hp => Nat.ne_of_gt (Nat.lt_trans hsI (hgt p hp))) hWs
    have hV' : ∀ p ∈ W' ++ W, p.1 ≠ pl := off_app (fun p hp => Nat.ne_of_gt (Nat.lt_trans hpI (hgt p hp))) hWp
    refine lturn3 (W := W' ++ W) B X T F1 N1 hps hsI hpI hcp hcs hW' hV' (sub_app _ hpc) hpd ?_
    intro o t P W1 n1' n2' u' h1 tk1 hok F2 N2 hgt1 hop hto
    refine hq h1 tk1 _ _ F2 N2 (loop_off hsI hpI hcI (off_app (fun p hp => Nat.ne_of_gt (hgt1 p hp)) (off_app (fun p hp => Nat.ne_of_gt (hgt p hp)) (fun p hp => Nat.ne_of_lt (hWI p hp))))) ⟨[a0, a1, a2, (o, t, P)], W1 ++ W', n1', n2', u', rfl, rfl, ?_, gt_app hgt1 hgt, ?_⟩
    · rw [List.append_assoc]; rfl
    · exact loop_all (X := [a0, a1, a2]) hall hok hop hto
-- kind: theorem
-- uses: S03a_turn S03_for S04_unp S05_two S06_if S07_join S08_if S09_if S10_rows S11a_turn S11_for S12_due S13_ret
theorem due_one (P0 P1 P2 P3 : Part) : tell (tell (tell P0 P1) P2) P3 = dueOf P0 P1 P2 P3 := by
  have hf : ∀ A B C D : List Fam, D.filter (· ∈ C.filter (· ∈ B.filter (· ∈ A))) = inAll A B C D := fun A B C D => List.filter_congr fun f hf => by
    by_cases h1 : f ∈ A <;> by_cases h2 : f ∈ B <;> by_cases h3 : f ∈ C <;> simp [h1, h2, h3, hf]
  refine part_ext ?_ (hf _ _ _ _) (hf _ _ _ _) ?_ ?_ ?_ ?_
  · show min (min (min P0.sec P1.sec) P2.sec) P3.sec = min P0.sec (min P1.sec (min P2.sec P3.sec)); omega
  · show min (min (min P0.refresh P1.refresh) P2.refresh) P3.refresh = min P0.refresh (min P1.refresh (min P2.refresh P3.refresh)); omega
  · show (((P0.large && P1.large) && P2.large) && P3.large) = (P0.large && (P1.large && (P2.large && P3.large))); rw [Bool.and_assoc, Bool.and_assoc]
  · show (((P0.octets && P1.octets) && P2.octets) && P3.octets) = (P0.octets && (P1.octets && (P2.octets && P3.octets))); rw [Bool.and_assoc, Bool.and_assoc]
  · show (((P0.more && P1.more) && P2.more) && P3.more) = (P0.more && (P1.more && (P2.more && P3.more))); rw [Bool.and_assoc, Bool.and_assoc]
theorem due_two (P0 P1 P2 P3 : Part) : tell (tell P0 P1) (tell P2 P3) = dueOf P0 P1 P2 P3 := (tell_assoc _ _ _).symm.trans (due_one P0 P1 P2 P3)
theorem told_two {W : Led} {v : Value} {P : Part} {se rf : Int} {lg oc mo : Bool} (h : ToldAt W v P) (h1 : P.sec = se) (h2 : P.refresh = rf) (h3 : P.large = lg) (h4 : P.octets = oc) (h5 : P.more = mo) :
    ∃ t f g q1 q2, v = .ref t ∧ (t, ({ cls := .type "tuple", data := .seq #[.int se q1, .ref f, .ref g, .int rf q2, .bool lg, .bool oc, .bool mo] } : Obj)) ∈ W ∧ RowAt W f P.fams ∧ RowAt W g P.hops := by
  subst h1; subst h2; subst h3; subst h4; subst h5
  exact h
set_option maxRecDepth 100000 in
set_option maxHeartbeats 8000000 in
theorem law_rest {w : World} {L a : Addr} {cc : Value} {h₀ : Heap} {mean : ExcName → Option Value} {mg mb : Str → Option Value} {loose : List Str} {u : Str → Option Value} {W : Led} {s : Shared} {Q : Flow → Shared → Prop} {E : Value → Shared → Prop}
    {sl pl cl : Addr} {n3 : Nat} {c0 c1 c2 c3 c4 c5 c6 c7 c8 c9 c10 c11 c12 : Int} {x0 x1 x2 x3 x4 x5 x6 x7 x8 x9 x10 x11 x12 : Tok} {pco qco : Obj} {qv : Option Value} {late : Bool}
    (B : Below callerA h₀ [] h₀) (X : (tp.heap_39 w.params).In h₀) (T : Top tp.view_39 loose mean mg mb h₀)
    (F : Fr h₀ L s.heap (fun y => if y = Str.ofString "cells" then some (.ref cl) else if y = Str.ofString "some" then some (.ref sl) else if y = Str.ofString "late" then some (.bool late) else u y))
    (N : News h₀ L s.heap ((sl, listOf #[] 0) :: (pl, listOf #[] 0) :: (cl, listOf #[.int c0 x0, .int c1 x1, .int c2 x2, .int c3 x3, .int c4 x4, .int c5 x5, .int c6 x6, .int c7 x7, .int c8 x8, .int c9 x9, .int c10 x10, .int c11 x11, .int c12 x12] n3) :: W))
    (hps : @LT.lt Nat _ pl sl) (hcp : @LT.lt Nat _ cl pl) (hWs : ∀ p ∈ W, p.1 ≠ sl) (hWp : ∀ p ∈ W, p.1 ≠ pl)
    (hpc : (L + 1, pco) ∈ W) (hpd : pco.data = .cell (some (.ref pl))) (hqc : (L + 1 + 1, qco) ∈ W) (hqd : qco.data = .cell qv)
    (h : ∀ h' tk m' W', Fr h₀ L h' m' → News h₀ L h' W' → Q (.ret (.bool true)) { s with heap := h', toks := tk }) :
    wpAny (model rw_br0002_01.row.prog w) (lawA L a cc) (execs [lawSt 3, lawSt 4, lawSt 5, lawSt 6, lawSt 7, lawSt 8, lawSt 9, lawSt 10, lawSt 11, lawSt 12, lawSt 13] (lawE L a cc)) Q E s := by
  refine wpAny_execs_cons (wpAny_mono (seg3 B X T F N hps hcp hWs hWp hpc hpd ?_) (fun _ _ z => z) fun _ _ e => e.elim)
  intro o0 o1 o2 o3 t0 t1 t2 t3 P0 P1 P2 P3 U n1 n2 u3 h3 tk3 F3 N3 p0 p1 p2 p3 hU d0 d1 d2 d3 e0 e1 e2 e3
  obtain ⟨W3, N3, ms, mp, mc, mq, sU⟩ : ∃ W3, News h₀ L h3 W3 ∧ (sl, listOf #[o0, o1, o2, o3] n1) ∈ W3 ∧ (pl, listOf #[.ref t0, .ref t1, .ref t2, .ref t3] n2) ∈ W3 ∧ (L + 1, pco) ∈ W3 ∧ (L + 1 + 1, qco) ∈ W3 ∧ (∀ p ∈ U, p ∈ W3) :=
    ⟨_, N3, .head _, .tail _ (.head _), .tail _ (.tail _ (.tail _ (sub_app _ hpc))), .tail _ (.tail _ (.tail _ (sub_app _ hqc))), fun p hp => .tail _ (.tail _ (.tail _ (List.mem_append.mpr (.inl hp))))⟩
  replace d0 := d0.mono sU
  replace d1 := d1.mono sU
  replace d2 := d2.mono sU
  replace d3 := d3.mono sU
  replace e0 := e0.mono sU
  replace e1 := e1.mono sU
  replace e2 := e2.mono sU
  replace e3 := e3.mono sU
  have p01 := tell_ok p0 p1
  have p10 := tell_ok p1 p0
  have p12 := tell_ok p1 p2
  have p23 := tell_ok p2 p3
  have p012 := tell_ok p01 p2
  refine wpAny_execs_cons (seg4 B X T (fr_name (x := Str.ofString "some") (v := .ref sl) F3 rfl) N3 ms ?_)
  intro h4 tk4 F4 N4
  refine wpAny_execs_cons (seg5 B X T (fr_name (x := Str.ofString "a") (v := o0) (fr_name (x := Str.ofString "b") (v := o1) (fr_name (x := Str.ofString "late") (v := .bool late) F4 rfl) rfl) rfl) N4 d0 d1 p0 p1 ?_)
  intro v1 v2 W5 h5 tk5 s5 F5 N5 g1 g2
  have g1' := g1
  obtain ⟨w1, f1, f2, q1, q2, rfl, k1, r1, r2⟩ := told_two g1 (se := (tell P0 P1).sec) (rf := (tell P0 P1).refresh) (lg := (tell P0 P1).large) (oc := (tell P0 P1).octets) (mo := (tell P0 P1).more) rfl rfl rfl rfl rfl
  obtain ⟨w2, f3, f4, q3, q4, rfl, k2, r3, r4⟩ := told_two g2 (se := (tell P0 P1).sec) (rf := (tell P0 P1).refresh) (lg := (tell P0 P1).large) (oc := (tell P0 P1).octets) (mo := (tell P0 P1).more) (Int.min_comm _ _) (Int.min_comm _ _) (Bool.and_comm _ _) (Bool.and_comm _ _) (Bool.and_comm _ _)
  refine wpAny_execs_cons (seg6 B X T (fr_name (x := Str.ofString "one") (v := .ref w1) (fr_name (x := Str.ofString "other") (v := .ref w2) F5 rfl) rfl) N5 k1 k2 r1 r2 r3 r4 p01.1 p01.2.1 p10.1 p10.2.1 (srt_comm _ _) (srt_comm _ _) ?_)
  intro h6 tk6 F6 N6
  refine wpAny_execs_cons (seg7 B X T (fr_name (x := Str.ofString "a") (v := o0) (fr_name (x := Str.ofString "b") (v := o1) (fr_name (x := Str.ofString "late") (v := .bool late) F6 rfl) rfl) rfl) N6 (d0.mono s5) (d1.mono s5) p0 p1 ?_)
  intro oj W7 h7 tk7 s7 F7 N7 dj
  have s57 : ∀ p ∈ W3, p ∈ W7 := fun p hp => s7 p (s5 p hp)
  refine wpAny_execs_cons (seg8 B X T (fr_name (x := Str.ofString "a") (v := o0) (fr_name (x := Str.ofString "b") (v := o1) (fr_name (x := Str.ofString "joined") (v := oj) (fr_name (x := Str.ofString "one") (v := .ref w1) (fr_name (x := Str.ofString "late") (v := .bool late) F7 rfl) rfl) rfl) rfl) rfl) N7 (d0.mono s57) (d1.mono s57) dj p0 p1 p01 (e0.mono s57) (g1'.mono s7) (s57 _ mc) hpd (s57 _ mp) ?_)
  intro h8 tk8 F8 N8
  refine wpAny_execs_cons (seg9 B X T (fr_name (x := Str.ofString "a") (v := o0) (fr_name (x := Str.ofString "b") (v := o1) (fr_name (x := Str.ofString "c") (v := o2) (fr_name (x := Str.ofString "joined") (v := oj) (fr_name (x := Str.ofString "late") (v := .bool late) F8 rfl) rfl) rfl) rfl) rfl) N8 (d0.mono s57) (d1.mono s57) (d2.mono s57) dj p0 p1 p2 p01 p12 ?_)
  intro h9 tk9 F9 N9
  refine wpAny_execs_cons (seg10 B X T (fr_name (x := Str.ofString "joined") (v := oj) F9 rfl) N9 trivial ?_)
  intro rl h10 tk10 F10 N10 hrl
  have N10' := news_tail N10
  have sO := off_sub N10' (s57 _ mq) hqd
  have hlr : @LT.lt Nat _ (L + 1 + 1) rl := ktn_ltOf hrl _ (s57 _ mq)
  have mc' : (L + 1, pco) ∈ offOf (L + 1 + 1) W7 := off_in (s57 _ mc) (by show @Ne Nat (L + 1) (L + 1 + 1); exact Nat.ne_of_lt (Nat.lt_succ_self _))
  have mp' := sO _ (s57 _ mp) (fun _ e => by cases e)
  have N11 : News h₀ L h10 ((rl, listOf #[] 0) :: (L + 1 + 1, qco) :: offOf (L + 1 + 1) W7) := News.pick N10 (List.forall_mem_cons.mpr ⟨.head _, List.forall_mem_cons.mpr ⟨.tail _ (s57 _ mq), fun p hp => .tail _ (List.mem_filter.mp hp).1⟩⟩)
  have f0 := (e0.mono s57).off sO
  have f1' := (e1.mono s57).off sO
  have f2' := (e2.mono s57).off sO
  have f3' := (e3.mono s57).off sO
  refine wpAny_execs_cons (wpAny_mono (seg11 B X T (fr_name (x := Str.ofString "rows") (v := .ref rl) F10 rfl) N11 (fun p hp => ktn_ltOf hrl p (List.mem_filter.mp hp).1) off_ne hlr mc' hpd mp' hqd f0 f1' f2' f3' p0 p1 p2 p3 ?_) (fun _ _ z => z) fun _ _ e => e.elim)
  intro ra rb nr W11 h11 tk11 F11 N11' s11 ea eb
  have s11' : ∀ p ∈ offOf (L + 1 + 1) W7, p ∈ (rl, listOf #[.ref ra, .ref rb] nr) :: W11 := fun p hp => .tail _ (s11 p hp)
  have tl11 : ∀ p ∈ W11, p ∈ (rl, listOf #[.ref ra, .ref rb] nr) :: W11 := fun p hp => .tail _ hp
  refine wpAny_execs_cons (seg12 B X T (fr_name (x := Str.ofString "rows") (v := .ref rl) F11 rfl) N11' (s11' _ mc') hpd (s11' _ mp') (.head _) (f0.mono s11') (f1'.mono s11') (f2'.mono s11') (f3'.mono s11') (ea.mono tl11) (eb.mono tl11) ?_)
  intro dt W12 h12 tk12 s12 F12 N12 ed
  have s12' : ∀ p ∈ offOf (L + 1 + 1) W7, p ∈ W12 := fun p hp => s12 p (s11' p hp)
  refine wpAny_execs_cons (seg13 B X T (fr_name (x := Str.ofString "joined") (v := oj) (fr_name (x := Str.ofString "c") (v := o2) (fr_name (x := Str.ofString "d") (v := o3) (fr_name (x := Str.ofString "due") (v := .ref dt) (fr_name (x := Str.ofString "late") (v := .bool late) F12 rfl) rfl) rfl) rfl) rfl) N12 ((dj.off sO).mono s12') (((d2.mono s57).off sO).mono s12') (((d3.mono s57).off sO).mono s12') ed p01 p2 p3 p012 p23 (due_one P0 P1 P2 P3) (due_two P0 P1 P2 P3) ?_)
  intro h13 tk13 F13 N13
  exact h h13 tk13 _ _ F13 N13
-- kind: theorem
-- uses: D1_rest
theorem law_all : LawRest := by
  intro w L a cc h₀ mean mg mb loose u W s Q E sl pl cl n3 c0 c1 c2 c3 c4 c5 c6 c7 c8 c9 c10 c11 c12 x0 x1 x2 x3 x4 x5 x6 x7 x8 x9 x10 x11 x12 pco qco qv late B X T F N hps hcp hWs hWp hpc hpd hqc hqd h
  exact law_rest B X T F N hps hcp hWs hWp hpc hpd hqc hqd h
theorem holds : rw_br0002_01.Holds := law_pre law_all

end Mine
set_option maxRecDepth 100000 in
set_option maxHeartbeats 8000000 in
theorem PySem.Challenge.cw_br0002_01_holds : PySem.Challenge.rw_br0002_01.Holds :=
  Mine.holds
