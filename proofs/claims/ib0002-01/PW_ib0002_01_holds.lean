import PyProof.Rows.All
import Wide.All
import OpenK.AllK
import Wide.FinOn
import PySem.Challenge.RW_ib0002_01
set_option Elab.async false
set_option linter.unusedVariables false
set_option linter.unusedSimpArgs false

section -- Hd
open PySem PySem.W PyProof.Rows
namespace Mine
set_option maxRecDepth 100000 in
set_option maxHeartbeats 8000000 in
open_top hd for PySem.Challenge.rw_ib0002_01
end Mine
end -- Hd

section -- Fw
open PySem PySem.Spec PySem.Calls PySem.W PyProof.Rows
set_option maxRecDepth 100000
namespace Mine

abbrev prog0 : Program := PySem.Challenge.pw_ib0002_01

/-- everything that stood stands -/
def Keep (h h' : Heap) : Prop := ∀ b o, h.get? b = some o → h'.get? b = some o
theorem Keep.rfl' {h : Heap} : Keep h h := fun _ _ e => e
theorem Keep.trans {h h' h'' : Heap} (a : Keep h h') (b : Keep h' h'') : Keep h h'' := fun x o e => b x o (a x o e)

section
variable {prog : Program} {w : World} {A A₀ : Around} {s : Shared} {K : Frag} {L : Addr} {h₀ base : Heap} {m mg mb : Str → Option Value} {p : Program} {loose : List Str} {mean : ExcName → Option Value}

/-- a plain def is entered: the callee's base is the heap of the call itself -/
theorem enterP {env : Env} {outer : List Env} {R : Result → Shared → Prop} {name qual : Str} {params : Arguments} {body : List Stmt} {scope : Scope} {dV kV doc pm cdv ct oc : Value} {an od : Option Addr} {osl : Array (Option Value)} {f : Addr} {args : Args} {binds : List (Str × Value)}
    (B : Below A₀ base outer h₀) (F : Fr h₀ L s.heap m) (X₀ : K.In h₀) (T : Top p loose mean mg mb h₀) (hA : A.frames = some (env :: outer)) (hf : env.frame = some L) (hke : env.scope.kind = .function)
    (ho : K.lookup f = some ⟨oc, od, .func (fnOf name qual params body scope dV kV doc pm an cdv ct), osl⟩) (hcd : codeIn K cdv qual = true) (hroom : A.depth < recursionLimit)
    (hbind : BindsTo s (fnOf name qual params body scope dV kV doc pm an cdv ct) args binds) (hloc : ∀ y ∈ binds, scope.names.lookup y.1 = some .local)
    (h : ∀ g L' h₁, Keep s.heap g → g.objs.size = s.heap.objs.size → Fr g L' h₁ (fun y => binds.reverse.lookup y) → News g L' h₁ [] → Below A base (env :: outer) g → K.In g → Top p loose mean mg mb g →
      wpAny (model prog w) (A.deeper (envOf qual scope L' f cdv)) (execs body (envOf qual scope L' f cdv))
        (fun fl s' => R (.ok (.ret (match fl with | .ret v => v | _ => .none))) s')
        (fun e s' => wpAny (model prog w) (A.deeper (envOf qual scope L' f cdv)) (leaving (envOf qual scope L' f cdv) e) (fun _ s'' => R (.error e) s'') (fun e' s'' => R (.error e') s'') s')
        { s with heap := h₁, toks := s.toks + binds.length })
    (hco : scope.isCoroutine = false) (hgen : scope.isGenerator = false) (hk : scope.kind = .function)
    (hcell : ∀ x ∈ scope.names, x.2 ≠ .cell) : codeAny (model prog w) A (.call (.ref f) args) R s := by
  obtain ⟨FG, BG, st, _⟩ := groundX (R := R) (news := []) B F News.nil hA hf hke
  refine codeAny_call_def (fd := fnOf name qual params body scope dV kV doc pm an cdv ct) (body := body) (binds := binds) hroom ((X₀.keeps F.keep) _ _ ho) rfl (T.nolimit.keeps F.keep) (codeRec_of (X₀.keeps F.keep) hcd) rfl hbind hcell hloc (fun h₁ hns hk₁ => ?_) hco hgen hk
  exact h s.heap s.heap.objs.size h₁ Keep.rfl' rfl ⟨hns, fun b o e => hk₁ b o e, Nat.le_refl _⟩ News.nil BG (X₀.keeps F.keep) (T.keeps F.keep)

/-- a def with cells is entered -/
theorem enterC {env : Env} {outer : List Env} {R : Result → Shared → Prop} {name qual : Str} {params : Arguments} {body : List Stmt} {scope : Scope} {dV kV doc pm cdv ct oc : Value} {an od : Option Addr} {osl : Array (Option Value)} {f : Addr} {args : Args} {binds : List (Str × Value)}
    (B : Below A₀ base outer h₀) (F : Fr h₀ L s.heap m) (X₀ : K.In h₀) (T : Top p loose mean mg mb h₀) (hA : A.frames = some (env :: outer)) (hf : env.frame = some L) (hke : env.scope.kind = .function)
    (ho : K.lookup f = some ⟨oc, od, .func (fnOf name qual params body scope dV kV doc pm an cdv ct), osl⟩) (hcd : codeIn K cdv qual = true) (hroom : A.depth < recursionLimit)
    (hbind : BindsTo s (fnOf name qual params body scope dV kV doc pm an cdv ct) args binds) (hkind : (binds.all fun y => scope.names.lookup y.1 == some .local || scope.names.lookup y.1 == some .cell) = true)
    (hnd : ((cellsFrom 0 scope.names []).map (·.1)).Nodup)
    (h : ∀ g L' h₁ tk cells, Keep s.heap g → g.objs.size = s.heap.objs.size → Fr g L' h₁ (bindL (envOfC qual scope L' f cdv).kindOf binds fun _ => none) → News g L' h₁ cells →
      CellsAre (bindC (envOfC qual scope L' f cdv).kindOf binds fun _ => none) (cellsFrom (L' + 1) scope.names []) cells → Below A base (env :: outer) g → K.In g → Top p loose mean mg mb g →
      wpAny (model prog w) (A.deeper (envOfC qual scope L' f cdv)) (execs body (envOfC qual scope L' f cdv))
        (fun fl s' => R (.ok (.ret (match fl with | .ret v => v | _ => .none))) s')
        (fun e s' => wpAny (model prog w) (A.deeper (envOfC qual scope L' f cdv)) (leaving (envOfC qual scope L' f cdv) e) (fun _ s'' => R (.error e) s'') (fun e' s'' => R (.error e') s'') s')
        { s with heap := h₁, toks := tk })
    (hco : scope.isCoroutine = false) (hgen : scope.isGenerator = false) (hk : scope.kind = .function) : codeAny (model prog w) A (.call (.ref f) args) R s := by
  obtain ⟨FG, BG, st, _⟩ := groundX (R := R) (news := []) B F News.nil hA hf hke
  refine codeAny_call_function hroom ((X₀.keeps F.keep) _ _ ho) rfl hco hgen rfl (codeRec_of (X₀.keeps F.keep) hcd) (hbind _ _ _ _ ?_)
  refine wpAny_newFunctionEnv_cells hk (kindsX hkind _) fun env' he s' x => ?_
  subst he
  refine ⟨(T.nolimit.keeps F.keep).keeps x.toInCall.keep, codeAny_func ?_⟩
  obtain ⟨h₁, tk, rfl, _⟩ := x.done
  have hk₁ := x.toInCall.keep
  obtain ⟨cells, NC, Y⟩ := Cl.news (h₀ := s.heap) (Nat.le_refl _) fun n c hm => ⟨x.cell n c (lookup_of_mem_nodup (cellsFrom_names scope.names 0 (s.heap.objs.size + 1) [] [] rfl ▸ hnd) hm), x.above n c hm⟩
  exact h s.heap s.heap.objs.size h₁ tk cells Keep.rfl' rfl ⟨x.toInCall.ns, fun b o e => hk₁ b o e, Nat.le_refl _⟩ NC Y BG (X₀.keeps F.keep) (T.keeps F.keep)

/-- a table of the maker's own, filled once: it stands, and the code with it -/
def Tab (P : Addr) (pos : Pos) (qual : Str) (h : Heap) : Prop :=
  ∃ c', h.get? P = some (tabObj #[rawInt pos.line, rawInt pos.col, .ref c']) ∧ h.CodeRec (.ref c') qual
theorem Tab.keeps {P : Addr} {pos : Pos} {qual : Str} {h h' : Heap} (t : Tab P pos qual h) (k : Keep h h') : Tab P pos qual h' :=
  let ⟨c, a, b⟩ := t; ⟨c, k _ _ a, b.keeps k⟩

end
end Mine

namespace Mine
section
variable {M : Model} {A : Around} {E : Value → Shared → Prop} {s : Shared} {h₀ : Heap} {L a c P : Addr} {m mg mb : Str → Option Value} {cn : Str} {cs : Scope} {ccd : Value} {cl : List (Str × Addr)} {news : List (Addr × Obj)}
  {p : Program} {loose : List Str} {mean : ExcName → Option Value} {name qual : Str} {params : Arguments} {body : List Stmt} {scope : Scope} {ps : Array Value} {pos : Pos} {firstLine : Nat} {clos : List (Str × Addr)}

/-- a def made in a def whose table, filled, lies in the frame's base -/
theorem nestB {Q : Value → Shared → Prop} {c' : Addr} (F : Fr h₀ L s.heap m) (N : News h₀ L s.heap news) (T : Top p loose mean mg mb h₀) (C : CodeHd h₀ c P) (hcd : ccd = .ref c) (hP : h₀.get? P = some (tabObj ps)) (ht : TriplesOk ps.toList) (hf : codeAmong pos ps.toList = some (.ref c'))
    (hcl : closureFor scope (envX cn cs L a ccd cl) = pure clos)
    (h : ∀ f ctv doc h' tk, Fr h₀ L h' m → News h₀ L h' ((f, fnMade name qual params body scope clos doc ((mg "__name__").getD .none) c' ctv) :: news) → (∀ q ∈ news, q.1 < f) → Q (.ref f) { s with heap := h', toks := tk }) :
    wpAny M A (makeFunction name qual params (.stmts body) scope (envX cn cs L a ccd cl) [] [] [] pos firstLine) Q E s := by
  have hgs := T.g.keeps F.keep
  obtain ⟨bm, ob, b1, b2, b3, b4, b5, b6⟩ := T.bmain
  have hbP : bm ≠ P := fun q => by rw [q, hP] at b3; cases b3; cases b4
  have hbG : bm ≠ mainGlobals := fun q => by
    obtain ⟨o, es, ep, e, hd, _⟩ := T.g
    rw [q, e] at b3; cases b3; rw [hd] at b6; cases b6
  refine makeFunction_hit (mg := mg) hcl rfl hgs hcd (C.keeps F.keep) (F.keep _ _ hP) ht hf ⟨bm, ob, b1, b2, hbG, hbP, F.keep _ _ b3, b4, b5, b6⟩ fun ctv doc h' tk hk hsz => ?_
  have hLs : L < h'.objs.size := Nat.lt_of_lt_of_le F.ns.lt hsz
  have fresh : ∀ b, L < b → h₀.get? b = none := fun b hb => Heap.get?_none_of_le (Nat.le_trans F.above (Nat.le_of_lt hb))
  refine h h'.objs.size ctv doc _ tk ⟨(F.ns.keeps hk).push _, fun b o e => Heap.get?_push_of_some _ (hk b o (F.keep b o e)), F.above⟩ (fun q hq => ?_) (fun q hq => Nat.lt_of_lt_of_le (Heap.lt_size (N q hq).1) hsz)
  rcases List.mem_cons.mp hq with rfl | hq
  · exact ⟨Heap.get?_push_size _ rfl, Nat.ne_of_gt hLs, fresh _ hLs⟩
  · exact ⟨Heap.get?_push_of_some _ (hk _ _ (N q hq).1), (N q hq).2⟩
end

/-- what a call of a def of the text's gives back, from any state in which the callers stand well -/
def Call (w : World) (p : Program) (loose : List Str) (mean : ExcName → Option Value) (mg mb : Str → Option Value) (f : Addr) (vs : List Value) (k : Nat) (Pre : Heap → Prop) (Post : Heap → Heap → Value → Prop) : Prop :=
  ∀ (dp un : Nat) (gd : Option (List Code)) (cn : Str) (cs : Scope) (a : Addr) (ccd : Value) (cl : List (Str × Addr)) (outer : List Env) (A₀ : Around) (base h₀ : Heap) (L : Addr) (m : Str → Option Value) (s : Shared) (Q E : Value → Shared → Prop),
    Below A₀ base outer h₀ → Fr h₀ L s.heap m → (Mine.hd.heap_39 w.params).In h₀ → Top p loose mean mg mb h₀ → cs.kind = .function → Pre s.heap → dp + k < recursionLimit → un + 8 * k < cLine →
    (∀ v h' tk', Keep s.heap h' → Post s.heap h' v → Q v { s with heap := h', toks := tk' }) →
    wpAny (model prog0 w) (ktrTop dp un gd cn cs L a ccd cl outer) (call (.ref f) vs) Q E s

/-- a list of ints that the call made -/
def NewInts (ns : List Int) (h h' : Heap) (v : Value) : Prop :=
  ∃ l n vs, v = .ref l ∧ h.objs.size ≤ l ∧ h'.get? l = some { cls := .type "list", data := .seq (List.toArray vs) n } ∧ IntsAre vs ns

abbrev pos1 : Pos := ⟨5, 4, 14, 28⟩
abbrev qual1 : Str := Str.ofString "_int2digits.<locals>.inner"
end Mine

namespace Mine
section
variable {prog : Program} {w : World} {A : Around} {E : Value → Shared → Prop} {s : Shared} {h₀ : Heap} {L : Addr} {m : Str → Option Value} {news : List (Addr × Obj)} {l : Addr} {v : Value} {x : Int} {u : Tok} {Q : Value → Shared → Prop}
/-- a list of one item, k times -/
theorem mulK (k : Nat) (hx : x = (k : Int)) (hk : k ≤ 64) (Fm : Fr h₀ L s.heap m) (N : News h₀ L s.heap news) (hl : s.heap.IsList l #[v])
    (h : ∀ D h', Fr h₀ L h' m → News h₀ L h' ((D, W.listOf (List.replicate k v).toArray 0) :: news) → (∀ p ∈ news, p.1 < D) → Q (.ref D) { s with heap := h' }) : wpAny (model prog w) A (binaryOp .Mult (.ref l) (.int x u)) Q E s := by
  subst hx
  refine KMa.mul (vs := [v]) (ws := List.replicate k v) Fm N hl (by omega) (by omega) (by simp; omega) ?_ h
  induction k with
  | zero => rfl
  | succ k ih => simp [List.replicate_succ, List.flatten_cons] at ih ⊢
theorem bitsTo {a : Int} {n : Nat} {t : Tok} (hn : Builtin.Int.intBits a = n) (h : Q (.int (n : Int) s.toks) { s with toks := s.toks + 1 }) :
    wpAny (model prog w) A (call (.builtin "int.bit_length") [.int a t]) Q E s := call_int_bit_length (by rw [hn]; exact h)
end
end Mine
end -- Fw

section -- Use
open PySem PySem.Spec PySem.Calls PySem.W PyProof.Rows
set_option maxRecDepth 100000
namespace Mine
/-- the figures by two, the lowest first -/
def bits (a : Int) : List Int := (List.range (Builtin.Int.intBits a)).map fun i => a / 2 ^ i % 2
/-- the number that the figures by two tell, the lowest first -/
def told : List Int → Int
  | [] => 0
  | d :: r => d + 2 * told r
abbrev pos2 : Pos := ⟨20, 4, 25, 55⟩
abbrev qual2 : Str := Str.ofString "_digits2int.<locals>.inner"

def I2dOk (w : World) (p : Program) (loose : List Str) (mean : ExcName → Option Value) (mg mb : Str → Option Value) : Prop :=
  ∀ (a : Int) (t1 t2 : Tok), 0 ≤ a → a < 32 → Call w p loose mean mg mb 21 [.int a t1, .int 1 t2] 8 (Tab 16 pos1 qual1) (NewInts (bits a))
def D2iOk (w : World) (p : Program) (loose : List Str) (mean : ExcName → Option Value) (mg mb : Str → Option Value) : Prop :=
  ∀ (l : Addr) (t2 : Tok) (vs : List Value) (ds : List Int), IntsAre vs ds → ds.length ≤ 5 → (∀ d ∈ ds, 0 ≤ d ∧ d ≤ 1) →
    Call w p loose mean mg mb 28 [.ref l, .int 1 t2] 8 (fun h => Tab 23 pos2 qual2 h ∧ h.IsList l vs.toArray) (fun _ _ v => ∃ t, v = .int (told ds) t)

theorem bits_le {a : Int} (h0 : 0 ≤ a) (h1 : a < 32) : (bits a).length ≤ 5 := by
  have key : ∀ n : Nat, n < 32 → (bits (n : Int)).length ≤ 5 := by decide
  have h : a = ((a.toNat : Nat) : Int) := by omega
  rw [h]
  exact key _ (by omega)

section
variable {w : World} {p : Program} {loose : List Str} {mean : ExcName → Option Value} {mg mb : Str → Option Value}
  {dp un : Nat} {gd : Option (List Code)} {cn : Str} {cs : Scope} {a : Addr} {ccd : Value} {cl : List (Str × Addr)} {outer : List Env} {A₀ : Around} {base h₀ : Heap} {L : Addr} {m : Str → Option Value} {news : List (Addr × Obj)} {s : Shared} {Q E : Value → Shared → Prop}

theorem Fr.on {h h' : Heap} (F : Fr h₀ L h m) (k : Keep h h') : Fr h₀ L h' m := ⟨F.ns.keeps k, fun b o e => k b o (F.keep b o e), F.above⟩
theorem News.on {h h' : Heap} (N : News h₀ L h news) (k : Keep h h') : News h₀ L h' news := fun q hq => ⟨k _ _ (N q hq).1, (N q hq).2⟩
theorem News.add {h h' : Heap} {l : Addr} {o : Obj} (F : Fr h₀ L h m) (N : News h₀ L h news) (k : Keep h h') (hl : h.objs.size ≤ l) (ho : h'.get? l = some o) : News h₀ L h' ((l, o) :: news) := fun q hq => by
  rcases List.mem_cons.mp hq with rfl | hq
  · have hL := F.ns.lt
    refine ⟨ho, Nat.ne_of_gt (Nat.lt_of_lt_of_le hL hl), Heap.get?_none_of_le (Nat.le_trans F.above (Nat.le_of_lt (Nat.lt_of_lt_of_le hL hl)))⟩
  · exact ⟨k _ _ (N q hq).1, (N q hq).2⟩
theorem News.under {h : Heap} {l : Addr} (N : News h₀ L h news) (hl : h.objs.size ≤ l) : ∀ q ∈ news, q.1 < l := fun q hq => Nat.lt_of_lt_of_le (Heap.lt_size (N q hq).1) hl

theorem use_i2d (C : I2dOk w p loose mean mg mb) {x : Int} {t1 t2 : Tok} (B : Below A₀ base outer h₀) (F : Fr h₀ L s.heap m) (X : (Mine.hd.heap_39 w.params).In h₀) (N : News h₀ L s.heap news) (T : Top p loose mean mg mb h₀) (hk : cs.kind = .function)
    (hd : dp + 8 < recursionLimit) (hu : un + 8 * 8 < cLine) (hpre : Tab 16 pos1 qual1 s.heap) (h0 : 0 ≤ x) (h1 : x < 32)
    (ret : ∀ l n vs h' tk', Fr h₀ L h' m → News h₀ L h' ((l, W.listOf (List.toArray vs) n) :: news) → (∀ q ∈ news, q.1 < l) → IntsAre vs (bits x) →
      ∀ N : Nat, vs.toArray.size = N → (bits x).length = N → N ≤ 5 → Q (.ref l) { s with heap := h', toks := tk' }) :
    wpAny (model prog0 w) (ktrTop dp un gd cn cs L a ccd cl outer) (call (.ref 21) [.int x t1, .int 1 t2]) Q E s := by
  refine C x t1 t2 h0 h1 _ _ _ _ _ _ _ _ _ _ _ _ _ _ _ _ _ B F X T hk hpre hd hu fun v h' tk' k po => ?_
  obtain ⟨l, n, vs, rfl, hl, ho, hi⟩ := po
  refine ret l n vs h' tk' (Fr.on F k) (News.add F N k hl ho) (News.under N hl) hi _ rfl ?_ ?_
  · rw [List.size_toArray, hi.length]
  · rw [List.size_toArray, hi.length]; exact bits_le h0 h1

theorem use_d2i (C : D2iOk w p loose mean mg mb) {l : Addr} {t2 : Tok} {vs : List Value} {ds : List Int} (B : Below A₀ base outer h₀) (F : Fr h₀ L s.heap m) (X : (Mine.hd.heap_39 w.params).In h₀) (N : News h₀ L s.heap news) (T : Top p loose mean mg mb h₀) (hk : cs.kind = .function)
    (hd : dp + 8 < recursionLimit) (hu : un + 8 * 8 < cLine) (hpre : Tab 23 pos2 qual2 s.heap) (hl : s.heap.IsList l vs.toArray) (hi : IntsAre vs ds) (hle : ds.length ≤ 5) (hb : ∀ d ∈ ds, 0 ≤ d ∧ d ≤ 1)
    (ret : ∀ t h' tk', Fr h₀ L h' m → News h₀ L h' news → Q (.int (told ds) t) { s with heap := h', toks := tk' }) :
    wpAny (model prog0 w) (ktrTop dp un gd cn cs L a ccd cl outer) (call (.ref 28) [.ref l, .int 1 t2]) Q E s := by
  refine C l t2 vs ds hi hle hb _ _ _ _ _ _ _ _ _ _ _ _ _ _ _ _ _ B F X T hk ⟨hpre, hl⟩ hd hu fun v h' tk' k po => ?_
  obtain ⟨t, rfl⟩ := po
  exact ret t h' tk' (Fr.on F k) (News.on N k)
end

theorem ints_at {vs : List Value} {ns : List Int} (hi : IntsAre vs ns) : ∀ (i : Nat), i < ns.length → ∃ t, vs[i]? = some (.int (ns.getD i 0) t) := by
  induction hi with
  | nil => intro i h; exact absurd h (Nat.not_lt_zero _)
  | cons n t h ih =>
    intro i hlt
    cases i with
    | zero => exact ⟨t, rfl⟩
    | succ i => obtain ⟨u, e⟩ := ih i (Nat.lt_of_succ_lt_succ hlt); exact ⟨u, e⟩
theorem itemInts {prog : Program} {w : World} {A : Around} {E : Value → Shared → Prop} {s : Shared} {value slice : PySem.Expr} {l : Addr} {vs : List Value} {ns : List Int} {k : Int} {u : Tok} {Q : Value → Shared → Prop}
    (hl : s.heap.IsList l vs.toArray) (hi : IntsAre vs ns) (h0 : 0 ≤ k) (h1 : k < (ns.length : Int)) (hhi : k < 2 ^ 63) (h : ∀ t, Q (.int (ns.getD k.toNat 0) t) s)
    (hs : subscripted slice false (.ref l) (.int k u) = operate [.ref l, .int k u] (getItem (.ref l) (.int k u)) := by with_unfolding_all rfl) :
    wpAny (model prog w) A (subscriptTail value slice (.ref l) (.int k u)) Q E s := by
  obtain ⟨t, e⟩ := ints_at hi k.toNat (by omega)
  exact tail_any hl.typeIs slot_list_getitem.lookup (wpAny_getItem_list hl h0 hhi (by simpa using e) (h t)) hs
end Mine
namespace Mine
section
variable {prog : Program} {w : World} {A : Around} {E : Value → Shared → Prop} {s : Shared} {h₀ : Heap} {L : Addr} {m : Str → Option Value} {news : List (Addr × Obj)} {t u : Tok} {Q : Value → Shared → Prop}
theorem maxNat {a b : Nat} (hh : A.handled = none) (F : Fr h₀ L s.heap m) (N : News h₀ L s.heap news)
    (h : ∀ (M : Nat) t h' tk, a ≤ M → b ≤ M → (M = a ∨ M = b) → Fr h₀ L h' m → News h₀ L h' news → Q (.int (M : Int) t) { s with heap := h', toks := tk }) :
    wpAny (model prog w) A (call (.builtin "max") [.int (a : Int) t, .int (b : Int) u]) Q E s :=
  max_two_N hh F N fun h' tk F' N' => by
    by_cases c : (b : Int) > (a : Int)
    · rw [if_pos c, if_pos c]; exact h b u h' tk (by omega) (Nat.le_refl _) (.inr rfl) F' N'
    · rw [if_neg c, if_neg c]; exact h a t h' tk (Nat.le_refl _) (by omega) (.inl rfl) F' N'
end
theorem ints_zeros (t : Tok) : ∀ n : Nat, IntsAre (List.replicate n (.int 0 t)) (List.replicate n 0)
  | 0 => .nil
  | n + 1 => .cons 0 t (ints_zeros t n)
def pad (xs : List Int) (k : Nat) : List Int := xs ++ List.replicate k 0
theorem pad_len {xs : List Int} {n M : Nat} (e : xs.length = n) (h : n ≤ M) : (xs ++ List.replicate (M - n) 0).length = M := by
  rw [List.length_append, List.length_replicate]; omega
end Mine
namespace Mine
theorem idx_lt {k : Int} {M n : Nat} {xs : List Int} (hk : k < 0 + ((((M : Int) - 0).toNat : Nat) : Int)) (e : xs.length = n) (h : n ≤ M) : k < ((xs ++ List.replicate (M - n) (0 : Int)).length : Int) := by
  rw [pad_len e h]; omega
theorem idx_63 {k : Int} {M : Nat} (hk : k < 0 + ((((M : Int) - 0).toNat : Nat) : Int)) (h : M ≤ 5) : k < 2 ^ 63 := by omega
theorem max_le5 {M a b : Nat} (h : M = a ∨ M = b) (ha : a ≤ 5) (hb : b ≤ 5) : M ≤ 5 := by omega
end Mine
end -- Use

section -- PutLaw
open PySem PySem.Spec PySem.Calls PySem.W PyProof.Rows
set_option maxRecDepth 100000
namespace Mine
/-- figures put together where just one of them is a one -/
def put (x y : Int) : Int := ((x.toNat ^^^ y.toNat : Nat) : Int)
def putList (x y : Int) (M n1 n2 : Nat) : List Int :=
  (rangeKs 0 ((M : Int) - 0).toNat).map fun k => if ((bits x ++ List.replicate (M - n1) 0).getD k.toNat 0 != (bits y ++ List.replicate (M - n2) 0).getD k.toNat 0) = true then 1 else 0
theorem put_len5 {f : Int → Int} {M : Nat} (h : M ≤ 5) : ((rangeKs 0 ((M : Int) - 0).toNat).map f).length ≤ 5 := by
  rw [List.length_map, rangeKs_length]; omega
theorem put_figs {c : Int → Prop} [∀ k, Decidable (c k)] {ks : List Int} : ∀ d ∈ ks.map (fun k => if c k then (1 : Int) else 0), 0 ≤ d ∧ d ≤ 1 := by
  intro d hd
  obtain ⟨k, _, rfl⟩ := List.mem_map.mp hd
  split <;> decide
def putOk (a b : Nat) : Bool := decide (told (putList (a : Int) (b : Int) (max (bits (a : Int)).length (bits (b : Int)).length) (bits (a : Int)).length (bits (b : Int)).length) = put (a : Int) (b : Int))
theorem putAll : ((List.range 32).all fun a => (List.range 32).all fun b => putOk a b) = true := by decide +kernel
theorem put_law {x y : Int} {M n1 n2 : Nat} (hx0 : 0 ≤ x) (hx1 : x < 32) (hy0 : 0 ≤ y) (hy1 : y < 32) (e1 : (bits x).length = n1) (e2 : (bits y).length = n2) (h1 : n1 ≤ M) (h2 : n2 ≤ M) (h3 : M = n1 ∨ M = n2) :
    told (putList x y M n1 n2) = put x y := by
  have hM : M = max n1 n2 := by omega
  subst hM e1 e2
  obtain ⟨a, rfl⟩ : ∃ a : Nat, x = a := ⟨x.toNat, by omega⟩
  obtain ⟨b, rfl⟩ : ∃ b : Nat, y = b := ⟨y.toNat, by omega⟩
  exact of_decide_eq_true (List.all_eq_true.mp (List.all_eq_true.mp putAll a (List.mem_range.mpr (by omega))) b (List.mem_range.mpr (by omega)))
theorem put_small {x y : Int} (hx0 : 0 ≤ x) (hx1 : x < 32) (hy0 : 0 ≤ y) (hy1 : y < 32) : 0 ≤ put x y ∧ put x y < 32 := by
  have := Nat.xor_lt_two_pow (n := 5) (show x.toNat < 2 ^ 5 by omega) (show y.toNat < 2 ^ 5 by omega)
  unfold put; omega
def PutOk (w : World) (p : Program) (loose : List Str) (mean : ExcName → Option Value) (mg mb : Str → Option Value) : Prop :=
  ∀ (x y : Int) (t1 t2 : Tok), 0 ≤ x → x < 32 → 0 ≤ y → y < 32 → Call w p loose mean mg mb 51 [.int x t1, .int y t2] 12 (fun h => Tab 16 pos1 qual1 h ∧ Tab 23 pos2 qual2 h) (fun _ _ v => ∃ t, v = .int (put x y) t)
end Mine
namespace Mine
theorem ints_inv0 {vs : List Value} (h : IntsAre vs []) : vs = [] := by cases h; rfl
theorem ints_inv1 {vs : List Value} {a : Int} (h : IntsAre vs [a]) : ∃ t, vs = [.int a t] := by
  cases h with | cons _ t h => cases h; exact ⟨t, rfl⟩
theorem ints_inv2 {vs : List Value} {a b : Int} (h : IntsAre vs [a, b]) : ∃ t u, vs = [.int a t, .int b u] := by
  cases h with | cons _ t h => obtain ⟨u, rfl⟩ := ints_inv1 h; exact ⟨t, u, rfl⟩
theorem ints_inv3 {vs : List Value} {a b c : Int} (h : IntsAre vs [a, b, c]) : ∃ t u v, vs = [.int a t, .int b u, .int c v] := by
  cases h with | cons _ t h => obtain ⟨u, v, rfl⟩ := ints_inv2 h; exact ⟨t, u, v, rfl⟩
theorem ints_inv4 {vs : List Value} {a b c d : Int} (h : IntsAre vs [a, b, c, d]) : ∃ t u v w, vs = [.int a t, .int b u, .int c v, .int d w] := by
  cases h with | cons _ t h => obtain ⟨u, v, w, rfl⟩ := ints_inv3 h; exact ⟨t, u, v, w, rfl⟩
theorem ints_inv5 {vs : List Value} {a b c d e : Int} (h : IntsAre vs [a, b, c, d, e]) : ∃ t u v w x, vs = [.int a t, .int b u, .int c v, .int d w, .int e x] := by
  cases h with | cons _ t h => obtain ⟨u, v, w, x, rfl⟩ := ints_inv4 h; exact ⟨t, u, v, w, x, rfl⟩
section
variable {w : World} {p : Program} {loose : List Str} {mean : ExcName → Option Value} {mg mb : Str → Option Value}
  {dp un : Nat} {gd : Option (List Code)} {cn : Str} {cs : Scope} {a : Addr} {ccd : Value} {cl : List (Str × Addr)} {outer : List Env} {A₀ : Around} {base h₀ : Heap} {L : Addr} {m : Str → Option Value} {news : List (Addr × Obj)} {s : Shared} {Q E : Value → Shared → Prop}
theorem use_put (C : PutOk w p loose mean mg mb) {x y : Int} {t1 t2 : Tok} (B : Below A₀ base outer h₀) (F : Fr h₀ L s.heap m) (X : (Mine.hd.heap_39 w.params).In h₀) (N : News h₀ L s.heap news) (T : Top p loose mean mg mb h₀) (hk : cs.kind = .function)
    (hd : dp + 12 < recursionLimit) (hu : un + 8 * 12 < cLine) (hpre1 : Tab 16 pos1 qual1 s.heap) (hpre2 : Tab 23 pos2 qual2 s.heap) (h0 : 0 ≤ x) (h1 : x < 32) (h2 : 0 ≤ y) (h3 : y < 32)
    (ret : ∀ t h' tk', Fr h₀ L h' m → News h₀ L h' news → 0 ≤ put x y → put x y < 32 → Q (.int (put x y) t) { s with heap := h', toks := tk' }) :
    wpAny (model prog0 w) (ktrTop dp un gd cn cs L a ccd cl outer) (call (.ref 51) [.int x t1, .int y t2]) Q E s := by
  refine C x y t1 t2 h0 h1 h2 h3 _ _ _ _ _ _ _ _ _ _ _ _ _ _ _ _ _ B F X T hk ⟨hpre1, hpre2⟩ hd hu fun v h' tk' k po => ?_
  obtain ⟨t, rfl⟩ := po
  exact ret t h' tk' (Fr.on F k) (News.on N k) (put_small h0 h1 h2 h3).1 (put_small h0 h1 h2 h3).2
end
/-- multiplied without carrying -/
def times (x y : Int) : Int := (List.range 3).foldl (fun acc k => if y.toNat.testBit k = true then put acc (x * 2 ^ k) else acc) 0
end Mine
end -- PutLaw

section -- DivLaw
open PySem PySem.Spec PySem.Calls PySem.W PyProof.Rows
set_option maxRecDepth 100000
namespace Mine
/-- divided: how often, and the rest -/
def dv : Nat → Int → Int → Int × Int
  | 0, a, _ => (0, a)
  | n + 1, a, b => if (bits a).length < (bits b).length then (0, a) else
      (2 ^ ((bits a).length - (bits b).length) + (dv n (put a (b * 2 ^ ((bits a).length - (bits b).length))) b).1, (dv n (put a (b * 2 ^ ((bits a).length - (bits b).length))) b).2)
def divq (a b : Int) : Int := (dv 6 a b).1
def divr (a b : Int) : Int := (dv 6 a b).2
def divGo (a b : Int) : Bool :=
  let p : Int := 2 ^ ((bits a).length - (bits b).length)
  let z := put a (b * p)
  decide ((bits a).length < (bits b).length) || (decide (divq a b = p + divq z b) && decide (divr a b = divr z b) && decide ((bits z).length < (bits a).length) && decide (0 ≤ b * p) && decide (b * p < 32))
theorem divGoAll : ((List.range 32).all fun a => (List.range 31).all fun b => divGo (a : Int) ((b : Int) + 1)) = true := by decide +kernel
theorem div_go {a b p z : Int} {n1 n2 : Nat} (ha0 : 0 ≤ a) (ha1 : a < 32) (hb0 : 1 ≤ b) (hb1 : b < 32) (e1 : (bits a).length = n1) (e2 : (bits b).length = n2) (h : ¬ (n1 : Int) - n2 < 0) (hp : p = 2 ^ ((n1 : Int) - n2).toNat) (hz : z = put a (b * p)) :
    divq a b = p + divq z b ∧ divr a b = divr z b ∧ (bits z).length < n1 ∧ 0 ≤ b * p ∧ b * p < 32 := by
  obtain ⟨x, rfl⟩ : ∃ x : Nat, a = x := ⟨a.toNat, by omega⟩
  obtain ⟨y, rfl⟩ : ∃ y : Nat, b = (y : Int) + 1 := ⟨(b - 1).toNat, by omega⟩
  have k := List.all_eq_true.mp (List.all_eq_true.mp divGoAll x (List.mem_range.mpr (by omega))) y (List.mem_range.mpr (by omega))
  subst e1 e2
  rw [show (((bits (x : Int)).length : Int) - (bits ((y : Int) + 1)).length).toNat = (bits (x : Int)).length - (bits ((y : Int) + 1)).length by omega] at hp
  subst hp
  subst hz
  simp only [divGo] at k
  rw [decide_eq_false (by omega), Bool.false_or] at k
  simp only [Bool.and_eq_true, decide_eq_true_eq] at k
  exact ⟨k.1.1.1.1, k.1.1.1.2, k.1.1.2, k.1.2, k.2⟩
theorem div_mul {a b p : Int} {n1 n2 : Nat} (ha0 : 0 ≤ a) (ha1 : a < 32) (hb0 : 1 ≤ b) (hb1 : b < 32) (e1 : (bits a).length = n1) (e2 : (bits b).length = n2) (h : ¬ (n1 : Int) - n2 < 0) (hp : p = 2 ^ ((n1 : Int) - n2).toNat) : 0 ≤ b * p ∧ b * p < 32 :=
  (div_go ha0 ha1 hb0 hb1 e1 e2 h hp rfl).2.2.2
theorem div_stop {a b : Int} {n1 n2 : Nat} (e1 : (bits a).length = n1) (e2 : (bits b).length = n2) (h : (n1 : Int) - n2 < 0) : divq a b = 0 ∧ divr a b = a := by
  have : (bits a).length < (bits b).length := by omega
  unfold divq divr
  rw [dv, if_pos this]
  exact ⟨rfl, rfl⟩
theorem bits_pos {b : Int} (h0 : 1 ≤ b) (h1 : b < 32) : 1 ≤ (bits b).length := by
  have key : ∀ n : Nat, n < 31 → 1 ≤ (bits ((n : Int) + 1)).length := by decide
  obtain ⟨y, rfl⟩ : ∃ y : Nat, b = (y : Int) + 1 := ⟨(b - 1).toNat, by omega⟩
  exact key y (by omega)
section
variable {prog : Program} {w : World} {A : Around} {E : Value → Shared → Prop} {s : Shared} {x k : Int} {t u : Tok} {Q : Value → Shared → Prop}
theorem pow2Z (hk : 0 ≤ k) (hk2 : k ≤ 1000) (h : ∀ p, p = 2 ^ k.toNat → Q (.int p s.toks) { s with toks := s.toks + 1 }) : wpAny (model prog w) A (binaryOp .Pow (.int 2 t) (.int k u)) Q E s :=
  pow_int_small hk (by omega) (by decide) (h _ rfl)
theorem mulSmall {y : Int} (h0 : 0 ≤ x) (h1 : x < 1024) (h : Q (.int (x * y) s.toks) { s with toks := s.toks + 1 }) : wpAny (model prog w) A (binaryOp .Mult (.int x t) (.int y u)) Q E s :=
  mul_int h (IntMulOk.of_left (intBits_le_64 (by omega) (by omega)))
end
def DivOk (w : World) (p : Program) (loose : List Str) (mean : ExcName → Option Value) (mg mb : Str → Option Value) : Prop :=
  ∀ (x y : Int) (t1 t2 : Tok), 0 ≤ x → x < 32 → 1 ≤ y → y < 32 → Call w p loose mean mg mb 65 [.int x t1, .int y t2] 14 (fun h => Tab 16 pos1 qual1 h ∧ Tab 23 pos2 qual2 h)
    (fun h h' v => ∃ l n u1 u2, v = .ref l ∧ h.objs.size ≤ l ∧ h'.get? l = some { cls := .type "tuple", data := .seq #[.int (divq x y) u1, .int (divr x y) u2] n })
end Mine
namespace Mine
def DInv (a b : Int) (pre : List Int) (o f : Int) : Prop := divq a b = f + divq o b ∧ divr a b = divr o b ∧ 0 ≤ o ∧ o < 32 ∧ (bits o).length + pre.length ≤ 5
theorem DInv.lo {a b o f : Int} {pre : List Int} (h : DInv a b pre o f) : 0 ≤ o := h.2.2.1
theorem DInv.hi {a b o f : Int} {pre : List Int} (h : DInv a b pre o f) : o < 32 := h.2.2.2.1
theorem dinv_start {a b : Int} (h0 : 0 ≤ a) (h1 : a < 32) : DInv a b [] a 0 := ⟨(Int.zero_add _).symm, rfl, h0, h1, bits_le h0 h1⟩
theorem dinv_step {a b o f p p' : Int} {pre : List Int} {k : Int} {n1 n2 : Nat} (hI : DInv a b pre o f) (hb0 : 1 ≤ b) (hb1 : b < 32) (e1 : (bits o).length = n1) (e2 : (bits b).length = n2) (h : ¬ (n1 : Int) - n2 < 0) (hp : p = 2 ^ ((n1 : Int) - n2).toNat) (hp' : p' = 2 ^ ((n1 : Int) - n2).toNat) :
    DInv a b (pre ++ [k]) (put o (b * p)) (f + p') := by
  obtain ⟨i1, i2, i3, i4, i5⟩ := hI
  obtain ⟨g1, g2, g3, g4, g5⟩ := div_go i3 i4 hb0 hb1 e1 e2 h hp rfl
  obtain ⟨q1, q2⟩ := put_small i3 i4 g4 g5
  refine ⟨?_, i2.trans g2, q1, q2, ?_⟩
  · rw [i1, g1, hp, hp']; omega
  · rw [List.length_append, List.length_singleton]; omega
theorem dinv_stop {a b o f : Int} {pre : List Int} {n1 n2 : Nat} (hI : DInv a b pre o f) (e1 : (bits o).length = n1) (e2 : (bits b).length = n2) (h : (n1 : Int) - n2 < 0) : f = divq a b ∧ o = divr a b := by
  obtain ⟨i1, i2, _⟩ := hI
  obtain ⟨g1, g2⟩ := div_stop e1 e2 h
  exact ⟨by rw [i1, g1]; omega, by rw [i2, g2]⟩
theorem dinv_end {a b o f : Int} {pre : List Int} (hI : DInv a b pre o f) (h : pre.length = 8) : False := by
  have := hI.2.2.2.2; omega
end Mine
namespace Mine
section
variable {M : Model} {A : Around} {E : Value → Shared → Prop} {s : Shared} {h₀ : Heap} {L : Addr} {m : Str → Option Value} {news : List (Addr × Obj)} {vs : List Value} {Q : Value → Shared → Prop}
theorem newTupleZ (F : Fr h₀ L s.heap m) (N : News h₀ L s.heap news) (hsz : vs.length ≤ 16)
    (h : ∀ D h', Fr h₀ L h' m → News h₀ L h' ((D, { cls := .type "tuple", data := .seq vs.toArray }) :: news) → (∀ q ∈ news, q.1 < D) → L < D → Q (.ref D) { s with heap := h' }) : wpAny M A (newTuple vs) Q E s :=
  newTuple_N F N (fun h' F' N' => h _ h' F' N' (fun q hq => Heap.lt_size (N q hq).1) F.ns.lt) (by rw [sizeLine_eq]; omega)
end
end Mine
namespace Mine
section
variable {M : Model} {A : Around} {E : Value → Shared → Prop} {s : Shared} {h₀ : Heap} {L : Addr} {m : Str → Option Value} {news : List (Addr × Obj)} {vs : List Value} {Q : Value → Shared → Prop}
theorem newListZ (F : Fr h₀ L s.heap m) (N : News h₀ L s.heap news) (hsz : vs.length ≤ 16)
    (h : ∀ D h', Fr h₀ L h' m → News h₀ L h' ((D, W.listOf vs.toArray 0) :: news) → (∀ q ∈ news, q.1 < D) → L < D → Q (.ref D) { s with heap := h' }) : wpAny M A (newList vs) Q E s :=
  newList_N F N (fun h' F' N' => h _ h' F' N' (fun q hq => Heap.lt_size (N q hq).1) F.ns.lt) (by rw [sizeLine_eq]; omega)
end
end Mine
end -- DivLaw

section -- PartsLaw
open PySem PySem.Spec PySem.Calls PySem.W PyProof.Rows
set_option maxRecDepth 100000
namespace Mine
/-- the rows that no shorter two make, up to four figures -/
def rows0 : List Int := [2, 3, 7, 11, 13]
def turnP (p : Int) (st : Int × List Int) : Int × List Int := if st.1 ≥ p then (if divr st.1 p = 0 then (divq st.1 p, st.2 ++ [p]) else st) else st
def turnsP (p : Int) : Nat → Int × List Int → Int × List Int
  | 0, st => st
  | n + 1, st => turnP p (turnsP p n st)
def rowsP (pre : List Int) (x : Int) : Int × List Int := pre.foldl (fun st p => turnsP p 3 st) (x, [])
def parts (x : Int) : List Int := (rowsP rows0 x).2

def POut (x : Int) (pre : List Int) (num : Int) (fnd : List Int) : Prop := rowsP pre x = (num, fnd) ∧ 0 ≤ num ∧ num < 32 ∧ fnd.length ≤ 3 * pre.length
def PIn (x : Int) (pre0 : List Int) (p : Int) (pre : List Int) (num : Int) (fnd : List Int) : Prop := turnsP p pre.length (rowsP pre0 x) = (num, fnd) ∧ 0 ≤ num ∧ num < 32 ∧ fnd.length ≤ 3 * pre0.length + pre.length ∧ 1 ≤ p ∧ p < 32
theorem divq_small {a b : Int} (ha0 : 0 ≤ a) (ha1 : a < 32) (hb0 : 1 ≤ b) (hb1 : b < 32) : 0 ≤ divq a b ∧ divq a b < 32 := by
  have key : ((List.range 32).all fun a => (List.range 31).all fun b => decide (0 ≤ divq (a : Int) ((b : Int) + 1)) && decide (divq (a : Int) ((b : Int) + 1) < 32)) = true := by decide +kernel
  obtain ⟨x, rfl⟩ : ∃ x : Nat, a = x := ⟨a.toNat, by omega⟩
  obtain ⟨y, rfl⟩ : ∃ y : Nat, b = (y : Int) + 1 := ⟨(b - 1).toNat, by omega⟩
  have k := List.all_eq_true.mp (List.all_eq_true.mp key x (List.mem_range.mpr (by omega))) y (List.mem_range.mpr (by omega))
  simp only [Bool.and_eq_true, decide_eq_true_eq] at k
  exact k
theorem pOut_start {x : Int} (h0 : 0 ≤ x) (h1 : x < 32) : POut x [] x [] := ⟨rfl, h0, h1, Nat.le_refl _⟩
theorem pIn_start {x : Int} {pre : List Int} {num : Int} {fnd : List Int} {p : Int} (h : POut x pre num fnd) (h0 : 1 ≤ p) (h1 : p < 32) : PIn x pre p [] num fnd := ⟨h.1, h.2.1, h.2.2.1, h.2.2.2, h0, h1⟩
theorem pIn_hit {x : Int} {pre0 pre : List Int} {num : Int} {fnd : List Int} {p k : Int} (h : PIn x pre0 p pre num fnd) (hge : num ≥ p) (hr : divr num p = 0) : PIn x pre0 p (pre ++ [k]) (divq num p) (fnd ++ [p]) := by
  obtain ⟨i1, i2, i3, i4, i5, i6⟩ := h
  have q := divq_small i2 i3 i5 i6
  refine ⟨?_, q.1, q.2, ?_, i5, i6⟩
  · rw [List.length_append, List.length_singleton, turnsP, i1, turnP, if_pos hge, if_pos hr]
  · simp only [List.length_append, List.length_singleton]; omega
theorem pIn_miss {x : Int} {pre0 pre : List Int} {num : Int} {fnd : List Int} {p k : Int} (h : PIn x pre0 p pre num fnd) (hr : num ≥ p → divr num p ≠ 0) : PIn x pre0 p (pre ++ [k]) num fnd := by
  obtain ⟨i1, i2, i3, i4, i5, i6⟩ := h
  refine ⟨?_, i2, i3, ?_, i5, i6⟩
  · rw [List.length_append, List.length_singleton, turnsP, i1, turnP]
    by_cases c : num ≥ p
    · rw [if_pos c, if_neg (hr c)]
    · rw [if_neg c]
  · simp only [List.length_append, List.length_singleton]; omega
theorem pOut_step {x : Int} {pre0 pre : List Int} {num : Int} {fnd : List Int} {p : Int} (h : PIn x pre0 p pre num fnd) (hl : pre.length = 3) : POut x (pre0 ++ [p]) num fnd := by
  obtain ⟨i1, i2, i3, i4, i5, i6⟩ := h
  rw [hl] at i1 i4
  refine ⟨?_, i2, i3, ?_⟩
  · unfold rowsP at i1 ⊢
    rw [List.foldl_append, List.foldl_cons, List.foldl_nil]; exact i1
  · simp only [List.length_append, List.length_singleton]; omega
theorem parts_all : ((List.range 7).all fun n => decide ((rowsP rows0 ((n : Int) + 1)).1 = 1)) = true := by decide +kernel
theorem parts_one {x : Int} (h0 : 1 ≤ x) (h1 : x ≤ 7) : (rowsP rows0 x).1 = 1 := by
  obtain ⟨n, rfl⟩ : ∃ n : Nat, x = (n : Int) + 1 := ⟨(x - 1).toNat, by omega⟩
  exact of_decide_eq_true (List.all_eq_true.mp parts_all n (List.mem_range.mpr (by omega)))
section
variable {w : World} {p : Program} {loose : List Str} {mean : ExcName → Option Value} {mg mb : Str → Option Value}
  {dp un : Nat} {gd : Option (List Code)} {cn : Str} {cs : Scope} {a : Addr} {ccd : Value} {cl : List (Str × Addr)} {outer : List Env} {A₀ : Around} {base h₀ : Heap} {L : Addr} {m : Str → Option Value} {news : List (Addr × Obj)} {s : Shared} {Q E : Value → Shared → Prop}
theorem use_div (C : DivOk w p loose mean mg mb) {x y : Int} {t1 t2 : Tok} (B : Below A₀ base outer h₀) (F : Fr h₀ L s.heap m) (X : (Mine.hd.heap_39 w.params).In h₀) (N : News h₀ L s.heap news) (T : Top p loose mean mg mb h₀) (hk : cs.kind = .function)
    (hd : dp + 14 < recursionLimit) (hu : un + 8 * 14 < cLine) (hpre1 : Tab 16 pos1 qual1 s.heap) (hpre2 : Tab 23 pos2 qual2 s.heap) (h0 : 0 ≤ x) (h1 : x < 32) (h2 : 1 ≤ y) (h3 : y < 32)
    (ret : ∀ l n u1 u2 h' tk', Fr h₀ L h' m → News h₀ L h' ((l, ({ cls := .type "tuple", data := .seq #[.int (divq x y) u1, .int (divr x y) u2] n } : Obj)) :: news) → (∀ q ∈ news, q.1 < l) → L < l → Q (.ref l) { s with heap := h', toks := tk' }) :
    wpAny (model prog0 w) (ktrTop dp un gd cn cs L a ccd cl outer) (call (.ref 65) [.int x t1, .int y t2]) Q E s := by
  refine C x y t1 t2 h0 h1 h2 h3 _ _ _ _ _ _ _ _ _ _ _ _ _ _ _ _ _ B F X T hk ⟨hpre1, hpre2⟩ hd hu fun v h' tk' k po => ?_
  obtain ⟨l, n, u1, u2, rfl, hl, ho⟩ := po
  exact ret l n u1 u2 h' tk' (Fr.on F k) (News.add F N k hl ho) (News.under N hl) (Nat.lt_of_lt_of_le F.ns.lt hl)
end
/-- what _law_parts gives back of a number from one to seven -/
def PartsOk (w : World) (p : Program) (loose : List Str) (mean : ExcName → Option Value) (mg mb : Str → Option Value) : Prop :=
  ∀ (x : Int) (l : Addr) (t1 : Tok) (vs : List Value), 1 ≤ x → x ≤ 7 → IntsAre vs rows0 → Call w p loose mean mg mb 77 [.int x t1, .ref l] 16 (fun h => Tab 16 pos1 qual1 h ∧ Tab 23 pos2 qual2 h ∧ h.IsList l vs.toArray) (NewInts (parts x))
end Mine
namespace Mine
section
variable {x : Int} {pre0 pre : List Int} {num : Int} {fnd : List Int} {p : Int}
theorem PIn.b1 (h : PIn x pre0 p pre num fnd) : 0 ≤ num := h.2.1
theorem PIn.b2 (h : PIn x pre0 p pre num fnd) : num < 32 := h.2.2.1
theorem PIn.b3 (h : PIn x pre0 p pre num fnd) : 1 ≤ p := h.2.2.2.2.1
theorem PIn.b4 (h : PIn x pre0 p pre num fnd) : p < 32 := h.2.2.2.2.2
end
end Mine
namespace Mine
theorem rows_lo {k : Int} (h : k ∈ rows0) : 1 ≤ k := (show ∀ k ∈ rows0, (1 : Int) ≤ k by decide) k h
theorem rows_hi {k : Int} (h : k ∈ rows0) : k < 32 := (show ∀ k ∈ rows0, k < (32 : Int) by decide) k h
theorem parts_done {x num : Int} {fnd : List Int} {vs : List Value} (h : POut x rows0 num fnd) (hi : IntsAre vs fnd) : IntsAre vs (parts x) := by
  have : parts x = fnd := by unfold parts; rw [h.1]
  rw [this]; exact hi
theorem parts_never {x num : Int} {fnd : List Int} (h : POut x rows0 num fnd) (h0 : 1 ≤ x) (h1 : x ≤ 7) (hn : num ≠ 1) : False := by
  have := parts_one h0 h1
  rw [h.1] at this
  exact hn this
end Mine
namespace Mine
theorem PIn.size {x : Int} {pre0 pre : List Int} {num : Int} {fnd : List Int} {p : Int} {us : List Value} {k : Nat} (h : PIn x pre0 p pre num fnd) (hl : us.length = fnd.length) (hlt : pre.length < (3 - 0 : Int).toNat) (hL : rows0.length = pre0.length + (k + 1)) : us.toArray.size ≤ sizeLine := by
  have h4 := h.2.2.2.1
  have : rows0.length = 5 := by decide
  rw [List.size_toArray, sizeLine_eq, hl]
  omega
end Mine
end -- PartsLaw

section -- RangeInv
open PySem PySem.Spec PySem.Calls PySem.W PyProof.Rows
set_option maxRecDepth 100000
namespace Mine
section
variable {prog : Program} {w : World} {A : Around} {E : Value → Shared → Prop} {s : Shared} {env : Env} {h₀ : Heap} {x : Str} {px : Pos} {body : List Stmt} {Q : Flow → Shared → Prop}
/-- a loop over a range, its target any name (a cell too), by a word of one's own over the frame and the ledger -/
theorem iter_rangeInv {r : Addr} {a₀ b₀ : Int} {t₀ u₀ v₀ : Tok} {n : Nat} {m₀ : Str → Option Value} {news : List (Addr × Obj)} (J : Nat → (Str → Option Value) → List (Addr × Obj) → Prop)
    (hh : A.handled = none) (hr : IsRange s.heap r a₀ b₀ 1 t₀ u₀ v₀) (hsmall : Builtin.Range.small a₀ b₀ 1 = true) (hn : Builtin.Range.rangeSize a₀ b₀ 1 = (n : Int)) (F : Fr h₀ env.locals s.heap m₀) (N : News h₀ env.locals s.heap news)
    (h0 : J 0 m₀ news)
    (step : ∀ i m₁ news₁ h₁ tk₁ I t, i < n → J i m₁ news₁ → (∀ p ∈ news₁, p.1 ≠ I) → (∀ p ∈ news, p.1 < I) → env.locals < I → Fr h₀ env.locals h₁ m₁ → News h₀ env.locals h₁ ((I, itR (a₀ + ((i + 1 : Nat) : Int)) ((n : Int) - ((i + 1 : Nat) : Int))) :: news₁) →
      wpAny (model prog w) A (assign (.Name x px) env (.int (a₀ + (i : Int)) t)) (fun _ s₃ => wpAny (model prog w) A (execs body env)
        (UnrPost h₀ env.locals { s with heap := h₁, toks := tk₁ } I (itR (a₀ + ((i + 1 : Nat) : Int)) ((n : Int) - ((i + 1 : Nat) : Int))) (J (i + 1)) Q) E s₃) E { s with heap := h₁, toks := tk₁ })
    (done : ∀ h tk m news, Fr h₀ env.locals h m → News h₀ env.locals h news → J n m news → Q .next { s with heap := h, toks := tk }) :
    wpAny (model prog w) A (pyIter (.ref r)) (fun it s₂ => TurnsAt prog w A h₀ env (.Name x px) body Q E it s₂) E s := by
  refine wpAny_pyIter_range hr hsmall ?_
  have W : Walks prog w A s.heap.objs.size [s.heap.objs.size] [s.heap.objs.size] n (fun i v => i < n ∧ ∃ t, v = .int (a₀ + i * 1) t)
      (fun i h => IsRangeIter h s.heap.objs.size (a₀ + (i : Nat) * 1) ((n : Int) - (i : Nat)) 1) := (Walks.range hh _ a₀ 1 n).bound
  have hnew := next_is_new F
  have hI0 : ∀ p ∈ news, p.1 < s.heap.objs.size := fun p hp => Heap.lt_size (N p hp).1
  refine ⟨_, _, _, n, _, _, _, m₀, news, J, rfl, KTurns.ofWalks W (fun _ _ _ _ _ _ q => ?_), ?_, ?_, ?_, (by show IsRangeIter _ _ _ _ _; rw [hn]; simpa using Heap.get?_push_size _ rfl), F.push _, (fun p hp => ⟨Heap.get?_push_of_some _ (N p hp).1, (N p hp).2⟩), h0, ?_, ?_⟩
  · exact wpAny_pure q
  · intro hm
    exact absurd F.ns.lt ((List.mem_singleton.mp hm) ▸ Nat.lt_irrefl _)
  · intro b hb
    rw [List.mem_singleton.mp hb]
    exact hnew
  · intro p hp hI
    exact absurd (Heap.lt_size (N p hp).1) ((List.mem_singleton.mp hI) ▸ Nat.lt_irrefl _)
  · rintro i v m₁ news₁ hh' tk' own hin ⟨_, t, rfl⟩ hJ hoff hown hget hall hst F₁ N₁
    have hst' : hh'.get? s.heap.objs.size = some (itR (a₀ + ((i + 1 : Nat) : Int)) ((n : Int) - ((i + 1 : Nat) : Int))) := by
      have q : IsRangeIter hh' s.heap.objs.size (a₀ + ((i + 1 : Nat) : Int) * 1) ((n : Int) - ((i + 1 : Nat) : Int)) 1 := hst
      rw [Int.mul_one] at q
      exact q
    have hmem := hall s.heap.objs.size (List.mem_singleton.mpr rfl) hnew _ hst'
    have N₂ : News h₀ env.locals hh' ((s.heap.objs.size, itR (a₀ + ((i + 1 : Nat) : Int)) ((n : Int) - ((i + 1 : Nat) : Int))) :: news₁) := fun p hp => by
      rcases List.mem_cons.mp hp with rfl | hp
      · exact N₁ _ (List.mem_append_left _ hmem)
      · exact N₁ _ (List.mem_append_right _ hp)
    have e1 : a₀ + (i : Int) * 1 = a₀ + (i : Int) := by rw [Int.mul_one]
    rw [e1]
    refine wpAny_mono (step i m₁ news₁ hh' tk' s.heap.objs.size t hin hJ (fun p hp e => hoff p hp (by rw [e]; exact List.mem_singleton.mpr rfl)) hI0 F.ns.lt F₁ N₂) (fun _ s₃ h₃ => wpAny_mono h₃ (fun f s₂ p => ?_) fun _ _ e => e) fun _ _ e => e
    have fin : UnrEnd h₀ env.locals { s with heap := hh', toks := tk' } s.heap.objs.size (itR (a₀ + ((i + 1 : Nat) : Int)) ((n : Int) - ((i + 1 : Nat) : Int))) (J (i + 1)) s₂ →
        LoopStepU h₀ env.locals [s.heap.objs.size] own (J (i + 1)) { s with heap := hh', toks := tk' } .next s₂ := by
      rintro ⟨h', tk, m', news', e, F', N', ho, r⟩
      refine ⟨rfl, h', tk, m', news', e, F', fun p hp => ?_, fun p hp hI => ho p hp (List.mem_singleton.mp hI), r⟩
      rcases List.mem_append.mp hp with hp | hp
      · have h1 : p.1 = s.heap.objs.size := List.mem_singleton.mp (hown p hp)
        have h2 : hh'.get? p.1 = some p.2 := hget p hp
        have h3 : p = (s.heap.objs.size, itR (a₀ + ((i + 1 : Nat) : Int)) ((n : Int) - ((i + 1 : Nat) : Int))) := by
          rw [h1, hst'] at h2
          exact Prod.ext h1 (Option.some.inj h2).symm
        rw [h3]; exact N' _ (List.mem_cons_self ..)
      · exact N' _ (List.mem_cons_of_mem _ hp)
    cases f with
    | ret v => exact .ret p
    | brk => exact .brk p
    | next => exact .next (fin p)
    | cont => exact .cont (fin p)
  · exact fun h' tk m' news' F' N' _ hJ => done h' tk m' news' F' N' hJ
end
end Mine
end -- RangeInv

section -- Inn
open PySem PySem.Spec PySem.Calls PySem.W PyProof.Rows
set_option maxRecDepth 100000
namespace Mine
-- the text's own defs, taken out of the row's program
def defBody : Stmt → List Stmt
  | .FunctionDef _ _ b _ _ _ _ _ _ _ => b
  | _ => []
def defParams : Stmt → Arguments
  | .FunctionDef _ a _ _ _ _ _ _ _ _ => a
  | _ => default
def defScope : Stmt → Scope
  | .FunctionDef _ _ _ _ _ _ sc _ _ _ => sc
  | _ => default
def first0 : List Stmt → Stmt
  | s :: _ => s
  | _ => default
def inner1 : Stmt := first0 (defBody (first0 (prog0.main.body.drop 1))).tail
def inner2 : Stmt := first0 (defBody (first0 (prog0.main.body.drop 2)))

section
variable {prog : Program} {w : World} {A A₀ : Around} {s : Shared} {K : Frag} {L : Addr} {h₀ base : Heap} {m mg mb : Str → Option Value} {p : Program} {loose : List Str} {mean : ExcName → Option Value} {news : List (Addr × Obj)}

/-- a def made in a def is entered; what the ledger names is hidden from its base, all else is in it -/
theorem enterX {env : Env} {outer : List Env} {R : Result → Shared → Prop} {name qual : Str} {params : Arguments} {body : List Stmt} {scope : Scope} {cl : List (Str × Addr)} {dV kV doc pm cdv ct : Value} {an : Option Addr} {fo : Obj} {f : Addr} {args : Args} {binds : List (Str × Value)}
    (B : Below A₀ base outer h₀) (F : Fr h₀ L s.heap m) (X₀ : K.In h₀) (T : Top p loose mean mg mb h₀) (N : News h₀ L s.heap news) (hA : A.frames = some (env :: outer)) (hf : env.frame = some L) (hke : env.scope.kind = .function)
    (ho : s.heap.get? f = some fo) (hd : fo.data = .func (fnX name qual params body scope cl dV kV doc pm an cdv ct)) (hcd : s.heap.CodeRec cdv qual) (hroom : A.depth < recursionLimit)
    (hbind : BindsTo s (fnX name qual params body scope cl dV kV doc pm an cdv ct) args binds) (hloc : ∀ y ∈ binds, scope.names.lookup y.1 = some .local)
    (h : ∀ g L' h₁, (∀ b o, b ∉ news.map (·.1) → s.heap.get? b = some o → g.get? b = some o) → g.objs.size = s.heap.objs.size → Fr g L' h₁ (fun y => binds.reverse.lookup y) → News g L' h₁ news → Below A base (env :: outer) g → K.In g → Top p loose mean mg mb g →
      wpAny (model prog w) (A.deeper (envX qual scope L' f cdv cl)) (execs body (envX qual scope L' f cdv cl))
        (fun fl s' => R (.ok (.ret (match fl with | .ret v => v | _ => .none))) s')
        (fun e s' => wpAny (model prog w) (A.deeper (envX qual scope L' f cdv cl)) (leaving (envX qual scope L' f cdv cl) e) (fun _ s'' => R (.error e) s'') (fun e' s'' => R (.error e') s'') s')
        { s with heap := h₁, toks := s.toks + binds.length })
    (hco : scope.isCoroutine = false) (hgen : scope.isGenerator = false) (hk : scope.kind = .function)
    (hcell : ∀ x ∈ scope.names, x.2 ≠ .cell) : codeAny (model prog w) A (.call (.ref f) args) R s := by
  obtain ⟨FG, BG, st, _⟩ := groundX (R := R) B F N hA hf hke
  refine codeAny_call_def (fd := fnX name qual params body scope cl dV kV doc pm an cdv ct) (body := body) (binds := binds) hroom ho hd (T.nolimit.keeps F.keep) hcd rfl hbind hcell hloc (fun h₁ hns hk₁ => ?_) hco hgen hk
  exact h _ s.heap.objs.size h₁ (fun b o n e => hideAll_get _ e n) (hideAll_size _ _) ⟨hns, fun b o e => hk₁ b o (of_hideAll _ e), Nat.le_of_eq (hideAll_size _ _)⟩
    (fun q hq => ⟨hk₁ _ _ (N q hq).1, Nat.ne_of_lt (Heap.lt_size (N q hq).1), hideAll_none _ (List.mem_map_of_mem hq)⟩) BG (X₀.keeps st) (T.keeps st)
end
section
variable {M : Model} {A : Around} {E : Value → Shared → Prop} {s : Shared} {h₀ : Heap} {L a c : Addr} {m : Str → Option Value} {cn : Str} {cs : Scope} {ccd : Value} {cl : List (Str × Addr)} {x : Str} {pos : Pos} {v : Value} {Q : Value → Shared → Prop} {o : Obj}
/-- a free name whose cell lies in the frame's base -/
theorem nameX_FB (F : Fr h₀ L s.heap m) (hc : cl.lookup x = some c) (ho : h₀.get? c = some o) (hd : o.data = .cell (some v)) (h : Q v s)
    (hk : cs.kind = .function := by rfl) (hx : (envX cn cs L a ccd cl).kindOf x = some .free := by rfl) (hb : (x == ("__debug__" : Str)) = false := by decide) (hn : (x == ("__classdict__" : Str)) = false := by decide) :
    wpAny M A (eval (.Name x pos) (envX cn cs L a ccd cl)) Q E s := wpAny_Name (wpAny_loadName_free hk hx hc ⟨o, F.keep _ _ ho, hd⟩ h hn) hb
theorem fnAt_base {h : Heap} {q : Addr} {oc : Value} {od : Option Addr} {fd : FuncData} {sl : Array (Option Value)} (ho : h₀.get? q = some ⟨oc, od, .func fd, sl⟩) (F : Fr h₀ L h m) : FnAt q h := ⟨oc, od, fd, sl, F.keep _ _ ho⟩
end
section
variable {prog : Program} {w : World} {A : Around} {E : Value → Shared → Prop} {s : Shared} {x y k : Int} {t u : Tok} {Q : Value → Shared → Prop}
theorem shr1Z (h : ∀ q, q = x / 2 → Q (.int q s.toks) { s with toks := s.toks + 1 }) : wpAny (model prog w) A (binaryOp .RShift (.int x t) (.int 1 u)) Q E s :=
  rshift_int (by decide) (by have := h _ rfl; rwa [show x / 2 = x.fdiv (2 ^ Int.toNat 1) from (Int.fdiv_eq_ediv_of_nonneg x (by decide)).symm] at this)
theorem shrZ (hk : 0 ≤ k) (h : ∀ q, q = x / 2 ^ k.toNat → Q (.int q s.toks) { s with toks := s.toks + 1 }) : wpAny (model prog w) A (binaryOp .RShift (.int x t) (.int k u)) Q E s :=
  rshift_int hk (by have := h _ rfl; rwa [show x / 2 ^ k.toNat = x.fdiv (2 ^ k.toNat) from (Int.fdiv_eq_ediv_of_nonneg x (Int.le_of_lt (Int.pow_pos (by decide)))).symm] at this)
theorem shlZ (hk : 0 ≤ k) (hk2 : k ≤ 1000) (h0 : 0 ≤ x) (h1 : x < 1024) (h : ∀ q, q = x * 2 ^ k.toNat → Q (.int q s.toks) { s with toks := s.toks + 1 }) : wpAny (model prog w) A (binaryOp .LShift (.int x t) (.int k u)) Q E s :=
  lshift_int_small hk (by omega) (by omega) (h _ rfl)
theorem mul1Z (h : Q (.int x s.toks) { s with toks := s.toks + 1 }) : wpAny (model prog w) A (binaryOp .Mult (.int x t) (.int 1 u)) Q E s :=
  mul_int (by rw [Int.mul_one]; exact h) (IntMulOk.of_right (by decide))
end
section
variable {w : World} {p : Program} {loose : List Str} {mean : ExcName → Option Value} {mg mb : Str → Option Value}
  {dp un : Nat} {gd : Option (List Code)} {cn : Str} {cs : Scope} {a : Addr} {ccd : Value} {cl : List (Str × Addr)} {outer : List Env} {A₀ : Around} {base h₀ : Heap} {L : Addr} {m : Str → Option Value} {news : List (Addr × Obj)} {s : Shared} {Q E : Value → Shared → Prop}
theorem use_call {f : Addr} {vs : List Value} {k : Nat} {Pre : Heap → Prop} {Post : Heap → Heap → Value → Prop} (C : Call w p loose mean mg mb f vs k Pre Post) (B : Below A₀ base outer h₀) (F : Fr h₀ L s.heap m) (X : (Mine.hd.heap_39 w.params).In h₀) (N : News h₀ L s.heap news) (T : Top p loose mean mg mb h₀) (hk : cs.kind = .function)
    (hd : dp + k < recursionLimit) (hu : un + 8 * k < cLine) (hpre : Pre s.heap)
    (ret : ∀ v h' tk', Fr h₀ L h' m → News h₀ L h' news → Keep s.heap h' → Post s.heap h' v → Q v { s with heap := h', toks := tk' }) :
    wpAny (model prog0 w) (ktrTop dp un gd cn cs L a ccd cl outer) (call (.ref f) vs) Q E s :=
  C _ _ _ _ _ _ _ _ _ _ _ _ _ _ _ _ _ B F X T hk hpre hd hu fun v h' tk' k po => ret v h' tk' (Fr.on F k) (News.on N k) k po
end
-- plain laws
def seg (ds : List Int) (i j : Int) : List Int := (ds.drop i.toNat).take (j - i).toNat
theorem told_append (xs ys : List Int) : told (xs ++ ys) = told xs + 2 ^ xs.length * told ys := by
  induction xs with
  | nil => simp [told]
  | cons d r ih =>
    rw [List.cons_append, told, ih, told, List.length_cons, Int.pow_succ, Int.mul_add, ← Int.mul_assoc, Int.mul_comm 2 (2 ^ r.length)]
    omega
theorem told_bound : ∀ {xs : List Int}, (∀ d ∈ xs, 0 ≤ d ∧ d ≤ 1) → 0 ≤ told xs ∧ told xs < 2 ^ xs.length
  | [], _ => ⟨Int.le_refl _, by decide⟩
  | d :: r, h => by
    have h1 := h d (.head _)
    have h2 := told_bound (xs := r) fun e he => h e (.tail _ he)
    rw [told, List.length_cons, Int.pow_succ]
    omega
theorem seg_len {ds : List Int} {i j : Int} : (seg ds i j).length ≤ ds.length := by
  unfold seg; rw [List.length_take, List.length_drop]; omega
theorem seg_mem {ds : List Int} {i j : Int} {d : Int} (h : d ∈ seg ds i j) : d ∈ ds := List.mem_of_mem_drop (List.mem_of_mem_take h)
theorem told_small {ds : List Int} (hb : ∀ d ∈ ds, 0 ≤ d ∧ d ≤ 1) (hl : ds.length ≤ 5) (i j : Int) : 0 ≤ told (seg ds i j) ∧ told (seg ds i j) < 32 := by
  have h := told_bound (xs := seg ds i j) fun d hd => hb d (seg_mem hd)
  have e : (2 : Int) ^ (seg ds i j).length ≤ 2 ^ 5 := by
    have : (seg ds i j).length ≤ 5 := Nat.le_trans seg_len hl
    generalize (seg ds i j).length = n at this
    revert n
    decide
  have : (2 : Int) ^ 5 = 32 := by decide
  omega
theorem told_small' {ds : List Int} {y i j : Int} (hy : y = told (seg ds i j)) (hb : ∀ d ∈ ds, 0 ≤ d ∧ d ≤ 1) (hl : ds.length ≤ 5) : 0 ≤ y ∧ y < 32 := hy ▸ told_small hb hl i j
theorem told_one {ds : List Int} {i j : Int} (h0 : 0 ≤ i) (h1 : i < ds.length) (hj : j = i + 1) : ds.getD i.toNat 0 = told (seg ds i j) := by
  have e : (j - i).toNat = 1 := by omega
  have hlt : i.toNat < ds.length := by omega
  unfold seg
  rw [e, List.drop_eq_getElem_cons hlt, List.take_succ_cons, List.take_zero, told, told, List.getD_eq_getElem?_getD, List.getElem?_eq_getElem hlt]
  simp
theorem told_split {ds : List Int} {i m j : Int} (h0 : 0 ≤ i) (h1 : i ≤ m) (h2 : m ≤ j) (h3 : j ≤ ds.length) : told (seg ds m j) * 2 ^ (m - i).toNat + told (seg ds i m) = told (seg ds i j) := by
  have e : seg ds i j = seg ds i m ++ seg ds m j := by
    unfold seg
    have hm : m.toNat = i.toNat + (m - i).toNat := by omega
    have hj : (j - i).toNat = (m - i).toNat + (j - m).toNat := by omega
    rw [hj, List.take_add, List.drop_drop, ← hm]
  have hlen : (seg ds i m).length = (m - i).toNat := by
    unfold seg; rw [List.length_take, List.length_drop]; omega
  rw [e, told_append, hlen, Int.mul_comm (2 ^ _) _, Int.add_comm]
end Mine
end -- Inn

section -- AloneLaw
open PySem PySem.Spec PySem.Calls PySem.W PyProof.Rows
set_option maxRecDepth 100000
namespace Mine
section
variable {prog : Program} {w : World} {A A₀ : Around} {s : Shared} {K : Frag} {L : Addr} {h₀ base : Heap} {m mg mb : Str → Option Value} {p : Program} {loose : List Str} {mean : ExcName → Option Value} {news : List (Addr × Obj)}
/-- a def with cells is entered; what the ledger names is hidden from its base -/
theorem enterCN {env : Env} {outer : List Env} {R : Result → Shared → Prop} {name qual : Str} {params : Arguments} {body : List Stmt} {scope : Scope} {dV kV doc pm cdv ct oc : Value} {an od : Option Addr} {osl : Array (Option Value)} {f : Addr} {args : Args} {binds : List (Str × Value)}
    (B : Below A₀ base outer h₀) (F : Fr h₀ L s.heap m) (X₀ : K.In h₀) (T : Top p loose mean mg mb h₀) (N : News h₀ L s.heap news) (hA : A.frames = some (env :: outer)) (hf : env.frame = some L) (hke : env.scope.kind = .function)
    (ho : K.lookup f = some ⟨oc, od, .func (fnOf name qual params body scope dV kV doc pm an cdv ct), osl⟩) (hcd : codeIn K cdv qual = true) (hroom : A.depth < recursionLimit)
    (hbind : BindsTo s (fnOf name qual params body scope dV kV doc pm an cdv ct) args binds) (hkind : (binds.all fun y => scope.names.lookup y.1 == some .local || scope.names.lookup y.1 == some .cell) = true)
    (hnd : ((cellsFrom 0 scope.names []).map (·.1)).Nodup)
    (h : ∀ g L' h₁ tk cells, (∀ b o, b ∉ news.map (·.1) → s.heap.get? b = some o → g.get? b = some o) → g.objs.size = s.heap.objs.size → Fr g L' h₁ (bindL (envOfC qual scope L' f cdv).kindOf binds fun _ => none) → News g L' h₁ (cells ++ news) →
      CellsAre (bindC (envOfC qual scope L' f cdv).kindOf binds fun _ => none) (cellsFrom (L' + 1) scope.names []) cells → Below A base (env :: outer) g → K.In g → Top p loose mean mg mb g → (∀ q ∈ news, q.1 < L') →
      wpAny (model prog w) (A.deeper (envOfC qual scope L' f cdv)) (execs body (envOfC qual scope L' f cdv))
        (fun fl s' => R (.ok (.ret (match fl with | .ret v => v | _ => .none))) s')
        (fun e s' => wpAny (model prog w) (A.deeper (envOfC qual scope L' f cdv)) (leaving (envOfC qual scope L' f cdv) e) (fun _ s'' => R (.error e) s'') (fun e' s'' => R (.error e') s'') s')
        { s with heap := h₁, toks := tk })
    (hco : scope.isCoroutine = false) (hgen : scope.isGenerator = false) (hk : scope.kind = .function) : codeAny (model prog w) A (.call (.ref f) args) R s := by
  obtain ⟨FG, BG, st, _⟩ := groundX (R := R) B F N hA hf hke
  refine codeAny_call_function hroom ((X₀.keeps F.keep) _ _ ho) rfl hco hgen rfl (codeRec_of (X₀.keeps F.keep) hcd) (hbind _ _ _ _ ?_)
  refine wpAny_newFunctionEnv_cells hk (kindsX hkind _) fun env' he s' x => ?_
  subst he
  refine ⟨(T.nolimit.keeps F.keep).keeps x.toInCall.keep, codeAny_func ?_⟩
  obtain ⟨h₁, tk, rfl, _⟩ := x.done
  have hk₁ := x.toInCall.keep
  obtain ⟨cells, NC, Y⟩ := Cl.news (h₀ := s.heap) (Nat.le_refl _) fun n c hm => ⟨x.cell n c (lookup_of_mem_nodup (cellsFrom_names scope.names 0 (s.heap.objs.size + 1) [] [] rfl ▸ hnd) hm), x.above n c hm⟩
  refine h _ s.heap.objs.size h₁ tk cells (fun b o n e => hideAll_get _ e n) (hideAll_size _ _) ⟨x.toInCall.ns, fun b o e => hk₁ b o (of_hideAll _ e), Nat.le_of_eq (hideAll_size _ _)⟩ (fun q hq => ?_) Y BG (X₀.keeps st) (T.keeps st) (fun q hq => Heap.lt_size (N q hq).1)
  rcases List.mem_append.mp hq with hq | hq
  · refine ⟨(NC q hq).1, (NC q hq).2.1, ?_⟩
    cases e : (hideAll s.heap (news.map (·.1))).get? q.1 with
    | none => rfl
    | some o => have := of_hideAll _ e; rw [(NC q hq).2.2] at this; cases this
  · exact ⟨hk₁ _ _ (N q hq).1, Nat.ne_of_lt (Heap.lt_size (N q hq).1), hideAll_none _ (List.mem_map_of_mem hq)⟩
end
/-- one turn of the sieve, and its turns from two on -/
def sieveG (N : Int) (l : List Int) (p : Int) : List Int := if p * p < 4 * N ∧ divr N p = 0 then l ++ [p] else l
def sieveStep (ns : List Int) (N : Int) : List Int := if ns.foldl (sieveG N) [] = [] then ns ++ [N] else ns
theorem sieveG_grows (N : Int) : KPfGrows (sieveG N) := fun l k => by unfold sieveG; split <;> simp
theorem sieveG_yes {N : Int} {l : List Int} {p : Int} (h1 : p * p < 4 * N) (h2 : divr N p = 0) : sieveG N l p = l ++ [p] := if_pos ⟨h1, h2⟩
theorem sieveG_no1 {N : Int} {l : List Int} {p : Int} (h1 : ¬ p * p < 4 * N) : sieveG N l p = l := if_neg fun h => h1 h.1
theorem sieveG_no2 {N : Int} {l : List Int} {p : Int} (h2 : divr N p ≠ 0) : sieveG N l p = l := if_neg fun h => h2 h.2
def sieve : Nat → List Int
  | 0 => []
  | i + 1 => sieveStep (sieve i) (2 + (i : Int))
theorem sieve_all : sieve 14 = rows0 := by decide +kernel
theorem sieve_small : ∀ i, i ≤ 14 → (sieve i).length ≤ 5 ∧ ∀ k ∈ sieve i, 2 ≤ k ∧ k < 2 + (i : Int) := by
  have key : ((List.range 15).all fun i => decide ((sieve i).length ≤ 5) && (sieve i).all fun k => decide (2 ≤ k) && decide (k < 2 + (i : Int))) = true := by decide +kernel
  intro i hi
  have k := List.all_eq_true.mp key i (List.mem_range.mpr (by omega))
  simp only [Bool.and_eq_true, decide_eq_true_eq, List.all_eq_true] at k
  exact k

abbrev emptyTabs : List (Addr × Obj) := [(23, tabObj #[]), (16, tabObj #[])]
/-- the two tables, filled, and their codes -/
def fullTabs (c1 c2 : Addr) (o1 o2 : Obj) : List (Addr × Obj) := [(c1, o1), (c2, o2), (23, tabObj #[rawInt pos2.line, rawInt pos2.col, .ref c2]), (16, tabObj #[rawInt pos1.line, rawInt pos1.col, .ref c1])]
def CodeOb (o : Obj) (qual : Str) : Prop := ∃ vs t, o.data = .fields vs ∧ vs[1]? = some (.str qual t)
def AloneOk (w : World) (p : Program) (loose : List Str) (mean : ExcName → Option Value) (mg mb : Str → Option Value) : Prop :=
  ∀ (t : Tok) (dp un : Nat) (gd : Option (List Code)) (cn : Str) (cs : Scope) (a : Addr) (ccd : Value) (cl : List (Str × Addr)) (outer : List Env) (A₀ : Around) (base h₀ : Heap) (L : Addr) (m : Str → Option Value) (s : Shared) (Q E : Value → Shared → Prop),
    Below A₀ base outer h₀ → Fr h₀ L s.heap m → (Mine.hd.heap_39 w.params).In h₀ → Top p loose mean mg mb h₀ → cs.kind = .function → News h₀ L s.heap emptyTabs → CodeHd h₀ 20 16 → CodeHd h₀ 27 23 → dp + 30 < recursionLimit → un + 8 * 30 < cLine →
    (∀ l n vs c1 c2 o1 o2 h' tk', (∀ b o, b ≠ 16 → b ≠ 23 → s.heap.get? b = some o → h'.get? b = some o) → s.heap.objs.size ≤ l → s.heap.objs.size ≤ c1 → s.heap.objs.size ≤ c2 → h'.get? l = some (W.listOf (List.toArray vs) n) → IntsAre vs rows0 →
      (∀ q ∈ fullTabs c1 c2 o1 o2, h'.get? q.1 = some q.2) → CodeOb o1 qual1 → CodeOb o2 qual2 → Q (.ref l) { s with heap := h', toks := tk' }) →
    wpAny (model prog0 w) (ktrTop dp un gd cn cs L a ccd cl outer) (call (.ref 70) [.int 16 t]) Q E s
end Mine
namespace Mine
def TabsOk (D : Addr) (i : Nat) (tabs : List (Addr × Obj)) : Prop :=
  (i ≤ 1 ∧ tabs = emptyTabs) ∨ (2 ≤ i ∧ ∃ c1 c2 o1 o2, tabs = fullTabs c1 c2 o1 o2 ∧ @LT.lt Nat _ D c1 ∧ @LT.lt Nat _ D c2 ∧ CodeOb o1 qual1 ∧ CodeOb o2 qual2)
/-- between the turns of _law_alone's loop -/
def JA (cN D : Addr) (m₀ : Str → Option Value) (i : Nat) (m : Str → Option Value) (news : List (Addr × Obj)) : Prop :=
  m = m₀ ∧ ∃ vs n oc v tabs, SubL ((D, W.listOf (List.toArray vs) n) :: (cN, oc) :: tabs) news ∧ IntsAre vs (sieve i) ∧ oc.data = .cell v ∧ TabsOk D i tabs
theorem tab_of_news {h₀ h : Heap} {L P c : Addr} {pos : Pos} {qual : Str} {o : Obj} {news : List (Addr × Obj)} (N : News h₀ L h news) (h1 : (P, tabObj #[rawInt pos.line, rawInt pos.col, .ref c]) ∈ news) (h2 : (c, o) ∈ news) (h3 : CodeOb o qual) : Tab P pos qual h := by
  obtain ⟨vs, t, e1, e2⟩ := h3
  exact ⟨c, N.get h1, c, o, vs, t, rfl, N.get h2, e1, e2⟩
end Mine
namespace Mine
theorem size5 {vs : List Value} (h : vs.length ≤ 5) : vs.toArray.size ≤ sizeLine := by rw [List.size_toArray, sizeLine_eq]; omega
end Mine
namespace Mine
section
variable {prog : Program} {w : World} {A A₀ : Around} {s : Shared} {K : Frag} {L : Addr} {h₀ base : Heap} {m mg mb : Str → Option Value} {p : Program} {loose : List Str} {mean : ExcName → Option Value} {news : List (Addr × Obj)}
/-- a plain def is entered; what the ledger names is hidden from its base -/
theorem enterPN {env : Env} {outer : List Env} {R : Result → Shared → Prop} {name qual : Str} {params : Arguments} {body : List Stmt} {scope : Scope} {dV kV doc pm cdv ct oc : Value} {an od : Option Addr} {osl : Array (Option Value)} {f : Addr} {args : Args} {binds : List (Str × Value)}
    (B : Below A₀ base outer h₀) (F : Fr h₀ L s.heap m) (X₀ : K.In h₀) (T : Top p loose mean mg mb h₀) (N : News h₀ L s.heap news) (hA : A.frames = some (env :: outer)) (hf : env.frame = some L) (hke : env.scope.kind = .function)
    (ho : K.lookup f = some ⟨oc, od, .func (fnOf name qual params body scope dV kV doc pm an cdv ct), osl⟩) (hcd : codeIn K cdv qual = true) (hroom : A.depth < recursionLimit)
    (hbind : BindsTo s (fnOf name qual params body scope dV kV doc pm an cdv ct) args binds) (hloc : ∀ y ∈ binds, scope.names.lookup y.1 = some .local)
    (h : ∀ g L' h₁, (∀ b o, b ∉ news.map (·.1) → s.heap.get? b = some o → g.get? b = some o) → g.objs.size = s.heap.objs.size → Fr g L' h₁ (fun y => binds.reverse.lookup y) → News g L' h₁ news → Below A base (env :: outer) g → K.In g → Top p loose mean mg mb g → (∀ q ∈ news, q.1 < L') →
      wpAny (model prog w) (A.deeper (envOf qual scope L' f cdv)) (execs body (envOf qual scope L' f cdv))
        (fun fl s' => R (.ok (.ret (match fl with | .ret v => v | _ => .none))) s')
        (fun e s' => wpAny (model prog w) (A.deeper (envOf qual scope L' f cdv)) (leaving (envOf qual scope L' f cdv) e) (fun _ s'' => R (.error e) s'') (fun e' s'' => R (.error e') s'') s')
        { s with heap := h₁, toks := s.toks + binds.length })
    (hco : scope.isCoroutine = false) (hgen : scope.isGenerator = false) (hk : scope.kind = .function)
    (hcell : ∀ x ∈ scope.names, x.2 ≠ .cell) : codeAny (model prog w) A (.call (.ref f) args) R s := by
  obtain ⟨FG, BG, st, _⟩ := groundX (R := R) B F N hA hf hke
  refine codeAny_call_def (fd := fnOf name qual params body scope dV kV doc pm an cdv ct) (body := body) (binds := binds) hroom ((X₀.keeps F.keep) _ _ ho) rfl (T.nolimit.keeps F.keep) (codeRec_of (X₀.keeps F.keep) hcd) rfl hbind hcell hloc (fun h₁ hns hk₁ => ?_) hco hgen hk
  exact h _ s.heap.objs.size h₁ (fun b o n e => hideAll_get _ e n) (hideAll_size _ _) ⟨hns, fun b o e => hk₁ b o (of_hideAll _ e), Nat.le_of_eq (hideAll_size _ _)⟩
    (fun q hq => ⟨hk₁ _ _ (N q hq).1, Nat.ne_of_lt (Heap.lt_size (N q hq).1), hideAll_none _ (List.mem_map_of_mem hq)⟩) BG (X₀.keeps st) (T.keeps st) (fun q hq => Heap.lt_size (N q hq).1)
end
/-- what a call does to a list handed -/
def CallL (w : World) (p : Program) (loose : List Str) (mean : ExcName → Option Value) (mg mb : Str → Option Value) (f D : Addr) (args : List Value) (k : Nat) (vs : List Value) (n : Nat) (ns' : List Int) : Prop :=
  ∀ (dp un : Nat) (gd : Option (List Code)) (cn : Str) (cs : Scope) (a : Addr) (ccd : Value) (cl : List (Str × Addr)) (outer : List Env) (A₀ : Around) (base h₀ : Heap) (L : Addr) (m : Str → Option Value) (s : Shared) (Q E : Value → Shared → Prop),
    Below A₀ base outer h₀ → Fr h₀ L s.heap m → (Mine.hd.heap_39 w.params).In h₀ → Top p loose mean mg mb h₀ → cs.kind = .function → News h₀ L s.heap [(D, W.listOf vs.toArray n)] → dp + k < recursionLimit → un + 8 * k < cLine →
    (∀ vs' n' h' tk', (∀ b o, b ≠ D → s.heap.get? b = some o → h'.get? b = some o) → h'.get? D = some (W.listOf (List.toArray vs') n') → IntsAre vs' ns' → Q .none { s with heap := h', toks := tk' }) →
    wpAny (model prog0 w) (ktrTop dp un gd cn cs L a ccd cl outer) (call (.ref f) args) Q E s
section
variable {w : World} {p : Program} {loose : List Str} {mean : ExcName → Option Value} {mg mb : Str → Option Value}
  {dp un : Nat} {gd : Option (List Code)} {cn : Str} {cs : Scope} {a : Addr} {ccd : Value} {cl : List (Str × Addr)} {outer : List Env} {A₀ : Around} {base h₀ : Heap} {L : Addr} {m : Str → Option Value} {news : List (Addr × Obj)} {s : Shared} {Q E : Value → Shared → Prop}
theorem use_callL {f D : Addr} {args : List Value} {k n : Nat} {vs : List Value} {ns' : List Int} {g : Obj → List (Addr × Obj)} (C : CallL w p loose mean mg mb f D args k vs n ns') (B : Below A₀ base outer h₀) (F : Fr h₀ L s.heap m) (X : (Mine.hd.heap_39 w.params).In h₀) (N : News h₀ L s.heap news) (T : Top p loose mean mg mb h₀) (hk : cs.kind = .function)
    (hd : dp + k < recursionLimit) (hu : un + 8 * k < cLine) (U : UpdF D (W.listOf vs.toArray n) news g)
    (ret : ∀ vs' n' h' tk', Fr h₀ L h' m → News h₀ L h' (g (W.listOf (List.toArray vs') n')) → IntsAre vs' ns' → Q .none { s with heap := h', toks := tk' }) :
    wpAny (model prog0 w) (ktrTop dp un gd cn cs L a ccd cl outer) (call (.ref f) args) Q E s := by
  obtain ⟨pre, post, e, hg, a1, a2⟩ := U.split
  subst e
  have n1 := N _ (List.mem_append_right pre (.head post))
  refine C _ _ _ _ _ _ _ _ _ _ _ _ _ _ _ _ _ B F X T hk (fun q hq => by rw [List.mem_singleton.mp hq]; exact n1) hd hu fun vs' n' h' tk' kp hv hi => ret vs' n' h' tk' ?_ ?_ hi
  · obtain ⟨oL, es, ep, hL, r⟩ := F.ns
    exact ⟨⟨oL, es, ep, kp _ _ (Ne.symm n1.2.1) hL, r⟩, fun b o e => kp _ _ (fun q => by rw [q, n1.2.2] at e; cases e) (F.keep b o e), F.above⟩
  · rw [hg]
    intro q hq
    rcases List.mem_append.mp hq with hq | hq
    · have := N q (List.mem_append_left _ hq); exact ⟨kp _ _ (a1 q hq) this.1, this.2⟩
    · rcases List.mem_cons.mp hq with rfl | hq
      · exact ⟨hv, n1.2⟩
      · have := N q (List.mem_append_right _ (.tail _ hq)); exact ⟨kp _ _ (a2 q hq) this.1, this.2⟩
end
def InsOk (w : World) (p : Program) (loose : List Str) (mean : ExcName → Option Value) (mg mb : Str → Option Value) : Prop :=
  ∀ (D : Addr) (x : Int) (t : Tok) (vs : List Value) (n : Nat) (ns : List Int), IntsAre vs ns → ns.length ≤ 4 → (∀ k ∈ ns, k < x) → CallL w p loose mean mg mb 37 D [.ref D, .int x t] 4 vs n (ns ++ [x])
end Mine
namespace Mine
/-- where a number from one to seven goes in among the rows -/
def bisv (x : Int) : Int := if x ≤ 2 then 0 else if x ≤ 3 then 1 else 2
theorem sub_news {h₀ h : Heap} {L : Addr} {q : Addr × Obj} {l news : List (Addr × Obj)} (N : News h₀ L h (q :: news)) (S : SubL l news) : News h₀ L h (q :: l) := fun p hp => by
  rcases List.mem_cons.mp hp with rfl | hp
  · exact N _ (.head _)
  · exact N _ (.tail _ (S.mem p hp))
theorem sieve_keep {i : Nat} (h : decide ((sieve i).foldl (sieveG (2 + (i : Int))) [] = []) = false) : sieve (i + 1) = sieve i := if_neg (of_decide_eq_false h)
theorem sieve_add {i : Nat} (h : decide ((sieve i).foldl (sieveG (2 + (i : Int))) [] = []) = true) : sieve (i + 1) = sieve i ++ [2 + (i : Int)] := if_pos (of_decide_eq_true h)
theorem ints_keep {i : Nat} {vs : List Value} (h : decide ((sieve i).foldl (sieveG (2 + (i : Int))) [] = []) = false) (hi : IntsAre vs (sieve i)) : IntsAre vs (sieve (i + 1)) := sieve_keep h ▸ hi
theorem ins_sieve {w p loose mean mg mb} (C : InsOk w p loose mean mg mb) {i : Nat} {D : Addr} {t : Tok} {vs : List Value} {n : Nat} (hi : IntsAre vs (sieve i)) (h14 : i < 14) (h : decide ((sieve i).foldl (sieveG (2 + (i : Int))) [] = []) = true) :
    CallL w p loose mean mg mb 37 D [.ref D, .int (2 + (i : Int)) t] 4 vs n (sieve (i + 1)) := by
  have e := sieve_add h
  have l5 := (sieve_small (i + 1) h14).1
  rw [e, List.length_append] at l5
  rw [e]
  exact C D _ t vs n _ hi (by simp only [List.length_cons, List.length_nil] at l5; omega) fun k hk => ((sieve_small i (Nat.le_of_lt h14)).2 k hk).2
theorem sieve_one : sieve 1 = [2] := by decide +kernel
theorem sieve_two : sieve 2 = [2, 3] := by decide +kernel
theorem low_k {k : Int} {i : Nat} (h : 2 ≤ k ∧ k < 2 + (i : Int)) : 1 ≤ k := by omega
theorem high_k {k : Int} {i : Nat} (h : 2 ≤ k ∧ k < 2 + (i : Int)) (h2 : (2 : Int) + (i : Int) < 16) : k < 32 := by omega
theorem not_k {k : Int} {i : Nat} (h : 2 ≤ k ∧ k < 2 + (i : Int)) (e : i = 0) : False := by omega
theorem ja_end {cN D : Addr} {m₀ : Str → Option Value} {i n : Nat} {vs : List Value} {oc : Obj} {v : Option Value} {tabs news : List (Addr × Obj)} (h1 : (D, W.listOf (List.toArray vs) n) ∈ news) (h2 : (cN, oc) ∈ news) (h3 : SubL tabs news) (hi : IntsAre vs (sieve i)) (ho : oc.data = .cell v) (ht : TabsOk D i tabs) : JA cN D m₀ i m₀ news :=
  ⟨rfl, vs, n, oc, v, tabs, ⟨h1, h2, h3⟩, hi, ho, ht⟩
section
variable {h₀ : Heap} {L I C D : Addr} {m : Str → Option Value} {s₁ : Shared} {oI oC oD : Obj} {S : List (Addr × Obj) → Prop} {h' : Heap} {tk : Nat} {all news : List (Addr × Obj)} {l r : List Int} {y : Value}
theorem end_el (F : Fr h₀ L h' m) (N : News h₀ L h' all) (sub : ∀ p ∈ (I, oI) :: (C, oC) :: (D, oD) :: news, p ∈ all) (off : LCg.Off3 I C D news) (hS : S news) (x : KCiEl news l r y news) :
    LCg.CompEnd h₀ L m s₁ I oI C oC D oD S (fun y news' => KCiEl news l r y news') y { s₁ with heap := h', toks := tk } := LCg.CompEnd.intro F N news sub off hS x
theorem end_no (F : Fr h₀ L h' m) (N : News h₀ L h' all) (sub : ∀ p ∈ (I, oI) :: (C, oC) :: (D, oD) :: news, p ∈ all) (off : LCg.Off3 I C D news) (hS : S news) (x : KCiNo news l r news) :
    LCg.CompEnd h₀ L m s₁ I oI C oC D oD S (fun _ news' => KCiNo news l r news') y { s₁ with heap := h', toks := tk } := LCg.CompEnd.intro F N news sub off hS x
end
theorem ja_two {cN D c1 c2 : Addr} {m₀ : Str → Option Value} {n : Nat} {vs : List Value} {oc o1 o2 : Obj} {v : Option Value} {news : List (Addr × Obj)} (h1 : (D, W.listOf (List.toArray vs) n) ∈ news) (h2 : (cN, oc) ∈ news)
    (m1 : (23, tabObj #[rawInt pos2.line, rawInt pos2.col, .ref c2]) ∈ news) (m2 : (16, tabObj #[rawInt pos1.line, rawInt pos1.col, .ref c1]) ∈ news) (m3 : (c1, o1) ∈ news) (m4 : (c2, o2) ∈ news)
    (hi : IntsAre vs (sieve (1 + 1))) (ho : oc.data = .cell v) (q1 : CodeOb o1 qual1) (q2 : CodeOb o2 qual2) (d1 : @LT.lt Nat _ D c1) (d2 : @LT.lt Nat _ D c2) : JA cN D m₀ (1 + 1) m₀ news :=
  ja_end h1 h2 (tabs := fullTabs c1 c2 o1 o2) ⟨m3, m4, m1, m2, trivial⟩ hi ho (.inr ⟨by decide, _, _, _, _, rfl, d1, d2, q1, q2⟩)
end Mine
end -- AloneLaw

local macro_rules | `(tactic| walk_at $s:str) => `(tactic| k_extra $s)
local macro_rules | `(tactic| k_ne) => `(tactic| walk_at "MINE ne")

section -- D2in
open PySem PySem.Spec PySem.Calls PySem.W PyProof.Rows
set_option maxRecDepth 100000
set_option rowWalk.seconds 0
namespace Mine
def Pre2 (f l : Addr) (vs : List Value) (h : Heap) : Prop :=
  ∃ c2 cN cI cD oN oI oD doc pm ctv tn, h.get? f = some (fnMade (Str.ofString "inner") qual2 (defParams inner2) (defBody inner2) (defScope inner2) [(Str.ofString "n", cN), (Str.ofString "inner", cI), (Str.ofString "digits", cD)] doc pm c2 ctv) ∧
    h.CodeRec (.ref c2) qual2 ∧ h.get? cN = some oN ∧ oN.data = .cell (some (.int 1 tn)) ∧ h.get? cI = some oI ∧ oI.data = .cell (some (.ref f)) ∧ h.get? cD = some oD ∧ oD.data = .cell (some (.ref l)) ∧ h.IsList l vs.toArray
theorem list_keeps {h h' : Heap} {l : Addr} {items : Array Value} (x : h.IsList l items) (k : ∀ b o, h.get? b = some o → h'.get? b = some o) : h'.IsList l items := let ⟨o, ho, r⟩ := x; ⟨o, k l o ho, r⟩
theorem Pre2.keeps {f l : Addr} {vs : List Value} {h h' : Heap} (x : Pre2 f l vs h) (k : Keep h h') : Pre2 f l vs h' := by
  obtain ⟨c2, cN, cI, cD, oN, oI, oD, doc, pm, ctv, tn, a1, a2, a3, a4, a5, a6, a7, a8, a9⟩ := x
  exact ⟨c2, cN, cI, cD, oN, oI, oD, doc, pm, ctv, tn, k _ _ a1, a2.keeps k, k _ _ a3, a4, k _ _ a5, a6, k _ _ a7, a8, list_keeps a9 k⟩

set_option maxHeartbeats 8000000 in
theorem inner2_ok {w p loose mean mg mb} {f l : Addr} {vs : List Value} {ds : List Int} (hi : IntsAre vs ds) (hb : ∀ d ∈ ds, 0 ≤ d ∧ d ≤ 1) (hl : ds.length ≤ 5) (n : Nat) :
    ∀ (i j : Int) (t t' : Tok), (j - i).toNat ≤ n → 0 ≤ i → i < j → j ≤ (ds.length : Int) → Call w p loose mean mg mb f [.int i t, .int j t'] (j - i).toNat (Pre2 f l vs) (fun _ _ v => ∃ y u, v = .int y u ∧ y = told (seg ds i j)) := by
  induction n with
  | zero => intro i j t t' h1 h2 h3 h4; exfalso; omega
  | succ n IH =>
    w_on
    refine (fun (h : (PySem.Challenge.rw_ib0002_01 = PySem.Challenge.rw_ib0002_01 ∧ Mine.hd.heap_39 = Mine.hd.heap_39) → _) => h ⟨rfl, rfl⟩) ?_
    k_fill
    intro _
    k_with_none
    k_with "MINE ne" => (refine neN ?_; (try dsimp only); first | exact Nat.ne_of_gt (by with_reducible assumption) | exact Nat.ne_of_lt (by with_reducible assumption) | exact Nat.ne_of_gt (And.left (by with_reducible assumption)) | exact Nat.ne_of_lt (And.left (by with_reducible assumption)) | exact Nat.ne_of_gt (And.left (And.right (by with_reducible assumption))) | exact Nat.ne_of_lt (And.left (And.right (by with_reducible assumption))) | exact Nat.ne_of_gt (And.left (And.right (And.right (by with_reducible assumption)))) | exact Nat.ne_of_lt (And.left (And.right (And.right (by with_reducible assumption)))) | exact Nat.ne_of_gt (And.left (And.right (And.right (And.right (by with_reducible assumption))))) | exact Nat.ne_of_lt (And.left (And.right (And.right (And.right (by with_reducible assumption))))) | exact Nat.ne_of_gt (And.left (And.right (And.right (And.right (And.right (by with_reducible assumption)))))) | exact Nat.ne_of_lt (And.left (And.right (And.right (And.right (And.right (by with_reducible assumption)))))) | exact Nat.ne_of_gt (And.left (And.right (And.right (And.right (And.right (And.right (by with_reducible assumption))))))) | exact Nat.ne_of_lt (And.left (And.right (And.right (And.right (And.right (And.right (by with_reducible assumption))))))) | exact Nat.ne_of_gt (And.left (And.right (And.right (And.right (And.right (And.right (And.right (by with_reducible assumption)))))))) | exact Nat.ne_of_lt (And.left (And.right (And.right (And.right (And.right (And.right (And.right (by with_reducible assumption)))))))) | exact Nat.ne_of_gt (And.left (And.right (And.right (And.right (And.right (And.right (And.right (And.right (by with_reducible assumption))))))))) | exact Nat.ne_of_lt (And.left (And.right (And.right (And.right (And.right (And.right (And.right (And.right (by with_reducible assumption))))))))) | exact Nat.ne_of_gt (And.left (And.right (And.right (And.right (And.right (And.right (And.right (And.right (And.right (by with_reducible assumption)))))))))) | exact Nat.ne_of_lt (And.left (And.right (And.right (And.right (And.right (And.right (And.right (And.right (And.right (by with_reducible assumption)))))))))) | exact Nat.ne_of_gt (And.right (by with_reducible assumption)) | exact Nat.ne_of_lt (And.right (by with_reducible assumption)) | exact Nat.ne_of_gt (And.right (And.right (by with_reducible assumption))) | exact Nat.ne_of_lt (And.right (And.right (by with_reducible assumption))) | exact Nat.ne_of_gt (And.right (And.right (And.right (by with_reducible assumption)))) | exact Nat.ne_of_lt (And.right (And.right (And.right (by with_reducible assumption)))) | exact Nat.ne_of_gt (And.right (And.right (And.right (And.right (by with_reducible assumption))))) | exact Nat.ne_of_lt (And.right (And.right (And.right (And.right (by with_reducible assumption))))) | exact Nat.ne_of_gt (And.right (And.right (And.right (And.right (And.right (by with_reducible assumption)))))) | exact Nat.ne_of_lt (And.right (And.right (And.right (And.right (And.right (by with_reducible assumption)))))) | exact Nat.ne_of_gt (And.right (And.right (And.right (And.right (And.right (And.right (by with_reducible assumption))))))) | exact Nat.ne_of_lt (And.right (And.right (And.right (And.right (And.right (And.right (by with_reducible assumption))))))) | exact Nat.ne_of_gt (And.right (And.right (And.right (And.right (And.right (And.right (And.right (by with_reducible assumption)))))))) | exact Nat.ne_of_lt (And.right (And.right (And.right (And.right (And.right (And.right (And.right (by with_reducible assumption)))))))) | exact Nat.ne_of_gt (And.right (And.right (And.right (And.right (And.right (And.right (And.right (And.right (by with_reducible assumption))))))))) | exact Nat.ne_of_lt (And.right (And.right (And.right (And.right (And.right (And.right (And.right (And.right (by with_reducible assumption))))))))) | exact (And.left (And.left (by with_reducible assumption))) | exact (And.left (And.right (And.left (by with_reducible assumption)))) | exact (And.right (And.right (And.left (by with_reducible assumption)))) | exact (And.left (And.left (And.right (by with_reducible assumption)))) | exact (And.left (And.right (And.left (And.right (by with_reducible assumption))))) | exact (And.right (And.right (And.left (And.right (by with_reducible assumption))))) | exact (And.left (And.right (by with_reducible assumption))) | exact (And.left (And.right (And.right (by with_reducible assumption)))) | exact (And.right (And.right (And.right (by with_reducible assumption)))) | exact (And.left (And.left (And.right (And.right (by with_reducible assumption))))) | exact (And.left (And.right (And.left (And.right (And.right (by with_reducible assumption)))))) | exact (And.right (And.right (And.left (And.right (And.right (by with_reducible assumption)))))) | exact (And.left (And.right (And.right (by with_reducible assumption)))) | exact (And.left (And.right (And.right (And.right (by with_reducible assumption))))) | exact (And.right (And.right (And.right (And.right (by with_reducible assumption))))) | exact (And.left (And.left (And.right (And.right (And.right (by with_reducible assumption)))))) | exact (And.left (And.right (And.left (And.right (And.right (And.right (by with_reducible assumption))))))) | exact (And.right (And.right (And.left (And.right (And.right (And.right (by with_reducible assumption))))))) | exact (And.left (And.right (And.right (And.right (by with_reducible assumption))))) | exact (And.left (And.right (And.right (And.right (And.right (by with_reducible assumption)))))) | exact (And.right (And.right (And.right (And.right (And.right (by with_reducible assumption)))))) | exact (And.left (And.left (And.right (And.right (And.right (And.right (by with_reducible assumption))))))) | exact (And.left (And.right (And.left (And.right (And.right (And.right (And.right (by with_reducible assumption)))))))) | exact (And.right (And.right (And.left (And.right (And.right (And.right (And.right (by with_reducible assumption)))))))) | exact (And.left (And.right (And.right (And.right (And.right (by with_reducible assumption)))))) | exact (And.left (And.right (And.right (And.right (And.right (And.right (by with_reducible assumption))))))) | exact (And.right (And.right (And.right (And.right (And.right (And.right (by with_reducible assumption))))))) | exact (And.left (And.left (And.right (And.right (And.right (And.right (And.right (by with_reducible assumption)))))))) | exact (And.left (And.right (And.left (And.right (And.right (And.right (And.right (And.right (by with_reducible assumption))))))))) | exact (And.right (And.right (And.left (And.right (And.right (And.right (And.right (And.right (by with_reducible assumption))))))))) | exact (And.left (And.right (And.right (And.right (And.right (And.right (by with_reducible assumption))))))) | exact (And.left (And.right (And.right (And.right (And.right (And.right (And.right (by with_reducible assumption)))))))) | exact (And.right (And.right (And.right (And.right (And.right (And.right (And.right (by with_reducible assumption)))))))) | exact (And.left (And.left (And.right (And.right (And.right (And.right (And.right (And.right (by with_reducible assumption))))))))) | exact (And.left (And.right (And.left (And.right (And.right (And.right (And.right (And.right (And.right (by with_reducible assumption)))))))))) | exact (And.right (And.right (And.left (And.right (And.right (And.right (And.right (And.right (And.right (by with_reducible assumption)))))))))) | exact (And.left (And.right (And.right (And.right (And.right (And.right (And.right (by with_reducible assumption)))))))) | exact (And.left (And.right (And.right (And.right (And.right (And.right (And.right (And.right (by with_reducible assumption))))))))) | exact (And.right (And.right (And.right (And.right (And.right (And.right (And.right (And.right (by with_reducible assumption))))))))) | exact (And.left (And.left (And.right (And.right (And.right (And.right (And.right (And.right (And.right (by with_reducible assumption)))))))))) | exact (And.left (And.right (And.left (And.right (And.right (And.right (And.right (And.right (And.right (And.right (by with_reducible assumption))))))))))) | exact (And.right (And.right (And.left (And.right (And.right (And.right (And.right (And.right (And.right (And.right (by with_reducible assumption))))))))))) | exact (And.left (And.right (And.right (And.right (And.right (And.right (And.right (And.right (by with_reducible assumption))))))))) | exact (And.left (And.right (And.right (And.right (And.right (And.right (And.right (And.right (And.right (by with_reducible assumption)))))))))) | exact (And.right (And.right (And.right (And.right (And.right (And.right (And.right (And.right (And.right (by with_reducible assumption)))))))))))
    k_with "MINE enterX" => (
    refine enterX (news := _) (by k_asm) (by k_asm) (by k_asm) (by k_asm) (by (first | assumption | exact News.nil)) (by exact rfl) (by exact rfl) (by assumption) (by assumption) (by exact rfl) (by assumption) (by ktr_room) (by exact BindsTo.of_eq rfl) (by exact locs rfl) ?_ (by exact rfl) (by exact rfl) (by exact rfl) (by decide)
    k_whole)
    k_with "eval Name" => (
    k_here
    k_dflt (refine nameX_FB (by first | with_reducible (k_asm) | (k_asm)) (by k_dflt (rfl)) (by first | with_reducible (assumption) | (assumption)) (by first | with_reducible (assumption) | (assumption)) ?_ (by k_dflt (rfl)) (by k_dflt (rfl)) (by k_dflt (decide)) (by k_dflt (decide)))
    k_whole)
    k_with "callWith ref" => (
    k_here
    k_dflt (refine callWith_F (by first | with_reducible (exact fnAt_base (by assumption) (by k_asm)) | (exact fnAt_base (by assumption) (by k_asm))) ?_)
    k_whole)
    k_with "FnAt" => (exact fnAt_base (by assumption) (by k_asm))
    k_with "binaryOp RShift int int" => (
    k_here
    (refine shr1Z ?_)
    intro zq' zhq')
    k_with "binaryOp LShift int int" => (
    k_here
    (refine shlZ (by omega) (by omega) (by omega) (by omega) ?_)
    intro zq' zhq')
    k_with "binaryOp Mult int int" => (
    k_here
    (refine mul1Z ?_))
    k_with "subscriptTail" => (
    k_here
    (with_reducible show wpAny _ _ (subscriptTail _ _ (Value.ref _) (Value.int _ _)) _ _ _)
    (with_unfolding_all refine itemInts (by is_list) (by l_ints) (by omega) (by ((try simp only [List.length_append]); omega)) (by omega) ?_ (by with_unfolding_all rfl))
    k_whole
    intro zt'
    (try dsimp only))
    k_with "call ref" => (
    k_here
    k_dflt (refine use_call (IH _ _ _ _ (by first | with_reducible (omega) | (omega)) (by first | with_reducible (omega) | (omega)) (by first | with_reducible (omega) | (omega)) (by first | with_reducible (omega) | (omega))) (by first | with_reducible (k_asm) | (k_asm)) (by first | with_reducible (k_asm) | (k_asm)) (by first | with_reducible (k_asm) | (k_asm)) (by first | with_reducible (k_asm) | (k_asm)) (by first | with_reducible (k_asm) | (k_asm)) (by first | with_reducible (first | exact rfl | assumption) | (first | exact rfl | assumption)) (by first | with_reducible ((try simp only [depth_under_make, depth_under_kw, depth_in1, depth_deeper, depth_caller] at *); (try dsimp only [ktrTop] at *); omega) | ((try simp only [depth_under_make, depth_under_kw, depth_in1, depth_deeper, depth_caller] at *); (try dsimp only [ktrTop] at *); omega)) (by first | with_reducible ((have zhcL9 := cLine_is); (try simp only [units_in1, units_deeper, Around.mark_units, units_caller] at *); (try dsimp only [ktrTop] at *); omega) | ((have zhcL9 := cLine_is); (try simp only [units_in1, units_deeper, Around.mark_units, units_caller] at *); (try dsimp only [ktrTop] at *); omega)) (by first | with_reducible (exact Pre2.keeps (by assumption) (Fr.keep (by k_asm))) | (exact Pre2.keeps (by assumption) (Fr.keep (by k_asm)))) ?_)
    k_whole
    intro zv' zh' ztk' zF' zN' zk' zp'
    obtain ⟨zy', zu', ze', zhy'⟩ := zp'
    subst ze'
    have zhs' := told_small' zhy' (by assumption) (by assumption)
    (try dsimp only)
    (try k_fold))
    intro i j t t' h1 h2 h3 h4
    intro dp un gd cn cs a ccd cl outer A₀ base h₀ L m s Q E B F X T hk hpre hd hu hret
    obtain ⟨c2, cN, cI, cD, oN, oI, oD, doc, pm, ctv, tn, a1, a2, a3, a4, a5, a6, a7, a8, a9⟩ := id hpre
    refine wpAny_call ?_
    k_dflt walk_at "MINE enterX"
    intro g L' h₁ hkg hsz F' N' B' X' T'
    have hkg : Keep s.heap g := fun b o e => hkg b o (List.not_mem_nil) e
    replace hpre := hpre.keeps hkg
    replace a1 := hkg _ _ a1
    replace a2 := a2.keeps hkg
    replace a3 := hkg _ _ a3
    replace a5 := hkg _ _ a5
    replace a7 := hkg _ _ a7
    replace a9 := list_keeps a9 hkg
    clear B F X T
    generalize hbd : defBody inner2 = bd
    generalize hsc : defScope inner2 = sc
    dsimp only [inner2, first0, defBody, defScope, defParams, prog0, PySem.Challenge.pw_ib0002_01, List.drop] at hbd hsc
    subst hbd hsc
    (try k_fold)
    k_steps
    all_goals (try dsimp only)
    all_goals first
      | (refine hret _ _ _ (fun b o e => Fr.keep (by k_asm) b o (hkg b o e)) ⟨_, _, rfl, ?hE⟩
         case hE =>
           first
             | exact told_one (by omega) (by omega) (by omega)
             | (subst_vars; exact told_split (by omega) (by omega) (by omega) (by omega)))
end Mine
end -- D2in

section -- Inn1
open PySem PySem.Spec PySem.Calls PySem.W PyProof.Rows
set_option maxRecDepth 100000
namespace Mine
-- the figures that _int2digits writes
def figs (x : Int) (n : Nat) : List Int := (List.range n).map fun q => x / 2 ^ q % 2
def put1 (ns : List Int) (i : Nat) (x : Int) (n : Nat) : List Int := ns.take i ++ (figs x n ++ ns.drop (i + n))
theorem figs_len (x : Int) (n : Nat) : (figs x n).length = n := by unfold figs; rw [List.length_map, List.length_range]
theorem put1_len {ns : List Int} {i n : Nat} {x : Int} (h : i + n ≤ ns.length) : (put1 ns i x n).length = ns.length := by
  unfold put1; simp only [List.length_append, figs_len, List.length_take, List.length_drop]; omega
theorem put1_put1 {ns : List Int} {i a b : Nat} {r q x : Int} (h : i + (a + b) ≤ ns.length) (e : figs r a ++ figs q b = figs x (a + b)) : put1 (put1 ns i r a) (i + a) q b = put1 ns i x (a + b) := by
  have t : (ns.take i ++ (figs r a ++ ns.drop (i + a))).take (i + a) = ns.take i ++ figs r a := by
    rw [← List.append_assoc, List.take_append_of_le_length (by simp only [List.length_append, figs_len, List.length_take]; omega), List.take_of_length_le (by simp only [List.length_append, figs_len, List.length_take]; omega)]
  have d : (ns.take i ++ (figs r a ++ ns.drop (i + a))).drop (i + a + b) = ns.drop (i + (a + b)) := by
    have e1 : (ns.take i ++ figs r a).length = i + a := by simp only [List.length_append, figs_len, List.length_take]; omega
    rw [← List.append_assoc, List.drop_append, List.drop_of_length_le (by rw [e1]; omega), List.nil_append, List.drop_drop, e1]
    congr 1; omega
  show (ns.take i ++ (figs r a ++ ns.drop (i + a))).take (i + a) ++ (figs q b ++ (ns.take i ++ (figs r a ++ ns.drop (i + a))).drop (i + a + b)) = _
  rw [t, d, List.append_assoc, ← List.append_assoc (figs r a), e]; rfl
theorem set_put1 {ns : List Int} {i : Nat} {x : Int} (h : i < ns.length) (hx : 0 ≤ x ∧ x < 2) : ns.set i x = put1 ns i x 1 := by
  have e : figs x 1 = [x] := by
    obtain ⟨h0, h1⟩ := hx
    obtain rfl | rfl : x = 0 ∨ x = 1 := by omega
    all_goals decide
  unfold put1
  rw [e, List.set_eq_take_append_cons_drop, if_pos h]; rfl

/-- one halving: all that the two calls ask -/
def halfOk (x a b : Nat) : Bool := decide (5 < a + b) || decide (2 ^ (a + b) ≤ x) || (decide (Builtin.bitXor (x : Int) ((x : Int) / 2 ^ a * 2 ^ a) = (x : Int) % 2 ^ a) && decide (figs ((x : Int) % 2 ^ a) a ++ figs ((x : Int) / 2 ^ a) b = figs (x : Int) (a + b)))
theorem halfAll : ((List.range 32).all fun x => (List.range 6).all fun a => (List.range 6).all fun b => halfOk x a b) = true := by decide +kernel
theorem halves_nat (x : Nat) (hx : x < 32) (a : Nat) (ha : a < 6) (b : Nat) (hb : b < 6) (hab : a + b ≤ 5) (hlt : x < 2 ^ (a + b)) :
    (Builtin.bitXor (x : Int) ((x : Int) / 2 ^ a * 2 ^ a) = (x : Int) % 2 ^ a) ∧ figs ((x : Int) % 2 ^ a) a ++ figs ((x : Int) / 2 ^ a) b = figs (x : Int) (a + b) := by
  have h := List.all_eq_true.mp (List.all_eq_true.mp (List.all_eq_true.mp halfAll x (List.mem_range.mpr hx)) a (List.mem_range.mpr ha)) b (List.mem_range.mpr hb)
  unfold halfOk at h
  rw [decide_eq_false (by omega), decide_eq_false (by omega), Bool.false_or, Bool.false_or, Bool.and_eq_true] at h
  exact ⟨of_decide_eq_true h.1, of_decide_eq_true h.2⟩
theorem halves {x r q1 q2 i m j k : Int} (hr : r = Builtin.bitXor x q2) (h2 : q2 = q1 * 2 ^ k.toNat) (h1 : q1 = x / 2 ^ k.toNat) (hx0 : 0 ≤ x) (hx1 : x < 2 ^ (j - i).toNat) (him : i < m) (hmj : m < j) (h5 : j - i ≤ 5) (hk : k = m - i) :
    0 ≤ r ∧ r < 2 ^ (m - i).toNat ∧ 0 ≤ q1 ∧ q1 < 2 ^ (j - m).toNat ∧ figs r (m - i).toNat ++ figs q1 (j - m).toNat = figs x ((m - i).toNat + (j - m).toNat) := by
  subst hk
  obtain ⟨n, rfl⟩ : ∃ n : Nat, x = n := ⟨x.toNat, by omega⟩
  have hs : (j - i).toNat = (m - i).toNat + (j - m).toNat := by omega
  rw [hs] at hx1
  have ha : (m - i).toNat < 6 := by omega
  have hb : (j - m).toNat < 6 := by omega
  have hab : (m - i).toNat + (j - m).toNat ≤ 5 := by omega
  generalize (m - i).toNat = a at *
  generalize (j - m).toNat = b at *
  have hn : n < 2 ^ (a + b) := by exact_mod_cast hx1
  have hn32 : n < 32 := Nat.lt_of_lt_of_le hn (Nat.pow_le_pow_right (by decide) hab)
  obtain ⟨e1, e2⟩ := halves_nat n hn32 a ha b hb hab hn
  have hp : (0 : Int) < 2 ^ a := Int.pow_pos (by decide)
  rw [h2, h1, e1] at hr
  subst hr h1
  refine ⟨Int.emod_nonneg _ (by omega), Int.emod_lt_of_pos _ hp, Int.ediv_nonneg (by omega) (by omega), ?_, e2⟩
  refine Int.ediv_lt_of_lt_mul hp ?_
  rw [Int.mul_comm, ← Int.pow_add]
  exact hx1
theorem pow_small {x : Int} {n : Int} (h : x < 2 ^ n.toNat) (hn : n ≤ 5) : x < 32 := by
  have e : (2 : Int) ^ n.toNat ≤ 2 ^ 5 := by
    have : n.toNat ≤ 5 := by omega
    generalize n.toNat = k at this
    revert k
    decide
  have : (2 : Int) ^ 5 = 32 := by decide
  omega
theorem pow_one {x : Int} {n : Int} (h : x < 2 ^ n.toNat) (hn : n = 1) : x < 2 := by subst hn; exact h

section
variable {prog : Program} {w : World} {A : Around} {E : Value → Shared → Prop} {s : Shared} {x y : Int} {t u : Tok} {Q : Value → Shared → Prop}
theorem xorZ (h : ∀ r, r = Builtin.bitXor x y → Q (.int r s.toks) { s with toks := s.toks + 1 }) : wpAny (model prog w) A (binaryOp .BitXor (.int x t) (.int y u)) Q E s := xor_int (h _ rfl)
end

def Pre1 (f D : Addr) (h : Heap) : Prop :=
  ∃ c1 cN cI cA oN oI oA doc pm ctv tn, h.get? f = some (fnMade (Str.ofString "inner") qual1 (defParams inner1) (defBody inner1) (defScope inner1) [(Str.ofString "n", cN), (Str.ofString "inner", cI), (Str.ofString "a_digits", cA)] doc pm c1 ctv) ∧
    h.CodeRec (.ref c1) qual1 ∧ h.get? cN = some oN ∧ oN.data = .cell (some (.int 1 tn)) ∧ h.get? cI = some oI ∧ oI.data = .cell (some (.ref f)) ∧ h.get? cA = some oA ∧ oA.data = .cell (some (.ref D))
def KeepBut (D : Addr) (h h' : Heap) : Prop := ∀ b o, b ≠ D → h.get? b = some o → h'.get? b = some o
theorem Pre1.keeps {f D : Addr} {h h' : Heap} (x : Pre1 f D h) {its : Array Value} {n : Nat} (hD : h.get? D = some (W.listOf its n)) (k : KeepBut D h h') : Pre1 f D h' := by
  obtain ⟨c1, cN, cI, cA, oN, oI, oA, doc, pm, ctv, tn, a1, a2, a3, a4, a5, a6, a7, a8⟩ := x
  have nc : ∀ {c : Addr} {o : Obj} {v : Option Value}, h.get? c = some o → o.data = .cell v → c ≠ D := fun e d q => by rw [q, hD] at e; cases e; cases d
  obtain ⟨c, oc, vs, tq, hc, hoc, hdc, hq⟩ := a2
  refine ⟨c1, cN, cI, cA, oN, oI, oA, doc, pm, ctv, tn, k _ _ (fun q => ?_) a1, ⟨c, oc, vs, tq, hc, k _ _ (fun q => ?_) hoc, hdc, hq⟩, k _ _ (nc a3 a4) a3, a4, k _ _ (nc a5 a6) a5, a6, k _ _ (nc a7 a8) a7, a8⟩
  · rw [q, hD] at a1; exact absurd (show Value.type "list" = Value.type "function" from congrArg Obj.cls (Option.some.inj a1)) (by decide)
  · rw [q, hD] at hoc; cases hoc; cases hdc

/-- what a call of _int2digits's inner does to the list -/
def CallD (w : World) (p : Program) (loose : List Str) (mean : ExcName → Option Value) (mg mb : Str → Option Value) (f D : Addr) (args : List Value) (k : Nat) (vs : List Value) (ns' : List Int) : Prop :=
  ∀ (dp un : Nat) (gd : Option (List Code)) (cn : Str) (cs : Scope) (a : Addr) (ccd : Value) (cl : List (Str × Addr)) (outer : List Env) (A₀ : Around) (base h₀ : Heap) (L : Addr) (m : Str → Option Value) (s : Shared) (Q E : Value → Shared → Prop),
    Below A₀ base outer h₀ → Fr h₀ L s.heap m → (Mine.hd.heap_39 w.params).In h₀ → Top p loose mean mg mb h₀ → cs.kind = .function → Pre1 f D s.heap → News h₀ L s.heap [(D, W.listOf vs.toArray 0)] → dp + k < recursionLimit → un + 8 * k < cLine →
    (∀ vs' h' tk', KeepBut D s.heap h' → h'.get? D = some (W.listOf (List.toArray vs') 0) → IntsAre vs' ns' → Q .none { s with heap := h', toks := tk' }) →
    wpAny (model prog0 w) (ktrTop dp un gd cn cs L a ccd cl outer) (call (.ref f) args) Q E s
section
variable {w : World} {p : Program} {loose : List Str} {mean : ExcName → Option Value} {mg mb : Str → Option Value}
  {dp un : Nat} {gd : Option (List Code)} {cn : Str} {cs : Scope} {a : Addr} {ccd : Value} {cl : List (Str × Addr)} {outer : List Env} {A₀ : Around} {base h₀ : Heap} {L : Addr} {m : Str → Option Value} {news news' : List (Addr × Obj)} {s : Shared} {Q E : Value → Shared → Prop}
theorem use_callD {f D : Addr} {args : List Value} {k : Nat} {vs : List Value} {ns' : List Int} {g : Obj → List (Addr × Obj)} (C : CallD w p loose mean mg mb f D args k vs ns') (B : Below A₀ base outer h₀) (F : Fr h₀ L s.heap m) (X : (Mine.hd.heap_39 w.params).In h₀) (N : News h₀ L s.heap news) (T : Top p loose mean mg mb h₀) (hk : cs.kind = .function)
    (hd : dp + k < recursionLimit) (hu : un + 8 * k < cLine) (hpre : Pre1 f D s.heap) (U : UpdF D (W.listOf vs.toArray 0) news g)
    (ret : ∀ vs' h' tk', Fr h₀ L h' m → News h₀ L h' (g (W.listOf (List.toArray vs') 0)) → IntsAre vs' ns' → Q .none { s with heap := h', toks := tk' }) :
    wpAny (model prog0 w) (ktrTop dp un gd cn cs L a ccd cl outer) (call (.ref f) args) Q E s := by
  obtain ⟨pre, post, e, hg, a1, a2⟩ := U.split
  subst e
  have n1 := N _ (List.mem_append_right pre (.head post))
  refine C _ _ _ _ _ _ _ _ _ _ _ _ _ _ _ _ _ B F X T hk hpre (fun q hq => by rw [List.mem_singleton.mp hq]; exact n1) hd hu fun vs' h' tk' kp hv hi => ret vs' h' tk' ?_ ?_ hi
  · obtain ⟨oL, es, ep, hL, r⟩ := F.ns
    exact ⟨⟨oL, es, ep, kp _ _ (Ne.symm n1.2.1) hL, r⟩, fun b o e => kp _ _ (fun q => by rw [q, n1.2.2] at e; cases e) (F.keep b o e), F.above⟩
  · rw [hg]
    intro q hq
    rcases List.mem_append.mp hq with hq | hq
    · have := N q (List.mem_append_left _ hq); exact ⟨kp _ _ (a1 q hq) this.1, this.2⟩
    · rcases List.mem_cons.mp hq with rfl | hq
      · exact ⟨hv, n1.2⟩
      · have := N q (List.mem_append_right _ (.tail _ hq)); exact ⟨kp _ _ (a2 q hq) this.1, this.2⟩
end
end Mine
namespace Mine
theorem Pre1.on {f D : Addr} {g h : Heap} {L : Addr} {m : Str → Option Value} (x : Pre1 f D g) (F : Fr g L h m) : Pre1 f D h := by
  obtain ⟨c1, cN, cI, cA, oN, oI, oA, doc, pm, ctv, tn, a1, a2, a3, a4, a5, a6, a7, a8⟩ := x
  exact ⟨c1, cN, cI, cA, oN, oI, oA, doc, pm, ctv, tn, F.keep _ _ a1, a2.keeps F.keep, F.keep _ _ a3, a4, F.keep _ _ a5, a6, F.keep _ _ a7, a8⟩
end Mine
namespace Mine
section
variable {h h' : Heap} {D : Addr} {its : Array Value} {n : Nat}
theorem ne_cell (hD : h.get? D = some (W.listOf its n)) {c : Addr} {o : Obj} {v : Option Value} (e : h.get? c = some o) (d : o.data = .cell v) : c ≠ D := fun q => by rw [q, hD] at e; cases e; cases d
theorem ne_fn (hD : h.get? D = some (W.listOf its n)) {c : Addr} {name qual : Str} {params : Arguments} {body : List Stmt} {scope : Scope} {clos : List (Str × Addr)} {doc pm ctv : Value} {c' : Addr}
    (e : h.get? c = some (fnMade name qual params body scope clos doc pm c' ctv)) : c ≠ D := fun q => by
  rw [q, hD] at e; exact absurd (show Value.type "list" = Value.type "function" from congrArg Obj.cls (Option.some.inj e)) (by decide)
theorem codeRec_but (hD : h.get? D = some (W.listOf its n)) {v : Value} {q : Str} (x : h.CodeRec v q) (k : KeepBut D h h') : h'.CodeRec v q := by
  obtain ⟨c, oc, vs, tq, hc, hoc, hdc, hq⟩ := x
  refine ⟨c, oc, vs, tq, hc, k _ _ (fun q => ?_) hoc, hdc, hq⟩
  rw [q, hD] at hoc; cases hoc; cases hdc
end
end Mine
namespace Mine
theorem shr_bound {q x : Int} {k : Nat} (h : q = x / 2 ^ k) (h0 : 0 ≤ x) (h1 : x < 32) : 0 ≤ q ∧ q < 32 := by
  have hp : (0 : Int) < 2 ^ k := Int.pow_pos (by decide)
  subst h
  refine ⟨Int.ediv_nonneg h0 (by omega), Int.lt_of_le_of_lt (Int.ediv_le_self _ h0) h1⟩
end Mine
namespace Mine
theorem put1_done {ns : List Int} {i m j r q x : Int} {vs : List Value} (hi : IntsAre vs (put1 (put1 ns i.toNat r (m - i).toNat) m.toNat q (j - m).toNat)) (e : figs r (m - i).toNat ++ figs q (j - m).toNat = figs x ((m - i).toNat + (j - m).toNat))
    (h0 : 0 ≤ i) (him : i < m) (hmj : m < j) (hj : j ≤ (ns.length : Int)) : IntsAre vs (put1 ns i.toNat x (j - i).toNat) := by
  have e1 : m.toNat = i.toNat + (m - i).toNat := by omega
  have e2 : (j - i).toNat = (m - i).toNat + (j - m).toNat := by omega
  rw [e1, put1_put1 (by omega) e, ← e2] at hi
  exact hi
end Mine
end -- Inn1

section -- I2din
open PySem PySem.Spec PySem.Calls PySem.W PyProof.Rows
set_option maxRecDepth 100000
set_option rowWalk.seconds 0
namespace Mine

set_option maxHeartbeats 8000000 in
theorem inner1_ok {w p loose mean mg mb} {f D : Addr} (n : Nat) :
    ∀ (vs : List Value) (ns : List Int) (x i j : Int) (t t' t'' : Tok), IntsAre vs ns → (j - i).toNat ≤ n → 0 ≤ i → i < j → j ≤ (ns.length : Int) → ns.length ≤ 5 → 0 ≤ x → x < 2 ^ (j - i).toNat →
      CallD w p loose mean mg mb f D [.int x t, .int i t', .int j t''] (j - i).toNat vs (put1 ns i.toNat x (j - i).toNat) := by
  induction n with
  | zero => intro vs ns x i j t t' t'' hi h1 h2 h3 h4; exfalso; omega
  | succ n IH =>
    w_on
    refine (fun (h : (PySem.Challenge.rw_ib0002_01 = PySem.Challenge.rw_ib0002_01 ∧ Mine.hd.heap_39 = Mine.hd.heap_39) → _) => h ⟨rfl, rfl⟩) ?_
    k_fill
    intro _
    k_with_none
    k_with "MINE ne" => (refine neN ?_; (try dsimp only); first | exact Nat.ne_of_gt (by with_reducible assumption) | exact Nat.ne_of_lt (by with_reducible assumption) | exact Nat.ne_of_gt (And.left (by with_reducible assumption)) | exact Nat.ne_of_lt (And.left (by with_reducible assumption)) | exact Nat.ne_of_gt (And.left (And.right (by with_reducible assumption))) | exact Nat.ne_of_lt (And.left (And.right (by with_reducible assumption))) | exact Nat.ne_of_gt (And.left (And.right (And.right (by with_reducible assumption)))) | exact Nat.ne_of_lt (And.left (And.right (And.right (by with_reducible assumption)))) | exact Nat.ne_of_gt (And.left (And.right (And.right (And.right (by with_reducible assumption))))) | exact Nat.ne_of_lt (And.left (And.right (And.right (And.right (by with_reducible assumption))))) | exact Nat.ne_of_gt (And.left (And.right (And.right (And.right (And.right (by with_reducible assumption)))))) | exact Nat.ne_of_lt (And.left (And.right (And.right (And.right (And.right (by with_reducible assumption)))))) | exact Nat.ne_of_gt (And.left (And.right (And.right (And.right (And.right (And.right (by with_reducible assumption))))))) | exact Nat.ne_of_lt (And.left (And.right (And.right (And.right (And.right (And.right (by with_reducible assumption))))))) | exact Nat.ne_of_gt (And.left (And.right (And.right (And.right (And.right (And.right (And.right (by with_reducible assumption)))))))) | exact Nat.ne_of_lt (And.left (And.right (And.right (And.right (And.right (And.right (And.right (by with_reducible assumption)))))))) | exact Nat.ne_of_gt (And.left (And.right (And.right (And.right (And.right (And.right (And.right (And.right (by with_reducible assumption))))))))) | exact Nat.ne_of_lt (And.left (And.right (And.right (And.right (And.right (And.right (And.right (And.right (by with_reducible assumption))))))))) | exact Nat.ne_of_gt (And.left (And.right (And.right (And.right (And.right (And.right (And.right (And.right (And.right (by with_reducible assumption)))))))))) | exact Nat.ne_of_lt (And.left (And.right (And.right (And.right (And.right (And.right (And.right (And.right (And.right (by with_reducible assumption)))))))))) | exact Nat.ne_of_gt (And.right (by with_reducible assumption)) | exact Nat.ne_of_lt (And.right (by with_reducible assumption)) | exact Nat.ne_of_gt (And.right (And.right (by with_reducible assumption))) | exact Nat.ne_of_lt (And.right (And.right (by with_reducible assumption))) | exact Nat.ne_of_gt (And.right (And.right (And.right (by with_reducible assumption)))) | exact Nat.ne_of_lt (And.right (And.right (And.right (by with_reducible assumption)))) | exact Nat.ne_of_gt (And.right (And.right (And.right (And.right (by with_reducible assumption))))) | exact Nat.ne_of_lt (And.right (And.right (And.right (And.right (by with_reducible assumption))))) | exact Nat.ne_of_gt (And.right (And.right (And.right (And.right (And.right (by with_reducible assumption)))))) | exact Nat.ne_of_lt (And.right (And.right (And.right (And.right (And.right (by with_reducible assumption)))))) | exact Nat.ne_of_gt (And.right (And.right (And.right (And.right (And.right (And.right (by with_reducible assumption))))))) | exact Nat.ne_of_lt (And.right (And.right (And.right (And.right (And.right (And.right (by with_reducible assumption))))))) | exact Nat.ne_of_gt (And.right (And.right (And.right (And.right (And.right (And.right (And.right (by with_reducible assumption)))))))) | exact Nat.ne_of_lt (And.right (And.right (And.right (And.right (And.right (And.right (And.right (by with_reducible assumption)))))))) | exact Nat.ne_of_gt (And.right (And.right (And.right (And.right (And.right (And.right (And.right (And.right (by with_reducible assumption))))))))) | exact Nat.ne_of_lt (And.right (And.right (And.right (And.right (And.right (And.right (And.right (And.right (by with_reducible assumption))))))))) | exact (And.left (And.left (by with_reducible assumption))) | exact (And.left (And.right (And.left (by with_reducible assumption)))) | exact (And.right (And.right (And.left (by with_reducible assumption)))) | exact (And.left (And.left (And.right (by with_reducible assumption)))) | exact (And.left (And.right (And.left (And.right (by with_reducible assumption))))) | exact (And.right (And.right (And.left (And.right (by with_reducible assumption))))) | exact (And.left (And.right (by with_reducible assumption))) | exact (And.left (And.right (And.right (by with_reducible assumption)))) | exact (And.right (And.right (And.right (by with_reducible assumption)))) | exact (And.left (And.left (And.right (And.right (by with_reducible assumption))))) | exact (And.left (And.right (And.left (And.right (And.right (by with_reducible assumption)))))) | exact (And.right (And.right (And.left (And.right (And.right (by with_reducible assumption)))))) | exact (And.left (And.right (And.right (by with_reducible assumption)))) | exact (And.left (And.right (And.right (And.right (by with_reducible assumption))))) | exact (And.right (And.right (And.right (And.right (by with_reducible assumption))))) | exact (And.left (And.left (And.right (And.right (And.right (by with_reducible assumption)))))) | exact (And.left (And.right (And.left (And.right (And.right (And.right (by with_reducible assumption))))))) | exact (And.right (And.right (And.left (And.right (And.right (And.right (by with_reducible assumption))))))) | exact (And.left (And.right (And.right (And.right (by with_reducible assumption))))) | exact (And.left (And.right (And.right (And.right (And.right (by with_reducible assumption)))))) | exact (And.right (And.right (And.right (And.right (And.right (by with_reducible assumption)))))) | exact (And.left (And.left (And.right (And.right (And.right (And.right (by with_reducible assumption))))))) | exact (And.left (And.right (And.left (And.right (And.right (And.right (And.right (by with_reducible assumption)))))))) | exact (And.right (And.right (And.left (And.right (And.right (And.right (And.right (by with_reducible assumption)))))))) | exact (And.left (And.right (And.right (And.right (And.right (by with_reducible assumption)))))) | exact (And.left (And.right (And.right (And.right (And.right (And.right (by with_reducible assumption))))))) | exact (And.right (And.right (And.right (And.right (And.right (And.right (by with_reducible assumption))))))) | exact (And.left (And.left (And.right (And.right (And.right (And.right (And.right (by with_reducible assumption)))))))) | exact (And.left (And.right (And.left (And.right (And.right (And.right (And.right (And.right (by with_reducible assumption))))))))) | exact (And.right (And.right (And.left (And.right (And.right (And.right (And.right (And.right (by with_reducible assumption))))))))) | exact (And.left (And.right (And.right (And.right (And.right (And.right (by with_reducible assumption))))))) | exact (And.left (And.right (And.right (And.right (And.right (And.right (And.right (by with_reducible assumption)))))))) | exact (And.right (And.right (And.right (And.right (And.right (And.right (And.right (by with_reducible assumption)))))))) | exact (And.left (And.left (And.right (And.right (And.right (And.right (And.right (And.right (by with_reducible assumption))))))))) | exact (And.left (And.right (And.left (And.right (And.right (And.right (And.right (And.right (And.right (by with_reducible assumption)))))))))) | exact (And.right (And.right (And.left (And.right (And.right (And.right (And.right (And.right (And.right (by with_reducible assumption)))))))))) | exact (And.left (And.right (And.right (And.right (And.right (And.right (And.right (by with_reducible assumption)))))))) | exact (And.left (And.right (And.right (And.right (And.right (And.right (And.right (And.right (by with_reducible assumption))))))))) | exact (And.right (And.right (And.right (And.right (And.right (And.right (And.right (And.right (by with_reducible assumption))))))))) | exact (And.left (And.left (And.right (And.right (And.right (And.right (And.right (And.right (And.right (by with_reducible assumption)))))))))) | exact (And.left (And.right (And.left (And.right (And.right (And.right (And.right (And.right (And.right (And.right (by with_reducible assumption))))))))))) | exact (And.right (And.right (And.left (And.right (And.right (And.right (And.right (And.right (And.right (And.right (by with_reducible assumption))))))))))) | exact (And.left (And.right (And.right (And.right (And.right (And.right (And.right (And.right (by with_reducible assumption))))))))) | exact (And.left (And.right (And.right (And.right (And.right (And.right (And.right (And.right (And.right (by with_reducible assumption)))))))))) | exact (And.right (And.right (And.right (And.right (And.right (And.right (And.right (And.right (And.right (by with_reducible assumption)))))))))))
    k_with "MINE enterX" => (
    refine enterX (news := _) (by k_asm) (by k_asm) (by k_asm) (by k_asm) (by (first | assumption | exact News.nil)) (by exact rfl) (by exact rfl) (by assumption) (by assumption) (by exact rfl) (by assumption) (by ktr_room) (by exact BindsTo.of_eq rfl) (by exact locs rfl) ?_ (by exact rfl) (by exact rfl) (by exact rfl) (by decide)
    k_whole)
    k_with "eval Name" => (
    k_here
    k_dflt (refine nameX_FB (by first | with_reducible (k_asm) | (k_asm)) (by k_dflt (rfl)) (by first | with_reducible (assumption) | (assumption)) (by first | with_reducible (assumption) | (assumption)) ?_ (by k_dflt (rfl)) (by k_dflt (rfl)) (by k_dflt (decide)) (by k_dflt (decide)))
    k_whole)
    k_with "callWith ref" => (
    k_here
    k_dflt (refine callWith_F (by first | with_reducible (exact fnAt_base (by assumption) (by k_asm)) | (exact fnAt_base (by assumption) (by k_asm))) ?_)
    k_whole)
    k_with "FnAt" => (exact fnAt_base (by assumption) (by k_asm))
    k_with "binaryOp RShift int int" => (
    k_here
    (refine shr1Z ?_)
    intro zq' zhq')
    k_with "binaryOp LShift int int" => (
    k_here
    (refine shlZ (by omega) (by omega) (by omega) (by omega) ?_)
    intro zq' zhq')
    k_with "binaryOp Mult int int" => (
    k_here
    (refine mul1Z ?_))
    k_with "binaryOp RShift int int" => (
    k_here
    (first
      | (refine shr1Z ?_)
      | (refine shrZ (by omega) ?_))
    intro zq' zhq'
    (try (have zhb' := shr_bound zhq' (by omega) (by omega))))
    k_with "binaryOp BitXor int int" => (
    k_here
    (refine xorZ ?_)
    intro zr' zhr'
    have zhh' := halves zhr' (by assumption) (by assumption) (by assumption) (by assumption) (by omega) (by omega) (by omega) rfl
    obtain ⟨ze1', ze2', ze3', ze4', ze5'⟩ := zhh')
    k_with "setItem ref int" => (
    k_here
    k_dflt (refine ksa_set (by first | with_reducible (k_asm) | (k_asm)) (by first | with_reducible (k_asm) | (k_asm)) (by k_dflt (k_upd)) (by first | with_reducible (assumption) | (assumption)) (by first | with_reducible (omega) | (omega)) (by first | with_reducible (omega) | (omega)) (by first | with_reducible (omega) | (omega)) ?_)
    k_whole
    intro zh' zF' zN' zhi' zhl' zhs'
    (try k_sweep))
    k_with "call ref" => (
    k_here
    k_dflt (refine use_callD (IH _ _ _ _ _ _ _ _ (by first | with_reducible (assumption) | (assumption)) (by first | with_reducible (omega) | (omega)) (by first | with_reducible (omega) | (omega)) (by first | with_reducible (omega) | (omega)) (by first | with_reducible (first | omega | ((try rw [put1_len (by omega)]); omega)) | (first | omega | ((try rw [put1_len (by omega)]); omega))) (by first | with_reducible (first | omega | ((try rw [put1_len (by omega)]); omega)) | (first | omega | ((try rw [put1_len (by omega)]); omega))) (by first | with_reducible (assumption) | (assumption)) (by first | with_reducible (assumption) | (assumption))) (by first | with_reducible (k_asm) | (k_asm)) (by first | with_reducible (k_asm) | (k_asm)) (by first | with_reducible (k_asm) | (k_asm)) (by first | with_reducible (k_asm) | (k_asm)) (by first | with_reducible (k_asm) | (k_asm)) (by first | with_reducible (first | exact rfl | assumption) | (first | exact rfl | assumption)) (by first | with_reducible ((try simp only [depth_under_make, depth_under_kw, depth_in1, depth_deeper, depth_caller] at *); (try dsimp only [ktrTop] at *); omega) | ((try simp only [depth_under_make, depth_under_kw, depth_in1, depth_deeper, depth_caller] at *); (try dsimp only [ktrTop] at *); omega)) (by first | with_reducible ((have zhcL9 := cLine_is); (try simp only [units_in1, units_deeper, Around.mark_units, units_caller] at *); (try dsimp only [ktrTop] at *); omega) | ((have zhcL9 := cLine_is); (try simp only [units_in1, units_deeper, Around.mark_units, units_caller] at *); (try dsimp only [ktrTop] at *); omega)) (by first | with_reducible (exact Pre1.on (by assumption) (by k_asm)) | (exact Pre1.on (by assumption) (by k_asm))) (by k_dflt (k_updF)) ?_)
    k_whole
    intro zvs' zh' ztk' zF' zN' zi'
    (try dsimp only at zN')
    (try dsimp only)
    (try k_fold))
    intro vs ns x i j t t' t'' hi h1 h2 h3 h4 h5 h6 h7
    intro dp un gd cn cs a ccd cl outer A₀ base h₀ L m s Q E B F X T hk hpre N hd hu hret
    have hD := N.get (List.Mem.head _)
    refine wpAny_call ?_
    obtain ⟨c1, cN, cI, cA, oN, oI, oA, doc, pm, ctv, tn, a1, a2, a3, a4, a5, a6, a7, a8⟩ := id hpre
    k_dflt walk_at "MINE enterX"
    intro g L' h₁ hkg hsz F' N' B' X' T'
    have hkg : KeepBut D s.heap g := fun b o n e => hkg b o (fun q => n (List.mem_singleton.mp q)) e
    replace hpre := hpre.keeps hD hkg
    replace a1 := hkg _ _ (ne_fn hD a1) a1
    replace a2 := codeRec_but hD a2 hkg
    replace a3 := hkg _ _ (ne_cell hD a3 a4) a3
    replace a5 := hkg _ _ (ne_cell hD a5 a6) a5
    replace a7 := hkg _ _ (ne_cell hD a7 a8) a7
    have hs1 := pow_small h7 (by omega)
    clear B F X T N
    generalize hbd : defBody inner1 = bd
    generalize hsc : defScope inner1 = sc
    dsimp only [inner1, first0, defBody, defScope, defParams, prog0, PySem.Challenge.pw_ib0002_01, List.drop, List.tail] at hbd hsc
    subst hbd hsc
    (try k_fold)
    k_steps
    all_goals (try dsimp only)
    · refine hret _ _ _ (fun b o nb e => Fr.keep (by k_asm) b o (hkg b o nb e)) (News.get (by k_asm) (List.Mem.head _)) ?_
      rw [show (j - i).toNat = 1 by omega, ← set_put1 (by omega) ⟨h6, pow_one h7 (by omega)⟩]
      assumption
    · refine hret _ _ _ (fun b o nb e => Fr.keep (by k_asm) b o (hkg b o nb e)) (News.get (by k_asm) (List.Mem.head _)) ?_
      exact put1_done (by assumption) (by assumption) (by omega) (by omega) (by omega) (by omega)
end Mine
end -- I2din

section -- FirstLaw
open PySem PySem.Spec PySem.Calls PySem.W PyProof.Rows
set_option maxRecDepth 100000
namespace Mine
/-- a call that fills tables that lie in the caller's ledger -/
def CallN (w : World) (p : Program) (loose : List Str) (mean : ExcName → Option Value) (mg mb : Str → Option Value) (f : Addr) (args : List Value) (k : Nat) (tabs : List (Addr × Obj)) (Pre : Heap → Prop) (Post : Heap → Heap → Value → Prop) : Prop :=
  ∀ (dp un : Nat) (gd : Option (List Code)) (cn : Str) (cs : Scope) (a : Addr) (ccd : Value) (cl : List (Str × Addr)) (outer : List Env) (A₀ : Around) (base h₀ : Heap) (L : Addr) (m : Str → Option Value) (s : Shared) (Q E : Value → Shared → Prop),
    Below A₀ base outer h₀ → Fr h₀ L s.heap m → (Mine.hd.heap_39 w.params).In h₀ → Top p loose mean mg mb h₀ → cs.kind = .function → News h₀ L s.heap tabs → Pre s.heap → dp + k < recursionLimit → un + 8 * k < cLine →
    (∀ v h' tk', (∀ b o, b ∉ tabs.map (·.1) → s.heap.get? b = some o → h'.get? b = some o) → Post s.heap h' v → Q v { s with heap := h', toks := tk' }) →
    wpAny (model prog0 w) (ktrTop dp un gd cn cs L a ccd cl outer) (call (.ref f) args) Q E s
abbrev full1 (c : Addr) : Obj := tabObj #[rawInt pos1.line, rawInt pos1.col, .ref c]
abbrev full2 (c : Addr) : Obj := tabObj #[rawInt pos2.line, rawInt pos2.col, .ref c]
def OffT : List (Addr × Obj) → Prop
  | [] => True
  | p :: r => (@Ne Nat p.1 23 ∧ @Ne Nat p.1 16) ∧ OffT r
theorem OffT.at : ∀ {l : List (Addr × Obj)}, OffT l → ∀ q ∈ l, q.1 ≠ 23 ∧ q.1 ≠ 16
  | [], _, _, h => nomatch h
  | _ :: _, x, q, h => by
    rcases List.mem_cons.mp h with rfl | h
    · exact x.1
    · exact OffT.at x.2 q h
def FI2d (w : World) (p : Program) (loose : List Str) (mean : ExcName → Option Value) (mg mb : Str → Option Value) : Prop :=
  ∀ (a : Int) (t1 t2 : Tok), 0 ≤ a → a < 32 → CallN w p loose mean mg mb 21 [.int a t1, .int 1 t2] 8 [(16, tabObj #[])] (fun _ => True)
    (fun h h' v => ∃ l n us c o, v = .ref l ∧ h.objs.size ≤ l ∧ h.objs.size ≤ c ∧ @LT.lt Nat _ l c ∧ h'.get? l = some (W.listOf (List.toArray us) n) ∧ IntsAre us (bits a) ∧ h'.get? c = some o ∧ CodeOb o qual1 ∧ h'.get? 16 = some (full1 c))
def FD2i (w : World) (p : Program) (loose : List Str) (mean : ExcName → Option Value) (mg mb : Str → Option Value) : Prop :=
  ∀ (l : Addr) (t2 : Tok) (vs : List Value) (ds : List Int), l ≠ 23 → IntsAre vs ds → ds.length ≤ 5 → (∀ d ∈ ds, 0 ≤ d ∧ d ≤ 1) →
    CallN w p loose mean mg mb 28 [.ref l, .int 1 t2] 8 [(23, tabObj #[])] (fun h => h.IsList l vs.toArray)
    (fun h h' v => ∃ t c o, v = .int (told ds) t ∧ h.objs.size ≤ c ∧ h'.get? c = some o ∧ CodeOb o qual2 ∧ h'.get? 23 = some (full2 c))
def FPut (w : World) (p : Program) (loose : List Str) (mean : ExcName → Option Value) (mg mb : Str → Option Value) : Prop :=
  ∀ (x y : Int) (t1 t2 : Tok), 0 ≤ x → x < 32 → 0 ≤ y → y < 32 → CallN w p loose mean mg mb 51 [.int x t1, .int y t2] 12 [(23, tabObj #[])] (Tab 16 pos1 qual1)
    (fun h h' v => ∃ t c o, v = .int (put x y) t ∧ h.objs.size ≤ c ∧ h'.get? c = some o ∧ CodeOb o qual2 ∧ h'.get? 23 = some (full2 c))
def FDiv (w : World) (p : Program) (loose : List Str) (mean : ExcName → Option Value) (mg mb : Str → Option Value) : Prop :=
  ∀ (t1 t2 : Tok), CallN w p loose mean mg mb 65 [.int 3 t1, .int 2 t2] 14 emptyTabs (fun _ => True)
    (fun h h' v => ∃ l n u1 u2 c1 c2 o1 o2, v = .ref l ∧ h.objs.size ≤ l ∧ h.objs.size ≤ c1 ∧ h.objs.size ≤ c2 ∧ @LT.lt Nat _ c1 c2 ∧ @LT.lt Nat _ c2 l ∧ h'.get? l = some { cls := .type "tuple", data := .seq #[.int 1 u1, .int 1 u2] n } ∧
      h'.get? c1 = some o1 ∧ CodeOb o1 qual1 ∧ h'.get? c2 = some o2 ∧ CodeOb o2 qual2 ∧ h'.get? 23 = some (full2 c2) ∧ h'.get? 16 = some (full1 c1))
section
variable {w : World} {p : Program} {loose : List Str} {mean : ExcName → Option Value} {mg mb : Str → Option Value}
  {dp un : Nat} {gd : Option (List Code)} {cn : Str} {cs : Scope} {a : Addr} {ccd : Value} {cl : List (Str × Addr)} {outer : List Env} {A₀ : Around} {base h₀ : Heap} {L : Addr} {m : Str → Option Value} {news : List (Addr × Obj)} {s : Shared} {Q E : Value → Shared → Prop}
theorem use_callN1 {f P : Addr} {args : List Value} {k : Nat} {old : Obj} {Pre : Heap → Prop} {Post : Heap → Heap → Value → Prop} {g : Obj → List (Addr × Obj)} (C : CallN w p loose mean mg mb f args k [(P, old)] Pre Post) (B : Below A₀ base outer h₀) (F : Fr h₀ L s.heap m) (X : (Mine.hd.heap_39 w.params).In h₀) (N : News h₀ L s.heap news) (T : Top p loose mean mg mb h₀) (hk : cs.kind = .function)
    (hd : dp + k < recursionLimit) (hu : un + 8 * k < cLine) (U : UpdF P old news g) (hp : Pre s.heap)
    (ret : ∀ v h' tk', Fr h₀ L h' m → (∀ o', h'.get? P = some o' → News h₀ L h' (g o')) → Post s.heap h' v → Q v { s with heap := h', toks := tk' }) :
    wpAny (model prog0 w) (ktrTop dp un gd cn cs L a ccd cl outer) (call (.ref f) args) Q E s := by
  obtain ⟨pre, post, e, hg, a1, a2⟩ := U.split
  subst e
  have n1 := N _ (List.mem_append_right pre (.head post))
  refine C _ _ _ _ _ _ _ _ _ _ _ _ _ _ _ _ _ B F X T hk (fun q hq => by rw [List.mem_singleton.mp hq]; exact n1) hp hd hu fun v h' tk' kp po => ret v h' tk' ?_ (fun o' ho' => ?_) po
  · have kp' : ∀ b o, b ≠ P → s.heap.get? b = some o → h'.get? b = some o := fun b o nb e => kp b o (fun q => nb (List.mem_singleton.mp q)) e
    obtain ⟨oL, es, ep, hL, r⟩ := F.ns
    exact ⟨⟨oL, es, ep, kp' _ _ (Ne.symm n1.2.1) hL, r⟩, fun b o e => kp' _ _ (fun q => by rw [q, n1.2.2] at e; cases e) (F.keep b o e), F.above⟩
  · have kp' : ∀ b o, b ≠ P → s.heap.get? b = some o → h'.get? b = some o := fun b o nb e => kp b o (fun q => nb (List.mem_singleton.mp q)) e
    rw [hg]
    intro q hq
    rcases List.mem_append.mp hq with hq | hq
    · have := N q (List.mem_append_left _ hq); exact ⟨kp' _ _ (a1 q hq) this.1, this.2⟩
    · rcases List.mem_cons.mp hq with rfl | hq
      · exact ⟨ho', n1.2⟩
      · have := N q (List.mem_append_right _ (.tail _ hq)); exact ⟨kp' _ _ (a2 q hq) this.1, this.2⟩
theorem fresh_of (F : Fr h₀ L s.heap m) {b : Addr} (h : s.heap.objs.size ≤ b) : b ≠ L ∧ h₀.get? b = none :=
  ⟨Nat.ne_of_gt (Nat.lt_of_lt_of_le F.ns.lt h), Heap.get?_none_of_le (Nat.le_trans (Nat.le_trans F.above (Nat.le_of_lt F.ns.lt)) h)⟩
theorem use_fi2d (C : FI2d w p loose mean mg mb) {x : Int} {t1 t2 : Tok} {g : Obj → List (Addr × Obj)} (B : Below A₀ base outer h₀) (F : Fr h₀ L s.heap m) (X : (Mine.hd.heap_39 w.params).In h₀) (N : News h₀ L s.heap news) (T : Top p loose mean mg mb h₀) (hk : cs.kind = .function)
    (hd : dp + 8 < recursionLimit) (hu : un + 8 * 8 < cLine) (U : UpdF 16 (tabObj #[]) news g) (h0 : 0 ≤ x) (h1 : x < 32)
    (ret : ∀ l n vs c o h' tk', Fr h₀ L h' m → News h₀ L h' ((l, W.listOf (List.toArray vs) n) :: (c, o) :: g (full1 c)) → (∀ q ∈ news, q.1 < l) → @LT.lt Nat _ l c → @LT.lt Nat _ L l ∧ @LT.lt Nat _ L c → IntsAre vs (bits x) → CodeOb o qual1 → Q (.ref l) { s with heap := h', toks := tk' }) :
    wpAny (model prog0 w) (ktrTop dp un gd cn cs L a ccd cl outer) (call (.ref 21) [.int x t1, .int 1 t2]) Q E s := by
  refine use_callN1 (C x t1 t2 h0 h1) B F X N T hk hd hu U trivial fun v h' tk' F' hN po => ?_
  obtain ⟨l, n, us, c, o, rfl, l1, l2, l3, e1, hi, e2, ho, e3⟩ := po
  refine ret l n us c o h' tk' F' (fun q hq => ?_) (fun q hq => Nat.lt_of_lt_of_le (Heap.lt_size (N q hq).1) l1) l3 ⟨Nat.lt_of_lt_of_le F.ns.lt l1, Nat.lt_of_lt_of_le F.ns.lt l2⟩ hi ho
  rcases List.mem_cons.mp hq with rfl | hq
  · exact ⟨e1, fresh_of F l1⟩
  · rcases List.mem_cons.mp hq with rfl | hq
    · exact ⟨e2, fresh_of F l2⟩
    · exact hN _ e3 q hq
theorem use_fd2i (C : FD2i w p loose mean mg mb) {l : Addr} {t2 : Tok} {vs : List Value} {ds : List Int} {g : Obj → List (Addr × Obj)} (B : Below A₀ base outer h₀) (F : Fr h₀ L s.heap m) (X : (Mine.hd.heap_39 w.params).In h₀) (N : News h₀ L s.heap news) (T : Top p loose mean mg mb h₀) (hk : cs.kind = .function)
    (hd : dp + 8 < recursionLimit) (hu : un + 8 * 8 < cLine) (U : UpdF 23 (tabObj #[]) news g) (hn : l ≠ 23) (hl : s.heap.IsList l vs.toArray) (hi : IntsAre vs ds) (hle : ds.length ≤ 5) (hb : ∀ d ∈ ds, 0 ≤ d ∧ d ≤ 1)
    (ret : ∀ t c o h' tk', Fr h₀ L h' m → News h₀ L h' ((c, o) :: g (full2 c)) → (∀ q ∈ news, q.1 < c) → @LT.lt Nat _ L c → CodeOb o qual2 → Q (.int (told ds) t) { s with heap := h', toks := tk' }) :
    wpAny (model prog0 w) (ktrTop dp un gd cn cs L a ccd cl outer) (call (.ref 28) [.ref l, .int 1 t2]) Q E s := by
  refine use_callN1 (C l t2 vs ds hn hi hle hb) B F X N T hk hd hu U hl fun v h' tk' F' hN po => ?_
  obtain ⟨t, c, o, rfl, l1, e1, ho, e3⟩ := po
  refine ret t c o h' tk' F' (fun q hq => ?_) (fun q hq => Nat.lt_of_lt_of_le (Heap.lt_size (N q hq).1) l1) (Nat.lt_of_lt_of_le F.ns.lt l1) ho
  rcases List.mem_cons.mp hq with rfl | hq
  · exact ⟨e1, fresh_of F l1⟩
  · exact hN _ e3 q hq
theorem use_fput (C : FPut w p loose mean mg mb) {x y : Int} {t1 t2 : Tok} {g : Obj → List (Addr × Obj)} (B : Below A₀ base outer h₀) (F : Fr h₀ L s.heap m) (X : (Mine.hd.heap_39 w.params).In h₀) (N : News h₀ L s.heap news) (T : Top p loose mean mg mb h₀) (hk : cs.kind = .function)
    (hd : dp + 12 < recursionLimit) (hu : un + 8 * 12 < cLine) (U : UpdF 23 (tabObj #[]) news g) (hpre1 : Tab 16 pos1 qual1 s.heap) (h0 : 0 ≤ x) (h1 : x < 32) (h2 : 0 ≤ y) (h3 : y < 32)
    (ret : ∀ t c o h' tk', Fr h₀ L h' m → News h₀ L h' ((c, o) :: g (full2 c)) → (∀ q ∈ news, q.1 < c) → @LT.lt Nat _ L c → CodeOb o qual2 → Q (.int (put x y) t) { s with heap := h', toks := tk' }) :
    wpAny (model prog0 w) (ktrTop dp un gd cn cs L a ccd cl outer) (call (.ref 51) [.int x t1, .int y t2]) Q E s := by
  refine use_callN1 (C x y t1 t2 h0 h1 h2 h3) B F X N T hk hd hu U hpre1 fun v h' tk' F' hN po => ?_
  obtain ⟨t, c, o, rfl, l1, e1, ho, e3⟩ := po
  refine ret t c o h' tk' F' (fun q hq => ?_) (fun q hq => Nat.lt_of_lt_of_le (Heap.lt_size (N q hq).1) l1) (Nat.lt_of_lt_of_le F.ns.lt l1) ho
  rcases List.mem_cons.mp hq with rfl | hq
  · exact ⟨e1, fresh_of F l1⟩
  · exact hN _ e3 q hq
theorem use_fdiv (C : FDiv w p loose mean mg mb) {t1 t2 : Tok} {pre : List (Addr × Obj)} (B : Below A₀ base outer h₀) (F : Fr h₀ L s.heap m) (X : (Mine.hd.heap_39 w.params).In h₀) (N : News h₀ L s.heap (pre ++ emptyTabs)) (T : Top p loose mean mg mb h₀) (hk : cs.kind = .function)
    (hd : dp + 14 < recursionLimit) (hu : un + 8 * 14 < cLine) (off : OffT pre)
    (ret : ∀ l n u1 u2 c1 c2 o1 o2 h' tk', Fr h₀ L h' m → News h₀ L h' ((l, { cls := .type "tuple", data := .seq #[.int 1 u1, .int 1 u2] n }) :: (c1, o1) :: (c2, o2) :: (pre ++ [(23, full2 c2), (16, full1 c1)])) →
      (∀ q ∈ (pre ++ emptyTabs), q.1 < c1) → @LT.lt Nat _ c1 c2 → @LT.lt Nat _ c2 l → CodeOb o1 qual1 → CodeOb o2 qual2 → Q (.ref l) { s with heap := h', toks := tk' }) :
    wpAny (model prog0 w) (ktrTop dp un gd cn cs L a ccd cl outer) (call (.ref 65) [.int 3 t1, .int 2 t2]) Q E s := by
  have n1 : ∀ q ∈ emptyTabs, s.heap.get? q.1 = some q.2 ∧ q.1 ≠ L ∧ h₀.get? q.1 = none := fun q hq => N q (List.mem_append_right _ hq)
  refine C t1 t2 _ _ _ _ _ _ _ _ _ _ _ _ _ _ _ _ _ B F X T hk n1 trivial hd hu fun v h' tk' kp po => ?_
  obtain ⟨l, n, u1, u2, c1, c2, o1, o2, rfl, l1, l2, l3, l4, l5, e1, e2, ho1, e3, ho2, e4, e5⟩ := po
  have m1 := n1 (23, tabObj #[]) (.head _)
  have m2 := n1 (16, tabObj #[]) (.tail _ (.head _))
  have kp' : ∀ b o, b ≠ 23 → b ≠ 16 → s.heap.get? b = some o → h'.get? b = some o := fun b o nb nc e => kp b o (by simp [nb, nc]) e
  refine ret l n u1 u2 c1 c2 o1 o2 h' tk' ?_ (fun q hq => ?_) (fun q hq => Nat.lt_of_lt_of_le (Heap.lt_size (N q hq).1) l2) l4 l5 ho1 ho2
  · obtain ⟨oL, es, ep, hL, r⟩ := F.ns
    exact ⟨⟨oL, es, ep, kp' _ _ (Ne.symm m1.2.1) (Ne.symm m2.2.1) hL, r⟩, fun b o e => kp' _ _ (fun q => by rw [q, m1.2.2] at e; cases e) (fun q => by rw [q, m2.2.2] at e; cases e) (F.keep b o e), F.above⟩
  · rcases List.mem_cons.mp hq with rfl | hq
    · exact ⟨e1, fresh_of F l1⟩
    · rcases List.mem_cons.mp hq with rfl | hq
      · exact ⟨e2, fresh_of F l2⟩
      · rcases List.mem_cons.mp hq with rfl | hq
        · exact ⟨e3, fresh_of F l3⟩
        · rcases List.mem_append.mp hq with hq | hq
          · have := N q (List.mem_append_left _ hq)
            have h9 := off.at q hq
            exact ⟨kp' _ _ h9.1 h9.2 this.1, this.2⟩
          · rcases List.mem_cons.mp hq with rfl | hq
            · exact ⟨e4, m1.2⟩
            · rw [List.mem_singleton.mp hq]; exact ⟨e5, m2.2⟩
end
theorem codeOb_mk {o : Obj} {q : Str} {vs : Array Value} {t : Tok} (qual : Str) (h1 : o.data = .fields vs) (h2 : vs[1]? = some (.str q t)) (e : q = qual) : CodeOb o qual := ⟨vs, t, h1, e ▸ h2⟩
theorem codeRec_news {h₀ h : Heap} {L c : Addr} {qual : Str} {o : Obj} {news : List (Addr × Obj)} (N : News h₀ L h news) (h2 : (c, o) ∈ news) (h3 : CodeOb o qual) : h.CodeRec (.ref c) qual := by
  obtain ⟨vs, t, e1, e2⟩ := h3
  exact ⟨c, o, vs, t, rfl, N.get h2, e1, e2⟩
theorem tab_hide {h g : Heap} (hx : h.get? 23 = some (tabObj #[])) (k : ∀ b o, b ≠ 23 → h.get? b = some o → g.get? b = some o) (T : Tab 16 pos1 qual1 h) : Tab 16 pos1 qual1 g := by
  obtain ⟨c, e, c', o, vs, t, q, e1, e2, e3⟩ := T
  refine ⟨c, k _ _ (by decide) e, c', o, vs, t, q, k _ _ (fun z => ?_) e1, e2, e3⟩
  rw [z, hx] at e1
  cases e1
  cases e2
  cases e3
theorem fi_post {h₀ h h' : Heap} {L l c : Addr} {n : Nat} {us : List Value} {o : Obj} {a : Int} {news : List (Addr × Obj)} (N : News h₀ L h' news) (m8 : (16, full1 c) ∈ news) (m6 : (c, o) ∈ news) (h7 : CodeOb o qual1) (m4 : (l, W.listOf (List.toArray us) n) ∈ news) (hi : IntsAre us (bits a))
    (e1 : h.objs.size ≤ l) (e2 : h.objs.size ≤ c) (e3 : @LT.lt Nat _ l c) :
    ∃ l' n us c o, Value.ref l = .ref l' ∧ h.objs.size ≤ l' ∧ h.objs.size ≤ c ∧ @LT.lt Nat _ l' c ∧ h'.get? l' = some (W.listOf (List.toArray us) n) ∧ IntsAre us (bits a) ∧ h'.get? c = some o ∧ CodeOb o qual1 ∧ h'.get? 16 = some (full1 c) :=
  ⟨_, _, _, _, _, rfl, e1, e2, e3, N.get m4, hi, N.get m6, h7, N.get m8⟩
theorem fd_post {h₀ h h' : Heap} {L c : Addr} {o : Obj} {a a' : Int} {t : Tok} {news : List (Addr × Obj)} (N : News h₀ L h' news) (m8 : (23, full2 c) ∈ news) (m6 : (c, o) ∈ news) (h7 : CodeOb o qual2)
    (e2 : h.objs.size ≤ c) (e : a' = a) :
    ∃ t' c o, Value.int a' t = .int a t' ∧ h.objs.size ≤ c ∧ h'.get? c = some o ∧ CodeOb o qual2 ∧ h'.get? 23 = some (full2 c) :=
  ⟨_, _, _, by rw [e], e2, N.get m6, h7, N.get m8⟩
theorem fdiv_post {h₀ h h' : Heap} {L l c1 c2 : Addr} {n : Nat} {o1 o2 : Obj} {a b : Int} {u1 u2 : Tok} {news : List (Addr × Obj)} (N : News h₀ L h' news) (m1 : (23, full2 c2) ∈ news) (m2 : (16, full1 c1) ∈ news) (m3 : (c1, o1) ∈ news) (m4 : (c2, o2) ∈ news) (q1 : CodeOb o1 qual1) (q2 : CodeOb o2 qual2)
    (m5 : (l, { cls := .type "tuple", data := .seq #[.int a u1, .int b u2] n }) ∈ news) (ea : a = 1) (eb : b = 1) (e1 : h.objs.size ≤ l) (e2 : h.objs.size ≤ c1) (e3 : h.objs.size ≤ c2) (e4 : @LT.lt Nat _ c1 c2) (e5 : @LT.lt Nat _ c2 l) :
    ∃ l' n u1 u2 c1 c2 o1 o2, Value.ref l = .ref l' ∧ h.objs.size ≤ l' ∧ h.objs.size ≤ c1 ∧ h.objs.size ≤ c2 ∧ @LT.lt Nat _ c1 c2 ∧ @LT.lt Nat _ c2 l' ∧ h'.get? l' = some { cls := .type "tuple", data := .seq #[.int 1 u1, .int 1 u2] n } ∧
      h'.get? c1 = some o1 ∧ CodeOb o1 qual1 ∧ h'.get? c2 = some o2 ∧ CodeOb o2 qual2 ∧ h'.get? 23 = some (full2 c2) ∧ h'.get? 16 = some (full1 c1) := by
  subst ea eb
  exact ⟨_, _, _, _, _, _, _, _, rfl, e1, e2, e3, e4, e5, N.get m5, N.get m3, q1, N.get m4, q2, N.get m1, N.get m2⟩
end Mine
namespace Mine
section
variable {w : World} {p : Program} {loose : List Str} {mean : ExcName → Option Value} {mg mb : Str → Option Value}
  {dp un : Nat} {gd : Option (List Code)} {cn : Str} {cs : Scope} {a : Addr} {ccd : Value} {cl : List (Str × Addr)} {outer : List Env} {A₀ : Around} {base h₀ : Heap} {L : Addr} {m : Str → Option Value} {news : List (Addr × Obj)} {s : Shared} {Q E : Value → Shared → Prop}
theorem use_alone (C : AloneOk w p loose mean mg mb) {t : Tok} {pre : List (Addr × Obj)} (B : Below A₀ base outer h₀) (F : Fr h₀ L s.heap m) (X : (Mine.hd.heap_39 w.params).In h₀) (N : News h₀ L s.heap (pre ++ emptyTabs)) (T : Top p loose mean mg mb h₀) (hk : cs.kind = .function)
    (hc1 : CodeHd h₀ 20 16) (hc2 : CodeHd h₀ 27 23) (hd : dp + 30 < recursionLimit) (hu : un + 8 * 30 < cLine) (off : OffT pre)
    (ret : ∀ l n t1 t2 t3 t4 t5 c1 c2 o1 o2 h' tk', Fr h₀ L h' m → News h₀ L h' ((l, W.listOf (List.toArray [.int 2 t1, .int 3 t2, .int 7 t3, .int 11 t4, .int 13 t5]) n) :: (c1, o1) :: (c2, o2) :: (pre ++ [(23, full2 c2), (16, full1 c1)])) →
      (∀ q ∈ (pre ++ emptyTabs), q.1 < l) → (∀ q ∈ (pre ++ emptyTabs), q.1 < c1) → (∀ q ∈ (pre ++ emptyTabs), q.1 < c2) → Tab 16 pos1 qual1 h' → Tab 23 pos2 qual2 h' → CodeOb o1 qual1 → CodeOb o2 qual2 → Q (.ref l) { s with heap := h', toks := tk' }) :
    wpAny (model prog0 w) (ktrTop dp un gd cn cs L a ccd cl outer) (call (.ref 70) [.int 16 t]) Q E s := by
  have n1 : ∀ q ∈ emptyTabs, s.heap.get? q.1 = some q.2 ∧ q.1 ≠ L ∧ h₀.get? q.1 = none := fun q hq => N q (List.mem_append_right _ hq)
  refine C t _ _ _ _ _ _ _ _ _ _ _ _ _ _ _ _ _ B F X T hk n1 hc1 hc2 hd hu fun l n vs c1 c2 o1 o2 h' tk' kp l1 l2 l3 e1 hi e2 ho1 ho2 => ?_
  obtain ⟨t1, t2, t3, t4, t5, rfl⟩ := ints_inv5 hi
  have m1 := n1 (23, tabObj #[]) (.head _)
  have m2 := n1 (16, tabObj #[]) (.tail _ (.head _))
  have f1 := e2 (c1, o1) (.head _)
  have f2 := e2 (c2, o2) (.tail _ (.head _))
  have f3 := e2 (23, full2 c2) (.tail _ (.tail _ (.head _)))
  have f4 := e2 (16, full1 c1) (.tail _ (.tail _ (.tail _ (.head _))))
  have F' : Fr h₀ L h' m := by
    obtain ⟨oL, es, ep, hL, r⟩ := F.ns
    exact ⟨⟨oL, es, ep, kp _ _ (Ne.symm m2.2.1) (Ne.symm m1.2.1) hL, r⟩, fun b o e => kp _ _ (fun q => by rw [q, m2.2.2] at e; cases e) (fun q => by rw [q, m1.2.2] at e; cases e) (F.keep b o e), F.above⟩
  refine ret l n t1 t2 t3 t4 t5 c1 c2 o1 o2 h' tk' F' (fun q hq => ?_) (fun q hq => Nat.lt_of_lt_of_le (Heap.lt_size (N q hq).1) l1) (fun q hq => Nat.lt_of_lt_of_le (Heap.lt_size (N q hq).1) l2) (fun q hq => Nat.lt_of_lt_of_le (Heap.lt_size (N q hq).1) l3) ?_ ?_ ho1 ho2
  · rcases List.mem_cons.mp hq with rfl | hq
    · exact ⟨e1, fresh_of F l1⟩
    · rcases List.mem_cons.mp hq with rfl | hq
      · exact ⟨f1, fresh_of F l2⟩
      · rcases List.mem_cons.mp hq with rfl | hq
        · exact ⟨f2, fresh_of F l3⟩
        · rcases List.mem_append.mp hq with hq | hq
          · have := N q (List.mem_append_left _ hq)
            have h9 := off.at q hq
            exact ⟨kp _ _ h9.2 h9.1 this.1, this.2⟩
          · rcases List.mem_cons.mp hq with rfl | hq
            · exact ⟨f3, m1.2⟩
            · rw [List.mem_singleton.mp hq]; exact ⟨f4, m2.2⟩
  · obtain ⟨vs, t', q1, q2⟩ := ho1
    exact ⟨c1, f4, c1, o1, vs, t', rfl, f1, q1, q2⟩
  · obtain ⟨vs, t', q1, q2⟩ := ho2
    exact ⟨c2, f3, c2, o2, vs, t', rfl, f2, q1, q2⟩
end
end Mine
end -- FirstLaw

section -- CompCell
open PySem PySem.Spec PySem.Calls PySem.W PyProof.Rows
open PyProof.Rows.LCg
set_option maxRecDepth 100000
namespace Mine
theorem ne9 {a b : Nat} (h : a < b ∨ b < a) : a ≠ b := by omega
/-- the end of a turn: the ledger stands, and the word of one's own holds of what came out -/
def EndC (h₀ : Heap) (L : Addr) (m : Str → Option Value) (s₁ : Shared) (I : Addr) (oI : Obj) (C : Addr) (oC : Obj) (c : Addr) (oc : Obj) (D : Addr) (oD : Obj) (news : List (Addr × Obj)) (rest : Value → Prop) (y : Value) (s₂ : Shared) : Prop :=
  ∃ h' tk, s₂ = { s₁ with heap := h', toks := tk } ∧ Fr h₀ L h' m ∧ News h₀ L h' ((I, oI) :: (C, oC) :: (c, oc) :: (D, oD) :: news) ∧ rest y
def tests (ifs : List PySem.Expr) (env : Env) : Sem Bool :=
  forIn ifs true fun c r => if r = true then do let ok ← isTrue c env (eval c env); pure (ForInStep.yield ok) else pure (ForInStep.yield r)
def TurnC (prog : Program) (w : World) (A : Around) (h₀ : Heap) (L : Addr) (m : Str → Option Value) (env : Env) (elt : PySem.Expr) (ifs : List PySem.Expr) (x : Str) (scope : Scope) (cl : List (Str × Addr)) (s : Shared) (a : Int) (n : Nat) (news : List (Addr × Obj)) (J : Nat → List Value → Prop) : Prop :=
  ∀ i ys t I oI C oC c oc D h tk (E' : Value → Shared → Prop), i < n → J i ys → oc.data = .cell (some (.int (a + (i : Int)) t)) → Fr h₀ L h m → News h₀ L h ((I, oI) :: (C, oC) :: (c, oc) :: (D, lst ys) :: news) →
    @Ne Nat I C ∧ @Ne Nat I D ∧ @Ne Nat C D ∧ @Ne Nat c I ∧ @Ne Nat c C ∧ @Ne Nat c D → (∀ q ∈ news, q.1 < I) → (∀ q ∈ news, q.1 < C) → (∀ q ∈ news, q.1 < c) → (∀ q ∈ news, q.1 < D) →
      wpAny (model prog w) A (tests ifs (compEnvC scope ((x, c) :: cl) C env)) (fun ok s' => if ok = true then
        wpAny (model prog w) A (eval elt (compEnvC scope ((x, c) :: cl) C env)) (EndC h₀ L m { s with heap := h, toks := tk } I oI C oC c oc D (lst ys) news (fun y => J (i + 1) (ys ++ [y]))) E' s'
        else EndC h₀ L m { s with heap := h, toks := tk } I oI C oC c oc D (lst ys) news (fun _ => J (i + 1) ys) Value.none s') E' { s with heap := h, toks := tk }
def SrcC (prog : Program) (w : World) (A : Around) (h₀ : Heap) (L : Addr) (m : Str → Option Value) (env : Env) (elt : PySem.Expr) (ifs : List PySem.Expr) (x : Str) (scope : Scope) (cl : List (Str × Addr)) (Q : Value → Shared → Prop) (xv : Value) (s₁ : Shared) : Prop :=
  ∃ r a b t u v n news J, xv = .ref r ∧ A.handled = none ∧ Fr h₀ L s₁.heap m ∧ News h₀ L s₁.heap news ∧ IsRange s₁.heap r a b 1 t u v ∧ Builtin.Range.small a b 1 = true ∧ Builtin.Range.rangeSize a b 1 = ((n : Nat) : Int) ∧ n ≤ sizeLine ∧ J 0 [] ∧
    (∀ s₂ : Shared, (∃ h, s₂ = { s₁ with heap := h }) → TurnC prog w A h₀ L m env elt ifs x scope cl s₂ a n news J ∧
      ∀ D h tk ys, J n ys → Fr h₀ L h m → News h₀ L h ((D, lst ys) :: news) → (∀ q ∈ news, q.1 < D) → Q (.ref D) { s₂ with heap := h, toks := tk })
section
variable {prog : Program} {w : World} {A : Around} {E : Value → Shared → Prop} {s : Shared} {h₀ : Heap} {L : Addr} {m : Str → Option Value} {env : Env}
theorem SrcC.range {elt : PySem.Expr} {ifs : List PySem.Expr} {x : Str} {scope : Scope} {cl : List (Str × Addr)} {Q : Value → Shared → Prop} {r : Addr} {a b : Int} {t u v : Tok} {n : Nat} {news : List (Addr × Obj)} {s₁ : Shared} (J : Nat → List Value → Prop)
    (hr : IsRange s₁.heap r a b 1 t u v) (hh : A.handled = none) (F : Fr h₀ L s₁.heap m) (N : News h₀ L s₁.heap news) (hsm : Builtin.Range.small a b 1 = true) (hn : Builtin.Range.rangeSize a b 1 = ((n : Nat) : Int)) (hsz : n ≤ sizeLine) (h0 : J 0 [])
    (turn : ∀ g, TurnC prog w A h₀ L m env elt ifs x scope cl { s₁ with heap := g } a n news J)
    (fin : ∀ D h tk ys, J n ys → Fr h₀ L h m → News h₀ L h ((D, lst ys) :: news) → (∀ q ∈ news, q.1 < D) → Q (.ref D) { s₁ with heap := h, toks := tk }) :
    SrcC prog w A h₀ L m env elt ifs x scope cl Q (.ref r) s₁ :=
  ⟨r, a, b, t, u, v, n, news, J, rfl, hh, F, N, hr, hsm, hn, hsz, h0, fun s₂ ⟨g, e⟩ => by subst e; exact ⟨turn g, fin⟩⟩
theorem envC_cells {scope : Scope} {globals : Addr} {cl : List (Str × Addr)} {qual : Str} {x : Str} {Q : Env → Shared → Prop} (hcf : ∀ k, cellsFrom k scope.names cl = (x, k) :: cl) (hpc : ∀ h, pushCells h scope.names = h.push { cls := .type "cell", data := .cell none })
    (h : Q { scope := scope, locals := s.heap.objs.size, globals := globals, cells := (x, s.heap.objs.size + 1) :: cl, qual := qual, func := none, code := env.code, frame := env.frame, builtins := env.builtins }
      { s with heap := (s.heap.push { cls := .type "dict", data := .dict #[] }).push { cls := .type "cell", data := .cell none } }) :
    wpAny (model prog w) A (newFunctionEnv scope globals cl [] qual none .none (some env)) Q E s := by
  simp only [newFunctionEnv, Option.isSome_some, if_true]
  refine wpAny_bind (wpAny_alloc ?_)
  refine wpAny_bind (wpAny_layCells _ (fun name kind cells => by cases hkc : kind == NameKind.cell <;> simp [hkc]) _ _ _ _ ?_)
  rw [hcf, hpc]
  rw [show ({ s with heap := s.heap.push { cls := .type "dict", data := .dict #[] } } : Shared).heap.objs.size = s.heap.objs.size + 1 from Heap.size_push ..]
  refine wpAny_bind ?_
  rw [List.forIn_nil]
  exact wpAny_pure (wpAny_pure h)
theorem listComp_cell {elt iter : PySem.Expr} {ifs : List PySem.Expr} {x : Str} {px : Pos} {scope : Scope} {cl : List (Str × Addr)} {pos : Pos} {Q : Value → Shared → Prop} (F₀ : Fr h₀ L s.heap m)
    (hclos : closureFor scope env = pure cl) (hkind : scope.kind = .function) (hnames : ∀ y ∈ scope.names, y.2 = .local → scope.names.lookup y.1 = some .local)
    (hcf : ∀ k, cellsFrom k scope.names cl = (x, k) :: cl) (hpc : ∀ h, pushCells h scope.names = h.push { cls := .type "cell", data := .cell none })
    (hkx : ∀ c C, Env.kindOf (compEnvC scope ((x, c) :: cl) C env) x = some .cell) (hlx : ∀ c, ((x, c) :: cl).lookup x = some c)
    (h : wpAny (model prog w) A (eval iter env) (SrcC prog w A h₀ L m env elt ifs x scope cl Q) E s)
    (hs : ∀ x, foldedSetIterable iter env x = pure x := by intro _; rfl) :
    wpAny (model prog w) A (eval (.ListComp elt [⟨.Name x px, iter, ifs, 0⟩] scope pos) env) Q E s := by
  k_with_none
  k_with "NE" => (first | exact Nat.ne_of_lt (by with_reducible assumption) | exact Nat.ne_of_gt (by with_reducible assumption) | exact ne9 (by omega))
  rw [eval_ListComp]
  refine wpAny_comprehension_free (use := none) rfl hs hclos hkind hnames (wpAny_mono h (fun xv s₁ h₁ => ?_) fun _ _ e => e)
  obtain ⟨r, a, b, t, u, v, n, news, J, rfl, hh, F, N, hr, hsm, hn, hsz, hJ0, R⟩ := h₁
  refine wpAny_pyIter_range hr hsm ?_
  generalize hs2 : ({ s₁ with heap := s₁.heap.push _ } : Shared) = s₂
  obtain ⟨R1, R2⟩ := R s₂ ⟨_, hs2.symm⟩
  have up : ∀ b o, s₁.heap.get? b = some o → s₂.heap.get? b = some o := fun b o e => by rw [← hs2]; exact Heap.get?_push_of_some _ e
  have hI2 : s₂.heap.objs.size = s₁.heap.objs.size + 1 := by rw [← hs2]; exact Heap.size_push ..
  have hst : IsRangeIter s₂.heap s₁.heap.objs.size (a + ((0 : Nat) : Int) * 1) ((n : Int) - ((0 : Nat) : Int)) 1 := by
    rw [← hs2]; show IsRangeIter _ _ _ _ _; rw [hn]; simpa using Heap.get?_push_size _ rfl
  have F2 : Fr h₀ L s₂.heap m := F.keeps up
  have N2 : News h₀ L s₂.heap news := N.grown up
  have hN1 : ∀ p ∈ news, p.1 < s₁.heap.objs.size := fun p hp => Heap.lt_size (N p hp).1
  have hI0 : h₀.get? s₁.heap.objs.size = none := next_is_new F
  have hIL : L ≠ s₁.heap.objs.size := Nat.ne_of_lt F.ns.lt
  have hLs : @LT.lt Nat _ L s₁.heap.objs.size := F.ns.lt
  have fresh₀ : ∀ b, s₁.heap.objs.size ≤ b → h₀.get? b = none := fun b hb => Heap.get?_none_of_le (Nat.le_trans (Nat.le_trans F.above (Nat.le_of_lt F.ns.lt)) hb)
  refine wpAny_newObj_type (envC_cells hcf hpc ?_)
  generalize hHD : s₂.heap.push { cls := .type "list", dict := none, data := .seq ([] : List Value).toArray } = HD
  have sD : HD.objs.size = s₂.heap.objs.size + 1 := by rw [← hHD, Heap.size_push]
  dsimp only
  generalize hHC : (HD.push { cls := .type "dict", data := .dict #[] }) = HC
  have sC : HC.objs.size = HD.objs.size + 1 := by rw [← hHC, Heap.size_push]
  generalize hHc : (HC.push { cls := .type "cell", data := .cell none }) = Hc
  have kD : ∀ b o, s₂.heap.get? b = some o → HD.get? b = some o := fun b o e => by rw [← hHD]; exact Heap.get?_push_of_some _ e
  have kC : ∀ b o, HD.get? b = some o → HC.get? b = some o := fun b o e => by rw [← hHC]; exact Heap.get?_push_of_some _ e
  have kc : ∀ b o, HC.get? b = some o → Hc.get? b = some o := fun b o e => by rw [← hHc]; exact Heap.get?_push_of_some _ e
  have old : ∀ b o, s₂.heap.get? b = some o → Hc.get? b = some o := fun b o e => kc _ _ (kC _ _ (kD _ _ e))
  have hacc : Hc.get? s₂.heap.objs.size = some (lst []) := kc _ _ (kC _ _ (by rw [← hHD]; exact Heap.get?_push_size _ rfl))
  have hnsC : Hc.Ns HD.objs.size (fun _ => none) := by
    have : HC.Ns HD.objs.size (fun _ => none) := by rw [← hHC]; exact Heap.Ns.new ..
    exact this.keeps kc
  have hcell : Hc.IsCell (HD.objs.size + 1) none := ⟨_, by rw [← sC, ← hHc]; exact Heap.get?_push_size _ rfl, rfl⟩
  generalize hc9 : HD.objs.size + 1 = c at hcell ⊢
  generalize hC9 : HD.objs.size = C at hnsC hc9 sC sD ⊢
  generalize hD9 : s₂.heap.objs.size = D at hacc sD hI2 ⊢
  generalize hI9 : s₁.heap.objs.size = I at *
  have d1 : I < D := by omega
  have d2 : D < C := by omega
  have d3 : C < c := by omega
  have nD : ∀ p ∈ news, p.1 < I := hN1
  have d4 : @LT.lt Nat _ I C := by omega
  have d5 : @LT.lt Nat _ I c := by omega
  have d6 : @LT.lt Nat _ D c := by omega
  have d7 : @LT.lt Nat _ L D := by omega
  have d8 : @LT.lt Nat _ L C := by omega
  have d9 : @LT.lt Nat _ L c := by omega
  have loop : ∀ s₃ : Shared, s₃ = { s₂ with heap := Hc } →
      codeAny (model prog w) A (.compLoop (.ListComp elt [⟨.Name x px, iter, ifs, 0⟩] scope pos) 0 (.ref I) (.ref D) (compEnvC scope ((x, c) :: cl) C env))
        (compPost (model prog w) A E none Q (.ref D) C) s₃ := by
    rintro s₃ rfl
    refine codeAny_compLoop_tests
      (fun k s' => ∃ h' tk i ys v, s' = { s₂ with heap := h', toks := tk } ∧ i ≤ n ∧ k = n + 1 - i ∧ ys.length ≤ i ∧ IsRangeIter h' I (a + (i : Nat) * 1) ((n : Int) - (i : Nat)) 1 ∧ Fr h₀ L h' m ∧ h'.Ns C (fun _ => none) ∧ h'.IsCell c v ∧ News h₀ L h' ((D, lst ys) :: news) ∧ J i ys) ?_ (n + 1)
      ⟨Hc, _, 0, [], none, rfl, Nat.zero_le _, rfl, Nat.le_refl _, ?_, F2.keeps old, hnsC, hcell, fun p hp => ?_, hJ0⟩
    · rintro k s' ⟨h', tk, i, ys, cv, rfl, hi, rfl, hyl, hst', F', hn', hc', N', hJ⟩
      have W := range_walks (prog := prog) (w := w) (A := A) (I := I) hh a n
      by_cases hlt : i < n
      · refine W.item i _ _ _ hlt hst' fun v h₂ tk₂ hPv hst₂ hk₂ => ?_
        obtain ⟨t', rfl⟩ := hPv
        have hk₂' : ∀ b o, b ≠ I → h'.get? b = some o → h₂.get? b = some o := fun b o nb e => hk₂ b o (by simpa using nb) e
        have hc₂ : h₂.IsCell c cv := by obtain ⟨o, e, r⟩ := hc'; exact ⟨o, hk₂' _ _ (by walk_at "NE") e, r⟩
        refine wpAny_assign_Name (wpAny_storeName_cell hkind (hkx c C) (hlx c) hc₂ fun h₃ hc₃ hs₃ => ?_)
        have hst₃ : IsRangeIter h₃ I (a + ((i + 1 : Nat) : Nat) * 1) ((n : Int) - ((i + 1 : Nat) : Nat)) 1 := hs₃.extBut _ _ (by walk_at "NE") hst₂
        obtain ⟨oc, hoc, hod⟩ := hc₃
        have hn₃ : h₃.Ns C (fun _ => none) := (hn'.at' fun o e => hk₂' _ o (by walk_at "NE") e).sameBut hs₃ (by walk_at "NE")
        obtain ⟨oC, heC, hoC⟩ := ns_obj hn₃
        have F₃ : Fr h₀ L h₃ m := (fr_but F' hk₂ hIL hI0).change hs₃ (by walk_at "NE") (fresh₀ _ (by omega))
        have N₃ : News h₀ L h₃ ((I, _) :: (C, oC) :: (c, oc) :: (D, lst ys) :: news) := fun p hp => by
          rcases List.mem_cons.mp hp with rfl | hp
          · exact ⟨hst₃, Ne.symm hIL, hI0⟩
          · rcases List.mem_cons.mp hp with rfl | hp
            · exact ⟨heC, (by walk_at "NE"), fresh₀ _ (by omega)⟩
            · rcases List.mem_cons.mp hp with rfl | hp
              · exact ⟨hoc, (by walk_at "NE"), fresh₀ _ (by omega)⟩
              · have z := N' p hp
                rcases List.mem_cons.mp hp with rfl | hp
                · exact ⟨hs₃.extBut _ _ (by walk_at "NE") (hk₂' _ _ (by walk_at "NE") z.1), z.2⟩
                · have hp1 : @LT.lt Nat _ p.1 I := nD p hp
                  have hp2 : @LT.lt Nat _ p.1 c := Nat.lt_trans hp1 d5
                  have hp3 : @LT.lt Nat _ p.1 C := Nat.lt_trans hp1 d4
                  exact ⟨hs₃.extBut _ _ (by walk_at "NE") (hk₂' _ _ (Nat.ne_of_lt hp1) z.1), z.2⟩
        refine wpAny_mono (R1 i ys t' I _ C oC c oc D h₃ _ _ hlt hJ hod F₃ N₃ ⟨(by walk_at "NE"), (by walk_at "NE"), (by walk_at "NE"), (by walk_at "NE"), (by walk_at "NE"), (by walk_at "NE")⟩
          nD (fun q hq => Nat.lt_trans (nD q hq) (by omega)) (fun q hq => Nat.lt_trans (nD q hq) (by omega)) (fun q hq => Nat.lt_trans (nD q hq) d1)) (fun ok s₄ h₄ => ?_) fun _ _ e => e
        cases ok with
        | true =>
          simp only [if_true] at h₄ ⊢
          refine wpAny_mono h₄ (fun y s₅ h₅ => ?_) fun _ _ e => e
          obtain ⟨h₄, tk₄, rfl, F₄, N₄, hJ₄⟩ := h₅
          have zI := (N₄ (I, _) (.head _)).1
          have zC := (N₄ (C, oC) (.tail _ (.head _))).1
          have zc := (N₄ (c, oc) (.tail _ (.tail _ (.head _)))).1
          have zD := (N₄ (D, lst ys) (.tail _ (.tail _ (.tail _ (.head _))))).1
          refine append_at (hsz := by show ys.toArray.size ≤ sizeLine; rw [List.size_toArray]; exact Nat.le_trans (Nat.le_trans hyl hi) hsz) zD fun h₅ hs₅ hD₅ => ?_
          refine ⟨n + 1 - (i + 1), by omega, h₅, tk₄, i + 1, ys ++ [y], _, rfl, hlt, rfl, by rw [List.length_append, List.length_singleton]; exact Nat.succ_le_succ hyl, hs₅.extBut _ _ (Nat.ne_of_lt d1) zI, F₄.change hs₅ (by walk_at "NE") (fresh₀ _ (by omega)),
            (hoC.ns zC).sameBut hs₅ (Nat.ne_of_gt d2), ⟨oc, hs₅.extBut _ _ (by walk_at "NE") zc, hod⟩, fun p hp => ?_, hJ₄⟩
          rcases List.mem_cons.mp hp with rfl | hp
          · exact ⟨hD₅.trans (congrArg some (lst_snoc ys y)), (by walk_at "NE"), fresh₀ _ (by omega)⟩
          · have z := N₄ p (.tail _ (.tail _ (.tail _ (.tail _ hp))))
            exact ⟨hs₅.extBut _ _ (Nat.ne_of_lt (Nat.lt_trans (nD p hp) d1)) z.1, z.2⟩
        | false =>
          simp only [Bool.false_eq_true, if_false] at h₄ ⊢
          obtain ⟨h₅, tk₄, rfl, F₄, N₄, hJ₄⟩ := h₄
          have zI := (N₄ (I, _) (.head _)).1
          have zC := (N₄ (C, oC) (.tail _ (.head _))).1
          have zc := (N₄ (c, oc) (.tail _ (.tail _ (.head _)))).1
          exact ⟨n + 1 - (i + 1), by omega, h₅, tk₄, i + 1, ys, _, rfl, hlt, rfl, Nat.le_succ_of_le hyl, zI, F₄, hoC.ns zC, ⟨oc, zc, hod⟩, fun p hp => N₄ p (.tail _ (.tail _ (.tail _ hp))), hJ₄⟩
      · obtain rfl : i = n := Nat.le_antisymm hi (Nat.not_lt.mp hlt)
        refine W.done _ _ _ hst' fun h₂ tk₂ hk₂ => ?_
        have hk₂' : ∀ b o, b ≠ I → h'.get? b = some o → h₂.get? b = some o := fun b o nb e => hk₂ b o (by simpa using nb) e
        have F₂ := fr_but F' hk₂ hIL hI0
        refine ⟨_, hn'.at' fun o e => hk₂' _ o (by walk_at "NE") e, fun h'' hs'' => ?_⟩
        refine R2 D h'' tk₂ ys hJ (F₂.change hs'' (by walk_at "NE") (fresh₀ _ (by omega))) (fun p hp => ?_) (fun q hq => Nat.lt_trans (nD q hq) d1)
        have z := N' p hp
        rcases List.mem_cons.mp hp with rfl | hp
        · exact ⟨hs''.extBut _ _ (Nat.ne_of_lt d2) (hk₂' _ _ (Nat.ne_of_gt d1) z.1), z.2⟩
        · have hp1 : @LT.lt Nat _ p.1 I := nD p hp
          have hp2 : @LT.lt Nat _ p.1 c := Nat.lt_trans hp1 d5
          have hp3 : @LT.lt Nat _ p.1 C := Nat.lt_trans hp1 d4
          exact ⟨hs''.extBut _ _ (by walk_at "NE") (hk₂' _ _ (Nat.ne_of_lt hp1) z.1), z.2⟩
    · exact old _ _ hst
    · rcases List.mem_cons.mp hp with rfl | hp
      · exact ⟨hacc, (by walk_at "NE"), fresh₀ _ (by omega)⟩
      · exact ⟨old _ _ (N2 p hp).1, (N2 p hp).2⟩
  exact codeAny_compStart_list (loop _ rfl) ((range_walks (prog := prog) (w := w) (A := A) (I := I) hh a n).self 0 _ _ _ (old _ _ hst) (loop _ rfl))
end
end Mine
end -- CompCell

section -- TailLaw
open PySem PySem.Spec PySem.Calls PySem.W PyProof.Rows
set_option maxRecDepth 100000
namespace Mine
def lawDef : Stmt := first0 (prog0.main.body.drop 12)
abbrev lawEnv (L fa : Addr) (cd : Value) : Env := envOfC (Str.ofString "law") (defScope lawDef) L fa cd
def TimesOk (w : World) (p : Program) (loose : List Str) (mean : ExcName → Option Value) (mg mb : Str → Option Value) : Prop :=
  ∀ (x y : Int) (t1 t2 : Tok), 0 ≤ x → x < 8 → 0 ≤ y → y < 8 → Call w p loose mean mg mb 58 [.int x t1, .int y t2] 14 (fun h => Tab 16 pos1 qual1 h ∧ Tab 23 pos2 qual2 h) (fun _ _ v => ∃ t, v = .int (times x y) t)
/-- over two figures from one to seven -/
theorem over49 {P : Int → Int → Prop} [∀ x y, Decidable (P x y)] (h : ((List.range 7).all fun i => (List.range 7).all fun j => decide (P ((i : Int) + 1) ((j : Int) + 1))) = true) {x y : Int} (h0 : 1 ≤ x) (h1 : x ≤ 7) (h2 : 1 ≤ y) (h3 : y ≤ 7) : P x y := by
  have k := of_decide_eq_true (List.all_eq_true.mp (List.all_eq_true.mp h (x - 1).toNat (List.mem_range.mpr (by omega))) (y - 1).toNat (List.mem_range.mpr (by omega)))
  have e1 : (((x - 1).toNat : Nat) : Int) + 1 = x := by omega
  have e2 : (((y - 1).toNat : Nat) : Int) + 1 = y := by omega
  rwa [e1, e2] at k
theorem over64 {P : Int → Int → Prop} [∀ x y, Decidable (P x y)] (h : ((List.range 8).all fun i => (List.range 8).all fun j => decide (P (i : Int) (j : Int))) = true) {x y : Int} (h0 : 0 ≤ x) (h1 : x < 8) (h2 : 0 ≤ y) (h3 : y < 8) : P x y := by
  have k := of_decide_eq_true (List.all_eq_true.mp (List.all_eq_true.mp h x.toNat (List.mem_range.mpr (by omega))) y.toNat (List.mem_range.mpr (by omega)))
  have e1 : ((x.toNat : Nat) : Int) = x := by omega
  have e2 : ((y.toNat : Nat) : Int) = y := by omega
  rwa [e1, e2] at k
theorem times_small {x y : Int} (h0 : 0 ≤ x) (h1 : x < 8) (h2 : 0 ≤ y) (h3 : y < 8) : 0 ≤ times x y ∧ times x y < 32 := over64 (P := fun x y => 0 ≤ times x y ∧ times x y < 32) (by decide +kernel) h0 h1 h2 h3
theorem times_comm {x y : Int} (h0 : 1 ≤ x) (h1 : x ≤ 7) (h2 : 1 ≤ y) (h3 : y ≤ 7) : times x y = times y x := over49 (P := fun x y => times x y = times y x) (by decide +kernel) h0 h1 h2 h3
theorem times_put {x y : Int} (h0 : 1 ≤ x) (h1 : x ≤ 7) (h2 : 1 ≤ y) (h3 : y ≤ 7) : times x (put y 5) = put (times x y) (times x 5) := over49 (P := fun x y => times x (put y 5) = put (times x y) (times x 5)) (by decide +kernel) h0 h1 h2 h3
theorem put_seven {y : Int} (h2 : 1 ≤ y) (h3 : y ≤ 7) : 0 ≤ put y 5 ∧ put y 5 < 8 := over49 (P := fun _ y => 0 ≤ put y 5 ∧ put y 5 < 8) (by decide +kernel) h2 h3 h2 h3
theorem over7 {P : Int → Prop} [∀ x, Decidable (P x)] (h : ((List.range 7).all fun i => decide (P ((i : Int) + 1))) = true) {x : Int} (h0 : 1 ≤ x) (h1 : x ≤ 7) : P x := by
  have k := of_decide_eq_true (List.all_eq_true.mp h (x - 1).toNat (List.mem_range.mpr (by omega)))
  have e1 : (((x - 1).toNat : Nat) : Int) + 1 = x := by omega
  rwa [e1] at k
/-- the parts so far, multiplied -/
def TInv (pre : List Int) (made : Int) : Prop := made = pre.foldl times 1
theorem tinv_start : TInv [] 1 := rfl
theorem tinv_step {pre : List Int} {made k : Int} (h : TInv pre made) : TInv (pre ++ [k]) (times made k) := by
  unfold TInv at *
  rw [List.foldl_append, List.foldl_cons, List.foldl_nil, h]
abbrev partsGo (z : Int) : Prop := ∀ i, i < (parts z).length → 0 ≤ ((parts z).take i).foldl times 1 ∧ ((parts z).take i).foldl times 1 < 8 ∧ 0 ≤ (parts z).getD i 0 ∧ (parts z).getD i 0 < 8
theorem tinv_bnd {z : Int} {pre post : List Int} {n made : Int} (h : TInv pre made) (e : parts z = pre ++ n :: post) (h0 : 1 ≤ z) (h1 : z ≤ 7) : 0 ≤ made ∧ made < 8 ∧ 0 ≤ n ∧ n < 8 := by
  have k : partsGo z := over7 (P := partsGo) (by decide +kernel) h0 h1
  have k := k pre.length (by rw [e, List.length_append, List.length_cons]; omega)
  rw [e] at k
  simp only [List.take_left', Nat.sub_self, List.getD_eq_getElem?_getD, List.getElem?_append_right (Nat.le_refl _), List.getElem?_cons_zero, Option.getD_some] at k
  unfold TInv at h
  rw [h]
  exact k
theorem tinv_end {z made : Int} (h : TInv (parts z) made) (h0 : 1 ≤ z) (h1 : z ≤ 7) : made = z := h.trans (over7 (P := fun z => (parts z).foldl times 1 = z) (by decide +kernel) h0 h1)
theorem parts_len {z : Int} (h0 : 1 ≤ z) (h1 : z ≤ 7) : (parts z).length ≤ 2 := over7 (P := fun z => (parts z).length ≤ 2) (by decide +kernel) h0 h1
theorem bisv_lo {z : Int} : 0 ≤ bisv z := by unfold bisv; split <;> (try split) <;> decide
theorem bisv_hi {z : Int} : bisv z ≤ 2 := by unfold bisv; split <;> (try split) <;> decide
/-- a row stands where it was found just where it is a row that no shorter make -/
theorem place_law {z : Int} (h0 : 1 ≤ z) (h1 : z ≤ 7) : rows0.getD (bisv z).toNat 0 = z ↔ parts z = [z] := over7 (P := fun z => rows0.getD (bisv z).toNat 0 = z ↔ parts z = [z]) (by decide +kernel) h0 h1
theorem rows_are {t1 t2 t3 t4 t5 : Tok} : IntsAre [.int 2 t1, .int 3 t2, .int 7 t3, .int 11 t4, .int 13 t5] rows0 := .cons _ _ (.cons _ _ (.cons _ _ (.cons _ _ (.cons _ _ .nil))))
theorem itemRows {prog : Program} {w : World} {A : Around} {E : Value → Shared → Prop} {s : Shared} {value slice : PySem.Expr} {l : Addr} {t1 t2 t3 t4 t5 : Tok} {z : Int} {u : Tok} {Q : Value → Shared → Prop}
    (hl : s.heap.IsList l (List.toArray [.int 2 t1, .int 3 t2, .int 7 t3, .int 11 t4, .int 13 t5])) (h : ∀ t, Q (.int (rows0.getD (bisv z).toNat 0) t) s)
    (hs : subscripted slice false (.ref l) (.int (bisv z) u) = operate [.ref l, .int (bisv z) u] (getItem (.ref l) (.int (bisv z) u)) := by with_unfolding_all rfl) :
    wpAny (model prog w) A (subscriptTail value slice (.ref l) (.int (bisv z) u)) Q E s :=
  itemInts hl rows_are bisv_lo (by have := bisv_hi (z := z); show _ < (5 : Int); omega) (by have := bisv_hi (z := z); omega) h hs
section
variable {w : World} {p : Program} {loose : List Str} {mean : ExcName → Option Value} {mg mb : Str → Option Value}
  {dp un : Nat} {gd : Option (List Code)} {cn : Str} {cs : Scope} {a : Addr} {ccd : Value} {cl : List (Str × Addr)} {outer : List Env} {A₀ : Around} {base h₀ : Heap} {L : Addr} {m : Str → Option Value} {news : List (Addr × Obj)} {s : Shared} {Q E : Value → Shared → Prop}
theorem use_times (C : TimesOk w p loose mean mg mb) {x y : Int} {t1 t2 : Tok} (B : Below A₀ base outer h₀) (F : Fr h₀ L s.heap m) (X : (Mine.hd.heap_39 w.params).In h₀) (N : News h₀ L s.heap news) (T : Top p loose mean mg mb h₀) (hk : cs.kind = .function)
    (hd : dp + 14 < recursionLimit) (hu : un + 8 * 14 < cLine) (hpre1 : Tab 16 pos1 qual1 s.heap) (hpre2 : Tab 23 pos2 qual2 s.heap) (h0 : 0 ≤ x) (h1 : x < 8) (h2 : 0 ≤ y) (h3 : y < 8)
    (ret : ∀ t h' tk', Fr h₀ L h' m → News h₀ L h' news → 0 ≤ times x y → times x y < 32 → Q (.int (times x y) t) { s with heap := h', toks := tk' }) :
    wpAny (model prog0 w) (ktrTop dp un gd cn cs L a ccd cl outer) (call (.ref 58) [.int x t1, .int y t2]) Q E s := by
  refine C x y t1 t2 h0 h1 h2 h3 _ _ _ _ _ _ _ _ _ _ _ _ _ _ _ _ _ B F X T hk ⟨hpre1, hpre2⟩ hd hu fun v h' tk' k po => ?_
  obtain ⟨t, rfl⟩ := po
  exact ret t h' tk' (Fr.on F k) (News.on N k) (times_small h0 h1 h2 h3).1 (times_small h0 h1 h2 h3).2
theorem use_parts (C : PartsOk w p loose mean mg mb) {x : Int} {l : Addr} {t1 : Tok} {vs : List Value} (B : Below A₀ base outer h₀) (F : Fr h₀ L s.heap m) (X : (Mine.hd.heap_39 w.params).In h₀) (N : News h₀ L s.heap news) (T : Top p loose mean mg mb h₀) (hk : cs.kind = .function)
    (hd : dp + 16 < recursionLimit) (hu : un + 8 * 16 < cLine) (hpre1 : Tab 16 pos1 qual1 s.heap) (hpre2 : Tab 23 pos2 qual2 s.heap) (hl : s.heap.IsList l vs.toArray) (hi : IntsAre vs rows0) (h0 : 1 ≤ x) (h1 : x ≤ 7)
    (ret : ∀ l' n us h' tk', Fr h₀ L h' m → News h₀ L h' ((l', W.listOf (List.toArray us) n) :: news) → (∀ q ∈ news, q.1 < l') → IntsAre us (parts x) → Q (.ref l') { s with heap := h', toks := tk' }) :
    wpAny (model prog0 w) (ktrTop dp un gd cn cs L a ccd cl outer) (call (.ref 77) [.int x t1, .ref l]) Q E s := by
  refine C x l t1 vs h0 h1 hi _ _ _ _ _ _ _ _ _ _ _ _ _ _ _ _ _ B F X T hk ⟨hpre1, hpre2, hl⟩ hd hu fun v h' tk' k po => ?_
  obtain ⟨l', n, us, rfl, hl', ho, hi'⟩ := po
  exact ret l' n us h' tk' (Fr.on F k) (News.add F N k hl' ho) (News.under N hl') hi'
end
/-- what the law's frame holds from `both` on -/
abbrev tailM (x y : Int) (t1 t2 : Tok) (m0 : Str → Option Value) : Str → Option Value := fun z => if z = Str.ofString "one" then some (.int x t1) else if z = Str.ofString "other" then some (.int y t2) else m0 z
abbrev tailN (L la c1 c2 : Addr) (n : Nat) (r1 r2 r3 r4 r5 : Tok) (oO oP oK oA o1 o2 : Obj) : List (Addr × Obj) :=
  [(la, W.listOf (List.toArray [.int 2 r1, .int 3 r2, .int 7 r3, .int 11 r4, .int 13 r5]) n), (c1, o1), (c2, o2), (L + 1 + 1 + 1 + 1, oO), (L + 1 + 1 + 1, oP), (L + 1 + 1, oK), (L + 1, oA), (23, full2 c2), (16, full1 c1)]
theorem Fr.names {h₀ h : Heap} {L : Addr} {m : Str → Option Value} (ps : List (Str × Value)) (F : Fr h₀ L h m) (e : ∀ p ∈ ps, m p.1 = some p.2) : Fr h₀ L h (kstB m ps) := by
  have : kstB m ps = m := by
    funext z
    exact kstB_eq e fun _ => rfl
  rw [this]; exact F
end Mine
end -- TailLaw

section -- TailLaw2
open PySem PySem.Spec PySem.Calls PySem.W PyProof.Rows
set_option maxRecDepth 100000
namespace Mine
theorem place_no {z : Int} (h0 : 1 ≤ z) (h1 : z ≤ 7) (h : ((rows0.getD (bisv z).toNat 0 == z) != decide (parts z = [z])) = true) : False := by
  have k := over7 (P := fun z => ((rows0.getD (bisv z).toNat 0 == z) != decide (parts z = [z])) = false) (by decide +kernel) h0 h1
  rw [h] at k
  cases k
theorem divr_small {a b : Int} (ha0 : 0 ≤ a) (ha1 : a < 32) (hb0 : 1 ≤ b) (hb1 : b < 32) : 0 ≤ divr a b ∧ divr a b < 32 := by
  have key : ((List.range 32).all fun a => (List.range 31).all fun b => decide (0 ≤ divr (a : Int) ((b : Int) + 1)) && decide (divr (a : Int) ((b : Int) + 1) < 32)) = true := by decide +kernel
  obtain ⟨x, rfl⟩ : ∃ x : Nat, a = x := ⟨a.toNat, by omega⟩
  obtain ⟨y, rfl⟩ : ∃ y : Nat, b = (y : Int) + 1 := ⟨(b - 1).toNat, by omega⟩
  have k := List.all_eq_true.mp (List.all_eq_true.mp key x (List.mem_range.mpr (by omega))) y (List.mem_range.mpr (by omega))
  simp only [Bool.and_eq_true, decide_eq_true_eq] at k
  exact k
/-- the rest is shorter -/
theorem rest_short {x y : Int} {n1 n2 : Nat} (hx0 : 1 ≤ x) (hx1 : x ≤ 7) (hy0 : 1 ≤ y) (hy1 : y ≤ 7) (e1 : (bits (divr x y)).length = n1) (e2 : (bits y).length = n2) (hy : 1 < y) (h : (n2 : Int) ≤ n1) : False := by
  have k := over49 (P := fun x y => 1 < y → (bits (divr x y)).length < (bits y).length) (by decide +kernel) hx0 hx1 hy0 hy1 hy
  omega
/-- both, divided by one -/
theorem both_div {x y : Int} (hx0 : 1 ≤ x) (hx1 : x ≤ 7) (hy0 : 1 ≤ y) (hy1 : y ≤ 7) : divq (times x y) x = y ∧ divr (times x y) x = 0 :=
  over49 (P := fun x y => divq (times x y) x = y ∧ divr (times x y) x = 0) (by decide +kernel) hx0 hx1 hy0 hy1
theorem tail3_no {a b x y : Int} (h : a = x ∧ b = y) (e : (a == x && b == y) = false) : False := by
  rw [h.1, h.2] at e
  simp at e
/-- Euclid's turns -/
def gstep (p : Int × Int) : Int × Int := if p.2 ≠ 0 then (p.2, divr p.1 p.2) else p
def gsteps (x y : Int) : Nat → Int × Int
  | 0 => (x, y)
  | n + 1 => gstep (gsteps x y n)
def gcdv (x y : Int) : Int := (gsteps x y 9).1
def GInv (x y : Int) (pre : List Int) (l r : Int) : Prop := gsteps x y pre.length = (l, r) ∧ 0 ≤ l ∧ l < 32 ∧ 0 ≤ r ∧ r < 32
section
variable {x y l r k : Int} {pre : List Int}
theorem GInv.l0 (h : GInv x y pre l r) : 0 ≤ l := h.2.1
theorem GInv.l1 (h : GInv x y pre l r) : l < 32 := h.2.2.1
theorem GInv.r0 (h : GInv x y pre l r) (hne : r ≠ 0) : 1 ≤ r := by have := h.2.2.2.1; omega
theorem GInv.r1 (h : GInv x y pre l r) : r < 32 := h.2.2.2.2
theorem ginv_start (hx0 : 1 ≤ x) (hx1 : x ≤ 7) (hy0 : 1 ≤ y) (hy1 : y ≤ 7) : GInv x y [] x y := ⟨rfl, by omega, by omega, by omega, by omega⟩
theorem ginv_turn (h : GInv x y pre l r) (hne : r ≠ 0) : GInv x y (pre ++ [k]) r (divr l r) := by
  have d := divr_small h.l0 h.l1 (h.r0 hne) h.r1
  have p := h.r0 hne
  refine ⟨?_, by omega, h.r1, d.1, d.2⟩
  rw [List.length_append, List.length_singleton, gsteps, h.1, gstep, if_pos hne]
theorem ginv_stay (h : GInv x y pre l r) (he : r = 0) : GInv x y (pre ++ [k]) l r := by
  refine ⟨?_, h.2⟩
  rw [List.length_append, List.length_singleton, gsteps, h.1, gstep, if_neg (fun c => c he)]
theorem ginv_end (h : GInv x y pre l r) (e : pre.length = 9) : l = gcdv x y := by
  have := h.1
  rw [e] at this
  unfold gcdv
  rw [this]
theorem gcdv_bnd (hx0 : 1 ≤ x) (hx1 : x ≤ 7) (hy0 : 1 ≤ y) (hy1 : y ≤ 7) : 1 ≤ gcdv x y ∧ gcdv x y ≤ 7 := over49 (P := fun x y => 1 ≤ gcdv x y ∧ gcdv x y ≤ 7) (by decide +kernel) hx0 hx1 hy0 hy1
end
end Mine
end -- TailLaw2

section -- CompEnum
open PySem PySem.Spec PySem.Calls PySem.W PyProof.Rows
open PyProof.Rows.LCg
set_option maxRecDepth 100000
namespace Mine
/-- the turns that are left of a comprehension over enumerate(list) with a pair as its target and one test -/
def EnRest (prog : Program) (w : World) (A : Around) (h₀ : Heap) (L : Addr) (m : Str → Option Value) (env : Env) (c elt : PySem.Expr) (a b : Str) (scope : Scope) (cl : List (Str × Addr)) (s : Shared) (news : List (Addr × Obj))
    (Fin : List Value → Prop) : List Value → Nat → List Value → Prop
  | [], _, ys => Fin ys
  | v :: r, i, ys => ∀ t e oe I oI C oC D m₂ h tk (E' : Value → Shared → Prop), NsObj oC m₂ → m₂ a = some (.int (i : Int) t) → m₂ b = some v → Fr h₀ L h m → News h₀ L h ((e, oe) :: (I, oI) :: (C, oC) :: (D, lst ys) :: news) →
    (@Ne Nat I e ∧ @Ne Nat I D ∧ @Ne Nat e D ∧ @Ne Nat C e ∧ @Ne Nat C I ∧ @Ne Nat C D) → (∀ q ∈ news, q.1 < I) → (∀ q ∈ news, q.1 < e) → (∀ q ∈ news, q.1 < D) → (∀ q ∈ news, q.1 < C) →
      wpAny (model prog w) A (isTrue c (compEnvC scope cl C env) (eval c (compEnvC scope cl C env))) (fun ok s₃ => if ok = true then
        wpAny (model prog w) A (eval elt (compEnvC scope cl C env)) (EndC h₀ L m { s with heap := h, toks := tk } e oe I oI C oC D (lst ys) news (fun y => EnRest prog w A h₀ L m env c elt a b scope cl s news Fin r (i + 1) (ys ++ [y]))) E' s₃
        else EndC h₀ L m { s with heap := h, toks := tk } e oe I oI C oC D (lst ys) news (fun _ => EnRest prog w A h₀ L m env c elt a b scope cl s news Fin r (i + 1) ys) .none s₃) E' { s with heap := h, toks := tk }
def EnFin (h₀ : Heap) (L : Addr) (m : Str → Option Value) (s : Shared) (y : Str) (Q : Flow → Shared → Prop) (news : List (Addr × Obj)) (ys : List Value) : Prop :=
  ∀ D h tk, Fr h₀ L h (fun z => if z = y then some (.ref D) else m z) → News h₀ L h ((D, lst ys) :: news) → (∀ q ∈ news, q.1 < D) → Q .next { s with heap := h, toks := tk }
section
variable {prog : Program} {w : World} {A : Around} {E : Value → Shared → Prop} {s : Shared} {h₀ : Heap} {L : Addr} {m : Str → Option Value} {env : Env}
theorem EnRest.nil {c elt : PySem.Expr} {a b : Str} {scope : Scope} {cl : List (Str × Addr)} {news : List (Addr × Obj)} {Fin : List Value → Prop} {i : Nat} {ys : List Value} (h : Fin ys) : EnRest prog w A h₀ L m env c elt a b scope cl s news Fin [] i ys := h
theorem EnRest.cons {c elt : PySem.Expr} {a b : Str} {scope : Scope} {cl : List (Str × Addr)} {news : List (Addr × Obj)} {Fin : List Value → Prop} {i : Nat} {v : Value} {r ys : List Value}
    (h : ∀ t e oe I oI C oC D m₂ h tk (E' : Value → Shared → Prop), NsObj oC m₂ → m₂ a = some (.int (i : Int) t) → m₂ b = some v → Fr h₀ L h m → News h₀ L h ((e, oe) :: (I, oI) :: (C, oC) :: (D, lst ys) :: news) →
    (@Ne Nat I e ∧ @Ne Nat I D ∧ @Ne Nat e D ∧ @Ne Nat C e ∧ @Ne Nat C I ∧ @Ne Nat C D) → (∀ q ∈ news, q.1 < I) → (∀ q ∈ news, q.1 < e) → (∀ q ∈ news, q.1 < D) → (∀ q ∈ news, q.1 < C) →
      wpAny (model prog w) A (isTrue c (compEnvC scope cl C env) (eval c (compEnvC scope cl C env))) (fun ok s₃ => if ok = true then
        wpAny (model prog w) A (eval elt (compEnvC scope cl C env)) (EndC h₀ L m { s with heap := h, toks := tk } e oe I oI C oC D (lst ys) news (fun y => EnRest prog w A h₀ L m env c elt a b scope cl s news Fin r (i + 1) (ys ++ [y]))) E' s₃
        else EndC h₀ L m { s with heap := h, toks := tk } e oe I oI C oC D (lst ys) news (fun _ => EnRest prog w A h₀ L m env c elt a b scope cl s news Fin r (i + 1) ys) .none s₃) E' { s with heap := h, toks := tk }) :
    EnRest prog w A h₀ L m env c elt a b scope cl s news Fin (v :: r) i ys := h
def SrcE (prog : Program) (w : World) (A : Around) (h₀ : Heap) (L : Addr) (m : Str → Option Value) (env : Env) (c elt : PySem.Expr) (a b : Str) (scope : Scope) (cl : List (Str × Addr)) (y : Str) (Q : Flow → Shared → Prop) (xv : Value) (s₁ : Shared) : Prop :=
  ∃ e it l lo vs n news, xv = .ref e ∧ A.handled = none ∧ Fr h₀ L s₁.heap m ∧ News h₀ L s₁.heap news ∧ (l, lo) ∈ news ∧ lo.cls = .type "list" ∧ lo.data = .seq (List.toArray vs) n ∧ vs.length ≤ sizeLine ∧ IsEnum s₁.heap e it 0 .none ∧ s₁.heap.IsListIter it l 0 ∧
    @LT.lt Nat _ it e ∧ (∀ p ∈ news, p.1 < it) ∧ @LT.lt Nat _ L it ∧ h₀.get? it = none ∧ h₀.get? e = none ∧
    EnRest prog w A h₀ L m env c elt a b scope cl s₁ news (EnFin h₀ L m s₁ y Q news) vs 0 []
theorem enum_src {c elt : PySem.Expr} {a b : Str} {scope : Scope} {cl : List (Str × Addr)} {y : Str} {Q : Flow → Shared → Prop} {l : Addr} {lo : Obj} {vs : List Value} {n : Nat} {news : List (Addr × Obj)}
    (hh : A.handled = none) (F : Fr h₀ L s.heap m) (N : News h₀ L s.heap news) (hm : (l, lo) ∈ news) (hc : lo.cls = .type "list") (hd : lo.data = .seq (List.toArray vs) n) (hsz : vs.length ≤ sizeLine)
    (h : ∀ g, EnRest prog w A h₀ L m env c elt a b scope cl { s with heap := g } news (EnFin h₀ L m { s with heap := g } y Q news) vs 0 []) :
    wpAny (model prog w) A (call (.type "enumerate") [.ref l]) (SrcE prog w A h₀ L m env c elt a b scope cl y Q) E s := by
  have hax := N _ hm
  refine call_enumerate_list ⟨lo, hax.1, hc, n, hd⟩ fun h' hE hI hsz' hk => ?_
  have old : ∀ k, s.heap.objs.size ≤ k → h₀.get? k = none := fun k hk' => Heap.get?_none_of_le (Nat.le_trans (Nat.le_trans F.above (Nat.le_of_lt F.ns.lt)) hk')
  exact ⟨_, s.heap.objs.size, l, lo, vs, n, news, rfl, hh, F.keeps hk, N.grown hk, hm, hc, hd, hsz, hE, hI, Nat.lt_succ_self _, fun p hp => Heap.lt_size (N p hp).1, F.ns.lt, old _ (Nat.le_refl _), old _ (Nat.le_succ _), h h'⟩
theorem assign_enum {elt iter c : PySem.Expr} {a b y : Str} {pa pb tp py : Pos} {kk : Nat} {scope : Scope} {cl : List (Str × Addr)} {pos spos : Pos} {Q : Flow → Shared → Prop} (F₀ : Fr h₀ L s.heap m) (hLe : env.locals = L)
    (hsw : swapsWith (.ListComp elt [⟨.Tuple [.Name a pa, .Name b pb] kk tp, iter, [c], 0⟩] scope pos) (some (.Name y py)) spos.line env = pure true)
    (hclos : closureFor scope env = pure cl) (hcell : ∀ z ∈ scope.names, z.2 ≠ .cell) (hkind : scope.kind = .function)
    (hnames : ∀ z ∈ scope.names, z.2 = .local → scope.names.lookup z.1 = some .local) (hxa : scope.names.lookup a = some .local) (hxb : scope.names.lookup b = some .local) (hab : ¬ a = b)
    (hy : env.kindOf y = some .local) (hp : (env.scope.kind == .class || (env.scope.kind == .module && env.locals != env.globals)) = false)
    (h : wpAny (model prog w) A (eval iter env) (SrcE prog w A h₀ L m env c elt a b scope cl y Q) E s)
    (hs : ∀ x, foldedSetIterable iter env x = pure x := by intro _; rfl) :
    wpAny (model prog w) A (exec (.Assign [.Name y py] (.ListComp elt [⟨.Tuple [.Name a pa, .Name b pb] kk tp, iter, [c], 0⟩] scope pos) spos) env) Q E s := by
  k_with_none
  k_with "NE" => (first | exact Nat.ne_of_lt (by with_reducible assumption) | exact Nat.ne_of_gt (by with_reducible assumption) | exact ne9 (by omega))
  subst hLe
  rw [exec_Assign_Name_used _ _ _ _ hsw]
  refine wpAny_bind (wpAny_standAt (wpAny_bind ?_))
  show wpAny _ A (do let _ ← comprehension (.ListComp elt [⟨.Tuple [.Name a pa, .Name b pb] kk tp, iter, [c], 0⟩] scope pos) scope env _ (newList []) false (eval iter env) (some (assign (.Name y py) env))) _ _ s
  refine wpAny_bind (wpAny_mono (wpAny_comprehension_free (use := some (assign (.Name y py) env)) (Q := fun _ s' => Q .next s') rfl hs hclos hkind hnames
    (wpAny_mono h (fun xv s₁ h₁ => ?_) fun _ _ e => e)) (fun _ s' hq => wpAny_pure (wpAny_pure hq)) fun _ _ e => e)
  obtain ⟨e, it, l, lo, vs, n, news, rfl, hh, F, N, hm, hc, hd, hsz, hE, hI, hie, hN, hLi, hit₀, he₀, R⟩ := h₁
  refine wpAny_pyIter_enum hE ?_
  have hlit : @LT.lt Nat _ l it := hN _ hm
  have hes : @LT.lt Nat _ e s₁.heap.objs.size := Heap.lt_size hE
  have hl : s₁.heap.IsList l vs.toArray := ⟨lo, (N _ hm).1, hc, n, hd⟩
  have W := (WalksT.enumerate (prog := prog) (w := w) hh e it l (by walk_at "NE") (by walk_at "NE") (by walk_at "NE") vs.toArray).toU
  have fresh₀ : ∀ k, s₁.heap.objs.size ≤ k → h₀.get? k = none := fun k hk => Heap.get?_none_of_le (Nat.le_trans (Nat.le_trans F.above (Nat.le_of_lt F.ns.lt)) hk)
  refine wpAny_newObj_type (wpAny_newFunctionEnv hcell (by intro y hy; simp at hy) (fun h₁ hns₁ hsb₁ => ?_) hkind)
  dsimp only at hns₁ hsb₁ ⊢
  generalize hH2 : s₁.heap.push { cls := .type "list", dict := none, data := .seq ([] : List Value).toArray } = H2 at hns₁ hsb₁ ⊢
  have hC : H2.objs.size = s₁.heap.objs.size + 1 := by rw [← hH2, Heap.size_push]
  have old : ∀ b o, s₁.heap.get? b = some o → h₁.get? b = some o := fun b o e => hsb₁.extBut b o (ne9 (by have h9 : @LT.lt Nat _ b s₁.heap.objs.size := Heap.lt_size e; omega)) (Heap.get?_push_of_some _ (hH2 ▸ Heap.get?_push_of_some _ e))
  have hacc : h₁.get? s₁.heap.objs.size = some (lst []) := hsb₁.extBut _ _ (by walk_at "NE") (Heap.get?_push_of_some _ (hH2 ▸ Heap.get?_push_size _ rfl))
  generalize hD9 : s₁.heap.objs.size = D at *
  generalize hC9 : H2.objs.size = C at *
  have hLt : @LT.lt Nat _ env.locals it := hLi
  have f1 : @LT.lt Nat _ it D := by omega
  have f2 : @LT.lt Nat _ it C := by omega
  have f3 : @LT.lt Nat _ e C := by omega
  have f4 : @LT.lt Nat _ D C := by omega
  have f5 : @LT.lt Nat _ env.locals e := by omega
  have f6 : @LT.lt Nat _ env.locals D := by omega
  have f7 : @LT.lt Nat _ env.locals C := by omega
  have f8 : @LT.lt Nat _ l e := by omega
  have hD₀ : h₀.get? D = none := fresh₀ _ (Nat.le_refl _)
  have hC₀ : h₀.get? C = none := fresh₀ _ (by rw [hC]; exact Nat.le_succ _)
  have hDL : D ≠ env.locals := (by walk_at "NE")
  have hCL : C ≠ env.locals := (by walk_at "NE")
  have nI : ∀ q ∈ news, @LT.lt Nat _ q.1 it := hN
  have nD : ∀ q ∈ news, @LT.lt Nat _ q.1 D := fun q hq => Nat.lt_trans (nI q hq) (by omega)
  have nC : ∀ q ∈ news, @LT.lt Nat _ q.1 C := fun q hq => Nat.lt_trans (nI q hq) (by omega)
  have ne : ∀ q ∈ news, @LT.lt Nat _ q.1 e := fun q hq => Nat.lt_trans (nI q hq) (by omega)
  have listOf : ∀ {h' : Heap} {ys : List Value}, News h₀ env.locals h' ((D, lst ys) :: news) → h'.IsList l vs.toArray := fun N' => ⟨lo, (N' _ (.tail _ hm)).1, hc, n, hd⟩
  obtain ⟨RR, hRR⟩ : ∃ RR : List Value → Nat → List Value → Prop, EnRest prog w A h₀ env.locals m env c elt a b scope cl s₁ news (EnFin h₀ env.locals m s₁ y Q news) = RR := ⟨_, rfl⟩
  have rc : ∀ v r i ys, RR (v :: r) i ys → ∀ t e oe I oI C oC D m₂ h tk (E' : Value → Shared → Prop), NsObj oC m₂ → m₂ a = some (.int (i : Int) t) → m₂ b = some v → Fr h₀ env.locals h m → News h₀ env.locals h ((e, oe) :: (I, oI) :: (C, oC) :: (D, lst ys) :: news) →
    (@Ne Nat I e ∧ @Ne Nat I D ∧ @Ne Nat e D ∧ @Ne Nat C e ∧ @Ne Nat C I ∧ @Ne Nat C D) → (∀ q ∈ news, q.1 < I) → (∀ q ∈ news, q.1 < e) → (∀ q ∈ news, q.1 < D) → (∀ q ∈ news, q.1 < C) →
      wpAny (model prog w) A (isTrue c (compEnvC scope cl C env) (eval c (compEnvC scope cl C env))) (fun ok s₃ => if ok = true then
        wpAny (model prog w) A (eval elt (compEnvC scope cl C env)) (EndC h₀ env.locals m { s₁ with heap := h, toks := tk } e oe I oI C oC D (lst ys) news (fun y => RR r (i + 1) (ys ++ [y]))) E' s₃
        else EndC h₀ env.locals m { s₁ with heap := h, toks := tk } e oe I oI C oC D (lst ys) news (fun _ => RR r (i + 1) ys) .none s₃) E' { s₁ with heap := h, toks := tk } := by subst hRR; exact fun _ _ _ _ h => h
  have rn : ∀ i ys, RR [] i ys → EnFin h₀ env.locals m s₁ y Q news ys := by subst hRR; exact fun _ _ h => h
  rw [hRR] at R
  clear hRR
  obtain ⟨PP, hPP⟩ : ∃ PP : Result → Shared → Prop, compPost (model prog w) A E (some (assign (.Name y py) env)) (fun _ s' => Q .next s') (.ref D) C = PP := ⟨_, rfl⟩
  have pp : ∀ s', wpAny (model prog w) A (assign (.Name y py) env (.ref D)) (fun _ s'' => ∃ m, s''.heap.Ns C m ∧ ∀ h', Heap.SameBut C s''.heap h' → Q .next { s'' with heap := h' }) E s' → PP (.ok .next) s' := by subst hPP; exact fun _ h => h
  show codeAny (model prog w) A _ (compPost (model prog w) A E (some (assign (.Name y py) env)) (fun _ s' => Q .next s') (.ref D) C) _
  rw [hPP]
  clear hPP
  have loop : ∀ s₃ : Shared, s₃ = { s₁ with heap := h₁, toks := s₁.toks + ([] : List (Str × Value)).length } →
      codeAny (model prog w) A (.compLoop (.ListComp elt [⟨.Tuple [.Name a pa, .Name b pb] kk tp, iter, [c], 0⟩] scope pos) 0 (.ref e) (.ref D) (compEnvC scope cl C env))
        PP s₃ := by
    rintro s₃ rfl
    refine kct_loop
      (fun k s' => ∃ h' tk i ys m', s' = { s₁ with heap := h', toks := tk } ∧ i ≤ vs.length ∧ k = vs.length + 1 - i ∧ ys.length ≤ i ∧ (∃ old, IsEnum h' e it i old) ∧ h'.IsListIter it l i ∧ Fr h₀ env.locals h' m ∧ h'.Ns C m' ∧
        News h₀ env.locals h' ((D, lst ys) :: news) ∧ RR (vs.drop i) i ys) ?_ (vs.length + 1)
      ⟨h₁, _, 0, [], _, rfl, Nat.zero_le _, rfl, Nat.le_refl _, ⟨_, old _ _ hE⟩, ?_, F.keeps old, hns₁, fun p hp => ?_, by rw [List.drop_zero]; exact R⟩
    · rintro k s' ⟨h', tk, i, ys, m', rfl, hi, rfl, hyl, hE', hI', F', hn', N', R'⟩
      by_cases hlt : i < vs.length
      · refine W.item i _ _ _ (by rw [List.size_toArray]; exact hlt) ⟨hE', hI', listOf N'⟩ fun T vals h₂ tk₂ hP hT hMd hk₂ => ?_
        have hTa := W.apart i T _ hMd
        refine W.go [.Name a pa, .Name b pb] kk tp i T _ _ _ hMd fun h₃ hst₃ hk₃ => ?_
        obtain ⟨t, x, hx, rfl⟩ := hP
        have hT₃ : h₃.IsTuple T #[.int (i : Int) t, x] := hT.at fun o e => hk₃ T o hTa e
        have up₃ : ∀ k o, k ≠ e → k ≠ it → h'.get? k = some o → h₃.get? k = some o := fun k o h1 h2 q => by
          have hw : k ∉ [e, it] := fun hm => by
            rcases List.mem_cons.mp hm with q | hm
            · exact h1 q
            · exact h2 (List.mem_singleton.mp hm)
          exact hk₃ k o hw (hk₂ k o hw q)
        refine kcp_assign (env := compEnvC scope cl C env) hh hT₃ (lookup_relabel_local hxa) (lookup_relabel_local hxb) (by simp [compEnvC, relabel, hkind]) (hn'.at' fun o q => up₃ C o (by walk_at "NE") (by walk_at "NE") q) fun h₄ tk₄ hn₄ hs₄ => ?_
        have up : ∀ k o, k ≠ e → k ≠ it → k ≠ C → h'.get? k = some o → h₄.get? k = some o := fun k o h1 h2 h3 q => hs₄ k o h3 (up₃ k o h1 h2 q)
        obtain ⟨⟨x', hE₃⟩, hI₃, _⟩ := hst₃
        have hE₄ : IsEnum h₄ e it ((i + 1 : Nat) : Int) x' := hs₄ e _ (show e ≠ C from by walk_at "NE") hE₃
        obtain ⟨oe, hoe, hoq⟩ : ∃ oe : Obj, h₄.get? e = some oe ∧ ∀ h : Heap, h.get? e = some oe → ∃ old, IsEnum h e it ((i + 1 : Nat) : Int) old := ⟨_, hE₄, fun _ q => ⟨_, q⟩⟩
        obtain ⟨oi, hoi, hoc, hod⟩ := hI₃
        have hI₄ : h₄.get? it = some oi := hs₄ it _ (show it ≠ C from by walk_at "NE") hoi
        obtain ⟨oC, heC, hoC⟩ := ns_obj hn₄
        have F₄ : Fr h₀ env.locals h₄ m := ⟨F'.ns.at' fun o q => up _ o (by walk_at "NE") (by walk_at "NE") (Ne.symm hCL) q, fun k o q => up k o (fun z => by rw [z, he₀] at q; cases q) (fun z => by rw [z, hit₀] at q; cases q) (fun z => by rw [z, hC₀] at q; cases q) (F'.keep k o q), F'.above⟩
        have hx' : vs[i]? = some x := by simpa using hx
        have hdrop : vs.drop i = x :: vs.drop (i + 1) := by
          rw [List.drop_eq_getElem_cons hlt]
          congr 1
          exact Option.some.inj ((List.getElem?_eq_getElem hlt).symm.trans hx')
        rw [hdrop] at R'
        have N₄ : News h₀ env.locals h₄ ((e, oe) :: (it, oi) :: (C, oC) :: (D, lst ys) :: news) := fun q hq => by
          rcases List.mem_cons.mp hq with rfl | hq
          · exact ⟨hoe, by walk_at "NE", he₀⟩
          · rcases List.mem_cons.mp hq with rfl | hq
            · exact ⟨hI₄, (by walk_at "NE"), hit₀⟩
            · rcases List.mem_cons.mp hq with rfl | hq
              · exact ⟨heC, hCL, hC₀⟩
              · have z := N' q hq
                rcases List.mem_cons.mp hq with rfl | hq
                · exact ⟨up _ _ (by walk_at "NE") (by walk_at "NE") (by walk_at "NE") z.1, z.2⟩
                · have hq1 := nI q hq
                  have hq2 := ne q hq
                  have hq3 := nC q hq
                  exact ⟨up _ _ (by walk_at "NE") (by walk_at "NE") (by walk_at "NE") z.1, z.2⟩
        have fin : ∀ (ys' : List Value) (h₅ : Heap) (tk₅ : Nat), ys'.length ≤ i + 1 → Fr h₀ env.locals h₅ m → News h₀ env.locals h₅ ((e, oe) :: (it, oi) :: (C, oC) :: (D, lst ys') :: news) →
            RR (vs.drop (i + 1)) (i + 1) ys' →
            ∃ q', q' < vs.length + 1 - i ∧ (∃ h' tk i ys m', ({ s₁ with heap := h₅, toks := tk₅ } : Shared) = { s₁ with heap := h', toks := tk } ∧ i ≤ vs.length ∧ q' = vs.length + 1 - i ∧ ys.length ≤ i ∧ (∃ old, IsEnum h' e it i old) ∧ h'.IsListIter it l i ∧ Fr h₀ env.locals h' m ∧ h'.Ns C m' ∧
              News h₀ env.locals h' ((D, lst ys) :: news) ∧ RR (vs.drop i) i ys) := by
          intro ys' h₅ tk₅ hl5 F₅ N₅ R₅
          have zE := (N₅ (e, oe) (.head _)).1
          have zI := (N₅ (it, oi) (.tail _ (.head _))).1
          have zC := (N₅ (C, oC) (.tail _ (.tail _ (.head _)))).1
          exact ⟨vs.length + 1 - (i + 1), by omega, h₅, tk₅, i + 1, ys', _, rfl, hlt, rfl, hl5, hoq _ zE, ⟨oi, zI, hoc, hod⟩, F₅, hoC.ns zC, fun q hq => N₅ q (.tail _ (.tail _ (.tail _ hq))), R₅⟩
        refine wpAny_mono (rc _ _ _ _ R' t e oe it oi C oC D _ h₄ _ _ hoC (by simp [hab]) (by simp) F₄ N₄ ⟨(by walk_at "NE"), (by walk_at "NE"), (by walk_at "NE"), (by walk_at "NE"), (by walk_at "NE"), (by walk_at "NE")⟩ nI ne nD nC) (fun okb s₅ h₅ => ?_) fun _ _ e => e
        cases okb with
        | false =>
          simp only [Bool.false_eq_true, if_false] at h₅ ⊢
          obtain ⟨h₅, tk₅, rfl, F₅, N₅, R₅⟩ := h₅
          exact fin ys h₅ tk₅ (Nat.le_succ_of_le hyl) F₅ N₅ R₅
        | true =>
          simp only [if_true] at h₅ ⊢
          refine wpAny_mono h₅ (fun z s₆ h₆ => ?_) fun _ _ e => e
          obtain ⟨h₅, tk₅, rfl, F₅, N₅, R₅⟩ := h₆
          have zE := (N₅ (e, oe) (.head _)).1
          have zI := (N₅ (it, oi) (.tail _ (.head _))).1
          have zC := (N₅ (C, oC) (.tail _ (.tail _ (.head _)))).1
          have zD := (N₅ (D, lst ys) (.tail _ (.tail _ (.tail _ (.head _))))).1
          refine append_at (hsz := by show ys.toArray.size ≤ sizeLine; rw [List.size_toArray]; exact Nat.le_trans hyl (Nat.le_trans hi hsz)) zD fun h₆ hs₆ hD₆ => ?_
          refine fin (ys ++ [z]) h₆ _ (by rw [List.length_append, List.length_singleton]; exact Nat.succ_le_succ hyl) (F₅.change hs₆ hDL hD₀) (fun q hq => ?_) R₅
          rcases List.mem_cons.mp hq with rfl | hq
          · exact ⟨hs₆.extBut _ _ (by walk_at "NE") zE, (by walk_at "NE"), he₀⟩
          · rcases List.mem_cons.mp hq with rfl | hq
            · exact ⟨hs₆.extBut _ _ (by walk_at "NE") zI, (by walk_at "NE"), hit₀⟩
            · rcases List.mem_cons.mp hq with rfl | hq
              · exact ⟨hs₆.extBut _ _ (by walk_at "NE") zC, hCL, hC₀⟩
              · rcases List.mem_cons.mp hq with rfl | hq
                · exact ⟨hD₆.trans (congrArg some (lst_snoc ys z)), hDL, hD₀⟩
                · have z' := N₅ q (.tail _ (.tail _ (.tail _ (.tail _ hq))))
                  exact ⟨hs₆.extBut _ _ (Nat.ne_of_lt (nD q hq)) z'.1, z'.2⟩
      · have hin : i = vs.length := Nat.le_antisymm hi (Nat.not_lt.mp hlt)
        subst hin
        have hnil : vs.drop vs.length = [] := List.drop_eq_nil_of_le (Nat.le_refl _)
        rw [hnil] at R'
        refine W.done _ _ _ (by rw [List.size_toArray]; exact ⟨hE', hI', listOf N'⟩) fun h₂ tk₂ hk₂ => ?_
        have up₂ : ∀ k o, k ≠ e → k ≠ it → h'.get? k = some o → h₂.get? k = some o := fun k o h1 h2 q => hk₂ k o (fun hm => by
          rcases List.mem_cons.mp hm with q | hm
          · exact h1 q
          · exact h2 (List.mem_singleton.mp hm)) q
        have F₂' : Fr h₀ env.locals h₂ m := ⟨F'.ns.at' fun o q => up₂ _ o (by walk_at "NE") (by walk_at "NE") q, fun k o q => up₂ k o (fun z => by rw [z, he₀] at q; cases q) (fun z => by rw [z, hit₀] at q; cases q) (F'.keep k o q), F'.above⟩
        have N₂' : News h₀ env.locals h₂ ((D, lst ys) :: news) := fun q hq => by
          have z := N' q hq
          rcases List.mem_cons.mp hq with rfl | hq
          · exact ⟨up₂ _ _ (by walk_at "NE") (by walk_at "NE") z.1, z.2⟩
          · have hq1 := nI q hq
            have hq2 := ne q hq
            have hq3 := nC q hq
            exact ⟨up₂ _ _ (by walk_at "NE") (by walk_at "NE") z.1, z.2⟩
        have hn : h₂.Ns C m' := hn'.at' fun o q => up₂ _ o (by walk_at "NE") (by walk_at "NE") q
        refine pp _ ?_
        refine wpAny_assign_Name (wpAny_storeName_local hy F₂'.ns (fun h₃ hn₃ hs₃ => ?_) hp)
        have hL₀ : h₀.get? env.locals = none := Heap.get?_none_of_le F₂'.above
        have F₃ : Fr h₀ env.locals h₃ (fun z => if z = y then some (.ref D) else m z) := ⟨hn₃, fun b o q => hs₃.extBut b o (fun z => by rw [z, hL₀] at q; cases q) (F₂'.keep b o q), F₂'.above⟩
        refine ⟨m', hn.sameBut hs₃ hCL, fun h'' hs'' => rn _ _ R' D h'' _ (F₃.change hs'' hCL hC₀) (fun q hq => ?_) nD⟩
        have z : h₃.get? q.1 = some q.2 := hs₃.extBut _ _ (N₂' q hq).2.1 (N₂' q hq).1
        refine ⟨hs''.extBut _ _ ?_ z, (N₂' q hq).2⟩
        rcases List.mem_cons.mp hq with rfl | hq
        · exact ne9 (by omega)
        · exact Nat.ne_of_lt (nC q hq)
    · obtain ⟨o, q, r⟩ := hI
      exact ⟨o, old _ _ q, r⟩
    · rcases List.mem_cons.mp hp with rfl | hp
      · exact ⟨hacc, hDL, hD₀⟩
      · exact ⟨old _ _ (N p hp).1, (N p hp).2⟩
  refine codeAny_compStart_list (loop _ rfl) (wpAny_pyIter_enum (old _ _ hE) (loop _ rfl))
theorem endE_intro {m : Str → Option Value} {s₁ : Shared} {I : Addr} {oI : Obj} {C : Addr} {oC : Obj} {c : Addr} {oc : Obj} {D : Addr} {oD : Obj} {news all : List (Addr × Obj)} {rest : Value → Prop} {y : Value} {h' : Heap} {tk : Nat}
    (F : Fr h₀ L h' m) (N : News h₀ L h' all) (sub : ∀ p ∈ (I, oI) :: (C, oC) :: (c, oc) :: (D, oD) :: news, p ∈ all) (r : rest y) : EndC h₀ L m s₁ I oI C oC c oc D oD news rest y { s₁ with heap := h', toks := tk } :=
  ⟨h', tk, rfl, F, fun p hp => N p (sub p hp), r⟩
end
end Mine
end -- CompEnum

section -- Tail4
open PySem PySem.Spec PySem.Calls PySem.W PyProof.Rows
set_option maxRecDepth 100000
set_option rowWalk.seconds 0
namespace Mine
theorem count_one {a : Int} : List.count a [a] = 1 := by simp
theorem shared0 {x y : Int} (hx0 : 1 ≤ x) (hx1 : x ≤ 7) (hy0 : 1 ≤ y) (hy1 : y ≤ 7) (hp : parts x = []) : parts (gcdv x y) = [] :=
  over49 (P := fun x y => parts x = [] → parts (gcdv x y) = []) (by decide +kernel) hx0 hx1 hy0 hy1 hp
theorem shared1 {x y a : Int} (hx0 : 1 ≤ x) (hx1 : x ≤ 7) (hy0 : 1 ≤ y) (hy1 : y ≤ 7) (hp : parts x = [a]) : parts (gcdv x y) = if ((List.count a [a] : Nat) : Int) ≤ ((List.count a (parts y) : Nat) : Int) then [a] else [] := by
  have k := over49 (P := fun x y => (parts x).length = 1 → parts (gcdv x y) = if ((List.count ((parts x).getD 0 0) [(parts x).getD 0 0] : Nat) : Int) ≤ ((List.count ((parts x).getD 0 0) (parts y) : Nat) : Int) then [(parts x).getD 0 0] else []) (by decide +kernel) hx0 hx1 hy0 hy1
  rw [hp] at k
  exact k rfl
theorem shared2 {x y a b : Int} (hx0 : 1 ≤ x) (hx1 : x ≤ 7) (hy0 : 1 ≤ y) (hy1 : y ≤ 7) (hp : parts x = [a, b]) : parts (gcdv x y) = (if ((List.count a [a] : Nat) : Int) ≤ ((List.count a (parts y) : Nat) : Int) then [a] else []) ++ (if ((List.count b [a, b] : Nat) : Int) ≤ ((List.count b (parts y) : Nat) : Int) then [b] else []) := by
  have k := over49 (P := fun x y => (parts x).length = 2 → parts (gcdv x y) = (if ((List.count ((parts x).getD 0 0) [(parts x).getD 0 0] : Nat) : Int) ≤ ((List.count ((parts x).getD 0 0) (parts y) : Nat) : Int) then [(parts x).getD 0 0] else []) ++ (if ((List.count ((parts x).getD 1 0) [(parts x).getD 0 0, (parts x).getD 1 0] : Nat) : Int) ≤ ((List.count ((parts x).getD 1 0) (parts y) : Nat) : Int) then [(parts x).getD 1 0] else [])) (by decide +kernel) hx0 hx1 hy0 hy1
  rw [hp] at k
  exact k rfl
theorem parts_shape {x : Int} (hx0 : 1 ≤ x) (hx1 : x ≤ 7) : parts x = [] ∨ (∃ a, parts x = [a]) ∨ ∃ a b, parts x = [a, b] := by
  have h := parts_len hx0 hx1
  match parts x, h with
  | [], _ => exact .inl rfl
  | [a], _ => exact .inr (.inl ⟨a, rfl⟩)
  | [a, b], _ => exact .inr (.inr ⟨a, b, rfl⟩)
  | a :: b :: c :: r, h => simp at h

set_option maxHeartbeats 1000000 in
theorem tail4_0 {w p loose mean mg mb} (C1 : I2dOk w p loose mean mg mb) (C3 : PutOk w p loose mean mg mb) (C4 : DivOk w p loose mean mg mb) (C5 : TimesOk w p loose mean mg mb) (C6 : PartsOk w p loose mean mg mb)
    {x y g : Int} {t1 : Tok} (hg0 : 1 ≤ g) (hg1 : g ≤ 7) (hx0 : 1 ≤ x) (hx1 : x ≤ 7) (hy0 : 1 ≤ y) (hy1 : y ≤ 7) {fa L la lo lp c1 c2 : Addr} {cd : Value} {h₀ base : Heap} {m : Str → Option Value} {s : Shared} {A₀ : Around} {n no np : Nat} {r1 r2 r3 r4 r5 : Tok} {oO oP oK oA o1 o2 : Obj} {vK : Option Value} {uso usp : List Value} {Q : Flow → Shared → Prop}
    (B : Below A₀ base [] h₀) (F : Fr h₀ L s.heap m) (X : (Mine.hd.heap_39 w.params).In h₀) (T : Top p loose mean mg mb h₀)(hp : parts x = []) (hg : g = gcdv x y) (m1 : m (Str.ofString "left") = some (.int g t1))
    (N : News h₀ L s.heap ((lo, W.listOf (List.toArray uso) no) :: (lp, W.listOf (List.toArray usp) np) :: tailN L la c1 c2 n r1 r2 r3 r4 r5 oO oP oK oA o1 o2))
    (hio : IntsAre uso (parts y)) (hip : IntsAre usp (parts x)) (q1 : CodeOb o1 qual1) (q2 : CodeOb o2 qual2) (dO : oO.data = .cell (some (.ref lo))) (dP : oP.data = .cell (some (.ref lp))) (dK : oK.data = .cell vK) (dA : oA.data = .cell (some (.ref la)))
    (l0 : @LT.lt Nat _ 23 L ∧ @LT.lt Nat _ 16 L) (l1 : @LT.lt Nat _ (L + 1 + 1 + 1 + 1) la ∧ @LT.lt Nat _ (L + 1 + 1 + 1 + 1) c1 ∧ @LT.lt Nat _ (L + 1 + 1 + 1 + 1) c2) (l2 : @LT.lt Nat _ la lp ∧ @LT.lt Nat _ c1 lp ∧ @LT.lt Nat _ c2 lp ∧ @LT.lt Nat _ lp lo)(ret : ∀ (h' : Heap) (tk' : Nat) (m' : Str → Option Value) (news : List (Addr × Obj)), Fr h₀ L h' m' → News h₀ L h' ((23, full2 c2) :: (16, full1 c1) :: news) → Q (.ret (.bool true)) { s with heap := h', toks := tk' })
    {bd : List Stmt} {sc : Scope} (hbd : (defBody lawDef).drop 13 = bd) (hsc : defScope lawDef = sc) :
    wpAny (model prog0 w) (callerA.deeper (envOfC (Str.ofString "law") sc L fa cd)) (execs bd (envOfC (Str.ofString "law") sc L fa cd)) Q (fun _ _ => False) s := by
  rw [hp] at hip
  obtain rfl := ints_inv0 hip
  w_on
  refine (fun (h : (PySem.Challenge.rw_ib0002_01 = PySem.Challenge.rw_ib0002_01 ∧ Mine.hd.heap_39 = Mine.hd.heap_39) → _) => h ⟨rfl, rfl⟩) ?_
  k_fill
  intro _
  k_with_none
  k_with "MINE ne" => (refine neN ?_; (try dsimp only); first | exact Nat.ne_of_gt (by with_reducible assumption) | exact Nat.ne_of_lt (by with_reducible assumption) | exact Nat.ne_of_gt (And.left (by with_reducible assumption)) | exact Nat.ne_of_lt (And.left (by with_reducible assumption)) | exact Nat.ne_of_gt (And.left (And.right (by with_reducible assumption))) | exact Nat.ne_of_lt (And.left (And.right (by with_reducible assumption))) | exact Nat.ne_of_gt (And.left (And.right (And.right (by with_reducible assumption)))) | exact Nat.ne_of_lt (And.left (And.right (And.right (by with_reducible assumption)))) | exact Nat.ne_of_gt (And.left (And.right (And.right (And.right (by with_reducible assumption))))) | exact Nat.ne_of_lt (And.left (And.right (And.right (And.right (by with_reducible assumption))))) | exact Nat.ne_of_gt (And.left (And.right (And.right (And.right (And.right (by with_reducible assumption)))))) | exact Nat.ne_of_lt (And.left (And.right (And.right (And.right (And.right (by with_reducible assumption)))))) | exact Nat.ne_of_gt (And.left (And.right (And.right (And.right (And.right (And.right (by with_reducible assumption))))))) | exact Nat.ne_of_lt (And.left (And.right (And.right (And.right (And.right (And.right (by with_reducible assumption))))))) | exact Nat.ne_of_gt (And.left (And.right (And.right (And.right (And.right (And.right (And.right (by with_reducible assumption)))))))) | exact Nat.ne_of_lt (And.left (And.right (And.right (And.right (And.right (And.right (And.right (by with_reducible assumption)))))))) | exact Nat.ne_of_gt (And.left (And.right (And.right (And.right (And.right (And.right (And.right (And.right (by with_reducible assumption))))))))) | exact Nat.ne_of_lt (And.left (And.right (And.right (And.right (And.right (And.right (And.right (And.right (by with_reducible assumption))))))))) | exact Nat.ne_of_gt (And.left (And.right (And.right (And.right (And.right (And.right (And.right (And.right (And.right (by with_reducible assumption)))))))))) | exact Nat.ne_of_lt (And.left (And.right (And.right (And.right (And.right (And.right (And.right (And.right (And.right (by with_reducible assumption)))))))))) | exact Nat.ne_of_gt (And.right (by with_reducible assumption)) | exact Nat.ne_of_lt (And.right (by with_reducible assumption)) | exact Nat.ne_of_gt (And.right (And.right (by with_reducible assumption))) | exact Nat.ne_of_lt (And.right (And.right (by with_reducible assumption))) | exact Nat.ne_of_gt (And.right (And.right (And.right (by with_reducible assumption)))) | exact Nat.ne_of_lt (And.right (And.right (And.right (by with_reducible assumption)))) | exact Nat.ne_of_gt (And.right (And.right (And.right (And.right (by with_reducible assumption))))) | exact Nat.ne_of_lt (And.right (And.right (And.right (And.right (by with_reducible assumption))))) | exact Nat.ne_of_gt (And.right (And.right (And.right (And.right (And.right (by with_reducible assumption)))))) | exact Nat.ne_of_lt (And.right (And.right (And.right (And.right (And.right (by with_reducible assumption)))))) | exact Nat.ne_of_gt (And.right (And.right (And.right (And.right (And.right (And.right (by with_reducible assumption))))))) | exact Nat.ne_of_lt (And.right (And.right (And.right (And.right (And.right (And.right (by with_reducible assumption))))))) | exact Nat.ne_of_gt (And.right (And.right (And.right (And.right (And.right (And.right (And.right (by with_reducible assumption)))))))) | exact Nat.ne_of_lt (And.right (And.right (And.right (And.right (And.right (And.right (And.right (by with_reducible assumption)))))))) | exact Nat.ne_of_gt (And.right (And.right (And.right (And.right (And.right (And.right (And.right (And.right (by with_reducible assumption))))))))) | exact Nat.ne_of_lt (And.right (And.right (And.right (And.right (And.right (And.right (And.right (And.right (by with_reducible assumption))))))))) | exact (And.left (And.left (by with_reducible assumption))) | exact (And.left (And.right (And.left (by with_reducible assumption)))) | exact (And.right (And.right (And.left (by with_reducible assumption)))) | exact (And.left (And.left (And.right (by with_reducible assumption)))) | exact (And.left (And.right (And.left (And.right (by with_reducible assumption))))) | exact (And.right (And.right (And.left (And.right (by with_reducible assumption))))) | exact (And.left (And.right (by with_reducible assumption))) | exact (And.left (And.right (And.right (by with_reducible assumption)))) | exact (And.right (And.right (And.right (by with_reducible assumption)))) | exact (And.left (And.left (And.right (And.right (by with_reducible assumption))))) | exact (And.left (And.right (And.left (And.right (And.right (by with_reducible assumption)))))) | exact (And.right (And.right (And.left (And.right (And.right (by with_reducible assumption)))))) | exact (And.left (And.right (And.right (by with_reducible assumption)))) | exact (And.left (And.right (And.right (And.right (by with_reducible assumption))))) | exact (And.right (And.right (And.right (And.right (by with_reducible assumption))))) | exact (And.left (And.left (And.right (And.right (And.right (by with_reducible assumption)))))) | exact (And.left (And.right (And.left (And.right (And.right (And.right (by with_reducible assumption))))))) | exact (And.right (And.right (And.left (And.right (And.right (And.right (by with_reducible assumption))))))) | exact (And.left (And.right (And.right (And.right (by with_reducible assumption))))) | exact (And.left (And.right (And.right (And.right (And.right (by with_reducible assumption)))))) | exact (And.right (And.right (And.right (And.right (And.right (by with_reducible assumption)))))) | exact (And.left (And.left (And.right (And.right (And.right (And.right (by with_reducible assumption))))))) | exact (And.left (And.right (And.left (And.right (And.right (And.right (And.right (by with_reducible assumption)))))))) | exact (And.right (And.right (And.left (And.right (And.right (And.right (And.right (by with_reducible assumption)))))))) | exact (And.left (And.right (And.right (And.right (And.right (by with_reducible assumption)))))) | exact (And.left (And.right (And.right (And.right (And.right (And.right (by with_reducible assumption))))))) | exact (And.right (And.right (And.right (And.right (And.right (And.right (by with_reducible assumption))))))) | exact (And.left (And.left (And.right (And.right (And.right (And.right (And.right (by with_reducible assumption)))))))) | exact (And.left (And.right (And.left (And.right (And.right (And.right (And.right (And.right (by with_reducible assumption))))))))) | exact (And.right (And.right (And.left (And.right (And.right (And.right (And.right (And.right (by with_reducible assumption))))))))) | exact (And.left (And.right (And.right (And.right (And.right (And.right (by with_reducible assumption))))))) | exact (And.left (And.right (And.right (And.right (And.right (And.right (And.right (by with_reducible assumption)))))))) | exact (And.right (And.right (And.right (And.right (And.right (And.right (And.right (by with_reducible assumption)))))))) | exact (And.left (And.left (And.right (And.right (And.right (And.right (And.right (And.right (by with_reducible assumption))))))))) | exact (And.left (And.right (And.left (And.right (And.right (And.right (And.right (And.right (And.right (by with_reducible assumption)))))))))) | exact (And.right (And.right (And.left (And.right (And.right (And.right (And.right (And.right (And.right (by with_reducible assumption)))))))))) | exact (And.left (And.right (And.right (And.right (And.right (And.right (And.right (by with_reducible assumption)))))))) | exact (And.left (And.right (And.right (And.right (And.right (And.right (And.right (And.right (by with_reducible assumption))))))))) | exact (And.right (And.right (And.right (And.right (And.right (And.right (And.right (And.right (by with_reducible assumption))))))))) | exact (And.left (And.left (And.right (And.right (And.right (And.right (And.right (And.right (And.right (by with_reducible assumption)))))))))) | exact (And.left (And.right (And.left (And.right (And.right (And.right (And.right (And.right (And.right (And.right (by with_reducible assumption))))))))))) | exact (And.right (And.right (And.left (And.right (And.right (And.right (And.right (And.right (And.right (And.right (by with_reducible assumption))))))))))) | exact (And.left (And.right (And.right (And.right (And.right (And.right (And.right (And.right (by with_reducible assumption))))))))) | exact (And.left (And.right (And.right (And.right (And.right (And.right (And.right (And.right (And.right (by with_reducible assumption)))))))))) | exact (And.right (And.right (And.right (And.right (And.right (And.right (And.right (And.right (And.right (by with_reducible assumption)))))))))))
  k_with "MINE tab" => (first
  | assumption
  | exact tab_of_news (by k_asm) (by k_dflt k_mem) (by k_dflt k_mem) (by assumption)
  | exact Tab.keeps (by assumption) (Fr.keep (by k_asm)))
  k_with "call ref" => (
  k_here
  k_dflt (refine use_i2d (by k_dflt (assumption)) (by k_dflt (k_asm)) (by k_dflt (k_asm)) (by k_dflt (k_asm)) (by k_dflt (k_asm)) (by k_dflt (k_asm)) (by k_dflt (first | exact rfl | assumption)) (by k_dflt (first | decide | ktr_room)) (by k_dflt (first | decide | ktr_units)) (by first | with_reducible (walk_at "MINE tab") | (walk_at "MINE tab")) (by k_dflt (walk_at "MINE bnd")) (by k_dflt (walk_at "MINE bnd")) ?_)
  k_whole
  intro zl' zn' zvs' zh' ztk' zF' zN' zl1 zi1 zn1 zs1 ze1 ze2
  (try k_lt zl1)
  (try dsimp only)
  (try k_fold))
  k_with "call ref" => (
  k_here
  k_dflt (refine use_put (by k_dflt (assumption)) (by k_dflt (k_asm)) (by k_dflt (k_asm)) (by k_dflt (k_asm)) (by k_dflt (k_asm)) (by k_dflt (k_asm)) (by k_dflt (first | exact rfl | assumption)) (by k_dflt (first | decide | ktr_room)) (by k_dflt (first | decide | ktr_units)) (by first | with_reducible (walk_at "MINE tab") | (walk_at "MINE tab")) (by first | with_reducible (walk_at "MINE tab") | (walk_at "MINE tab")) (by first | with_reducible (walk_at "MINE bnd") | (walk_at "MINE bnd")) (by first | with_reducible (walk_at "MINE bnd") | (walk_at "MINE bnd")) (by first | with_reducible (walk_at "MINE bnd") | (walk_at "MINE bnd")) (by first | with_reducible (walk_at "MINE bnd") | (walk_at "MINE bnd")) ?_)
  k_whole
  intro zt' zh' ztk' zF' zN' zhp0' zhp1'
  (try dsimp only)
  (try k_fold))
  k_with "call ref" => (
  k_here
  k_dflt (refine use_div (by k_dflt (assumption)) (by k_dflt (k_asm)) (by k_dflt (k_asm)) (by k_dflt (k_asm)) (by k_dflt (k_asm)) (by k_dflt (k_asm)) (by k_dflt (first | exact rfl | assumption)) (by k_dflt (first | decide | ktr_room)) (by k_dflt (first | decide | ktr_units)) (by first | with_reducible (walk_at "MINE tab") | (walk_at "MINE tab")) (by first | with_reducible (walk_at "MINE tab") | (walk_at "MINE tab")) (by first | with_reducible (walk_at "MINE bnd") | (walk_at "MINE bnd")) (by first | with_reducible (walk_at "MINE bnd") | (walk_at "MINE bnd")) (by first | with_reducible (walk_at "MINE bnd") | (walk_at "MINE bnd")) (by first | with_reducible (walk_at "MINE bnd") | (walk_at "MINE bnd")) ?_)
  k_whole
  intro zl' zn' zu1' zu2' zh' ztk' zF' zN' zl1 zl2
  (try k_lt zl1)
  (try dsimp only)
  (try k_fold))
  k_with "call ref" => (
  k_here
  k_dflt (refine use_times (by k_dflt (assumption)) (by k_dflt (k_asm)) (by k_dflt (k_asm)) (by k_dflt (k_asm)) (by k_dflt (k_asm)) (by k_dflt (k_asm)) (by k_dflt (first | exact rfl | assumption)) (by k_dflt (first | decide | ktr_room)) (by k_dflt (first | decide | ktr_units)) (by first | with_reducible (walk_at "MINE tab") | (walk_at "MINE tab")) (by first | with_reducible (walk_at "MINE tab") | (walk_at "MINE tab")) (by first | with_reducible (walk_at "MINE bnd") | (walk_at "MINE bnd")) (by first | with_reducible (walk_at "MINE bnd") | (walk_at "MINE bnd")) (by first | with_reducible (walk_at "MINE bnd") | (walk_at "MINE bnd")) (by first | with_reducible (walk_at "MINE bnd") | (walk_at "MINE bnd")) ?_)
  k_whole
  intro zt' zh' ztk' zF' zN' zhp0' zhp1'
  (try dsimp only)
  (try k_fold))
  k_with "call ref" => (
  k_here
  k_dflt (refine use_parts (by k_dflt (assumption)) (by k_dflt (k_asm)) (by k_dflt (k_asm)) (by k_dflt (k_asm)) (by k_dflt (k_asm)) (by k_dflt (k_asm)) (by k_dflt (first | exact rfl | assumption)) (by k_dflt (first | decide | ktr_room)) (by k_dflt (first | decide | ktr_units)) (by first | with_reducible (walk_at "MINE tab") | (walk_at "MINE tab")) (by first | with_reducible (walk_at "MINE tab") | (walk_at "MINE tab")) (by k_dflt (is_list)) (by k_dflt (exact .cons _ _ (.cons _ _ (.cons _ _ (.cons _ _ (.cons _ _ .nil)))))) (by k_dflt (walk_at "MINE bnd")) (by k_dflt (walk_at "MINE bnd")) ?_)
  k_whole
  intro zl' zn' zus' zh' ztk' zF' zN' zl1 zhi'
  (try k_lt zl1)
  (try dsimp only)
  (try k_fold))
  k_with "subscriptTail Name Name ref int" => (
  k_here
  (with_reducible show wpAny _ _ (subscriptTail _ _ (Value.ref _) (Value.int _ _)) _ _ _)
  (with_unfolding_all refine itemRows (by k_dflt (is_list)) ?_ (by with_unfolding_all rfl))
  k_whole
  intro zt'
  (try dsimp only))
  k_with "MINE bnd" => (first | assumption | decide | omega | exact GInv.l0 (by with_reducible assumption) | exact GInv.l1 (by with_reducible assumption) | exact GInv.r0 (by with_reducible assumption) (by with_reducible assumption) | exact GInv.r1 (by with_reducible assumption) | exact (put_seven (by assumption) (by assumption)).1 | exact (put_seven (by assumption) (by assumption)).2 | exact (tinv_bnd (by assumption) (by assumption) (by assumption) (by assumption)).1 | exact (tinv_bnd (by assumption) (by assumption) (by assumption) (by assumption)).2.1 | exact (tinv_bnd (by assumption) (by assumption) (by assumption) (by assumption)).2.2.1 | exact (tinv_bnd (by assumption) (by assumption) (by assumption) (by assumption)).2.2.2)
  k_with "exec Assign cons ListComp" => (
  k_here
  k_dflt (refine assign_enum (F₀ := by k_asm) (by rfl) (by with_unfolding_all rfl) (by with_unfolding_all rfl) (by decide) (by rfl) (by decide) (by rfl) (by rfl) (by decide) (by rfl) (by rfl) ?_))
  k_with "call type:enumerate" => (
  k_here
  k_dflt (refine enum_src (by rfl) (by k_asm) (by k_asm) (by k_mem) (by rfl) (by rfl) (by exact Nat.le_of_ble_eq_true rfl) ?_)
  intro zg'
  (try dsimp only))
  k_with "EnRest" => (k_dflt (first
  | (refine EnRest.cons ?_
     intro zt' ze' zoe' zI' zoI' zC' zoC' zD' zm' zh' ztk' zE' zhC' zha' zhb' zF' zN' zne' zl1 zl2 zl3 zl4
     (first | (have zha9' : zm' _ = some (Value.int 0 zt') := zha') | (have zha9' : zm' _ = some (Value.int 1 zt') := zha'))
     (clear zha')
     (try simp only [List.cons_append, List.nil_append] at zN')
     (k_lt zl1)
     (k_lt zl2)
     (k_lt zl3)
     (k_lt zl4))
  | (refine EnRest.nil ?_
     intro zD' zh' ztk' zF' zN' zl1
     (try simp only [List.cons_append, List.nil_append] at zN')
     (k_lt zl1)
     (try dsimp only))))
  k_with "EndC" => (
  k_dflt (refine endE_intro (by k_asm) (by k_asm) (by kcf_all) ?_)
  (try dsimp only))
  k_with "call builtin:list.count" => (
  k_here
  k_dflt (show wpAny _ _ (call (Value.builtin _) [Value.ref _, Value.int _ _]) _ _ _)
  k_dflt (first
    | (refine count_list_ints (by is_list) (by assumption) ?_)
    | (refine count_list_ints (by is_list) (by exact .nil) ?_)
    | (refine count_list_ints (by is_list) (by exact .cons _ _ .nil) ?_)
    | (refine count_list_ints (by is_list) (by exact .cons _ _ (.cons _ _ .nil)) ?_)))
  have hy8 : y < 8 := by omega
  have hy9 : 0 ≤ y := by omega
  dsimp only [lawDef, first0, defBody, defScope, defParams, prog0, PySem.Challenge.pw_ib0002_01, List.drop] at hbd hsc
  subst hbd hsc
  unfold tailN at N
  (try k_fold)
  have F := Fr.names [(Str.ofString "left", .int g t1)] F (List.forall_mem_cons.mpr ⟨m1, List.forall_mem_nil _⟩)
  dsimp only [kstB] at F
  clear m1
  k_steps
  all_goals (rw [decide_eq_true (by rw [hg]; exact shared0 hx0 hx1 hy0 hy1 hp)])
  all_goals (exact ret _ _ _ _ (by k_asm) (kst_newsOf (by k_asm) (l' := (23, full2 c2) :: (16, full1 c1) :: []) (by kst_inAny)))
set_option maxHeartbeats 1000000 in
theorem tail4_1 {w p loose mean mg mb} (C1 : I2dOk w p loose mean mg mb) (C3 : PutOk w p loose mean mg mb) (C4 : DivOk w p loose mean mg mb) (C5 : TimesOk w p loose mean mg mb) (C6 : PartsOk w p loose mean mg mb)
    {x y g a : Int} {t1 : Tok} (hg0 : 1 ≤ g) (hg1 : g ≤ 7) (hx0 : 1 ≤ x) (hx1 : x ≤ 7) (hy0 : 1 ≤ y) (hy1 : y ≤ 7) {fa L la lo lp c1 c2 : Addr} {cd : Value} {h₀ base : Heap} {m : Str → Option Value} {s : Shared} {A₀ : Around} {n no np : Nat} {r1 r2 r3 r4 r5 : Tok} {oO oP oK oA o1 o2 : Obj} {vK : Option Value} {uso usp : List Value} {Q : Flow → Shared → Prop}
    (B : Below A₀ base [] h₀) (F : Fr h₀ L s.heap m) (X : (Mine.hd.heap_39 w.params).In h₀) (T : Top p loose mean mg mb h₀)(hp : parts x = [a]) (hg : g = gcdv x y) (m1 : m (Str.ofString "left") = some (.int g t1))
    (N : News h₀ L s.heap ((lo, W.listOf (List.toArray uso) no) :: (lp, W.listOf (List.toArray usp) np) :: tailN L la c1 c2 n r1 r2 r3 r4 r5 oO oP oK oA o1 o2))
    (hio : IntsAre uso (parts y)) (hip : IntsAre usp (parts x)) (q1 : CodeOb o1 qual1) (q2 : CodeOb o2 qual2) (dO : oO.data = .cell (some (.ref lo))) (dP : oP.data = .cell (some (.ref lp))) (dK : oK.data = .cell vK) (dA : oA.data = .cell (some (.ref la)))
    (l0 : @LT.lt Nat _ 23 L ∧ @LT.lt Nat _ 16 L) (l1 : @LT.lt Nat _ (L + 1 + 1 + 1 + 1) la ∧ @LT.lt Nat _ (L + 1 + 1 + 1 + 1) c1 ∧ @LT.lt Nat _ (L + 1 + 1 + 1 + 1) c2) (l2 : @LT.lt Nat _ la lp ∧ @LT.lt Nat _ c1 lp ∧ @LT.lt Nat _ c2 lp ∧ @LT.lt Nat _ lp lo)(ret : ∀ (h' : Heap) (tk' : Nat) (m' : Str → Option Value) (news : List (Addr × Obj)), Fr h₀ L h' m' → News h₀ L h' ((23, full2 c2) :: (16, full1 c1) :: news) → Q (.ret (.bool true)) { s with heap := h', toks := tk' })
    {bd : List Stmt} {sc : Scope} (hbd : (defBody lawDef).drop 13 = bd) (hsc : defScope lawDef = sc) :
    wpAny (model prog0 w) (callerA.deeper (envOfC (Str.ofString "law") sc L fa cd)) (execs bd (envOfC (Str.ofString "law") sc L fa cd)) Q (fun _ _ => False) s := by
  rw [hp] at hip
  obtain ⟨u0, rfl⟩ := ints_inv1 hip
  w_on
  refine (fun (h : (PySem.Challenge.rw_ib0002_01 = PySem.Challenge.rw_ib0002_01 ∧ Mine.hd.heap_39 = Mine.hd.heap_39) → _) => h ⟨rfl, rfl⟩) ?_
  k_fill
  intro _
  k_with_none
  k_with "MINE ne" => (refine neN ?_; (try dsimp only); first | exact Nat.ne_of_gt (by with_reducible assumption) | exact Nat.ne_of_lt (by with_reducible assumption) | exact Nat.ne_of_gt (And.left (by with_reducible assumption)) | exact Nat.ne_of_lt (And.left (by with_reducible assumption)) | exact Nat.ne_of_gt (And.left (And.right (by with_reducible assumption))) | exact Nat.ne_of_lt (And.left (And.right (by with_reducible assumption))) | exact Nat.ne_of_gt (And.left (And.right (And.right (by with_reducible assumption)))) | exact Nat.ne_of_lt (And.left (And.right (And.right (by with_reducible assumption)))) | exact Nat.ne_of_gt (And.left (And.right (And.right (And.right (by with_reducible assumption))))) | exact Nat.ne_of_lt (And.left (And.right (And.right (And.right (by with_reducible assumption))))) | exact Nat.ne_of_gt (And.left (And.right (And.right (And.right (And.right (by with_reducible assumption)))))) | exact Nat.ne_of_lt (And.left (And.right (And.right (And.right (And.right (by with_reducible assumption)))))) | exact Nat.ne_of_gt (And.left (And.right (And.right (And.right (And.right (And.right (by with_reducible assumption))))))) | exact Nat.ne_of_lt (And.left (And.right (And.right (And.right (And.right (And.right (by with_reducible assumption))))))) | exact Nat.ne_of_gt (And.left (And.right (And.right (And.right (And.right (And.right (And.right (by with_reducible assumption)))))))) | exact Nat.ne_of_lt (And.left (And.right (And.right (And.right (And.right (And.right (And.right (by with_reducible assumption)))))))) | exact Nat.ne_of_gt (And.left (And.right (And.right (And.right (And.right (And.right (And.right (And.right (by with_reducible assumption))))))))) | exact Nat.ne_of_lt (And.left (And.right (And.right (And.right (And.right (And.right (And.right (And.right (by with_reducible assumption))))))))) | exact Nat.ne_of_gt (And.left (And.right (And.right (And.right (And.right (And.right (And.right (And.right (And.right (by with_reducible assumption)))))))))) | exact Nat.ne_of_lt (And.left (And.right (And.right (And.right (And.right (And.right (And.right (And.right (And.right (by with_reducible assumption)))))))))) | exact Nat.ne_of_gt (And.right (by with_reducible assumption)) | exact Nat.ne_of_lt (And.right (by with_reducible assumption)) | exact Nat.ne_of_gt (And.right (And.right (by with_reducible assumption))) | exact Nat.ne_of_lt (And.right (And.right (by with_reducible assumption))) | exact Nat.ne_of_gt (And.right (And.right (And.right (by with_reducible assumption)))) | exact Nat.ne_of_lt (And.right (And.right (And.right (by with_reducible assumption)))) | exact Nat.ne_of_gt (And.right (And.right (And.right (And.right (by with_reducible assumption))))) | exact Nat.ne_of_lt (And.right (And.right (And.right (And.right (by with_reducible assumption))))) | exact Nat.ne_of_gt (And.right (And.right (And.right (And.right (And.right (by with_reducible assumption)))))) | exact Nat.ne_of_lt (And.right (And.right (And.right (And.right (And.right (by with_reducible assumption)))))) | exact Nat.ne_of_gt (And.right (And.right (And.right (And.right (And.right (And.right (by with_reducible assumption))))))) | exact Nat.ne_of_lt (And.right (And.right (And.right (And.right (And.right (And.right (by with_reducible assumption))))))) | exact Nat.ne_of_gt (And.right (And.right (And.right (And.right (And.right (And.right (And.right (by with_reducible assumption)))))))) | exact Nat.ne_of_lt (And.right (And.right (And.right (And.right (And.right (And.right (And.right (by with_reducible assumption)))))))) | exact Nat.ne_of_gt (And.right (And.right (And.right (And.right (And.right (And.right (And.right (And.right (by with_reducible assumption))))))))) | exact Nat.ne_of_lt (And.right (And.right (And.right (And.right (And.right (And.right (And.right (And.right (by with_reducible assumption))))))))) | exact (And.left (And.left (by with_reducible assumption))) | exact (And.left (And.right (And.left (by with_reducible assumption)))) | exact (And.right (And.right (And.left (by with_reducible assumption)))) | exact (And.left (And.left (And.right (by with_reducible assumption)))) | exact (And.left (And.right (And.left (And.right (by with_reducible assumption))))) | exact (And.right (And.right (And.left (And.right (by with_reducible assumption))))) | exact (And.left (And.right (by with_reducible assumption))) | exact (And.left (And.right (And.right (by with_reducible assumption)))) | exact (And.right (And.right (And.right (by with_reducible assumption)))) | exact (And.left (And.left (And.right (And.right (by with_reducible assumption))))) | exact (And.left (And.right (And.left (And.right (And.right (by with_reducible assumption)))))) | exact (And.right (And.right (And.left (And.right (And.right (by with_reducible assumption)))))) | exact (And.left (And.right (And.right (by with_reducible assumption)))) | exact (And.left (And.right (And.right (And.right (by with_reducible assumption))))) | exact (And.right (And.right (And.right (And.right (by with_reducible assumption))))) | exact (And.left (And.left (And.right (And.right (And.right (by with_reducible assumption)))))) | exact (And.left (And.right (And.left (And.right (And.right (And.right (by with_reducible assumption))))))) | exact (And.right (And.right (And.left (And.right (And.right (And.right (by with_reducible assumption))))))) | exact (And.left (And.right (And.right (And.right (by with_reducible assumption))))) | exact (And.left (And.right (And.right (And.right (And.right (by with_reducible assumption)))))) | exact (And.right (And.right (And.right (And.right (And.right (by with_reducible assumption)))))) | exact (And.left (And.left (And.right (And.right (And.right (And.right (by with_reducible assumption))))))) | exact (And.left (And.right (And.left (And.right (And.right (And.right (And.right (by with_reducible assumption)))))))) | exact (And.right (And.right (And.left (And.right (And.right (And.right (And.right (by with_reducible assumption)))))))) | exact (And.left (And.right (And.right (And.right (And.right (by with_reducible assumption)))))) | exact (And.left (And.right (And.right (And.right (And.right (And.right (by with_reducible assumption))))))) | exact (And.right (And.right (And.right (And.right (And.right (And.right (by with_reducible assumption))))))) | exact (And.left (And.left (And.right (And.right (And.right (And.right (And.right (by with_reducible assumption)))))))) | exact (And.left (And.right (And.left (And.right (And.right (And.right (And.right (And.right (by with_reducible assumption))))))))) | exact (And.right (And.right (And.left (And.right (And.right (And.right (And.right (And.right (by with_reducible assumption))))))))) | exact (And.left (And.right (And.right (And.right (And.right (And.right (by with_reducible assumption))))))) | exact (And.left (And.right (And.right (And.right (And.right (And.right (And.right (by with_reducible assumption)))))))) | exact (And.right (And.right (And.right (And.right (And.right (And.right (And.right (by with_reducible assumption)))))))) | exact (And.left (And.left (And.right (And.right (And.right (And.right (And.right (And.right (by with_reducible assumption))))))))) | exact (And.left (And.right (And.left (And.right (And.right (And.right (And.right (And.right (And.right (by with_reducible assumption)))))))))) | exact (And.right (And.right (And.left (And.right (And.right (And.right (And.right (And.right (And.right (by with_reducible assumption)))))))))) | exact (And.left (And.right (And.right (And.right (And.right (And.right (And.right (by with_reducible assumption)))))))) | exact (And.left (And.right (And.right (And.right (And.right (And.right (And.right (And.right (by with_reducible assumption))))))))) | exact (And.right (And.right (And.right (And.right (And.right (And.right (And.right (And.right (by with_reducible assumption))))))))) | exact (And.left (And.left (And.right (And.right (And.right (And.right (And.right (And.right (And.right (by with_reducible assumption)))))))))) | exact (And.left (And.right (And.left (And.right (And.right (And.right (And.right (And.right (And.right (And.right (by with_reducible assumption))))))))))) | exact (And.right (And.right (And.left (And.right (And.right (And.right (And.right (And.right (And.right (And.right (by with_reducible assumption))))))))))) | exact (And.left (And.right (And.right (And.right (And.right (And.right (And.right (And.right (by with_reducible assumption))))))))) | exact (And.left (And.right (And.right (And.right (And.right (And.right (And.right (And.right (And.right (by with_reducible assumption)))))))))) | exact (And.right (And.right (And.right (And.right (And.right (And.right (And.right (And.right (And.right (by with_reducible assumption)))))))))))
  k_with "MINE tab" => (first
  | assumption
  | exact tab_of_news (by k_asm) (by k_dflt k_mem) (by k_dflt k_mem) (by assumption)
  | exact Tab.keeps (by assumption) (Fr.keep (by k_asm)))
  k_with "call ref" => (
  k_here
  k_dflt (refine use_i2d (by k_dflt (assumption)) (by k_dflt (k_asm)) (by k_dflt (k_asm)) (by k_dflt (k_asm)) (by k_dflt (k_asm)) (by k_dflt (k_asm)) (by k_dflt (first | exact rfl | assumption)) (by k_dflt (first | decide | ktr_room)) (by k_dflt (first | decide | ktr_units)) (by first | with_reducible (walk_at "MINE tab") | (walk_at "MINE tab")) (by k_dflt (walk_at "MINE bnd")) (by k_dflt (walk_at "MINE bnd")) ?_)
  k_whole
  intro zl' zn' zvs' zh' ztk' zF' zN' zl1 zi1 zn1 zs1 ze1 ze2
  (try k_lt zl1)
  (try dsimp only)
  (try k_fold))
  k_with "call ref" => (
  k_here
  k_dflt (refine use_put (by k_dflt (assumption)) (by k_dflt (k_asm)) (by k_dflt (k_asm)) (by k_dflt (k_asm)) (by k_dflt (k_asm)) (by k_dflt (k_asm)) (by k_dflt (first | exact rfl | assumption)) (by k_dflt (first | decide | ktr_room)) (by k_dflt (first | decide | ktr_units)) (by first | with_reducible (walk_at "MINE tab") | (walk_at "MINE tab")) (by first | with_reducible (walk_at "MINE tab") | (walk_at "MINE tab")) (by first | with_reducible (walk_at "MINE bnd") | (walk_at "MINE bnd")) (by first | with_reducible (walk_at "MINE bnd") | (walk_at "MINE bnd")) (by first | with_reducible (walk_at "MINE bnd") | (walk_at "MINE bnd")) (by first | with_reducible (walk_at "MINE bnd") | (walk_at "MINE bnd")) ?_)
  k_whole
  intro zt' zh' ztk' zF' zN' zhp0' zhp1'
  (try dsimp only)
  (try k_fold))
  k_with "call ref" => (
  k_here
  k_dflt (refine use_div (by k_dflt (assumption)) (by k_dflt (k_asm)) (by k_dflt (k_asm)) (by k_dflt (k_asm)) (by k_dflt (k_asm)) (by k_dflt (k_asm)) (by k_dflt (first | exact rfl | assumption)) (by k_dflt (first | decide | ktr_room)) (by k_dflt (first | decide | ktr_units)) (by first | with_reducible (walk_at "MINE tab") | (walk_at "MINE tab")) (by first | with_reducible (walk_at "MINE tab") | (walk_at "MINE tab")) (by first | with_reducible (walk_at "MINE bnd") | (walk_at "MINE bnd")) (by first | with_reducible (walk_at "MINE bnd") | (walk_at "MINE bnd")) (by first | with_reducible (walk_at "MINE bnd") | (walk_at "MINE bnd")) (by first | with_reducible (walk_at "MINE bnd") | (walk_at "MINE bnd")) ?_)
  k_whole
  intro zl' zn' zu1' zu2' zh' ztk' zF' zN' zl1 zl2
  (try k_lt zl1)
  (try dsimp only)
  (try k_fold))
  k_with "call ref" => (
  k_here
  k_dflt (refine use_times (by k_dflt (assumption)) (by k_dflt (k_asm)) (by k_dflt (k_asm)) (by k_dflt (k_asm)) (by k_dflt (k_asm)) (by k_dflt (k_asm)) (by k_dflt (first | exact rfl | assumption)) (by k_dflt (first | decide | ktr_room)) (by k_dflt (first | decide | ktr_units)) (by first | with_reducible (walk_at "MINE tab") | (walk_at "MINE tab")) (by first | with_reducible (walk_at "MINE tab") | (walk_at "MINE tab")) (by first | with_reducible (walk_at "MINE bnd") | (walk_at "MINE bnd")) (by first | with_reducible (walk_at "MINE bnd") | (walk_at "MINE bnd")) (by first | with_reducible (walk_at "MINE bnd") | (walk_at "MINE bnd")) (by first | with_reducible (walk_at "MINE bnd") | (walk_at "MINE bnd")) ?_)
  k_whole
  intro zt' zh' ztk' zF' zN' zhp0' zhp1'
  (try dsimp only)
  (try k_fold))
  k_with "call ref" => (
  k_here
  k_dflt (refine use_parts (by k_dflt (assumption)) (by k_dflt (k_asm)) (by k_dflt (k_asm)) (by k_dflt (k_asm)) (by k_dflt (k_asm)) (by k_dflt (k_asm)) (by k_dflt (first | exact rfl | assumption)) (by k_dflt (first | decide | ktr_room)) (by k_dflt (first | decide | ktr_units)) (by first | with_reducible (walk_at "MINE tab") | (walk_at "MINE tab")) (by first | with_reducible (walk_at "MINE tab") | (walk_at "MINE tab")) (by k_dflt (is_list)) (by k_dflt (exact .cons _ _ (.cons _ _ (.cons _ _ (.cons _ _ (.cons _ _ .nil)))))) (by k_dflt (walk_at "MINE bnd")) (by k_dflt (walk_at "MINE bnd")) ?_)
  k_whole
  intro zl' zn' zus' zh' ztk' zF' zN' zl1 zhi'
  (try k_lt zl1)
  (try dsimp only)
  (try k_fold))
  k_with "subscriptTail Name Name ref int" => (
  k_here
  (with_reducible show wpAny _ _ (subscriptTail _ _ (Value.ref _) (Value.int _ _)) _ _ _)
  (with_unfolding_all refine itemRows (by k_dflt (is_list)) ?_ (by with_unfolding_all rfl))
  k_whole
  intro zt'
  (try dsimp only))
  k_with "MINE bnd" => (first | assumption | decide | omega | exact GInv.l0 (by with_reducible assumption) | exact GInv.l1 (by with_reducible assumption) | exact GInv.r0 (by with_reducible assumption) (by with_reducible assumption) | exact GInv.r1 (by with_reducible assumption) | exact (put_seven (by assumption) (by assumption)).1 | exact (put_seven (by assumption) (by assumption)).2 | exact (tinv_bnd (by assumption) (by assumption) (by assumption) (by assumption)).1 | exact (tinv_bnd (by assumption) (by assumption) (by assumption) (by assumption)).2.1 | exact (tinv_bnd (by assumption) (by assumption) (by assumption) (by assumption)).2.2.1 | exact (tinv_bnd (by assumption) (by assumption) (by assumption) (by assumption)).2.2.2)
  k_with "exec Assign cons ListComp" => (
  k_here
  k_dflt (refine assign_enum (F₀ := by k_asm) (by rfl) (by with_unfolding_all rfl) (by with_unfolding_all rfl) (by decide) (by rfl) (by decide) (by rfl) (by rfl) (by decide) (by rfl) (by rfl) ?_))
  k_with "call type:enumerate" => (
  k_here
  k_dflt (refine enum_src (by rfl) (by k_asm) (by k_asm) (by k_mem) (by rfl) (by rfl) (by exact Nat.le_of_ble_eq_true rfl) ?_)
  intro zg'
  (try dsimp only))
  k_with "EnRest" => (k_dflt (first
  | (refine EnRest.cons ?_
     intro zt' ze' zoe' zI' zoI' zC' zoC' zD' zm' zh' ztk' zE' zhC' zha' zhb' zF' zN' zne' zl1 zl2 zl3 zl4
     (first | (have zha9' : zm' _ = some (Value.int 0 zt') := zha') | (have zha9' : zm' _ = some (Value.int 1 zt') := zha'))
     (clear zha')
     (try simp only [List.cons_append, List.nil_append] at zN')
     (k_lt zl1)
     (k_lt zl2)
     (k_lt zl3)
     (k_lt zl4))
  | (refine EnRest.nil ?_
     intro zD' zh' ztk' zF' zN' zl1
     (try simp only [List.cons_append, List.nil_append] at zN')
     (k_lt zl1)
     (try dsimp only))))
  k_with "EndC" => (
  k_dflt (refine endE_intro (by k_asm) (by k_asm) (by kcf_all) ?_)
  (try dsimp only))
  k_with "call builtin:list.count" => (
  k_here
  k_dflt (show wpAny _ _ (call (Value.builtin _) [Value.ref _, Value.int _ _]) _ _ _)
  k_dflt (first
    | (refine count_list_ints (by is_list) (by assumption) ?_)
    | (refine count_list_ints (by is_list) (by exact .nil) ?_)
    | (refine count_list_ints (by is_list) (by exact .cons _ _ .nil) ?_)
    | (refine count_list_ints (by is_list) (by exact .cons _ _ (.cons _ _ .nil)) ?_)))
  have hy8 : y < 8 := by omega
  have hy9 : 0 ≤ y := by omega
  dsimp only [lawDef, first0, defBody, defScope, defParams, prog0, PySem.Challenge.pw_ib0002_01, List.drop] at hbd hsc
  subst hbd hsc
  unfold tailN at N
  (try k_fold)
  have F := Fr.names [(Str.ofString "left", .int g t1)] F (List.forall_mem_cons.mpr ⟨m1, List.forall_mem_nil _⟩)
  dsimp only [kstB] at F
  clear m1
  k_steps
  all_goals (rw [decide_eq_true (by first | (rw [hg, shared1 hx0 hx1 hy0 hy1 hp, if_pos (by with_reducible assumption)]) | (rw [hg, shared1 hx0 hx1 hy0 hy1 hp, if_neg (by with_reducible assumption)]))])
  all_goals (exact ret _ _ _ _ (by k_asm) (kst_newsOf (by k_asm) (l' := (23, full2 c2) :: (16, full1 c1) :: []) (by kst_inAny)))
set_option maxHeartbeats 1000000 in
theorem tail4_2 {w p loose mean mg mb} (C1 : I2dOk w p loose mean mg mb) (C3 : PutOk w p loose mean mg mb) (C4 : DivOk w p loose mean mg mb) (C5 : TimesOk w p loose mean mg mb) (C6 : PartsOk w p loose mean mg mb)
    {x y g a b : Int} {t1 : Tok} (hg0 : 1 ≤ g) (hg1 : g ≤ 7) (hx0 : 1 ≤ x) (hx1 : x ≤ 7) (hy0 : 1 ≤ y) (hy1 : y ≤ 7) {fa L la lo lp c1 c2 : Addr} {cd : Value} {h₀ base : Heap} {m : Str → Option Value} {s : Shared} {A₀ : Around} {n no np : Nat} {r1 r2 r3 r4 r5 : Tok} {oO oP oK oA o1 o2 : Obj} {vK : Option Value} {uso usp : List Value} {Q : Flow → Shared → Prop}
    (B : Below A₀ base [] h₀) (F : Fr h₀ L s.heap m) (X : (Mine.hd.heap_39 w.params).In h₀) (T : Top p loose mean mg mb h₀)(hp : parts x = [a, b]) (hg : g = gcdv x y) (m1 : m (Str.ofString "left") = some (.int g t1))
    (N : News h₀ L s.heap ((lo, W.listOf (List.toArray uso) no) :: (lp, W.listOf (List.toArray usp) np) :: tailN L la c1 c2 n r1 r2 r3 r4 r5 oO oP oK oA o1 o2))
    (hio : IntsAre uso (parts y)) (hip : IntsAre usp (parts x)) (q1 : CodeOb o1 qual1) (q2 : CodeOb o2 qual2) (dO : oO.data = .cell (some (.ref lo))) (dP : oP.data = .cell (some (.ref lp))) (dK : oK.data = .cell vK) (dA : oA.data = .cell (some (.ref la)))
    (l0 : @LT.lt Nat _ 23 L ∧ @LT.lt Nat _ 16 L) (l1 : @LT.lt Nat _ (L + 1 + 1 + 1 + 1) la ∧ @LT.lt Nat _ (L + 1 + 1 + 1 + 1) c1 ∧ @LT.lt Nat _ (L + 1 + 1 + 1 + 1) c2) (l2 : @LT.lt Nat _ la lp ∧ @LT.lt Nat _ c1 lp ∧ @LT.lt Nat _ c2 lp ∧ @LT.lt Nat _ lp lo)(ret : ∀ (h' : Heap) (tk' : Nat) (m' : Str → Option Value) (news : List (Addr × Obj)), Fr h₀ L h' m' → News h₀ L h' ((23, full2 c2) :: (16, full1 c1) :: news) → Q (.ret (.bool true)) { s with heap := h', toks := tk' })
    {bd : List Stmt} {sc : Scope} (hbd : (defBody lawDef).drop 13 = bd) (hsc : defScope lawDef = sc) :
    wpAny (model prog0 w) (callerA.deeper (envOfC (Str.ofString "law") sc L fa cd)) (execs bd (envOfC (Str.ofString "law") sc L fa cd)) Q (fun _ _ => False) s := by
  rw [hp] at hip
  obtain ⟨u0, u1, rfl⟩ := ints_inv2 hip
  w_on
  refine (fun (h : (PySem.Challenge.rw_ib0002_01 = PySem.Challenge.rw_ib0002_01 ∧ Mine.hd.heap_39 = Mine.hd.heap_39) → _) => h ⟨rfl, rfl⟩) ?_
  k_fill
  intro _
  k_with_none
  k_with "MINE ne" => (refine neN ?_; (try dsimp only); first | exact Nat.ne_of_gt (by with_reducible assumption) | exact Nat.ne_of_lt (by with_reducible assumption) | exact Nat.ne_of_gt (And.left (by with_reducible assumption)) | exact Nat.ne_of_lt (And.left (by with_reducible assumption)) | exact Nat.ne_of_gt (And.left (And.right (by with_reducible assumption))) | exact Nat.ne_of_lt (And.left (And.right (by with_reducible assumption))) | exact Nat.ne_of_gt (And.left (And.right (And.right (by with_reducible assumption)))) | exact Nat.ne_of_lt (And.left (And.right (And.right (by with_reducible assumption)))) | exact Nat.ne_of_gt (And.left (And.right (And.right (And.right (by with_reducible assumption))))) | exact Nat.ne_of_lt (And.left (And.right (And.right (And.right (by with_reducible assumption))))) | exact Nat.ne_of_gt (And.left (And.right (And.right (And.right (And.right (by with_reducible assumption)))))) | exact Nat.ne_of_lt (And.left (And.right (And.right (And.right (And.right (by with_reducible assumption)))))) | exact Nat.ne_of_gt (And.left (And.right (And.right (And.right (And.right (And.right (by with_reducible assumption))))))) | exact Nat.ne_of_lt (And.left (And.right (And.right (And.right (And.right (And.right (by with_reducible assumption))))))) | exact Nat.ne_of_gt (And.left (And.right (And.right (And.right (And.right (And.right (And.right (by with_reducible assumption)))))))) | exact Nat.ne_of_lt (And.left (And.right (And.right (And.right (And.right (And.right (And.right (by with_reducible assumption)))))))) | exact Nat.ne_of_gt (And.left (And.right (And.right (And.right (And.right (And.right (And.right (And.right (by with_reducible assumption))))))))) | exact Nat.ne_of_lt (And.left (And.right (And.right (And.right (And.right (And.right (And.right (And.right (by with_reducible assumption))))))))) | exact Nat.ne_of_gt (And.left (And.right (And.right (And.right (And.right (And.right (And.right (And.right (And.right (by with_reducible assumption)))))))))) | exact Nat.ne_of_lt (And.left (And.right (And.right (And.right (And.right (And.right (And.right (And.right (And.right (by with_reducible assumption)))))))))) | exact Nat.ne_of_gt (And.right (by with_reducible assumption)) | exact Nat.ne_of_lt (And.right (by with_reducible assumption)) | exact Nat.ne_of_gt (And.right (And.right (by with_reducible assumption))) | exact Nat.ne_of_lt (And.right (And.right (by with_reducible assumption))) | exact Nat.ne_of_gt (And.right (And.right (And.right (by with_reducible assumption)))) | exact Nat.ne_of_lt (And.right (And.right (And.right (by with_reducible assumption)))) | exact Nat.ne_of_gt (And.right (And.right (And.right (And.right (by with_reducible assumption))))) | exact Nat.ne_of_lt (And.right (And.right (And.right (And.right (by with_reducible assumption))))) | exact Nat.ne_of_gt (And.right (And.right (And.right (And.right (And.right (by with_reducible assumption)))))) | exact Nat.ne_of_lt (And.right (And.right (And.right (And.right (And.right (by with_reducible assumption)))))) | exact Nat.ne_of_gt (And.right (And.right (And.right (And.right (And.right (And.right (by with_reducible assumption))))))) | exact Nat.ne_of_lt (And.right (And.right (And.right (And.right (And.right (And.right (by with_reducible assumption))))))) | exact Nat.ne_of_gt (And.right (And.right (And.right (And.right (And.right (And.right (And.right (by with_reducible assumption)))))))) | exact Nat.ne_of_lt (And.right (And.right (And.right (And.right (And.right (And.right (And.right (by with_reducible assumption)))))))) | exact Nat.ne_of_gt (And.right (And.right (And.right (And.right (And.right (And.right (And.right (And.right (by with_reducible assumption))))))))) | exact Nat.ne_of_lt (And.right (And.right (And.right (And.right (And.right (And.right (And.right (And.right (by with_reducible assumption))))))))) | exact (And.left (And.left (by with_reducible assumption))) | exact (And.left (And.right (And.left (by with_reducible assumption)))) | exact (And.right (And.right (And.left (by with_reducible assumption)))) | exact (And.left (And.left (And.right (by with_reducible assumption)))) | exact (And.left (And.right (And.left (And.right (by with_reducible assumption))))) | exact (And.right (And.right (And.left (And.right (by with_reducible assumption))))) | exact (And.left (And.right (by with_reducible assumption))) | exact (And.left (And.right (And.right (by with_reducible assumption)))) | exact (And.right (And.right (And.right (by with_reducible assumption)))) | exact (And.left (And.left (And.right (And.right (by with_reducible assumption))))) | exact (And.left (And.right (And.left (And.right (And.right (by with_reducible assumption)))))) | exact (And.right (And.right (And.left (And.right (And.right (by with_reducible assumption)))))) | exact (And.left (And.right (And.right (by with_reducible assumption)))) | exact (And.left (And.right (And.right (And.right (by with_reducible assumption))))) | exact (And.right (And.right (And.right (And.right (by with_reducible assumption))))) | exact (And.left (And.left (And.right (And.right (And.right (by with_reducible assumption)))))) | exact (And.left (And.right (And.left (And.right (And.right (And.right (by with_reducible assumption))))))) | exact (And.right (And.right (And.left (And.right (And.right (And.right (by with_reducible assumption))))))) | exact (And.left (And.right (And.right (And.right (by with_reducible assumption))))) | exact (And.left (And.right (And.right (And.right (And.right (by with_reducible assumption)))))) | exact (And.right (And.right (And.right (And.right (And.right (by with_reducible assumption)))))) | exact (And.left (And.left (And.right (And.right (And.right (And.right (by with_reducible assumption))))))) | exact (And.left (And.right (And.left (And.right (And.right (And.right (And.right (by with_reducible assumption)))))))) | exact (And.right (And.right (And.left (And.right (And.right (And.right (And.right (by with_reducible assumption)))))))) | exact (And.left (And.right (And.right (And.right (And.right (by with_reducible assumption)))))) | exact (And.left (And.right (And.right (And.right (And.right (And.right (by with_reducible assumption))))))) | exact (And.right (And.right (And.right (And.right (And.right (And.right (by with_reducible assumption))))))) | exact (And.left (And.left (And.right (And.right (And.right (And.right (And.right (by with_reducible assumption)))))))) | exact (And.left (And.right (And.left (And.right (And.right (And.right (And.right (And.right (by with_reducible assumption))))))))) | exact (And.right (And.right (And.left (And.right (And.right (And.right (And.right (And.right (by with_reducible assumption))))))))) | exact (And.left (And.right (And.right (And.right (And.right (And.right (by with_reducible assumption))))))) | exact (And.left (And.right (And.right (And.right (And.right (And.right (And.right (by with_reducible assumption)))))))) | exact (And.right (And.right (And.right (And.right (And.right (And.right (And.right (by with_reducible assumption)))))))) | exact (And.left (And.left (And.right (And.right (And.right (And.right (And.right (And.right (by with_reducible assumption))))))))) | exact (And.left (And.right (And.left (And.right (And.right (And.right (And.right (And.right (And.right (by with_reducible assumption)))))))))) | exact (And.right (And.right (And.left (And.right (And.right (And.right (And.right (And.right (And.right (by with_reducible assumption)))))))))) | exact (And.left (And.right (And.right (And.right (And.right (And.right (And.right (by with_reducible assumption)))))))) | exact (And.left (And.right (And.right (And.right (And.right (And.right (And.right (And.right (by with_reducible assumption))))))))) | exact (And.right (And.right (And.right (And.right (And.right (And.right (And.right (And.right (by with_reducible assumption))))))))) | exact (And.left (And.left (And.right (And.right (And.right (And.right (And.right (And.right (And.right (by with_reducible assumption)))))))))) | exact (And.left (And.right (And.left (And.right (And.right (And.right (And.right (And.right (And.right (And.right (by with_reducible assumption))))))))))) | exact (And.right (And.right (And.left (And.right (And.right (And.right (And.right (And.right (And.right (And.right (by with_reducible assumption))))))))))) | exact (And.left (And.right (And.right (And.right (And.right (And.right (And.right (And.right (by with_reducible assumption))))))))) | exact (And.left (And.right (And.right (And.right (And.right (And.right (And.right (And.right (And.right (by with_reducible assumption)))))))))) | exact (And.right (And.right (And.right (And.right (And.right (And.right (And.right (And.right (And.right (by with_reducible assumption)))))))))))
  k_with "MINE tab" => (first
  | assumption
  | exact tab_of_news (by k_asm) (by k_dflt k_mem) (by k_dflt k_mem) (by assumption)
  | exact Tab.keeps (by assumption) (Fr.keep (by k_asm)))
  k_with "call ref" => (
  k_here
  k_dflt (refine use_i2d (by k_dflt (assumption)) (by k_dflt (k_asm)) (by k_dflt (k_asm)) (by k_dflt (k_asm)) (by k_dflt (k_asm)) (by k_dflt (k_asm)) (by k_dflt (first | exact rfl | assumption)) (by k_dflt (first | decide | ktr_room)) (by k_dflt (first | decide | ktr_units)) (by first | with_reducible (walk_at "MINE tab") | (walk_at "MINE tab")) (by k_dflt (walk_at "MINE bnd")) (by k_dflt (walk_at "MINE bnd")) ?_)
  k_whole
  intro zl' zn' zvs' zh' ztk' zF' zN' zl1 zi1 zn1 zs1 ze1 ze2
  (try k_lt zl1)
  (try dsimp only)
  (try k_fold))
  k_with "call ref" => (
  k_here
  k_dflt (refine use_put (by k_dflt (assumption)) (by k_dflt (k_asm)) (by k_dflt (k_asm)) (by k_dflt (k_asm)) (by k_dflt (k_asm)) (by k_dflt (k_asm)) (by k_dflt (first | exact rfl | assumption)) (by k_dflt (first | decide | ktr_room)) (by k_dflt (first | decide | ktr_units)) (by first | with_reducible (walk_at "MINE tab") | (walk_at "MINE tab")) (by first | with_reducible (walk_at "MINE tab") | (walk_at "MINE tab")) (by first | with_reducible (walk_at "MINE bnd") | (walk_at "MINE bnd")) (by first | with_reducible (walk_at "MINE bnd") | (walk_at "MINE bnd")) (by first | with_reducible (walk_at "MINE bnd") | (walk_at "MINE bnd")) (by first | with_reducible (walk_at "MINE bnd") | (walk_at "MINE bnd")) ?_)
  k_whole
  intro zt' zh' ztk' zF' zN' zhp0' zhp1'
  (try dsimp only)
  (try k_fold))
  k_with "call ref" => (
  k_here
  k_dflt (refine use_div (by k_dflt (assumption)) (by k_dflt (k_asm)) (by k_dflt (k_asm)) (by k_dflt (k_asm)) (by k_dflt (k_asm)) (by k_dflt (k_asm)) (by k_dflt (first | exact rfl | assumption)) (by k_dflt (first | decide | ktr_room)) (by k_dflt (first | decide | ktr_units)) (by first | with_reducible (walk_at "MINE tab") | (walk_at "MINE tab")) (by first | with_reducible (walk_at "MINE tab") | (walk_at "MINE tab")) (by first | with_reducible (walk_at "MINE bnd") | (walk_at "MINE bnd")) (by first | with_reducible (walk_at "MINE bnd") | (walk_at "MINE bnd")) (by first | with_reducible (walk_at "MINE bnd") | (walk_at "MINE bnd")) (by first | with_reducible (walk_at "MINE bnd") | (walk_at "MINE bnd")) ?_)
  k_whole
  intro zl' zn' zu1' zu2' zh' ztk' zF' zN' zl1 zl2
  (try k_lt zl1)
  (try dsimp only)
  (try k_fold))
  k_with "call ref" => (
  k_here
  k_dflt (refine use_times (by k_dflt (assumption)) (by k_dflt (k_asm)) (by k_dflt (k_asm)) (by k_dflt (k_asm)) (by k_dflt (k_asm)) (by k_dflt (k_asm)) (by k_dflt (first | exact rfl | assumption)) (by k_dflt (first | decide | ktr_room)) (by k_dflt (first | decide | ktr_units)) (by first | with_reducible (walk_at "MINE tab") | (walk_at "MINE tab")) (by first | with_reducible (walk_at "MINE tab") | (walk_at "MINE tab")) (by first | with_reducible (walk_at "MINE bnd") | (walk_at "MINE bnd")) (by first | with_reducible (walk_at "MINE bnd") | (walk_at "MINE bnd")) (by first | with_reducible (walk_at "MINE bnd") | (walk_at "MINE bnd")) (by first | with_reducible (walk_at "MINE bnd") | (walk_at "MINE bnd")) ?_)
  k_whole
  intro zt' zh' ztk' zF' zN' zhp0' zhp1'
  (try dsimp only)
  (try k_fold))
  k_with "call ref" => (
  k_here
  k_dflt (refine use_parts (by k_dflt (assumption)) (by k_dflt (k_asm)) (by k_dflt (k_asm)) (by k_dflt (k_asm)) (by k_dflt (k_asm)) (by k_dflt (k_asm)) (by k_dflt (first | exact rfl | assumption)) (by k_dflt (first | decide | ktr_room)) (by k_dflt (first | decide | ktr_units)) (by first | with_reducible (walk_at "MINE tab") | (walk_at "MINE tab")) (by first | with_reducible (walk_at "MINE tab") | (walk_at "MINE tab")) (by k_dflt (is_list)) (by k_dflt (exact .cons _ _ (.cons _ _ (.cons _ _ (.cons _ _ (.cons _ _ .nil)))))) (by k_dflt (walk_at "MINE bnd")) (by k_dflt (walk_at "MINE bnd")) ?_)
  k_whole
  intro zl' zn' zus' zh' ztk' zF' zN' zl1 zhi'
  (try k_lt zl1)
  (try dsimp only)
  (try k_fold))
  k_with "subscriptTail Name Name ref int" => (
  k_here
  (with_reducible show wpAny _ _ (subscriptTail _ _ (Value.ref _) (Value.int _ _)) _ _ _)
  (with_unfolding_all refine itemRows (by k_dflt (is_list)) ?_ (by with_unfolding_all rfl))
  k_whole
  intro zt'
  (try dsimp only))
  k_with "MINE bnd" => (first | assumption | decide | omega | exact GInv.l0 (by with_reducible assumption) | exact GInv.l1 (by with_reducible assumption) | exact GInv.r0 (by with_reducible assumption) (by with_reducible assumption) | exact GInv.r1 (by with_reducible assumption) | exact (put_seven (by assumption) (by assumption)).1 | exact (put_seven (by assumption) (by assumption)).2 | exact (tinv_bnd (by assumption) (by assumption) (by assumption) (by assumption)).1 | exact (tinv_bnd (by assumption) (by assumption) (by assumption) (by assumption)).2.1 | exact (tinv_bnd (by assumption) (by assumption) (by assumption) (by assumption)).2.2.1 | exact (tinv_bnd (by assumption) (by assumption) (by assumption) (by assumption)).2.2.2)
  k_with "exec Assign cons ListComp" => (
  k_here
  k_dflt (refine assign_enum (F₀ := by k_asm) (by rfl) (by with_unfolding_all rfl) (by with_unfolding_all rfl) (by decide) (by rfl) (by decide) (by rfl) (by rfl) (by decide) (by rfl) (by rfl) ?_))
  k_with "call type:enumerate" => (
  k_here
  k_dflt (refine enum_src (by rfl) (by k_asm) (by k_asm) (by k_mem) (by rfl) (by rfl) (by exact Nat.le_of_ble_eq_true rfl) ?_)
  intro zg'
  (try dsimp only))
  k_with "EnRest" => (k_dflt (first
  | (refine EnRest.cons ?_
     intro zt' ze' zoe' zI' zoI' zC' zoC' zD' zm' zh' ztk' zE' zhC' zha' zhb' zF' zN' zne' zl1 zl2 zl3 zl4
     (first | (have zha9' : zm' _ = some (Value.int 0 zt') := zha') | (have zha9' : zm' _ = some (Value.int 1 zt') := zha'))
     (clear zha')
     (try simp only [List.cons_append, List.nil_append] at zN')
     (k_lt zl1)
     (k_lt zl2)
     (k_lt zl3)
     (k_lt zl4))
  | (refine EnRest.nil ?_
     intro zD' zh' ztk' zF' zN' zl1
     (try simp only [List.cons_append, List.nil_append] at zN')
     (k_lt zl1)
     (try dsimp only))))
  k_with "EndC" => (
  k_dflt (refine endE_intro (by k_asm) (by k_asm) (by kcf_all) ?_)
  (try dsimp only))
  k_with "call builtin:list.count" => (
  k_here
  k_dflt (show wpAny _ _ (call (Value.builtin _) [Value.ref _, Value.int _ _]) _ _ _)
  k_dflt (first
    | (refine count_list_ints (by is_list) (by assumption) ?_)
    | (refine count_list_ints (by is_list) (by exact .nil) ?_)
    | (refine count_list_ints (by is_list) (by exact .cons _ _ .nil) ?_)
    | (refine count_list_ints (by is_list) (by exact .cons _ _ (.cons _ _ .nil)) ?_)))
  have hy8 : y < 8 := by omega
  have hy9 : 0 ≤ y := by omega
  dsimp only [lawDef, first0, defBody, defScope, defParams, prog0, PySem.Challenge.pw_ib0002_01, List.drop] at hbd hsc
  subst hbd hsc
  unfold tailN at N
  (try k_fold)
  have F := Fr.names [(Str.ofString "left", .int g t1)] F (List.forall_mem_cons.mpr ⟨m1, List.forall_mem_nil _⟩)
  dsimp only [kstB] at F
  clear m1
  k_steps
  all_goals (rw [decide_eq_true (by first | (rw [hg, shared2 hx0 hx1 hy0 hy1 hp, if_pos (by with_reducible assumption), if_pos (by with_reducible assumption)]; rfl) | (rw [hg, shared2 hx0 hx1 hy0 hy1 hp, if_pos (by with_reducible assumption), if_neg (by with_reducible assumption)]; rfl) | (rw [hg, shared2 hx0 hx1 hy0 hy1 hp, if_neg (by with_reducible assumption), if_pos (by with_reducible assumption)]; rfl) | (rw [hg, shared2 hx0 hx1 hy0 hy1 hp, if_neg (by with_reducible assumption), if_neg (by with_reducible assumption)]; rfl))])
  all_goals (exact ret _ _ _ _ (by k_asm) (kst_newsOf (by k_asm) (l' := (23, full2 c2) :: (16, full1 c1) :: []) (by kst_inAny)))
end Mine
end -- Tail4

section -- Tailg
open PySem PySem.Spec PySem.Calls PySem.W PyProof.Rows
set_option maxRecDepth 100000
set_option rowWalk.seconds 0
namespace Mine

set_option maxHeartbeats 1000000 in
theorem tailg {w p loose mean mg mb} (C1 : I2dOk w p loose mean mg mb) (C3 : PutOk w p loose mean mg mb) (C4 : DivOk w p loose mean mg mb) (C5 : TimesOk w p loose mean mg mb) (C6 : PartsOk w p loose mean mg mb)
    {x y : Int} {t1 t2 : Tok} (hx0 : 1 ≤ x) (hx1 : x ≤ 7) (hy0 : 1 ≤ y) (hy1 : y ≤ 7) {fa L la lo lp c1 c2 : Addr} {cd : Value} {h₀ base : Heap} {m : Str → Option Value} {s : Shared} {A₀ : Around} {n no np : Nat} {r1 r2 r3 r4 r5 : Tok} {oO oP oK oA o1 o2 : Obj} {vK : Option Value} {uso usp : List Value} {Q : Flow → Shared → Prop}
    (B : Below A₀ base [] h₀) (F : Fr h₀ L s.heap m) (X : (Mine.hd.heap_39 w.params).In h₀) (T : Top p loose mean mg mb h₀)(m1 : m (Str.ofString "one") = some (.int x t1)) (m2 : m (Str.ofString "other") = some (.int y t2))
    (N : News h₀ L s.heap ((lo, W.listOf (List.toArray uso) no) :: (lp, W.listOf (List.toArray usp) np) :: tailN L la c1 c2 n r1 r2 r3 r4 r5 oO oP oK oA o1 o2))
    (hio : IntsAre uso (parts y)) (hip : IntsAre usp (parts x)) (q1 : CodeOb o1 qual1) (q2 : CodeOb o2 qual2) (dO : oO.data = .cell (some (.ref lo))) (dP : oP.data = .cell (some (.ref lp))) (dK : oK.data = .cell vK) (dA : oA.data = .cell (some (.ref la)))
    (l0 : @LT.lt Nat _ 23 L ∧ @LT.lt Nat _ 16 L) (l1 : @LT.lt Nat _ (L + 1 + 1 + 1 + 1) la ∧ @LT.lt Nat _ (L + 1 + 1 + 1 + 1) c1 ∧ @LT.lt Nat _ (L + 1 + 1 + 1 + 1) c2) (l2 : @LT.lt Nat _ la lp ∧ @LT.lt Nat _ c1 lp ∧ @LT.lt Nat _ c2 lp ∧ @LT.lt Nat _ lp lo)(ret : ∀ (h' : Heap) (tk' : Nat) (m' : Str → Option Value) (news : List (Addr × Obj)), Fr h₀ L h' m' → News h₀ L h' ((23, full2 c2) :: (16, full1 c1) :: news) → Q (.ret (.bool true)) { s with heap := h', toks := tk' })
    {bd : List Stmt} {sc : Scope} (hbd : (defBody lawDef).drop 11 = bd) (hsc : defScope lawDef = sc) :
    wpAny (model prog0 w) (callerA.deeper (envOfC (Str.ofString "law") sc L fa cd)) (execs bd (envOfC (Str.ofString "law") sc L fa cd)) Q (fun _ _ => False) s := by
  w_on
  refine (fun (h : (PySem.Challenge.rw_ib0002_01 = PySem.Challenge.rw_ib0002_01 ∧ Mine.hd.heap_39 = Mine.hd.heap_39) → _) => h ⟨rfl, rfl⟩) ?_
  k_fill
  intro _
  k_with_none
  k_with "MINE ne" => (refine neN ?_; (try dsimp only); first | exact Nat.ne_of_gt (by with_reducible assumption) | exact Nat.ne_of_lt (by with_reducible assumption) | exact Nat.ne_of_gt (And.left (by with_reducible assumption)) | exact Nat.ne_of_lt (And.left (by with_reducible assumption)) | exact Nat.ne_of_gt (And.left (And.right (by with_reducible assumption))) | exact Nat.ne_of_lt (And.left (And.right (by with_reducible assumption))) | exact Nat.ne_of_gt (And.left (And.right (And.right (by with_reducible assumption)))) | exact Nat.ne_of_lt (And.left (And.right (And.right (by with_reducible assumption)))) | exact Nat.ne_of_gt (And.left (And.right (And.right (And.right (by with_reducible assumption))))) | exact Nat.ne_of_lt (And.left (And.right (And.right (And.right (by with_reducible assumption))))) | exact Nat.ne_of_gt (And.left (And.right (And.right (And.right (And.right (by with_reducible assumption)))))) | exact Nat.ne_of_lt (And.left (And.right (And.right (And.right (And.right (by with_reducible assumption)))))) | exact Nat.ne_of_gt (And.left (And.right (And.right (And.right (And.right (And.right (by with_reducible assumption))))))) | exact Nat.ne_of_lt (And.left (And.right (And.right (And.right (And.right (And.right (by with_reducible assumption))))))) | exact Nat.ne_of_gt (And.left (And.right (And.right (And.right (And.right (And.right (And.right (by with_reducible assumption)))))))) | exact Nat.ne_of_lt (And.left (And.right (And.right (And.right (And.right (And.right (And.right (by with_reducible assumption)))))))) | exact Nat.ne_of_gt (And.left (And.right (And.right (And.right (And.right (And.right (And.right (And.right (by with_reducible assumption))))))))) | exact Nat.ne_of_lt (And.left (And.right (And.right (And.right (And.right (And.right (And.right (And.right (by with_reducible assumption))))))))) | exact Nat.ne_of_gt (And.left (And.right (And.right (And.right (And.right (And.right (And.right (And.right (And.right (by with_reducible assumption)))))))))) | exact Nat.ne_of_lt (And.left (And.right (And.right (And.right (And.right (And.right (And.right (And.right (And.right (by with_reducible assumption)))))))))) | exact Nat.ne_of_gt (And.right (by with_reducible assumption)) | exact Nat.ne_of_lt (And.right (by with_reducible assumption)) | exact Nat.ne_of_gt (And.right (And.right (by with_reducible assumption))) | exact Nat.ne_of_lt (And.right (And.right (by with_reducible assumption))) | exact Nat.ne_of_gt (And.right (And.right (And.right (by with_reducible assumption)))) | exact Nat.ne_of_lt (And.right (And.right (And.right (by with_reducible assumption)))) | exact Nat.ne_of_gt (And.right (And.right (And.right (And.right (by with_reducible assumption))))) | exact Nat.ne_of_lt (And.right (And.right (And.right (And.right (by with_reducible assumption))))) | exact Nat.ne_of_gt (And.right (And.right (And.right (And.right (And.right (by with_reducible assumption)))))) | exact Nat.ne_of_lt (And.right (And.right (And.right (And.right (And.right (by with_reducible assumption)))))) | exact Nat.ne_of_gt (And.right (And.right (And.right (And.right (And.right (And.right (by with_reducible assumption))))))) | exact Nat.ne_of_lt (And.right (And.right (And.right (And.right (And.right (And.right (by with_reducible assumption))))))) | exact Nat.ne_of_gt (And.right (And.right (And.right (And.right (And.right (And.right (And.right (by with_reducible assumption)))))))) | exact Nat.ne_of_lt (And.right (And.right (And.right (And.right (And.right (And.right (And.right (by with_reducible assumption)))))))) | exact Nat.ne_of_gt (And.right (And.right (And.right (And.right (And.right (And.right (And.right (And.right (by with_reducible assumption))))))))) | exact Nat.ne_of_lt (And.right (And.right (And.right (And.right (And.right (And.right (And.right (And.right (by with_reducible assumption))))))))) | exact (And.left (And.left (by with_reducible assumption))) | exact (And.left (And.right (And.left (by with_reducible assumption)))) | exact (And.right (And.right (And.left (by with_reducible assumption)))) | exact (And.left (And.left (And.right (by with_reducible assumption)))) | exact (And.left (And.right (And.left (And.right (by with_reducible assumption))))) | exact (And.right (And.right (And.left (And.right (by with_reducible assumption))))) | exact (And.left (And.right (by with_reducible assumption))) | exact (And.left (And.right (And.right (by with_reducible assumption)))) | exact (And.right (And.right (And.right (by with_reducible assumption)))) | exact (And.left (And.left (And.right (And.right (by with_reducible assumption))))) | exact (And.left (And.right (And.left (And.right (And.right (by with_reducible assumption)))))) | exact (And.right (And.right (And.left (And.right (And.right (by with_reducible assumption)))))) | exact (And.left (And.right (And.right (by with_reducible assumption)))) | exact (And.left (And.right (And.right (And.right (by with_reducible assumption))))) | exact (And.right (And.right (And.right (And.right (by with_reducible assumption))))) | exact (And.left (And.left (And.right (And.right (And.right (by with_reducible assumption)))))) | exact (And.left (And.right (And.left (And.right (And.right (And.right (by with_reducible assumption))))))) | exact (And.right (And.right (And.left (And.right (And.right (And.right (by with_reducible assumption))))))) | exact (And.left (And.right (And.right (And.right (by with_reducible assumption))))) | exact (And.left (And.right (And.right (And.right (And.right (by with_reducible assumption)))))) | exact (And.right (And.right (And.right (And.right (And.right (by with_reducible assumption)))))) | exact (And.left (And.left (And.right (And.right (And.right (And.right (by with_reducible assumption))))))) | exact (And.left (And.right (And.left (And.right (And.right (And.right (And.right (by with_reducible assumption)))))))) | exact (And.right (And.right (And.left (And.right (And.right (And.right (And.right (by with_reducible assumption)))))))) | exact (And.left (And.right (And.right (And.right (And.right (by with_reducible assumption)))))) | exact (And.left (And.right (And.right (And.right (And.right (And.right (by with_reducible assumption))))))) | exact (And.right (And.right (And.right (And.right (And.right (And.right (by with_reducible assumption))))))) | exact (And.left (And.left (And.right (And.right (And.right (And.right (And.right (by with_reducible assumption)))))))) | exact (And.left (And.right (And.left (And.right (And.right (And.right (And.right (And.right (by with_reducible assumption))))))))) | exact (And.right (And.right (And.left (And.right (And.right (And.right (And.right (And.right (by with_reducible assumption))))))))) | exact (And.left (And.right (And.right (And.right (And.right (And.right (by with_reducible assumption))))))) | exact (And.left (And.right (And.right (And.right (And.right (And.right (And.right (by with_reducible assumption)))))))) | exact (And.right (And.right (And.right (And.right (And.right (And.right (And.right (by with_reducible assumption)))))))) | exact (And.left (And.left (And.right (And.right (And.right (And.right (And.right (And.right (by with_reducible assumption))))))))) | exact (And.left (And.right (And.left (And.right (And.right (And.right (And.right (And.right (And.right (by with_reducible assumption)))))))))) | exact (And.right (And.right (And.left (And.right (And.right (And.right (And.right (And.right (And.right (by with_reducible assumption)))))))))) | exact (And.left (And.right (And.right (And.right (And.right (And.right (And.right (by with_reducible assumption)))))))) | exact (And.left (And.right (And.right (And.right (And.right (And.right (And.right (And.right (by with_reducible assumption))))))))) | exact (And.right (And.right (And.right (And.right (And.right (And.right (And.right (And.right (by with_reducible assumption))))))))) | exact (And.left (And.left (And.right (And.right (And.right (And.right (And.right (And.right (And.right (by with_reducible assumption)))))))))) | exact (And.left (And.right (And.left (And.right (And.right (And.right (And.right (And.right (And.right (And.right (by with_reducible assumption))))))))))) | exact (And.right (And.right (And.left (And.right (And.right (And.right (And.right (And.right (And.right (And.right (by with_reducible assumption))))))))))) | exact (And.left (And.right (And.right (And.right (And.right (And.right (And.right (And.right (by with_reducible assumption))))))))) | exact (And.left (And.right (And.right (And.right (And.right (And.right (And.right (And.right (And.right (by with_reducible assumption)))))))))) | exact (And.right (And.right (And.right (And.right (And.right (And.right (And.right (And.right (And.right (by with_reducible assumption)))))))))))
  k_with "MINE tab" => (first
  | assumption
  | exact tab_of_news (by k_asm) (by k_dflt k_mem) (by k_dflt k_mem) (by assumption)
  | exact Tab.keeps (by assumption) (Fr.keep (by k_asm)))
  k_with "call ref" => (
  k_here
  k_dflt (refine use_i2d (by k_dflt (assumption)) (by k_dflt (k_asm)) (by k_dflt (k_asm)) (by k_dflt (k_asm)) (by k_dflt (k_asm)) (by k_dflt (k_asm)) (by k_dflt (first | exact rfl | assumption)) (by k_dflt (first | decide | ktr_room)) (by k_dflt (first | decide | ktr_units)) (by first | with_reducible (walk_at "MINE tab") | (walk_at "MINE tab")) (by k_dflt (walk_at "MINE bnd")) (by k_dflt (walk_at "MINE bnd")) ?_)
  k_whole
  intro zl' zn' zvs' zh' ztk' zF' zN' zl1 zi1 zn1 zs1 ze1 ze2
  (try k_lt zl1)
  (try dsimp only)
  (try k_fold))
  k_with "call ref" => (
  k_here
  k_dflt (refine use_put (by k_dflt (assumption)) (by k_dflt (k_asm)) (by k_dflt (k_asm)) (by k_dflt (k_asm)) (by k_dflt (k_asm)) (by k_dflt (k_asm)) (by k_dflt (first | exact rfl | assumption)) (by k_dflt (first | decide | ktr_room)) (by k_dflt (first | decide | ktr_units)) (by first | with_reducible (walk_at "MINE tab") | (walk_at "MINE tab")) (by first | with_reducible (walk_at "MINE tab") | (walk_at "MINE tab")) (by first | with_reducible (walk_at "MINE bnd") | (walk_at "MINE bnd")) (by first | with_reducible (walk_at "MINE bnd") | (walk_at "MINE bnd")) (by first | with_reducible (walk_at "MINE bnd") | (walk_at "MINE bnd")) (by first | with_reducible (walk_at "MINE bnd") | (walk_at "MINE bnd")) ?_)
  k_whole
  intro zt' zh' ztk' zF' zN' zhp0' zhp1'
  (try dsimp only)
  (try k_fold))
  k_with "call ref" => (
  k_here
  k_dflt (refine use_div (by k_dflt (assumption)) (by k_dflt (k_asm)) (by k_dflt (k_asm)) (by k_dflt (k_asm)) (by k_dflt (k_asm)) (by k_dflt (k_asm)) (by k_dflt (first | exact rfl | assumption)) (by k_dflt (first | decide | ktr_room)) (by k_dflt (first | decide | ktr_units)) (by first | with_reducible (walk_at "MINE tab") | (walk_at "MINE tab")) (by first | with_reducible (walk_at "MINE tab") | (walk_at "MINE tab")) (by first | with_reducible (walk_at "MINE bnd") | (walk_at "MINE bnd")) (by first | with_reducible (walk_at "MINE bnd") | (walk_at "MINE bnd")) (by first | with_reducible (walk_at "MINE bnd") | (walk_at "MINE bnd")) (by first | with_reducible (walk_at "MINE bnd") | (walk_at "MINE bnd")) ?_)
  k_whole
  intro zl' zn' zu1' zu2' zh' ztk' zF' zN' zl1 zl2
  (try k_lt zl1)
  (try dsimp only)
  (try k_fold))
  k_with "call ref" => (
  k_here
  k_dflt (refine use_times (by k_dflt (assumption)) (by k_dflt (k_asm)) (by k_dflt (k_asm)) (by k_dflt (k_asm)) (by k_dflt (k_asm)) (by k_dflt (k_asm)) (by k_dflt (first | exact rfl | assumption)) (by k_dflt (first | decide | ktr_room)) (by k_dflt (first | decide | ktr_units)) (by first | with_reducible (walk_at "MINE tab") | (walk_at "MINE tab")) (by first | with_reducible (walk_at "MINE tab") | (walk_at "MINE tab")) (by first | with_reducible (walk_at "MINE bnd") | (walk_at "MINE bnd")) (by first | with_reducible (walk_at "MINE bnd") | (walk_at "MINE bnd")) (by first | with_reducible (walk_at "MINE bnd") | (walk_at "MINE bnd")) (by first | with_reducible (walk_at "MINE bnd") | (walk_at "MINE bnd")) ?_)
  k_whole
  intro zt' zh' ztk' zF' zN' zhp0' zhp1'
  (try dsimp only)
  (try k_fold))
  k_with "call ref" => (
  k_here
  k_dflt (refine use_parts (by k_dflt (assumption)) (by k_dflt (k_asm)) (by k_dflt (k_asm)) (by k_dflt (k_asm)) (by k_dflt (k_asm)) (by k_dflt (k_asm)) (by k_dflt (first | exact rfl | assumption)) (by k_dflt (first | decide | ktr_room)) (by k_dflt (first | decide | ktr_units)) (by first | with_reducible (walk_at "MINE tab") | (walk_at "MINE tab")) (by first | with_reducible (walk_at "MINE tab") | (walk_at "MINE tab")) (by k_dflt (is_list)) (by k_dflt (exact .cons _ _ (.cons _ _ (.cons _ _ (.cons _ _ (.cons _ _ .nil)))))) (by k_dflt (walk_at "MINE bnd")) (by k_dflt (walk_at "MINE bnd")) ?_)
  k_whole
  intro zl' zn' zus' zh' ztk' zF' zN' zl1 zhi'
  (try k_lt zl1)
  (try dsimp only)
  (try k_fold))
  k_with "subscriptTail Name Name ref int" => (
  k_here
  (with_reducible show wpAny _ _ (subscriptTail _ _ (Value.ref _) (Value.int _ _)) _ _ _)
  (with_unfolding_all refine itemRows (by k_dflt (is_list)) ?_ (by with_unfolding_all rfl))
  k_whole
  intro zt'
  (try dsimp only))
  k_with "MINE bnd" => (first | assumption | decide | omega | exact GInv.l0 (by with_reducible assumption) | exact GInv.l1 (by with_reducible assumption) | exact GInv.r0 (by with_reducible assumption) (by with_reducible assumption) | exact GInv.r1 (by with_reducible assumption) | exact (put_seven (by assumption) (by assumption)).1 | exact (put_seven (by assumption) (by assumption)).2 | exact (tinv_bnd (by assumption) (by assumption) (by assumption) (by assumption)).1 | exact (tinv_bnd (by assumption) (by assumption) (by assumption) (by assumption)).2.1 | exact (tinv_bnd (by assumption) (by assumption) (by assumption) (by assumption)).2.2.1 | exact (tinv_bnd (by assumption) (by assumption) (by assumption) (by assumption)).2.2.2)
  have hx8 : x < 8 := by omega
  have hy8 : y < 8 := by omega
  have hx9 : 0 ≤ x := by omega
  have hy9 : 0 ≤ y := by omega
  dsimp only [lawDef, first0, defBody, defScope, defParams, prog0, PySem.Challenge.pw_ib0002_01, List.drop] at hbd hsc
  subst hbd hsc
  unfold tailN at N
  (try k_fold)
  have F := Fr.names [(Str.ofString "one", .int x t1), (Str.ofString "other", .int y t2)] F (List.forall_mem_cons.mpr ⟨m1, List.forall_mem_cons.mpr ⟨m2, List.forall_mem_nil _⟩⟩)
  dsimp only [kstB] at F
  clear m1 m2
  k_with "pyIter ref" => (k_of "turn" => k_state_short (fun pre l r => GInv x y pre l r) "left" "right")
  k_with "state" => first | exact ginv_start hx0 hx1 hy0 hy1 | exact ginv_turn (by assumption) (by assumption) | exact ginv_stay (by assumption) (by assumption)
  repeat' ((fail_if_success (with_reducible show wpAny _ _ (execs (Stmt.Assign _ (Expr.ListComp _ _ _ _) _ :: _) _) _ _ _)); (first | (k_unfold; (try dsimp only)) | (k_end; wrow_close) | walk1 | (dsimp only; walk1) | (leave1; walk_say "STEP leave1"; try dsimp only) | fail "no step"))
  k_with_none
  have hl := ginv_end (by with_reducible assumption) (by k_dflt exact rangeKs_length _ _)
  subst hl
  rcases parts_shape hx0 hx1 with hp | ⟨a, hp⟩ | ⟨a, b, hp⟩
  · dsimp only
    k_dflt (refine' tail4_0 C1 C3 C4 C5 C6 (gcdv_bnd hx0 hx1 hy0 hy1).1 (gcdv_bnd hx0 hx1 hy0 hy1).2 hx0 hx1 hy0 hy1 B ?tF0 X T hp rfl ?tm0 ?tN0 (by with_reducible assumption) (by with_reducible assumption) q1 q2 dO dP dK dA l0 l1 l2 ?tr0 ?tb0 ?ts0)
    (case tr0 => exact ret)
    (case tb0 => dsimp only [lawDef, first0, defBody, defScope, defParams, prog0, PySem.Challenge.pw_ib0002_01, List.drop])
    (case ts0 => dsimp only [lawDef, first0, defBody, defScope, defParams, prog0, PySem.Challenge.pw_ib0002_01, List.drop])
    (case tF0 => exact kFr)
    (case tm0 => with_unfolding_all rfl)
    (case tN0 => with_unfolding_all exact kst_newsOf kNews (by unfold tailN; kst_inAny))
  · dsimp only
    k_dflt (refine' tail4_1 C1 C3 C4 C5 C6 (gcdv_bnd hx0 hx1 hy0 hy1).1 (gcdv_bnd hx0 hx1 hy0 hy1).2 hx0 hx1 hy0 hy1 B ?tF1 X T hp rfl ?tm1 ?tN1 (by with_reducible assumption) (by with_reducible assumption) q1 q2 dO dP dK dA l0 l1 l2 ?tr1 ?tb1 ?ts1)
    (case tr1 => exact ret)
    (case tb1 => dsimp only [lawDef, first0, defBody, defScope, defParams, prog0, PySem.Challenge.pw_ib0002_01, List.drop])
    (case ts1 => dsimp only [lawDef, first0, defBody, defScope, defParams, prog0, PySem.Challenge.pw_ib0002_01, List.drop])
    (case tF1 => exact kFr)
    (case tm1 => with_unfolding_all rfl)
    (case tN1 => with_unfolding_all exact kst_newsOf kNews (by unfold tailN; kst_inAny))
  · dsimp only
    k_dflt (refine' tail4_2 C1 C3 C4 C5 C6 (gcdv_bnd hx0 hx1 hy0 hy1).1 (gcdv_bnd hx0 hx1 hy0 hy1).2 hx0 hx1 hy0 hy1 B ?tF2 X T hp rfl ?tm2 ?tN2 (by with_reducible assumption) (by with_reducible assumption) q1 q2 dO dP dK dA l0 l1 l2 ?tr2 ?tb2 ?ts2)
    (case tr2 => exact ret)
    (case tb2 => dsimp only [lawDef, first0, defBody, defScope, defParams, prog0, PySem.Challenge.pw_ib0002_01, List.drop])
    (case ts2 => dsimp only [lawDef, first0, defBody, defScope, defParams, prog0, PySem.Challenge.pw_ib0002_01, List.drop])
    (case tF2 => exact kFr)
    (case tm2 => with_unfolding_all rfl)
    (case tN2 => with_unfolding_all exact kst_newsOf kNews (by unfold tailN; kst_inAny))
end Mine
end -- Tailg

section -- Tail3
open PySem PySem.Spec PySem.Calls PySem.W PyProof.Rows
set_option maxRecDepth 100000
set_option rowWalk.seconds 0
namespace Mine

set_option maxHeartbeats 1000000 in
theorem tail3 {w p loose mean mg mb} (C1 : I2dOk w p loose mean mg mb) (C3 : PutOk w p loose mean mg mb) (C4 : DivOk w p loose mean mg mb) (C5 : TimesOk w p loose mean mg mb) (C6 : PartsOk w p loose mean mg mb)
    {x y : Int} {t1 t2 t3 : Tok} (hx0 : 1 ≤ x) (hx1 : x ≤ 7) (hy0 : 1 ≤ y) (hy1 : y ≤ 7) {fa L la lo lp c1 c2 : Addr} {cd : Value} {h₀ base : Heap} {m : Str → Option Value} {s : Shared} {A₀ : Around} {n no np : Nat} {r1 r2 r3 r4 r5 : Tok} {oO oP oK oA o1 o2 : Obj} {vK : Option Value} {uso usp : List Value} {Q : Flow → Shared → Prop}
    (B : Below A₀ base [] h₀) (F : Fr h₀ L s.heap m) (X : (Mine.hd.heap_39 w.params).In h₀) (T : Top p loose mean mg mb h₀)(m1 : m (Str.ofString "one") = some (.int x t1)) (m2 : m (Str.ofString "other") = some (.int y t2)) (m3 : m (Str.ofString "both") = some (.int (times x y) t3))
    (N : News h₀ L s.heap ((lo, W.listOf (List.toArray uso) no) :: (lp, W.listOf (List.toArray usp) np) :: tailN L la c1 c2 n r1 r2 r3 r4 r5 oO oP oK oA o1 o2))
    (hio : IntsAre uso (parts y)) (hip : IntsAre usp (parts x)) (q1 : CodeOb o1 qual1) (q2 : CodeOb o2 qual2) (dO : oO.data = .cell (some (.ref lo))) (dP : oP.data = .cell (some (.ref lp))) (dK : oK.data = .cell vK) (dA : oA.data = .cell (some (.ref la)))
    (l0 : @LT.lt Nat _ 23 L ∧ @LT.lt Nat _ 16 L) (l1 : @LT.lt Nat _ (L + 1 + 1 + 1 + 1) la ∧ @LT.lt Nat _ (L + 1 + 1 + 1 + 1) c1 ∧ @LT.lt Nat _ (L + 1 + 1 + 1 + 1) c2) (l2 : @LT.lt Nat _ la lp ∧ @LT.lt Nat _ c1 lp ∧ @LT.lt Nat _ c2 lp ∧ @LT.lt Nat _ lp lo)(ret : ∀ (h' : Heap) (tk' : Nat) (m' : Str → Option Value) (news : List (Addr × Obj)), Fr h₀ L h' m' → News h₀ L h' ((23, full2 c2) :: (16, full1 c1) :: news) → Q (.ret (.bool true)) { s with heap := h', toks := tk' })
    {bd : List Stmt} {sc : Scope} (hbd : (defBody lawDef).drop 9 = bd) (hsc : defScope lawDef = sc) :
    wpAny (model prog0 w) (callerA.deeper (envOfC (Str.ofString "law") sc L fa cd)) (execs bd (envOfC (Str.ofString "law") sc L fa cd)) Q (fun _ _ => False) s := by
  w_on
  refine (fun (h : (PySem.Challenge.rw_ib0002_01 = PySem.Challenge.rw_ib0002_01 ∧ Mine.hd.heap_39 = Mine.hd.heap_39) → _) => h ⟨rfl, rfl⟩) ?_
  k_fill
  intro _
  k_with_none
  k_with "MINE ne" => (refine neN ?_; (try dsimp only); first | exact Nat.ne_of_gt (by with_reducible assumption) | exact Nat.ne_of_lt (by with_reducible assumption) | exact Nat.ne_of_gt (And.left (by with_reducible assumption)) | exact Nat.ne_of_lt (And.left (by with_reducible assumption)) | exact Nat.ne_of_gt (And.left (And.right (by with_reducible assumption))) | exact Nat.ne_of_lt (And.left (And.right (by with_reducible assumption))) | exact Nat.ne_of_gt (And.left (And.right (And.right (by with_reducible assumption)))) | exact Nat.ne_of_lt (And.left (And.right (And.right (by with_reducible assumption)))) | exact Nat.ne_of_gt (And.left (And.right (And.right (And.right (by with_reducible assumption))))) | exact Nat.ne_of_lt (And.left (And.right (And.right (And.right (by with_reducible assumption))))) | exact Nat.ne_of_gt (And.left (And.right (And.right (And.right (And.right (by with_reducible assumption)))))) | exact Nat.ne_of_lt (And.left (And.right (And.right (And.right (And.right (by with_reducible assumption)))))) | exact Nat.ne_of_gt (And.left (And.right (And.right (And.right (And.right (And.right (by with_reducible assumption))))))) | exact Nat.ne_of_lt (And.left (And.right (And.right (And.right (And.right (And.right (by with_reducible assumption))))))) | exact Nat.ne_of_gt (And.left (And.right (And.right (And.right (And.right (And.right (And.right (by with_reducible assumption)))))))) | exact Nat.ne_of_lt (And.left (And.right (And.right (And.right (And.right (And.right (And.right (by with_reducible assumption)))))))) | exact Nat.ne_of_gt (And.left (And.right (And.right (And.right (And.right (And.right (And.right (And.right (by with_reducible assumption))))))))) | exact Nat.ne_of_lt (And.left (And.right (And.right (And.right (And.right (And.right (And.right (And.right (by with_reducible assumption))))))))) | exact Nat.ne_of_gt (And.left (And.right (And.right (And.right (And.right (And.right (And.right (And.right (And.right (by with_reducible assumption)))))))))) | exact Nat.ne_of_lt (And.left (And.right (And.right (And.right (And.right (And.right (And.right (And.right (And.right (by with_reducible assumption)))))))))) | exact Nat.ne_of_gt (And.right (by with_reducible assumption)) | exact Nat.ne_of_lt (And.right (by with_reducible assumption)) | exact Nat.ne_of_gt (And.right (And.right (by with_reducible assumption))) | exact Nat.ne_of_lt (And.right (And.right (by with_reducible assumption))) | exact Nat.ne_of_gt (And.right (And.right (And.right (by with_reducible assumption)))) | exact Nat.ne_of_lt (And.right (And.right (And.right (by with_reducible assumption)))) | exact Nat.ne_of_gt (And.right (And.right (And.right (And.right (by with_reducible assumption))))) | exact Nat.ne_of_lt (And.right (And.right (And.right (And.right (by with_reducible assumption))))) | exact Nat.ne_of_gt (And.right (And.right (And.right (And.right (And.right (by with_reducible assumption)))))) | exact Nat.ne_of_lt (And.right (And.right (And.right (And.right (And.right (by with_reducible assumption)))))) | exact Nat.ne_of_gt (And.right (And.right (And.right (And.right (And.right (And.right (by with_reducible assumption))))))) | exact Nat.ne_of_lt (And.right (And.right (And.right (And.right (And.right (And.right (by with_reducible assumption))))))) | exact Nat.ne_of_gt (And.right (And.right (And.right (And.right (And.right (And.right (And.right (by with_reducible assumption)))))))) | exact Nat.ne_of_lt (And.right (And.right (And.right (And.right (And.right (And.right (And.right (by with_reducible assumption)))))))) | exact Nat.ne_of_gt (And.right (And.right (And.right (And.right (And.right (And.right (And.right (And.right (by with_reducible assumption))))))))) | exact Nat.ne_of_lt (And.right (And.right (And.right (And.right (And.right (And.right (And.right (And.right (by with_reducible assumption))))))))) | exact (And.left (And.left (by with_reducible assumption))) | exact (And.left (And.right (And.left (by with_reducible assumption)))) | exact (And.right (And.right (And.left (by with_reducible assumption)))) | exact (And.left (And.left (And.right (by with_reducible assumption)))) | exact (And.left (And.right (And.left (And.right (by with_reducible assumption))))) | exact (And.right (And.right (And.left (And.right (by with_reducible assumption))))) | exact (And.left (And.right (by with_reducible assumption))) | exact (And.left (And.right (And.right (by with_reducible assumption)))) | exact (And.right (And.right (And.right (by with_reducible assumption)))) | exact (And.left (And.left (And.right (And.right (by with_reducible assumption))))) | exact (And.left (And.right (And.left (And.right (And.right (by with_reducible assumption)))))) | exact (And.right (And.right (And.left (And.right (And.right (by with_reducible assumption)))))) | exact (And.left (And.right (And.right (by with_reducible assumption)))) | exact (And.left (And.right (And.right (And.right (by with_reducible assumption))))) | exact (And.right (And.right (And.right (And.right (by with_reducible assumption))))) | exact (And.left (And.left (And.right (And.right (And.right (by with_reducible assumption)))))) | exact (And.left (And.right (And.left (And.right (And.right (And.right (by with_reducible assumption))))))) | exact (And.right (And.right (And.left (And.right (And.right (And.right (by with_reducible assumption))))))) | exact (And.left (And.right (And.right (And.right (by with_reducible assumption))))) | exact (And.left (And.right (And.right (And.right (And.right (by with_reducible assumption)))))) | exact (And.right (And.right (And.right (And.right (And.right (by with_reducible assumption)))))) | exact (And.left (And.left (And.right (And.right (And.right (And.right (by with_reducible assumption))))))) | exact (And.left (And.right (And.left (And.right (And.right (And.right (And.right (by with_reducible assumption)))))))) | exact (And.right (And.right (And.left (And.right (And.right (And.right (And.right (by with_reducible assumption)))))))) | exact (And.left (And.right (And.right (And.right (And.right (by with_reducible assumption)))))) | exact (And.left (And.right (And.right (And.right (And.right (And.right (by with_reducible assumption))))))) | exact (And.right (And.right (And.right (And.right (And.right (And.right (by with_reducible assumption))))))) | exact (And.left (And.left (And.right (And.right (And.right (And.right (And.right (by with_reducible assumption)))))))) | exact (And.left (And.right (And.left (And.right (And.right (And.right (And.right (And.right (by with_reducible assumption))))))))) | exact (And.right (And.right (And.left (And.right (And.right (And.right (And.right (And.right (by with_reducible assumption))))))))) | exact (And.left (And.right (And.right (And.right (And.right (And.right (by with_reducible assumption))))))) | exact (And.left (And.right (And.right (And.right (And.right (And.right (And.right (by with_reducible assumption)))))))) | exact (And.right (And.right (And.right (And.right (And.right (And.right (And.right (by with_reducible assumption)))))))) | exact (And.left (And.left (And.right (And.right (And.right (And.right (And.right (And.right (by with_reducible assumption))))))))) | exact (And.left (And.right (And.left (And.right (And.right (And.right (And.right (And.right (And.right (by with_reducible assumption)))))))))) | exact (And.right (And.right (And.left (And.right (And.right (And.right (And.right (And.right (And.right (by with_reducible assumption)))))))))) | exact (And.left (And.right (And.right (And.right (And.right (And.right (And.right (by with_reducible assumption)))))))) | exact (And.left (And.right (And.right (And.right (And.right (And.right (And.right (And.right (by with_reducible assumption))))))))) | exact (And.right (And.right (And.right (And.right (And.right (And.right (And.right (And.right (by with_reducible assumption))))))))) | exact (And.left (And.left (And.right (And.right (And.right (And.right (And.right (And.right (And.right (by with_reducible assumption)))))))))) | exact (And.left (And.right (And.left (And.right (And.right (And.right (And.right (And.right (And.right (And.right (by with_reducible assumption))))))))))) | exact (And.right (And.right (And.left (And.right (And.right (And.right (And.right (And.right (And.right (And.right (by with_reducible assumption))))))))))) | exact (And.left (And.right (And.right (And.right (And.right (And.right (And.right (And.right (by with_reducible assumption))))))))) | exact (And.left (And.right (And.right (And.right (And.right (And.right (And.right (And.right (And.right (by with_reducible assumption)))))))))) | exact (And.right (And.right (And.right (And.right (And.right (And.right (And.right (And.right (And.right (by with_reducible assumption)))))))))))
  k_with "MINE tab" => (first
  | assumption
  | exact tab_of_news (by k_asm) (by k_dflt k_mem) (by k_dflt k_mem) (by assumption)
  | exact Tab.keeps (by assumption) (Fr.keep (by k_asm)))
  k_with "call ref" => (
  k_here
  k_dflt (refine use_i2d (by k_dflt (assumption)) (by k_dflt (k_asm)) (by k_dflt (k_asm)) (by k_dflt (k_asm)) (by k_dflt (k_asm)) (by k_dflt (k_asm)) (by k_dflt (first | exact rfl | assumption)) (by k_dflt (first | decide | ktr_room)) (by k_dflt (first | decide | ktr_units)) (by first | with_reducible (walk_at "MINE tab") | (walk_at "MINE tab")) (by k_dflt (walk_at "MINE bnd")) (by k_dflt (walk_at "MINE bnd")) ?_)
  k_whole
  intro zl' zn' zvs' zh' ztk' zF' zN' zl1 zi1 zn1 zs1 ze1 ze2
  (try k_lt zl1)
  (try dsimp only)
  (try k_fold))
  k_with "call ref" => (
  k_here
  k_dflt (refine use_put (by k_dflt (assumption)) (by k_dflt (k_asm)) (by k_dflt (k_asm)) (by k_dflt (k_asm)) (by k_dflt (k_asm)) (by k_dflt (k_asm)) (by k_dflt (first | exact rfl | assumption)) (by k_dflt (first | decide | ktr_room)) (by k_dflt (first | decide | ktr_units)) (by first | with_reducible (walk_at "MINE tab") | (walk_at "MINE tab")) (by first | with_reducible (walk_at "MINE tab") | (walk_at "MINE tab")) (by first | with_reducible (walk_at "MINE bnd") | (walk_at "MINE bnd")) (by first | with_reducible (walk_at "MINE bnd") | (walk_at "MINE bnd")) (by first | with_reducible (walk_at "MINE bnd") | (walk_at "MINE bnd")) (by first | with_reducible (walk_at "MINE bnd") | (walk_at "MINE bnd")) ?_)
  k_whole
  intro zt' zh' ztk' zF' zN' zhp0' zhp1'
  (try dsimp only)
  (try k_fold))
  k_with "call ref" => (
  k_here
  k_dflt (refine use_div (by k_dflt (assumption)) (by k_dflt (k_asm)) (by k_dflt (k_asm)) (by k_dflt (k_asm)) (by k_dflt (k_asm)) (by k_dflt (k_asm)) (by k_dflt (first | exact rfl | assumption)) (by k_dflt (first | decide | ktr_room)) (by k_dflt (first | decide | ktr_units)) (by first | with_reducible (walk_at "MINE tab") | (walk_at "MINE tab")) (by first | with_reducible (walk_at "MINE tab") | (walk_at "MINE tab")) (by first | with_reducible (walk_at "MINE bnd") | (walk_at "MINE bnd")) (by first | with_reducible (walk_at "MINE bnd") | (walk_at "MINE bnd")) (by first | with_reducible (walk_at "MINE bnd") | (walk_at "MINE bnd")) (by first | with_reducible (walk_at "MINE bnd") | (walk_at "MINE bnd")) ?_)
  k_whole
  intro zl' zn' zu1' zu2' zh' ztk' zF' zN' zl1 zl2
  (try k_lt zl1)
  (try dsimp only)
  (try k_fold))
  k_with "call ref" => (
  k_here
  k_dflt (refine use_times (by k_dflt (assumption)) (by k_dflt (k_asm)) (by k_dflt (k_asm)) (by k_dflt (k_asm)) (by k_dflt (k_asm)) (by k_dflt (k_asm)) (by k_dflt (first | exact rfl | assumption)) (by k_dflt (first | decide | ktr_room)) (by k_dflt (first | decide | ktr_units)) (by first | with_reducible (walk_at "MINE tab") | (walk_at "MINE tab")) (by first | with_reducible (walk_at "MINE tab") | (walk_at "MINE tab")) (by first | with_reducible (walk_at "MINE bnd") | (walk_at "MINE bnd")) (by first | with_reducible (walk_at "MINE bnd") | (walk_at "MINE bnd")) (by first | with_reducible (walk_at "MINE bnd") | (walk_at "MINE bnd")) (by first | with_reducible (walk_at "MINE bnd") | (walk_at "MINE bnd")) ?_)
  k_whole
  intro zt' zh' ztk' zF' zN' zhp0' zhp1'
  (try dsimp only)
  (try k_fold))
  k_with "call ref" => (
  k_here
  k_dflt (refine use_parts (by k_dflt (assumption)) (by k_dflt (k_asm)) (by k_dflt (k_asm)) (by k_dflt (k_asm)) (by k_dflt (k_asm)) (by k_dflt (k_asm)) (by k_dflt (first | exact rfl | assumption)) (by k_dflt (first | decide | ktr_room)) (by k_dflt (first | decide | ktr_units)) (by first | with_reducible (walk_at "MINE tab") | (walk_at "MINE tab")) (by first | with_reducible (walk_at "MINE tab") | (walk_at "MINE tab")) (by k_dflt (is_list)) (by k_dflt (exact .cons _ _ (.cons _ _ (.cons _ _ (.cons _ _ (.cons _ _ .nil)))))) (by k_dflt (walk_at "MINE bnd")) (by k_dflt (walk_at "MINE bnd")) ?_)
  k_whole
  intro zl' zn' zus' zh' ztk' zF' zN' zl1 zhi'
  (try k_lt zl1)
  (try dsimp only)
  (try k_fold))
  k_with "subscriptTail Name Name ref int" => (
  k_here
  (with_reducible show wpAny _ _ (subscriptTail _ _ (Value.ref _) (Value.int _ _)) _ _ _)
  (with_unfolding_all refine itemRows (by k_dflt (is_list)) ?_ (by with_unfolding_all rfl))
  k_whole
  intro zt'
  (try dsimp only))
  k_with "MINE bnd" => (first | assumption | decide | omega | exact GInv.l0 (by with_reducible assumption) | exact GInv.l1 (by with_reducible assumption) | exact GInv.r0 (by with_reducible assumption) (by with_reducible assumption) | exact GInv.r1 (by with_reducible assumption) | exact (put_seven (by assumption) (by assumption)).1 | exact (put_seven (by assumption) (by assumption)).2 | exact (tinv_bnd (by assumption) (by assumption) (by assumption) (by assumption)).1 | exact (tinv_bnd (by assumption) (by assumption) (by assumption) (by assumption)).2.1 | exact (tinv_bnd (by assumption) (by assumption) (by assumption) (by assumption)).2.2.1 | exact (tinv_bnd (by assumption) (by assumption) (by assumption) (by assumption)).2.2.2)
  have hx8 : x < 8 := by omega
  have hy8 : y < 8 := by omega
  have hx9 : 0 ≤ x := by omega
  have hy9 : 0 ≤ y := by omega
  dsimp only [lawDef, first0, defBody, defScope, defParams, prog0, PySem.Challenge.pw_ib0002_01, List.drop] at hbd hsc
  subst hbd hsc
  unfold tailN at N
  (try k_fold)
  have F := Fr.names [(Str.ofString "both", .int (times x y) t3), (Str.ofString "one", .int x t1), (Str.ofString "other", .int y t2)] F (List.forall_mem_cons.mpr ⟨m3, List.forall_mem_cons.mpr ⟨m1, List.forall_mem_cons.mpr ⟨m2, List.forall_mem_nil _⟩⟩⟩)
  dsimp only [kstB] at F
  clear m1 m2 m3
  have hr0 := (divr_small (a := x) (b := y) hx9 (by omega) hy0 (by omega)).1
  have hr1 := (divr_small (a := x) (b := y) hx9 (by omega) hy0 (by omega)).2
  have hb0 := (times_small hx9 hx8 hy9 hy8).1
  have hb1 := (times_small hx9 hx8 hy9 hy8).2
  have hbd9 := both_div hx0 hx1 hy0 hy1
  repeat' ((fail_if_success (with_reducible show wpAny _ _ (execs (Stmt.Assign [Expr.Tuple _ _ _] _ _ :: _) _) _ _ _)); (first | (k_unfold; (try dsimp only)) | (k_end; wrow_close) | walk1 | (dsimp only; walk1) | (leave1; walk_say "STEP leave1"; try dsimp only) | fail "no step"))
  all_goals (try dsimp only)
  all_goals (try ((with_reducible show Q (Flow.ret (Value.bool false)) _); exfalso; (first | exact rest_short hx0 hx1 hy0 hy1 (by with_reducible assumption) (by with_reducible assumption) (by with_reducible assumption) (by with_reducible assumption) | exact tail3_no hbd9 (by with_reducible assumption))))
  all_goals ((try dsimp only); k_dflt (refine' tailg C1 C3 C4 C5 C6 hx0 hx1 hy0 hy1 B ?tF X T ?tm0 ?tm1 ?tN (by with_reducible assumption) (by with_reducible assumption) q1 q2 dO dP dK dA l0 l1 l2 ?tr ?tb ?ts); k_dflt (case tF => k_asm); (case tm0 => with_unfolding_all rfl); (case tm1 => with_unfolding_all rfl); (case tN => with_unfolding_all exact kst_newsOf (by k_asm) (by unfold tailN; kst_inAny)); (case tr => exact ret); (case tb => dsimp only [lawDef, first0, defBody, defScope, defParams, prog0, PySem.Challenge.pw_ib0002_01, List.drop]); (case ts => dsimp only [lawDef, first0, defBody, defScope, defParams, prog0, PySem.Challenge.pw_ib0002_01, List.drop]))
end Mine
end -- Tail3

section -- LawBis
open PySem PySem.Spec PySem.Calls PySem.W PyProof.Rows
set_option maxRecDepth 100000
set_option rowWalk.seconds 0
namespace Mine
theorem list_keeps3 {h h' : Heap} {l : Addr} {items : Array Value} (x : h.IsList l items) (k : ∀ b o, h.get? b = some o → h'.get? b = some o) : h'.IsList l items := let ⟨o, ho, r⟩ := x; ⟨o, k l o ho, r⟩
theorem my_itemC {prog : Program} {w : World} {A : Around} {E : Value → Shared → Prop} {s : Shared} {value slice : PySem.Expr} {l : Addr} {vs : List Value} {k : Int} {u : Tok} {v : Value} {Q : Value → Shared → Prop}
    (hl : s.heap.IsList l vs.toArray) (h0 : 0 ≤ k) (hhi : k < 2 ^ 63) (hx : vs[k.toNat]? = some v) (h : Q v s)
    (hs : subscripted slice false (.ref l) (.int k u) = operate [.ref l, .int k u] (getItem (.ref l) (.int k u)) := by with_unfolding_all rfl) :
    wpAny (model prog w) A (subscriptTail value slice (.ref l) (.int k u)) Q E s :=
  tail_any hl.typeIs slot_list_getitem.lookup (wpAny_getItem_list hl h0 hhi (by simpa using hx) h) hs
set_option maxHeartbeats 2000000 in
theorem bis_0 {w p loose mean mg mb} {l : Addr} {x : Int} {t t0 : Tok}    : Call w p loose mean mg mb 46 [.ref l, .int x t, .int 0 t0, .none] 2 (fun h => h.IsList l (List.toArray [])) (fun _ _ v => ∃ u, v = .int 0 u) := by
  w_on
  refine (fun (h : (PySem.Challenge.rw_ib0002_01 = PySem.Challenge.rw_ib0002_01 ∧ Mine.hd.heap_39 = Mine.hd.heap_39) → _) => h ⟨rfl, rfl⟩) ?_
  k_fill
  intro _
  k_with_none
  k_with "MINE ne" => (refine neN ?_; (try dsimp only); first | exact Nat.ne_of_gt (by with_reducible assumption) | exact Nat.ne_of_lt (by with_reducible assumption) | exact Nat.ne_of_gt (And.left (by with_reducible assumption)) | exact Nat.ne_of_lt (And.left (by with_reducible assumption)) | exact Nat.ne_of_gt (And.left (And.right (by with_reducible assumption))) | exact Nat.ne_of_lt (And.left (And.right (by with_reducible assumption))) | exact Nat.ne_of_gt (And.left (And.right (And.right (by with_reducible assumption)))) | exact Nat.ne_of_lt (And.left (And.right (And.right (by with_reducible assumption)))) | exact Nat.ne_of_gt (And.left (And.right (And.right (And.right (by with_reducible assumption))))) | exact Nat.ne_of_lt (And.left (And.right (And.right (And.right (by with_reducible assumption))))) | exact Nat.ne_of_gt (And.left (And.right (And.right (And.right (And.right (by with_reducible assumption)))))) | exact Nat.ne_of_lt (And.left (And.right (And.right (And.right (And.right (by with_reducible assumption)))))) | exact Nat.ne_of_gt (And.left (And.right (And.right (And.right (And.right (And.right (by with_reducible assumption))))))) | exact Nat.ne_of_lt (And.left (And.right (And.right (And.right (And.right (And.right (by with_reducible assumption))))))) | exact Nat.ne_of_gt (And.left (And.right (And.right (And.right (And.right (And.right (And.right (by with_reducible assumption)))))))) | exact Nat.ne_of_lt (And.left (And.right (And.right (And.right (And.right (And.right (And.right (by with_reducible assumption)))))))) | exact Nat.ne_of_gt (And.left (And.right (And.right (And.right (And.right (And.right (And.right (And.right (by with_reducible assumption))))))))) | exact Nat.ne_of_lt (And.left (And.right (And.right (And.right (And.right (And.right (And.right (And.right (by with_reducible assumption))))))))) | exact Nat.ne_of_gt (And.left (And.right (And.right (And.right (And.right (And.right (And.right (And.right (And.right (by with_reducible assumption)))))))))) | exact Nat.ne_of_lt (And.left (And.right (And.right (And.right (And.right (And.right (And.right (And.right (And.right (by with_reducible assumption)))))))))) | exact Nat.ne_of_gt (And.right (by with_reducible assumption)) | exact Nat.ne_of_lt (And.right (by with_reducible assumption)) | exact Nat.ne_of_gt (And.right (And.right (by with_reducible assumption))) | exact Nat.ne_of_lt (And.right (And.right (by with_reducible assumption))) | exact Nat.ne_of_gt (And.right (And.right (And.right (by with_reducible assumption)))) | exact Nat.ne_of_lt (And.right (And.right (And.right (by with_reducible assumption)))) | exact Nat.ne_of_gt (And.right (And.right (And.right (And.right (by with_reducible assumption))))) | exact Nat.ne_of_lt (And.right (And.right (And.right (And.right (by with_reducible assumption))))) | exact Nat.ne_of_gt (And.right (And.right (And.right (And.right (And.right (by with_reducible assumption)))))) | exact Nat.ne_of_lt (And.right (And.right (And.right (And.right (And.right (by with_reducible assumption)))))) | exact Nat.ne_of_gt (And.right (And.right (And.right (And.right (And.right (And.right (by with_reducible assumption))))))) | exact Nat.ne_of_lt (And.right (And.right (And.right (And.right (And.right (And.right (by with_reducible assumption))))))) | exact Nat.ne_of_gt (And.right (And.right (And.right (And.right (And.right (And.right (And.right (by with_reducible assumption)))))))) | exact Nat.ne_of_lt (And.right (And.right (And.right (And.right (And.right (And.right (And.right (by with_reducible assumption)))))))) | exact Nat.ne_of_gt (And.right (And.right (And.right (And.right (And.right (And.right (And.right (And.right (by with_reducible assumption))))))))) | exact Nat.ne_of_lt (And.right (And.right (And.right (And.right (And.right (And.right (And.right (And.right (by with_reducible assumption))))))))) | exact (And.left (And.left (by with_reducible assumption))) | exact (And.left (And.right (And.left (by with_reducible assumption)))) | exact (And.right (And.right (And.left (by with_reducible assumption)))) | exact (And.left (And.left (And.right (by with_reducible assumption)))) | exact (And.left (And.right (And.left (And.right (by with_reducible assumption))))) | exact (And.right (And.right (And.left (And.right (by with_reducible assumption))))) | exact (And.left (And.right (by with_reducible assumption))) | exact (And.left (And.right (And.right (by with_reducible assumption)))) | exact (And.right (And.right (And.right (by with_reducible assumption)))) | exact (And.left (And.left (And.right (And.right (by with_reducible assumption))))) | exact (And.left (And.right (And.left (And.right (And.right (by with_reducible assumption)))))) | exact (And.right (And.right (And.left (And.right (And.right (by with_reducible assumption)))))) | exact (And.left (And.right (And.right (by with_reducible assumption)))) | exact (And.left (And.right (And.right (And.right (by with_reducible assumption))))) | exact (And.right (And.right (And.right (And.right (by with_reducible assumption))))) | exact (And.left (And.left (And.right (And.right (And.right (by with_reducible assumption)))))) | exact (And.left (And.right (And.left (And.right (And.right (And.right (by with_reducible assumption))))))) | exact (And.right (And.right (And.left (And.right (And.right (And.right (by with_reducible assumption))))))) | exact (And.left (And.right (And.right (And.right (by with_reducible assumption))))) | exact (And.left (And.right (And.right (And.right (And.right (by with_reducible assumption)))))) | exact (And.right (And.right (And.right (And.right (And.right (by with_reducible assumption)))))) | exact (And.left (And.left (And.right (And.right (And.right (And.right (by with_reducible assumption))))))) | exact (And.left (And.right (And.left (And.right (And.right (And.right (And.right (by with_reducible assumption)))))))) | exact (And.right (And.right (And.left (And.right (And.right (And.right (And.right (by with_reducible assumption)))))))) | exact (And.left (And.right (And.right (And.right (And.right (by with_reducible assumption)))))) | exact (And.left (And.right (And.right (And.right (And.right (And.right (by with_reducible assumption))))))) | exact (And.right (And.right (And.right (And.right (And.right (And.right (by with_reducible assumption))))))) | exact (And.left (And.left (And.right (And.right (And.right (And.right (And.right (by with_reducible assumption)))))))) | exact (And.left (And.right (And.left (And.right (And.right (And.right (And.right (And.right (by with_reducible assumption))))))))) | exact (And.right (And.right (And.left (And.right (And.right (And.right (And.right (And.right (by with_reducible assumption))))))))) | exact (And.left (And.right (And.right (And.right (And.right (And.right (by with_reducible assumption))))))) | exact (And.left (And.right (And.right (And.right (And.right (And.right (And.right (by with_reducible assumption)))))))) | exact (And.right (And.right (And.right (And.right (And.right (And.right (And.right (by with_reducible assumption)))))))) | exact (And.left (And.left (And.right (And.right (And.right (And.right (And.right (And.right (by with_reducible assumption))))))))) | exact (And.left (And.right (And.left (And.right (And.right (And.right (And.right (And.right (And.right (by with_reducible assumption)))))))))) | exact (And.right (And.right (And.left (And.right (And.right (And.right (And.right (And.right (And.right (by with_reducible assumption)))))))))) | exact (And.left (And.right (And.right (And.right (And.right (And.right (And.right (by with_reducible assumption)))))))) | exact (And.left (And.right (And.right (And.right (And.right (And.right (And.right (And.right (by with_reducible assumption))))))))) | exact (And.right (And.right (And.right (And.right (And.right (And.right (And.right (And.right (by with_reducible assumption))))))))) | exact (And.left (And.left (And.right (And.right (And.right (And.right (And.right (And.right (And.right (by with_reducible assumption)))))))))) | exact (And.left (And.right (And.left (And.right (And.right (And.right (And.right (And.right (And.right (And.right (by with_reducible assumption))))))))))) | exact (And.right (And.right (And.left (And.right (And.right (And.right (And.right (And.right (And.right (And.right (by with_reducible assumption))))))))))) | exact (And.left (And.right (And.right (And.right (And.right (And.right (And.right (And.right (by with_reducible assumption))))))))) | exact (And.left (And.right (And.right (And.right (And.right (And.right (And.right (And.right (And.right (by with_reducible assumption)))))))))) | exact (And.right (And.right (And.right (And.right (And.right (And.right (And.right (And.right (And.right (by with_reducible assumption)))))))))))
  k_with "MINE enterP" => (
  refine enterP (by k_asm) (by k_asm) (by k_asm) (by k_asm) (by exact rfl) (by exact rfl) (by assumption) (by k_is) (by k_is) (by ktr_room) (by refine kp_binds (by exact Frag.In.keeps (by k_asm) (Fr.keep (by k_asm))) (by exact fun _ => rfl)) (by exact locs rfl) ?_ (by exact rfl) (by exact rfl) (by exact rfl) (by decide)
  k_whole)
  k_with "subscriptTail Name Name ref int" => (
  k_here
  (with_reducible show wpAny _ _ (subscriptTail _ _ (Value.ref _) (Value.int _ _)) _ _ _)
  (with_unfolding_all refine my_itemC (by is_list) (by k_dflt (first | decide | omega)) (by k_dflt (decide)) (by k_dflt (exact rfl)) ?_ (by k_dflt (with_unfolding_all rfl)))
  k_whole)
  intro dp un gd cn cs a ccd cl outer A₀ base h₀ L m s Q E B F X T hk hpre hd hu hret
  refine wpAny_call ?_
  k_dflt walk_at "MINE enterP"
  intro g L' h₁ hkg hsz F' N' B' X' T'
  have hlst : g.IsList l _ := list_keeps3 hpre hkg
  clear B F X T hpre
  (try dsimp only)
  (try k_fold)
  k_steps
  all_goals (try dsimp only)
  all_goals (refine hret _ _ _ (fun b o e => Fr.keep (by k_asm) b o (hkg b o e)) ⟨_, congrArg (fun z => Value.int z _) ?_⟩)
  all_goals first
    | with_unfolding_all rfl
    | (exfalso; omega)
    | (unfold bisv; (repeat' split) <;> first | with_unfolding_all rfl | (exfalso; omega))
set_option maxHeartbeats 2000000 in
theorem bis_1 {w p loose mean mg mb} {l : Addr} {x : Int} {t t0 : Tok} {a0 : Int} {u0 : Tok} (b0 : a0 < x) : Call w p loose mean mg mb 46 [.ref l, .int x t, .int 0 t0, .none] 2 (fun h => h.IsList l (List.toArray [.int a0 u0])) (fun _ _ v => ∃ u, v = .int 1 u) := by
  w_on
  refine (fun (h : (PySem.Challenge.rw_ib0002_01 = PySem.Challenge.rw_ib0002_01 ∧ Mine.hd.heap_39 = Mine.hd.heap_39) → _) => h ⟨rfl, rfl⟩) ?_
  k_fill
  intro _
  k_with_none
  k_with "MINE ne" => (refine neN ?_; (try dsimp only); first | exact Nat.ne_of_gt (by with_reducible assumption) | exact Nat.ne_of_lt (by with_reducible assumption) | exact Nat.ne_of_gt (And.left (by with_reducible assumption)) | exact Nat.ne_of_lt (And.left (by with_reducible assumption)) | exact Nat.ne_of_gt (And.left (And.right (by with_reducible assumption))) | exact Nat.ne_of_lt (And.left (And.right (by with_reducible assumption))) | exact Nat.ne_of_gt (And.left (And.right (And.right (by with_reducible assumption)))) | exact Nat.ne_of_lt (And.left (And.right (And.right (by with_reducible assumption)))) | exact Nat.ne_of_gt (And.left (And.right (And.right (And.right (by with_reducible assumption))))) | exact Nat.ne_of_lt (And.left (And.right (And.right (And.right (by with_reducible assumption))))) | exact Nat.ne_of_gt (And.left (And.right (And.right (And.right (And.right (by with_reducible assumption)))))) | exact Nat.ne_of_lt (And.left (And.right (And.right (And.right (And.right (by with_reducible assumption)))))) | exact Nat.ne_of_gt (And.left (And.right (And.right (And.right (And.right (And.right (by with_reducible assumption))))))) | exact Nat.ne_of_lt (And.left (And.right (And.right (And.right (And.right (And.right (by with_reducible assumption))))))) | exact Nat.ne_of_gt (And.left (And.right (And.right (And.right (And.right (And.right (And.right (by with_reducible assumption)))))))) | exact Nat.ne_of_lt (And.left (And.right (And.right (And.right (And.right (And.right (And.right (by with_reducible assumption)))))))) | exact Nat.ne_of_gt (And.left (And.right (And.right (And.right (And.right (And.right (And.right (And.right (by with_reducible assumption))))))))) | exact Nat.ne_of_lt (And.left (And.right (And.right (And.right (And.right (And.right (And.right (And.right (by with_reducible assumption))))))))) | exact Nat.ne_of_gt (And.left (And.right (And.right (And.right (And.right (And.right (And.right (And.right (And.right (by with_reducible assumption)))))))))) | exact Nat.ne_of_lt (And.left (And.right (And.right (And.right (And.right (And.right (And.right (And.right (And.right (by with_reducible assumption)))))))))) | exact Nat.ne_of_gt (And.right (by with_reducible assumption)) | exact Nat.ne_of_lt (And.right (by with_reducible assumption)) | exact Nat.ne_of_gt (And.right (And.right (by with_reducible assumption))) | exact Nat.ne_of_lt (And.right (And.right (by with_reducible assumption))) | exact Nat.ne_of_gt (And.right (And.right (And.right (by with_reducible assumption)))) | exact Nat.ne_of_lt (And.right (And.right (And.right (by with_reducible assumption)))) | exact Nat.ne_of_gt (And.right (And.right (And.right (And.right (by with_reducible assumption))))) | exact Nat.ne_of_lt (And.right (And.right (And.right (And.right (by with_reducible assumption))))) | exact Nat.ne_of_gt (And.right (And.right (And.right (And.right (And.right (by with_reducible assumption)))))) | exact Nat.ne_of_lt (And.right (And.right (And.right (And.right (And.right (by with_reducible assumption)))))) | exact Nat.ne_of_gt (And.right (And.right (And.right (And.right (And.right (And.right (by with_reducible assumption))))))) | exact Nat.ne_of_lt (And.right (And.right (And.right (And.right (And.right (And.right (by with_reducible assumption))))))) | exact Nat.ne_of_gt (And.right (And.right (And.right (And.right (And.right (And.right (And.right (by with_reducible assumption)))))))) | exact Nat.ne_of_lt (And.right (And.right (And.right (And.right (And.right (And.right (And.right (by with_reducible assumption)))))))) | exact Nat.ne_of_gt (And.right (And.right (And.right (And.right (And.right (And.right (And.right (And.right (by with_reducible assumption))))))))) | exact Nat.ne_of_lt (And.right (And.right (And.right (And.right (And.right (And.right (And.right (And.right (by with_reducible assumption))))))))) | exact (And.left (And.left (by with_reducible assumption))) | exact (And.left (And.right (And.left (by with_reducible assumption)))) | exact (And.right (And.right (And.left (by with_reducible assumption)))) | exact (And.left (And.left (And.right (by with_reducible assumption)))) | exact (And.left (And.right (And.left (And.right (by with_reducible assumption))))) | exact (And.right (And.right (And.left (And.right (by with_reducible assumption))))) | exact (And.left (And.right (by with_reducible assumption))) | exact (And.left (And.right (And.right (by with_reducible assumption)))) | exact (And.right (And.right (And.right (by with_reducible assumption)))) | exact (And.left (And.left (And.right (And.right (by with_reducible assumption))))) | exact (And.left (And.right (And.left (And.right (And.right (by with_reducible assumption)))))) | exact (And.right (And.right (And.left (And.right (And.right (by with_reducible assumption)))))) | exact (And.left (And.right (And.right (by with_reducible assumption)))) | exact (And.left (And.right (And.right (And.right (by with_reducible assumption))))) | exact (And.right (And.right (And.right (And.right (by with_reducible assumption))))) | exact (And.left (And.left (And.right (And.right (And.right (by with_reducible assumption)))))) | exact (And.left (And.right (And.left (And.right (And.right (And.right (by with_reducible assumption))))))) | exact (And.right (And.right (And.left (And.right (And.right (And.right (by with_reducible assumption))))))) | exact (And.left (And.right (And.right (And.right (by with_reducible assumption))))) | exact (And.left (And.right (And.right (And.right (And.right (by with_reducible assumption)))))) | exact (And.right (And.right (And.right (And.right (And.right (by with_reducible assumption)))))) | exact (And.left (And.left (And.right (And.right (And.right (And.right (by with_reducible assumption))))))) | exact (And.left (And.right (And.left (And.right (And.right (And.right (And.right (by with_reducible assumption)))))))) | exact (And.right (And.right (And.left (And.right (And.right (And.right (And.right (by with_reducible assumption)))))))) | exact (And.left (And.right (And.right (And.right (And.right (by with_reducible assumption)))))) | exact (And.left (And.right (And.right (And.right (And.right (And.right (by with_reducible assumption))))))) | exact (And.right (And.right (And.right (And.right (And.right (And.right (by with_reducible assumption))))))) | exact (And.left (And.left (And.right (And.right (And.right (And.right (And.right (by with_reducible assumption)))))))) | exact (And.left (And.right (And.left (And.right (And.right (And.right (And.right (And.right (by with_reducible assumption))))))))) | exact (And.right (And.right (And.left (And.right (And.right (And.right (And.right (And.right (by with_reducible assumption))))))))) | exact (And.left (And.right (And.right (And.right (And.right (And.right (by with_reducible assumption))))))) | exact (And.left (And.right (And.right (And.right (And.right (And.right (And.right (by with_reducible assumption)))))))) | exact (And.right (And.right (And.right (And.right (And.right (And.right (And.right (by with_reducible assumption)))))))) | exact (And.left (And.left (And.right (And.right (And.right (And.right (And.right (And.right (by with_reducible assumption))))))))) | exact (And.left (And.right (And.left (And.right (And.right (And.right (And.right (And.right (And.right (by with_reducible assumption)))))))))) | exact (And.right (And.right (And.left (And.right (And.right (And.right (And.right (And.right (And.right (by with_reducible assumption)))))))))) | exact (And.left (And.right (And.right (And.right (And.right (And.right (And.right (by with_reducible assumption)))))))) | exact (And.left (And.right (And.right (And.right (And.right (And.right (And.right (And.right (by with_reducible assumption))))))))) | exact (And.right (And.right (And.right (And.right (And.right (And.right (And.right (And.right (by with_reducible assumption))))))))) | exact (And.left (And.left (And.right (And.right (And.right (And.right (And.right (And.right (And.right (by with_reducible assumption)))))))))) | exact (And.left (And.right (And.left (And.right (And.right (And.right (And.right (And.right (And.right (And.right (by with_reducible assumption))))))))))) | exact (And.right (And.right (And.left (And.right (And.right (And.right (And.right (And.right (And.right (And.right (by with_reducible assumption))))))))))) | exact (And.left (And.right (And.right (And.right (And.right (And.right (And.right (And.right (by with_reducible assumption))))))))) | exact (And.left (And.right (And.right (And.right (And.right (And.right (And.right (And.right (And.right (by with_reducible assumption)))))))))) | exact (And.right (And.right (And.right (And.right (And.right (And.right (And.right (And.right (And.right (by with_reducible assumption)))))))))))
  k_with "MINE enterP" => (
  refine enterP (by k_asm) (by k_asm) (by k_asm) (by k_asm) (by exact rfl) (by exact rfl) (by assumption) (by k_is) (by k_is) (by ktr_room) (by refine kp_binds (by exact Frag.In.keeps (by k_asm) (Fr.keep (by k_asm))) (by exact fun _ => rfl)) (by exact locs rfl) ?_ (by exact rfl) (by exact rfl) (by exact rfl) (by decide)
  k_whole)
  k_with "subscriptTail Name Name ref int" => (
  k_here
  (with_reducible show wpAny _ _ (subscriptTail _ _ (Value.ref _) (Value.int _ _)) _ _ _)
  (with_unfolding_all refine my_itemC (by is_list) (by k_dflt (first | decide | omega)) (by k_dflt (decide)) (by k_dflt (exact rfl)) ?_ (by k_dflt (with_unfolding_all rfl)))
  k_whole)
  intro dp un gd cn cs a ccd cl outer A₀ base h₀ L m s Q E B F X T hk hpre hd hu hret
  refine wpAny_call ?_
  k_dflt walk_at "MINE enterP"
  intro g L' h₁ hkg hsz F' N' B' X' T'
  have hlst : g.IsList l _ := list_keeps3 hpre hkg
  clear B F X T hpre
  (try dsimp only)
  (try k_fold)
  k_steps
  all_goals (try dsimp only)
  all_goals (refine hret _ _ _ (fun b o e => Fr.keep (by k_asm) b o (hkg b o e)) ⟨_, congrArg (fun z => Value.int z _) ?_⟩)
  all_goals first
    | with_unfolding_all rfl
    | (exfalso; omega)
    | (unfold bisv; (repeat' split) <;> first | with_unfolding_all rfl | (exfalso; omega))
set_option maxHeartbeats 2000000 in
theorem bis_2 {w p loose mean mg mb} {l : Addr} {x : Int} {t t0 : Tok} {a0 : Int} {a1 : Int} {u0 : Tok} {u1 : Tok} (b0 : a0 < x) (b1 : a1 < x) : Call w p loose mean mg mb 46 [.ref l, .int x t, .int 0 t0, .none] 2 (fun h => h.IsList l (List.toArray [.int a0 u0, .int a1 u1])) (fun _ _ v => ∃ u, v = .int 2 u) := by
  w_on
  refine (fun (h : (PySem.Challenge.rw_ib0002_01 = PySem.Challenge.rw_ib0002_01 ∧ Mine.hd.heap_39 = Mine.hd.heap_39) → _) => h ⟨rfl, rfl⟩) ?_
  k_fill
  intro _
  k_with_none
  k_with "MINE ne" => (refine neN ?_; (try dsimp only); first | exact Nat.ne_of_gt (by with_reducible assumption) | exact Nat.ne_of_lt (by with_reducible assumption) | exact Nat.ne_of_gt (And.left (by with_reducible assumption)) | exact Nat.ne_of_lt (And.left (by with_reducible assumption)) | exact Nat.ne_of_gt (And.left (And.right (by with_reducible assumption))) | exact Nat.ne_of_lt (And.left (And.right (by with_reducible assumption))) | exact Nat.ne_of_gt (And.left (And.right (And.right (by with_reducible assumption)))) | exact Nat.ne_of_lt (And.left (And.right (And.right (by with_reducible assumption)))) | exact Nat.ne_of_gt (And.left (And.right (And.right (And.right (by with_reducible assumption))))) | exact Nat.ne_of_lt (And.left (And.right (And.right (And.right (by with_reducible assumption))))) | exact Nat.ne_of_gt (And.left (And.right (And.right (And.right (And.right (by with_reducible assumption)))))) | exact Nat.ne_of_lt (And.left (And.right (And.right (And.right (And.right (by with_reducible assumption)))))) | exact Nat.ne_of_gt (And.left (And.right (And.right (And.right (And.right (And.right (by with_reducible assumption))))))) | exact Nat.ne_of_lt (And.left (And.right (And.right (And.right (And.right (And.right (by with_reducible assumption))))))) | exact Nat.ne_of_gt (And.left (And.right (And.right (And.right (And.right (And.right (And.right (by with_reducible assumption)))))))) | exact Nat.ne_of_lt (And.left (And.right (And.right (And.right (And.right (And.right (And.right (by with_reducible assumption)))))))) | exact Nat.ne_of_gt (And.left (And.right (And.right (And.right (And.right (And.right (And.right (And.right (by with_reducible assumption))))))))) | exact Nat.ne_of_lt (And.left (And.right (And.right (And.right (And.right (And.right (And.right (And.right (by with_reducible assumption))))))))) | exact Nat.ne_of_gt (And.left (And.right (And.right (And.right (And.right (And.right (And.right (And.right (And.right (by with_reducible assumption)))))))))) | exact Nat.ne_of_lt (And.left (And.right (And.right (And.right (And.right (And.right (And.right (And.right (And.right (by with_reducible assumption)))))))))) | exact Nat.ne_of_gt (And.right (by with_reducible assumption)) | exact Nat.ne_of_lt (And.right (by with_reducible assumption)) | exact Nat.ne_of_gt (And.right (And.right (by with_reducible assumption))) | exact Nat.ne_of_lt (And.right (And.right (by with_reducible assumption))) | exact Nat.ne_of_gt (And.right (And.right (And.right (by with_reducible assumption)))) | exact Nat.ne_of_lt (And.right (And.right (And.right (by with_reducible assumption)))) | exact Nat.ne_of_gt (And.right (And.right (And.right (And.right (by with_reducible assumption))))) | exact Nat.ne_of_lt (And.right (And.right (And.right (And.right (by with_reducible assumption))))) | exact Nat.ne_of_gt (And.right (And.right (And.right (And.right (And.right (by with_reducible assumption)))))) | exact Nat.ne_of_lt (And.right (And.right (And.right (And.right (And.right (by with_reducible assumption)))))) | exact Nat.ne_of_gt (And.right (And.right (And.right (And.right (And.right (And.right (by with_reducible assumption))))))) | exact Nat.ne_of_lt (And.right (And.right (And.right (And.right (And.right (And.right (by with_reducible assumption))))))) | exact Nat.ne_of_gt (And.right (And.right (And.right (And.right (And.right (And.right (And.right (by with_reducible assumption)))))))) | exact Nat.ne_of_lt (And.right (And.right (And.right (And.right (And.right (And.right (And.right (by with_reducible assumption)))))))) | exact Nat.ne_of_gt (And.right (And.right (And.right (And.right (And.right (And.right (And.right (And.right (by with_reducible assumption))))))))) | exact Nat.ne_of_lt (And.right (And.right (And.right (And.right (And.right (And.right (And.right (And.right (by with_reducible assumption))))))))) | exact (And.left (And.left (by with_reducible assumption))) | exact (And.left (And.right (And.left (by with_reducible assumption)))) | exact (And.right (And.right (And.left (by with_reducible assumption)))) | exact (And.left (And.left (And.right (by with_reducible assumption)))) | exact (And.left (And.right (And.left (And.right (by with_reducible assumption))))) | exact (And.right (And.right (And.left (And.right (by with_reducible assumption))))) | exact (And.left (And.right (by with_reducible assumption))) | exact (And.left (And.right (And.right (by with_reducible assumption)))) | exact (And.right (And.right (And.right (by with_reducible assumption)))) | exact (And.left (And.left (And.right (And.right (by with_reducible assumption))))) | exact (And.left (And.right (And.left (And.right (And.right (by with_reducible assumption)))))) | exact (And.right (And.right (And.left (And.right (And.right (by with_reducible assumption)))))) | exact (And.left (And.right (And.right (by with_reducible assumption)))) | exact (And.left (And.right (And.right (And.right (by with_reducible assumption))))) | exact (And.right (And.right (And.right (And.right (by with_reducible assumption))))) | exact (And.left (And.left (And.right (And.right (And.right (by with_reducible assumption)))))) | exact (And.left (And.right (And.left (And.right (And.right (And.right (by with_reducible assumption))))))) | exact (And.right (And.right (And.left (And.right (And.right (And.right (by with_reducible assumption))))))) | exact (And.left (And.right (And.right (And.right (by with_reducible assumption))))) | exact (And.left (And.right (And.right (And.right (And.right (by with_reducible assumption)))))) | exact (And.right (And.right (And.right (And.right (And.right (by with_reducible assumption)))))) | exact (And.left (And.left (And.right (And.right (And.right (And.right (by with_reducible assumption))))))) | exact (And.left (And.right (And.left (And.right (And.right (And.right (And.right (by with_reducible assumption)))))))) | exact (And.right (And.right (And.left (And.right (And.right (And.right (And.right (by with_reducible assumption)))))))) | exact (And.left (And.right (And.right (And.right (And.right (by with_reducible assumption)))))) | exact (And.left (And.right (And.right (And.right (And.right (And.right (by with_reducible assumption))))))) | exact (And.right (And.right (And.right (And.right (And.right (And.right (by with_reducible assumption))))))) | exact (And.left (And.left (And.right (And.right (And.right (And.right (And.right (by with_reducible assumption)))))))) | exact (And.left (And.right (And.left (And.right (And.right (And.right (And.right (And.right (by with_reducible assumption))))))))) | exact (And.right (And.right (And.left (And.right (And.right (And.right (And.right (And.right (by with_reducible assumption))))))))) | exact (And.left (And.right (And.right (And.right (And.right (And.right (by with_reducible assumption))))))) | exact (And.left (And.right (And.right (And.right (And.right (And.right (And.right (by with_reducible assumption)))))))) | exact (And.right (And.right (And.right (And.right (And.right (And.right (And.right (by with_reducible assumption)))))))) | exact (And.left (And.left (And.right (And.right (And.right (And.right (And.right (And.right (by with_reducible assumption))))))))) | exact (And.left (And.right (And.left (And.right (And.right (And.right (And.right (And.right (And.right (by with_reducible assumption)))))))))) | exact (And.right (And.right (And.left (And.right (And.right (And.right (And.right (And.right (And.right (by with_reducible assumption)))))))))) | exact (And.left (And.right (And.right (And.right (And.right (And.right (And.right (by with_reducible assumption)))))))) | exact (And.left (And.right (And.right (And.right (And.right (And.right (And.right (And.right (by with_reducible assumption))))))))) | exact (And.right (And.right (And.right (And.right (And.right (And.right (And.right (And.right (by with_reducible assumption))))))))) | exact (And.left (And.left (And.right (And.right (And.right (And.right (And.right (And.right (And.right (by with_reducible assumption)))))))))) | exact (And.left (And.right (And.left (And.right (And.right (And.right (And.right (And.right (And.right (And.right (by with_reducible assumption))))))))))) | exact (And.right (And.right (And.left (And.right (And.right (And.right (And.right (And.right (And.right (And.right (by with_reducible assumption))))))))))) | exact (And.left (And.right (And.right (And.right (And.right (And.right (And.right (And.right (by with_reducible assumption))))))))) | exact (And.left (And.right (And.right (And.right (And.right (And.right (And.right (And.right (And.right (by with_reducible assumption)))))))))) | exact (And.right (And.right (And.right (And.right (And.right (And.right (And.right (And.right (And.right (by with_reducible assumption)))))))))))
  k_with "MINE enterP" => (
  refine enterP (by k_asm) (by k_asm) (by k_asm) (by k_asm) (by exact rfl) (by exact rfl) (by assumption) (by k_is) (by k_is) (by ktr_room) (by refine kp_binds (by exact Frag.In.keeps (by k_asm) (Fr.keep (by k_asm))) (by exact fun _ => rfl)) (by exact locs rfl) ?_ (by exact rfl) (by exact rfl) (by exact rfl) (by decide)
  k_whole)
  k_with "subscriptTail Name Name ref int" => (
  k_here
  (with_reducible show wpAny _ _ (subscriptTail _ _ (Value.ref _) (Value.int _ _)) _ _ _)
  (with_unfolding_all refine my_itemC (by is_list) (by k_dflt (first | decide | omega)) (by k_dflt (decide)) (by k_dflt (exact rfl)) ?_ (by k_dflt (with_unfolding_all rfl)))
  k_whole)
  intro dp un gd cn cs a ccd cl outer A₀ base h₀ L m s Q E B F X T hk hpre hd hu hret
  refine wpAny_call ?_
  k_dflt walk_at "MINE enterP"
  intro g L' h₁ hkg hsz F' N' B' X' T'
  have hlst : g.IsList l _ := list_keeps3 hpre hkg
  clear B F X T hpre
  (try dsimp only)
  (try k_fold)
  k_steps
  all_goals (try dsimp only)
  all_goals (refine hret _ _ _ (fun b o e => Fr.keep (by k_asm) b o (hkg b o e)) ⟨_, congrArg (fun z => Value.int z _) ?_⟩)
  all_goals first
    | with_unfolding_all rfl
    | (exfalso; omega)
    | (unfold bisv; (repeat' split) <;> first | with_unfolding_all rfl | (exfalso; omega))
set_option maxHeartbeats 2000000 in
theorem bis_3 {w p loose mean mg mb} {l : Addr} {x : Int} {t t0 : Tok} {a0 : Int} {a1 : Int} {a2 : Int} {u0 : Tok} {u1 : Tok} {u2 : Tok} (b0 : a0 < x) (b1 : a1 < x) (b2 : a2 < x) : Call w p loose mean mg mb 46 [.ref l, .int x t, .int 0 t0, .none] 2 (fun h => h.IsList l (List.toArray [.int a0 u0, .int a1 u1, .int a2 u2])) (fun _ _ v => ∃ u, v = .int 3 u) := by
  w_on
  refine (fun (h : (PySem.Challenge.rw_ib0002_01 = PySem.Challenge.rw_ib0002_01 ∧ Mine.hd.heap_39 = Mine.hd.heap_39) → _) => h ⟨rfl, rfl⟩) ?_
  k_fill
  intro _
  k_with_none
  k_with "MINE ne" => (refine neN ?_; (try dsimp only); first | exact Nat.ne_of_gt (by with_reducible assumption) | exact Nat.ne_of_lt (by with_reducible assumption) | exact Nat.ne_of_gt (And.left (by with_reducible assumption)) | exact Nat.ne_of_lt (And.left (by with_reducible assumption)) | exact Nat.ne_of_gt (And.left (And.right (by with_reducible assumption))) | exact Nat.ne_of_lt (And.left (And.right (by with_reducible assumption))) | exact Nat.ne_of_gt (And.left (And.right (And.right (by with_reducible assumption)))) | exact Nat.ne_of_lt (And.left (And.right (And.right (by with_reducible assumption)))) | exact Nat.ne_of_gt (And.left (And.right (And.right (And.right (by with_reducible assumption))))) | exact Nat.ne_of_lt (And.left (And.right (And.right (And.right (by with_reducible assumption))))) | exact Nat.ne_of_gt (And.left (And.right (And.right (And.right (And.right (by with_reducible assumption)))))) | exact Nat.ne_of_lt (And.left (And.right (And.right (And.right (And.right (by with_reducible assumption)))))) | exact Nat.ne_of_gt (And.left (And.right (And.right (And.right (And.right (And.right (by with_reducible assumption))))))) | exact Nat.ne_of_lt (And.left (And.right (And.right (And.right (And.right (And.right (by with_reducible assumption))))))) | exact Nat.ne_of_gt (And.left (And.right (And.right (And.right (And.right (And.right (And.right (by with_reducible assumption)))))))) | exact Nat.ne_of_lt (And.left (And.right (And.right (And.right (And.right (And.right (And.right (by with_reducible assumption)))))))) | exact Nat.ne_of_gt (And.left (And.right (And.right (And.right (And.right (And.right (And.right (And.right (by with_reducible assumption))))))))) | exact Nat.ne_of_lt (And.left (And.right (And.right (And.right (And.right (And.right (And.right (And.right (by with_reducible assumption))))))))) | exact Nat.ne_of_gt (And.left (And.right (And.right (And.right (And.right (And.right (And.right (And.right (And.right (by with_reducible assumption)))))))))) | exact Nat.ne_of_lt (And.left (And.right (And.right (And.right (And.right (And.right (And.right (And.right (And.right (by with_reducible assumption)))))))))) | exact Nat.ne_of_gt (And.right (by with_reducible assumption)) | exact Nat.ne_of_lt (And.right (by with_reducible assumption)) | exact Nat.ne_of_gt (And.right (And.right (by with_reducible assumption))) | exact Nat.ne_of_lt (And.right (And.right (by with_reducible assumption))) | exact Nat.ne_of_gt (And.right (And.right (And.right (by with_reducible assumption)))) | exact Nat.ne_of_lt (And.right (And.right (And.right (by with_reducible assumption)))) | exact Nat.ne_of_gt (And.right (And.right (And.right (And.right (by with_reducible assumption))))) | exact Nat.ne_of_lt (And.right (And.right (And.right (And.right (by with_reducible assumption))))) | exact Nat.ne_of_gt (And.right (And.right (And.right (And.right (And.right (by with_reducible assumption)))))) | exact Nat.ne_of_lt (And.right (And.right (And.right (And.right (And.right (by with_reducible assumption)))))) | exact Nat.ne_of_gt (And.right (And.right (And.right (And.right (And.right (And.right (by with_reducible assumption))))))) | exact Nat.ne_of_lt (And.right (And.right (And.right (And.right (And.right (And.right (by with_reducible assumption))))))) | exact Nat.ne_of_gt (And.right (And.right (And.right (And.right (And.right (And.right (And.right (by with_reducible assumption)))))))) | exact Nat.ne_of_lt (And.right (And.right (And.right (And.right (And.right (And.right (And.right (by with_reducible assumption)))))))) | exact Nat.ne_of_gt (And.right (And.right (And.right (And.right (And.right (And.right (And.right (And.right (by with_reducible assumption))))))))) | exact Nat.ne_of_lt (And.right (And.right (And.right (And.right (And.right (And.right (And.right (And.right (by with_reducible assumption))))))))) | exact (And.left (And.left (by with_reducible assumption))) | exact (And.left (And.right (And.left (by with_reducible assumption)))) | exact (And.right (And.right (And.left (by with_reducible assumption)))) | exact (And.left (And.left (And.right (by with_reducible assumption)))) | exact (And.left (And.right (And.left (And.right (by with_reducible assumption))))) | exact (And.right (And.right (And.left (And.right (by with_reducible assumption))))) | exact (And.left (And.right (by with_reducible assumption))) | exact (And.left (And.right (And.right (by with_reducible assumption)))) | exact (And.right (And.right (And.right (by with_reducible assumption)))) | exact (And.left (And.left (And.right (And.right (by with_reducible assumption))))) | exact (And.left (And.right (And.left (And.right (And.right (by with_reducible assumption)))))) | exact (And.right (And.right (And.left (And.right (And.right (by with_reducible assumption)))))) | exact (And.left (And.right (And.right (by with_reducible assumption)))) | exact (And.left (And.right (And.right (And.right (by with_reducible assumption))))) | exact (And.right (And.right (And.right (And.right (by with_reducible assumption))))) | exact (And.left (And.left (And.right (And.right (And.right (by with_reducible assumption)))))) | exact (And.left (And.right (And.left (And.right (And.right (And.right (by with_reducible assumption))))))) | exact (And.right (And.right (And.left (And.right (And.right (And.right (by with_reducible assumption))))))) | exact (And.left (And.right (And.right (And.right (by with_reducible assumption))))) | exact (And.left (And.right (And.right (And.right (And.right (by with_reducible assumption)))))) | exact (And.right (And.right (And.right (And.right (And.right (by with_reducible assumption)))))) | exact (And.left (And.left (And.right (And.right (And.right (And.right (by with_reducible assumption))))))) | exact (And.left (And.right (And.left (And.right (And.right (And.right (And.right (by with_reducible assumption)))))))) | exact (And.right (And.right (And.left (And.right (And.right (And.right (And.right (by with_reducible assumption)))))))) | exact (And.left (And.right (And.right (And.right (And.right (by with_reducible assumption)))))) | exact (And.left (And.right (And.right (And.right (And.right (And.right (by with_reducible assumption))))))) | exact (And.right (And.right (And.right (And.right (And.right (And.right (by with_reducible assumption))))))) | exact (And.left (And.left (And.right (And.right (And.right (And.right (And.right (by with_reducible assumption)))))))) | exact (And.left (And.right (And.left (And.right (And.right (And.right (And.right (And.right (by with_reducible assumption))))))))) | exact (And.right (And.right (And.left (And.right (And.right (And.right (And.right (And.right (by with_reducible assumption))))))))) | exact (And.left (And.right (And.right (And.right (And.right (And.right (by with_reducible assumption))))))) | exact (And.left (And.right (And.right (And.right (And.right (And.right (And.right (by with_reducible assumption)))))))) | exact (And.right (And.right (And.right (And.right (And.right (And.right (And.right (by with_reducible assumption)))))))) | exact (And.left (And.left (And.right (And.right (And.right (And.right (And.right (And.right (by with_reducible assumption))))))))) | exact (And.left (And.right (And.left (And.right (And.right (And.right (And.right (And.right (And.right (by with_reducible assumption)))))))))) | exact (And.right (And.right (And.left (And.right (And.right (And.right (And.right (And.right (And.right (by with_reducible assumption)))))))))) | exact (And.left (And.right (And.right (And.right (And.right (And.right (And.right (by with_reducible assumption)))))))) | exact (And.left (And.right (And.right (And.right (And.right (And.right (And.right (And.right (by with_reducible assumption))))))))) | exact (And.right (And.right (And.right (And.right (And.right (And.right (And.right (And.right (by with_reducible assumption))))))))) | exact (And.left (And.left (And.right (And.right (And.right (And.right (And.right (And.right (And.right (by with_reducible assumption)))))))))) | exact (And.left (And.right (And.left (And.right (And.right (And.right (And.right (And.right (And.right (And.right (by with_reducible assumption))))))))))) | exact (And.right (And.right (And.left (And.right (And.right (And.right (And.right (And.right (And.right (And.right (by with_reducible assumption))))))))))) | exact (And.left (And.right (And.right (And.right (And.right (And.right (And.right (And.right (by with_reducible assumption))))))))) | exact (And.left (And.right (And.right (And.right (And.right (And.right (And.right (And.right (And.right (by with_reducible assumption)))))))))) | exact (And.right (And.right (And.right (And.right (And.right (And.right (And.right (And.right (And.right (by with_reducible assumption)))))))))))
  k_with "MINE enterP" => (
  refine enterP (by k_asm) (by k_asm) (by k_asm) (by k_asm) (by exact rfl) (by exact rfl) (by assumption) (by k_is) (by k_is) (by ktr_room) (by refine kp_binds (by exact Frag.In.keeps (by k_asm) (Fr.keep (by k_asm))) (by exact fun _ => rfl)) (by exact locs rfl) ?_ (by exact rfl) (by exact rfl) (by exact rfl) (by decide)
  k_whole)
  k_with "subscriptTail Name Name ref int" => (
  k_here
  (with_reducible show wpAny _ _ (subscriptTail _ _ (Value.ref _) (Value.int _ _)) _ _ _)
  (with_unfolding_all refine my_itemC (by is_list) (by k_dflt (first | decide | omega)) (by k_dflt (decide)) (by k_dflt (exact rfl)) ?_ (by k_dflt (with_unfolding_all rfl)))
  k_whole)
  intro dp un gd cn cs a ccd cl outer A₀ base h₀ L m s Q E B F X T hk hpre hd hu hret
  refine wpAny_call ?_
  k_dflt walk_at "MINE enterP"
  intro g L' h₁ hkg hsz F' N' B' X' T'
  have hlst : g.IsList l _ := list_keeps3 hpre hkg
  clear B F X T hpre
  (try dsimp only)
  (try k_fold)
  k_steps
  all_goals (try dsimp only)
  all_goals (refine hret _ _ _ (fun b o e => Fr.keep (by k_asm) b o (hkg b o e)) ⟨_, congrArg (fun z => Value.int z _) ?_⟩)
  all_goals first
    | with_unfolding_all rfl
    | (exfalso; omega)
    | (unfold bisv; (repeat' split) <;> first | with_unfolding_all rfl | (exfalso; omega))
set_option maxHeartbeats 2000000 in
theorem bis_4 {w p loose mean mg mb} {l : Addr} {x : Int} {t t0 : Tok} {a0 : Int} {a1 : Int} {a2 : Int} {a3 : Int} {u0 : Tok} {u1 : Tok} {u2 : Tok} {u3 : Tok} (b0 : a0 < x) (b1 : a1 < x) (b2 : a2 < x) (b3 : a3 < x) : Call w p loose mean mg mb 46 [.ref l, .int x t, .int 0 t0, .none] 2 (fun h => h.IsList l (List.toArray [.int a0 u0, .int a1 u1, .int a2 u2, .int a3 u3])) (fun _ _ v => ∃ u, v = .int 4 u) := by
  w_on
  refine (fun (h : (PySem.Challenge.rw_ib0002_01 = PySem.Challenge.rw_ib0002_01 ∧ Mine.hd.heap_39 = Mine.hd.heap_39) → _) => h ⟨rfl, rfl⟩) ?_
  k_fill
  intro _
  k_with_none
  k_with "MINE ne" => (refine neN ?_; (try dsimp only); first | exact Nat.ne_of_gt (by with_reducible assumption) | exact Nat.ne_of_lt (by with_reducible assumption) | exact Nat.ne_of_gt (And.left (by with_reducible assumption)) | exact Nat.ne_of_lt (And.left (by with_reducible assumption)) | exact Nat.ne_of_gt (And.left (And.right (by with_reducible assumption))) | exact Nat.ne_of_lt (And.left (And.right (by with_reducible assumption))) | exact Nat.ne_of_gt (And.left (And.right (And.right (by with_reducible assumption)))) | exact Nat.ne_of_lt (And.left (And.right (And.right (by with_reducible assumption)))) | exact Nat.ne_of_gt (And.left (And.right (And.right (And.right (by with_reducible assumption))))) | exact Nat.ne_of_lt (And.left (And.right (And.right (And.right (by with_reducible assumption))))) | exact Nat.ne_of_gt (And.left (And.right (And.right (And.right (And.right (by with_reducible assumption)))))) | exact Nat.ne_of_lt (And.left (And.right (And.right (And.right (And.right (by with_reducible assumption)))))) | exact Nat.ne_of_gt (And.left (And.right (And.right (And.right (And.right (And.right (by with_reducible assumption))))))) | exact Nat.ne_of_lt (And.left (And.right (And.right (And.right (And.right (And.right (by with_reducible assumption))))))) | exact Nat.ne_of_gt (And.left (And.right (And.right (And.right (And.right (And.right (And.right (by with_reducible assumption)))))))) | exact Nat.ne_of_lt (And.left (And.right (And.right (And.right (And.right (And.right (And.right (by with_reducible assumption)))))))) | exact Nat.ne_of_gt (And.left (And.right (And.right (And.right (And.right (And.right (And.right (And.right (by with_reducible assumption))))))))) | exact Nat.ne_of_lt (And.left (And.right (And.right (And.right (And.right (And.right (And.right (And.right (by with_reducible assumption))))))))) | exact Nat.ne_of_gt (And.left (And.right (And.right (And.right (And.right (And.right (And.right (And.right (And.right (by with_reducible assumption)))))))))) | exact Nat.ne_of_lt (And.left (And.right (And.right (And.right (And.right (And.right (And.right (And.right (And.right (by with_reducible assumption)))))))))) | exact Nat.ne_of_gt (And.right (by with_reducible assumption)) | exact Nat.ne_of_lt (And.right (by with_reducible assumption)) | exact Nat.ne_of_gt (And.right (And.right (by with_reducible assumption))) | exact Nat.ne_of_lt (And.right (And.right (by with_reducible assumption))) | exact Nat.ne_of_gt (And.right (And.right (And.right (by with_reducible assumption)))) | exact Nat.ne_of_lt (And.right (And.right (And.right (by with_reducible assumption)))) | exact Nat.ne_of_gt (And.right (And.right (And.right (And.right (by with_reducible assumption))))) | exact Nat.ne_of_lt (And.right (And.right (And.right (And.right (by with_reducible assumption))))) | exact Nat.ne_of_gt (And.right (And.right (And.right (And.right (And.right (by with_reducible assumption)))))) | exact Nat.ne_of_lt (And.right (And.right (And.right (And.right (And.right (by with_reducible assumption)))))) | exact Nat.ne_of_gt (And.right (And.right (And.right (And.right (And.right (And.right (by with_reducible assumption))))))) | exact Nat.ne_of_lt (And.right (And.right (And.right (And.right (And.right (And.right (by with_reducible assumption))))))) | exact Nat.ne_of_gt (And.right (And.right (And.right (And.right (And.right (And.right (And.right (by with_reducible assumption)))))))) | exact Nat.ne_of_lt (And.right (And.right (And.right (And.right (And.right (And.right (And.right (by with_reducible assumption)))))))) | exact Nat.ne_of_gt (And.right (And.right (And.right (And.right (And.right (And.right (And.right (And.right (by with_reducible assumption))))))))) | exact Nat.ne_of_lt (And.right (And.right (And.right (And.right (And.right (And.right (And.right (And.right (by with_reducible assumption))))))))) | exact (And.left (And.left (by with_reducible assumption))) | exact (And.left (And.right (And.left (by with_reducible assumption)))) | exact (And.right (And.right (And.left (by with_reducible assumption)))) | exact (And.left (And.left (And.right (by with_reducible assumption)))) | exact (And.left (And.right (And.left (And.right (by with_reducible assumption))))) | exact (And.right (And.right (And.left (And.right (by with_reducible assumption))))) | exact (And.left (And.right (by with_reducible assumption))) | exact (And.left (And.right (And.right (by with_reducible assumption)))) | exact (And.right (And.right (And.right (by with_reducible assumption)))) | exact (And.left (And.left (And.right (And.right (by with_reducible assumption))))) | exact (And.left (And.right (And.left (And.right (And.right (by with_reducible assumption)))))) | exact (And.right (And.right (And.left (And.right (And.right (by with_reducible assumption)))))) | exact (And.left (And.right (And.right (by with_reducible assumption)))) | exact (And.left (And.right (And.right (And.right (by with_reducible assumption))))) | exact (And.right (And.right (And.right (And.right (by with_reducible assumption))))) | exact (And.left (And.left (And.right (And.right (And.right (by with_reducible assumption)))))) | exact (And.left (And.right (And.left (And.right (And.right (And.right (by with_reducible assumption))))))) | exact (And.right (And.right (And.left (And.right (And.right (And.right (by with_reducible assumption))))))) | exact (And.left (And.right (And.right (And.right (by with_reducible assumption))))) | exact (And.left (And.right (And.right (And.right (And.right (by with_reducible assumption)))))) | exact (And.right (And.right (And.right (And.right (And.right (by with_reducible assumption)))))) | exact (And.left (And.left (And.right (And.right (And.right (And.right (by with_reducible assumption))))))) | exact (And.left (And.right (And.left (And.right (And.right (And.right (And.right (by with_reducible assumption)))))))) | exact (And.right (And.right (And.left (And.right (And.right (And.right (And.right (by with_reducible assumption)))))))) | exact (And.left (And.right (And.right (And.right (And.right (by with_reducible assumption)))))) | exact (And.left (And.right (And.right (And.right (And.right (And.right (by with_reducible assumption))))))) | exact (And.right (And.right (And.right (And.right (And.right (And.right (by with_reducible assumption))))))) | exact (And.left (And.left (And.right (And.right (And.right (And.right (And.right (by with_reducible assumption)))))))) | exact (And.left (And.right (And.left (And.right (And.right (And.right (And.right (And.right (by with_reducible assumption))))))))) | exact (And.right (And.right (And.left (And.right (And.right (And.right (And.right (And.right (by with_reducible assumption))))))))) | exact (And.left (And.right (And.right (And.right (And.right (And.right (by with_reducible assumption))))))) | exact (And.left (And.right (And.right (And.right (And.right (And.right (And.right (by with_reducible assumption)))))))) | exact (And.right (And.right (And.right (And.right (And.right (And.right (And.right (by with_reducible assumption)))))))) | exact (And.left (And.left (And.right (And.right (And.right (And.right (And.right (And.right (by with_reducible assumption))))))))) | exact (And.left (And.right (And.left (And.right (And.right (And.right (And.right (And.right (And.right (by with_reducible assumption)))))))))) | exact (And.right (And.right (And.left (And.right (And.right (And.right (And.right (And.right (And.right (by with_reducible assumption)))))))))) | exact (And.left (And.right (And.right (And.right (And.right (And.right (And.right (by with_reducible assumption)))))))) | exact (And.left (And.right (And.right (And.right (And.right (And.right (And.right (And.right (by with_reducible assumption))))))))) | exact (And.right (And.right (And.right (And.right (And.right (And.right (And.right (And.right (by with_reducible assumption))))))))) | exact (And.left (And.left (And.right (And.right (And.right (And.right (And.right (And.right (And.right (by with_reducible assumption)))))))))) | exact (And.left (And.right (And.left (And.right (And.right (And.right (And.right (And.right (And.right (And.right (by with_reducible assumption))))))))))) | exact (And.right (And.right (And.left (And.right (And.right (And.right (And.right (And.right (And.right (And.right (by with_reducible assumption))))))))))) | exact (And.left (And.right (And.right (And.right (And.right (And.right (And.right (And.right (by with_reducible assumption))))))))) | exact (And.left (And.right (And.right (And.right (And.right (And.right (And.right (And.right (And.right (by with_reducible assumption)))))))))) | exact (And.right (And.right (And.right (And.right (And.right (And.right (And.right (And.right (And.right (by with_reducible assumption)))))))))))
  k_with "MINE enterP" => (
  refine enterP (by k_asm) (by k_asm) (by k_asm) (by k_asm) (by exact rfl) (by exact rfl) (by assumption) (by k_is) (by k_is) (by ktr_room) (by refine kp_binds (by exact Frag.In.keeps (by k_asm) (Fr.keep (by k_asm))) (by exact fun _ => rfl)) (by exact locs rfl) ?_ (by exact rfl) (by exact rfl) (by exact rfl) (by decide)
  k_whole)
  k_with "subscriptTail Name Name ref int" => (
  k_here
  (with_reducible show wpAny _ _ (subscriptTail _ _ (Value.ref _) (Value.int _ _)) _ _ _)
  (with_unfolding_all refine my_itemC (by is_list) (by k_dflt (first | decide | omega)) (by k_dflt (decide)) (by k_dflt (exact rfl)) ?_ (by k_dflt (with_unfolding_all rfl)))
  k_whole)
  intro dp un gd cn cs a ccd cl outer A₀ base h₀ L m s Q E B F X T hk hpre hd hu hret
  refine wpAny_call ?_
  k_dflt walk_at "MINE enterP"
  intro g L' h₁ hkg hsz F' N' B' X' T'
  have hlst : g.IsList l _ := list_keeps3 hpre hkg
  clear B F X T hpre
  (try dsimp only)
  (try k_fold)
  k_steps
  all_goals (try dsimp only)
  all_goals (refine hret _ _ _ (fun b o e => Fr.keep (by k_asm) b o (hkg b o e)) ⟨_, congrArg (fun z => Value.int z _) ?_⟩)
  all_goals first
    | with_unfolding_all rfl
    | (exfalso; omega)
    | (unfold bisv; (repeat' split) <;> first | with_unfolding_all rfl | (exfalso; omega))
set_option maxHeartbeats 2000000 in
theorem bis_rows {w p loose mean mg mb} {l : Addr} {x : Int} {t t0 : Tok}  {u0 : Tok} {u1 : Tok} {u2 : Tok} {u3 : Tok} {u4 : Tok} (h0 : 1 ≤ x) (h1 : x ≤ 7) : Call w p loose mean mg mb 46 [.ref l, .int x t] 2 (fun h => h.IsList l (List.toArray [.int 2 u0, .int 3 u1, .int 7 u2, .int 11 u3, .int 13 u4])) (fun _ _ v => ∃ u, v = .int (bisv x) u) := by
  w_on
  refine (fun (h : (PySem.Challenge.rw_ib0002_01 = PySem.Challenge.rw_ib0002_01 ∧ Mine.hd.heap_39 = Mine.hd.heap_39) → _) => h ⟨rfl, rfl⟩) ?_
  k_fill
  intro _
  k_with_none
  k_with "MINE ne" => (refine neN ?_; (try dsimp only); first | exact Nat.ne_of_gt (by with_reducible assumption) | exact Nat.ne_of_lt (by with_reducible assumption) | exact Nat.ne_of_gt (And.left (by with_reducible assumption)) | exact Nat.ne_of_lt (And.left (by with_reducible assumption)) | exact Nat.ne_of_gt (And.left (And.right (by with_reducible assumption))) | exact Nat.ne_of_lt (And.left (And.right (by with_reducible assumption))) | exact Nat.ne_of_gt (And.left (And.right (And.right (by with_reducible assumption)))) | exact Nat.ne_of_lt (And.left (And.right (And.right (by with_reducible assumption)))) | exact Nat.ne_of_gt (And.left (And.right (And.right (And.right (by with_reducible assumption))))) | exact Nat.ne_of_lt (And.left (And.right (And.right (And.right (by with_reducible assumption))))) | exact Nat.ne_of_gt (And.left (And.right (And.right (And.right (And.right (by with_reducible assumption)))))) | exact Nat.ne_of_lt (And.left (And.right (And.right (And.right (And.right (by with_reducible assumption)))))) | exact Nat.ne_of_gt (And.left (And.right (And.right (And.right (And.right (And.right (by with_reducible assumption))))))) | exact Nat.ne_of_lt (And.left (And.right (And.right (And.right (And.right (And.right (by with_reducible assumption))))))) | exact Nat.ne_of_gt (And.left (And.right (And.right (And.right (And.right (And.right (And.right (by with_reducible assumption)))))))) | exact Nat.ne_of_lt (And.left (And.right (And.right (And.right (And.right (And.right (And.right (by with_reducible assumption)))))))) | exact Nat.ne_of_gt (And.left (And.right (And.right (And.right (And.right (And.right (And.right (And.right (by with_reducible assumption))))))))) | exact Nat.ne_of_lt (And.left (And.right (And.right (And.right (And.right (And.right (And.right (And.right (by with_reducible assumption))))))))) | exact Nat.ne_of_gt (And.left (And.right (And.right (And.right (And.right (And.right (And.right (And.right (And.right (by with_reducible assumption)))))))))) | exact Nat.ne_of_lt (And.left (And.right (And.right (And.right (And.right (And.right (And.right (And.right (And.right (by with_reducible assumption)))))))))) | exact Nat.ne_of_gt (And.right (by with_reducible assumption)) | exact Nat.ne_of_lt (And.right (by with_reducible assumption)) | exact Nat.ne_of_gt (And.right (And.right (by with_reducible assumption))) | exact Nat.ne_of_lt (And.right (And.right (by with_reducible assumption))) | exact Nat.ne_of_gt (And.right (And.right (And.right (by with_reducible assumption)))) | exact Nat.ne_of_lt (And.right (And.right (And.right (by with_reducible assumption)))) | exact Nat.ne_of_gt (And.right (And.right (And.right (And.right (by with_reducible assumption))))) | exact Nat.ne_of_lt (And.right (And.right (And.right (And.right (by with_reducible assumption))))) | exact Nat.ne_of_gt (And.right (And.right (And.right (And.right (And.right (by with_reducible assumption)))))) | exact Nat.ne_of_lt (And.right (And.right (And.right (And.right (And.right (by with_reducible assumption)))))) | exact Nat.ne_of_gt (And.right (And.right (And.right (And.right (And.right (And.right (by with_reducible assumption))))))) | exact Nat.ne_of_lt (And.right (And.right (And.right (And.right (And.right (And.right (by with_reducible assumption))))))) | exact Nat.ne_of_gt (And.right (And.right (And.right (And.right (And.right (And.right (And.right (by with_reducible assumption)))))))) | exact Nat.ne_of_lt (And.right (And.right (And.right (And.right (And.right (And.right (And.right (by with_reducible assumption)))))))) | exact Nat.ne_of_gt (And.right (And.right (And.right (And.right (And.right (And.right (And.right (And.right (by with_reducible assumption))))))))) | exact Nat.ne_of_lt (And.right (And.right (And.right (And.right (And.right (And.right (And.right (And.right (by with_reducible assumption))))))))) | exact (And.left (And.left (by with_reducible assumption))) | exact (And.left (And.right (And.left (by with_reducible assumption)))) | exact (And.right (And.right (And.left (by with_reducible assumption)))) | exact (And.left (And.left (And.right (by with_reducible assumption)))) | exact (And.left (And.right (And.left (And.right (by with_reducible assumption))))) | exact (And.right (And.right (And.left (And.right (by with_reducible assumption))))) | exact (And.left (And.right (by with_reducible assumption))) | exact (And.left (And.right (And.right (by with_reducible assumption)))) | exact (And.right (And.right (And.right (by with_reducible assumption)))) | exact (And.left (And.left (And.right (And.right (by with_reducible assumption))))) | exact (And.left (And.right (And.left (And.right (And.right (by with_reducible assumption)))))) | exact (And.right (And.right (And.left (And.right (And.right (by with_reducible assumption)))))) | exact (And.left (And.right (And.right (by with_reducible assumption)))) | exact (And.left (And.right (And.right (And.right (by with_reducible assumption))))) | exact (And.right (And.right (And.right (And.right (by with_reducible assumption))))) | exact (And.left (And.left (And.right (And.right (And.right (by with_reducible assumption)))))) | exact (And.left (And.right (And.left (And.right (And.right (And.right (by with_reducible assumption))))))) | exact (And.right (And.right (And.left (And.right (And.right (And.right (by with_reducible assumption))))))) | exact (And.left (And.right (And.right (And.right (by with_reducible assumption))))) | exact (And.left (And.right (And.right (And.right (And.right (by with_reducible assumption)))))) | exact (And.right (And.right (And.right (And.right (And.right (by with_reducible assumption)))))) | exact (And.left (And.left (And.right (And.right (And.right (And.right (by with_reducible assumption))))))) | exact (And.left (And.right (And.left (And.right (And.right (And.right (And.right (by with_reducible assumption)))))))) | exact (And.right (And.right (And.left (And.right (And.right (And.right (And.right (by with_reducible assumption)))))))) | exact (And.left (And.right (And.right (And.right (And.right (by with_reducible assumption)))))) | exact (And.left (And.right (And.right (And.right (And.right (And.right (by with_reducible assumption))))))) | exact (And.right (And.right (And.right (And.right (And.right (And.right (by with_reducible assumption))))))) | exact (And.left (And.left (And.right (And.right (And.right (And.right (And.right (by with_reducible assumption)))))))) | exact (And.left (And.right (And.left (And.right (And.right (And.right (And.right (And.right (by with_reducible assumption))))))))) | exact (And.right (And.right (And.left (And.right (And.right (And.right (And.right (And.right (by with_reducible assumption))))))))) | exact (And.left (And.right (And.right (And.right (And.right (And.right (by with_reducible assumption))))))) | exact (And.left (And.right (And.right (And.right (And.right (And.right (And.right (by with_reducible assumption)))))))) | exact (And.right (And.right (And.right (And.right (And.right (And.right (And.right (by with_reducible assumption)))))))) | exact (And.left (And.left (And.right (And.right (And.right (And.right (And.right (And.right (by with_reducible assumption))))))))) | exact (And.left (And.right (And.left (And.right (And.right (And.right (And.right (And.right (And.right (by with_reducible assumption)))))))))) | exact (And.right (And.right (And.left (And.right (And.right (And.right (And.right (And.right (And.right (by with_reducible assumption)))))))))) | exact (And.left (And.right (And.right (And.right (And.right (And.right (And.right (by with_reducible assumption)))))))) | exact (And.left (And.right (And.right (And.right (And.right (And.right (And.right (And.right (by with_reducible assumption))))))))) | exact (And.right (And.right (And.right (And.right (And.right (And.right (And.right (And.right (by with_reducible assumption))))))))) | exact (And.left (And.left (And.right (And.right (And.right (And.right (And.right (And.right (And.right (by with_reducible assumption)))))))))) | exact (And.left (And.right (And.left (And.right (And.right (And.right (And.right (And.right (And.right (And.right (by with_reducible assumption))))))))))) | exact (And.right (And.right (And.left (And.right (And.right (And.right (And.right (And.right (And.right (And.right (by with_reducible assumption))))))))))) | exact (And.left (And.right (And.right (And.right (And.right (And.right (And.right (And.right (by with_reducible assumption))))))))) | exact (And.left (And.right (And.right (And.right (And.right (And.right (And.right (And.right (And.right (by with_reducible assumption)))))))))) | exact (And.right (And.right (And.right (And.right (And.right (And.right (And.right (And.right (And.right (by with_reducible assumption)))))))))))
  k_with "MINE enterP" => (
  refine enterP (by k_asm) (by k_asm) (by k_asm) (by k_asm) (by exact rfl) (by exact rfl) (by assumption) (by k_is) (by k_is) (by ktr_room) (by refine kp_binds (by exact Frag.In.keeps (by k_asm) (Fr.keep (by k_asm))) (by exact fun _ => rfl)) (by exact locs rfl) ?_ (by exact rfl) (by exact rfl) (by exact rfl) (by decide)
  k_whole)
  k_with "subscriptTail Name Name ref int" => (
  k_here
  (with_reducible show wpAny _ _ (subscriptTail _ _ (Value.ref _) (Value.int _ _)) _ _ _)
  (with_unfolding_all refine my_itemC (by is_list) (by k_dflt (first | decide | omega)) (by k_dflt (decide)) (by k_dflt (exact rfl)) ?_ (by k_dflt (with_unfolding_all rfl)))
  k_whole)
  intro dp un gd cn cs a ccd cl outer A₀ base h₀ L m s Q E B F X T hk hpre hd hu hret
  refine wpAny_call ?_
  k_dflt walk_at "MINE enterP"
  intro g L' h₁ hkg hsz F' N' B' X' T'
  have hlst : g.IsList l _ := list_keeps3 hpre hkg
  clear B F X T hpre
  (try dsimp only)
  (try k_fold)
  k_steps
  all_goals (try dsimp only)
  all_goals (refine hret _ _ _ (fun b o e => Fr.keep (by k_asm) b o (hkg b o e)) ⟨_, congrArg (fun z => Value.int z _) ?_⟩)
  all_goals first
    | with_unfolding_all rfl
    | (exfalso; omega)
    | (unfold bisv; (repeat' split) <;> first | with_unfolding_all rfl | (exfalso; omega))
end Mine
end -- LawBis

section -- Tail2
open PySem PySem.Spec PySem.Calls PySem.W PyProof.Rows
set_option maxRecDepth 100000
set_option rowWalk.seconds 0
namespace Mine
section
variable {w : World} {p : Program} {loose : List Str} {mean : ExcName → Option Value} {mg mb : Str → Option Value}
  {dp un : Nat} {gd : Option (List Code)} {cn : Str} {cs : Scope} {a : Addr} {ccd : Value} {cl : List (Str × Addr)} {outer : List Env} {A₀ : Around} {base h₀ : Heap} {L : Addr} {m : Str → Option Value} {news : List (Addr × Obj)} {s : Shared} {Q E : Value → Shared → Prop}
theorem use_bis {x : Int} {l : Addr} {t1 u0 u1 u2 u3 u4 : Tok} (h0 : 1 ≤ x) (h1 : x ≤ 7) (B : Below A₀ base outer h₀) (F : Fr h₀ L s.heap m) (X : (Mine.hd.heap_39 w.params).In h₀) (N : News h₀ L s.heap news) (T : Top p loose mean mg mb h₀) (hk : cs.kind = .function)
    (hd : dp + 2 < recursionLimit) (hu : un + 8 * 2 < cLine) (hl : s.heap.IsList l (List.toArray [.int 2 u0, .int 3 u1, .int 7 u2, .int 11 u3, .int 13 u4]))
    (ret : ∀ t h' tk', Fr h₀ L h' m → News h₀ L h' news → 0 ≤ bisv x → bisv x ≤ 2 → Q (.int (bisv x) t) { s with heap := h', toks := tk' }) :
    wpAny (model prog0 w) (ktrTop dp un gd cn cs L a ccd cl outer) (call (.ref 46) [.ref l, .int x t1]) Q E s := by
  refine bis_rows (t0 := 0) h0 h1 _ _ _ _ _ _ _ _ _ _ _ _ _ _ _ _ _ B F X T hk hl hd hu fun v h' tk' k po => ?_
  obtain ⟨t, rfl⟩ := po
  exact ret t h' tk' (Fr.on F k) (News.on N k) bisv_lo bisv_hi
end

set_option maxHeartbeats 1000000 in
theorem tail2 {w p loose mean mg mb} (C1 : I2dOk w p loose mean mg mb) (C3 : PutOk w p loose mean mg mb) (C4 : DivOk w p loose mean mg mb) (C5 : TimesOk w p loose mean mg mb) (C6 : PartsOk w p loose mean mg mb)
    {x y : Int} {t1 t2 t3 : Tok} (hx0 : 1 ≤ x) (hx1 : x ≤ 7) (hy0 : 1 ≤ y) (hy1 : y ≤ 7) {fa L la lo lp c1 c2 : Addr} {cd : Value} {h₀ base : Heap} {m : Str → Option Value} {s : Shared} {A₀ : Around} {n no np : Nat} {r1 r2 r3 r4 r5 : Tok} {oO oP oK oA o1 o2 : Obj} {vK : Option Value} {uso usp : List Value} {Q : Flow → Shared → Prop}
    (B : Below A₀ base [] h₀) (F : Fr h₀ L s.heap m) (X : (Mine.hd.heap_39 w.params).In h₀) (T : Top p loose mean mg mb h₀)(m1 : m (Str.ofString "one") = some (.int x t1)) (m2 : m (Str.ofString "other") = some (.int y t2)) (m3 : m (Str.ofString "both") = some (.int (times x y) t3))
    (N : News h₀ L s.heap ((lo, W.listOf (List.toArray uso) no) :: (lp, W.listOf (List.toArray usp) np) :: tailN L la c1 c2 n r1 r2 r3 r4 r5 oO oP oK oA o1 o2))
    (hio : IntsAre uso (parts y)) (hip : IntsAre usp (parts x)) (q1 : CodeOb o1 qual1) (q2 : CodeOb o2 qual2) (dO : oO.data = .cell (some (.ref lo))) (dP : oP.data = .cell (some (.ref lp))) (dK : oK.data = .cell vK) (dA : oA.data = .cell (some (.ref la)))
    (l0 : @LT.lt Nat _ 23 L ∧ @LT.lt Nat _ 16 L) (l1 : @LT.lt Nat _ (L + 1 + 1 + 1 + 1) la ∧ @LT.lt Nat _ (L + 1 + 1 + 1 + 1) c1 ∧ @LT.lt Nat _ (L + 1 + 1 + 1 + 1) c2) (l2 : @LT.lt Nat _ la lp ∧ @LT.lt Nat _ c1 lp ∧ @LT.lt Nat _ c2 lp ∧ @LT.lt Nat _ lp lo)(ret : ∀ (h' : Heap) (tk' : Nat) (m' : Str → Option Value) (news : List (Addr × Obj)), Fr h₀ L h' m' → News h₀ L h' ((23, full2 c2) :: (16, full1 c1) :: news) → Q (.ret (.bool true)) { s with heap := h', toks := tk' })
    {bd : List Stmt} {sc : Scope} (hbd : (defBody lawDef).drop 8 = bd) (hsc : defScope lawDef = sc) :
    wpAny (model prog0 w) (callerA.deeper (envOfC (Str.ofString "law") sc L fa cd)) (execs bd (envOfC (Str.ofString "law") sc L fa cd)) Q (fun _ _ => False) s := by
  w_on
  refine (fun (h : (PySem.Challenge.rw_ib0002_01 = PySem.Challenge.rw_ib0002_01 ∧ Mine.hd.heap_39 = Mine.hd.heap_39) → _) => h ⟨rfl, rfl⟩) ?_
  k_fill
  intro _
  k_with_none
  k_with "MINE ne" => (refine neN ?_; (try dsimp only); first | exact Nat.ne_of_gt (by with_reducible assumption) | exact Nat.ne_of_lt (by with_reducible assumption) | exact Nat.ne_of_gt (And.left (by with_reducible assumption)) | exact Nat.ne_of_lt (And.left (by with_reducible assumption)) | exact Nat.ne_of_gt (And.left (And.right (by with_reducible assumption))) | exact Nat.ne_of_lt (And.left (And.right (by with_reducible assumption))) | exact Nat.ne_of_gt (And.left (And.right (And.right (by with_reducible assumption)))) | exact Nat.ne_of_lt (And.left (And.right (And.right (by with_reducible assumption)))) | exact Nat.ne_of_gt (And.left (And.right (And.right (And.right (by with_reducible assumption))))) | exact Nat.ne_of_lt (And.left (And.right (And.right (And.right (by with_reducible assumption))))) | exact Nat.ne_of_gt (And.left (And.right (And.right (And.right (And.right (by with_reducible assumption)))))) | exact Nat.ne_of_lt (And.left (And.right (And.right (And.right (And.right (by with_reducible assumption)))))) | exact Nat.ne_of_gt (And.left (And.right (And.right (And.right (And.right (And.right (by with_reducible assumption))))))) | exact Nat.ne_of_lt (And.left (And.right (And.right (And.right (And.right (And.right (by with_reducible assumption))))))) | exact Nat.ne_of_gt (And.left (And.right (And.right (And.right (And.right (And.right (And.right (by with_reducible assumption)))))))) | exact Nat.ne_of_lt (And.left (And.right (And.right (And.right (And.right (And.right (And.right (by with_reducible assumption)))))))) | exact Nat.ne_of_gt (And.left (And.right (And.right (And.right (And.right (And.right (And.right (And.right (by with_reducible assumption))))))))) | exact Nat.ne_of_lt (And.left (And.right (And.right (And.right (And.right (And.right (And.right (And.right (by with_reducible assumption))))))))) | exact Nat.ne_of_gt (And.left (And.right (And.right (And.right (And.right (And.right (And.right (And.right (And.right (by with_reducible assumption)))))))))) | exact Nat.ne_of_lt (And.left (And.right (And.right (And.right (And.right (And.right (And.right (And.right (And.right (by with_reducible assumption)))))))))) | exact Nat.ne_of_gt (And.right (by with_reducible assumption)) | exact Nat.ne_of_lt (And.right (by with_reducible assumption)) | exact Nat.ne_of_gt (And.right (And.right (by with_reducible assumption))) | exact Nat.ne_of_lt (And.right (And.right (by with_reducible assumption))) | exact Nat.ne_of_gt (And.right (And.right (And.right (by with_reducible assumption)))) | exact Nat.ne_of_lt (And.right (And.right (And.right (by with_reducible assumption)))) | exact Nat.ne_of_gt (And.right (And.right (And.right (And.right (by with_reducible assumption))))) | exact Nat.ne_of_lt (And.right (And.right (And.right (And.right (by with_reducible assumption))))) | exact Nat.ne_of_gt (And.right (And.right (And.right (And.right (And.right (by with_reducible assumption)))))) | exact Nat.ne_of_lt (And.right (And.right (And.right (And.right (And.right (by with_reducible assumption)))))) | exact Nat.ne_of_gt (And.right (And.right (And.right (And.right (And.right (And.right (by with_reducible assumption))))))) | exact Nat.ne_of_lt (And.right (And.right (And.right (And.right (And.right (And.right (by with_reducible assumption))))))) | exact Nat.ne_of_gt (And.right (And.right (And.right (And.right (And.right (And.right (And.right (by with_reducible assumption)))))))) | exact Nat.ne_of_lt (And.right (And.right (And.right (And.right (And.right (And.right (And.right (by with_reducible assumption)))))))) | exact Nat.ne_of_gt (And.right (And.right (And.right (And.right (And.right (And.right (And.right (And.right (by with_reducible assumption))))))))) | exact Nat.ne_of_lt (And.right (And.right (And.right (And.right (And.right (And.right (And.right (And.right (by with_reducible assumption))))))))) | exact (And.left (And.left (by with_reducible assumption))) | exact (And.left (And.right (And.left (by with_reducible assumption)))) | exact (And.right (And.right (And.left (by with_reducible assumption)))) | exact (And.left (And.left (And.right (by with_reducible assumption)))) | exact (And.left (And.right (And.left (And.right (by with_reducible assumption))))) | exact (And.right (And.right (And.left (And.right (by with_reducible assumption))))) | exact (And.left (And.right (by with_reducible assumption))) | exact (And.left (And.right (And.right (by with_reducible assumption)))) | exact (And.right (And.right (And.right (by with_reducible assumption)))) | exact (And.left (And.left (And.right (And.right (by with_reducible assumption))))) | exact (And.left (And.right (And.left (And.right (And.right (by with_reducible assumption)))))) | exact (And.right (And.right (And.left (And.right (And.right (by with_reducible assumption)))))) | exact (And.left (And.right (And.right (by with_reducible assumption)))) | exact (And.left (And.right (And.right (And.right (by with_reducible assumption))))) | exact (And.right (And.right (And.right (And.right (by with_reducible assumption))))) | exact (And.left (And.left (And.right (And.right (And.right (by with_reducible assumption)))))) | exact (And.left (And.right (And.left (And.right (And.right (And.right (by with_reducible assumption))))))) | exact (And.right (And.right (And.left (And.right (And.right (And.right (by with_reducible assumption))))))) | exact (And.left (And.right (And.right (And.right (by with_reducible assumption))))) | exact (And.left (And.right (And.right (And.right (And.right (by with_reducible assumption)))))) | exact (And.right (And.right (And.right (And.right (And.right (by with_reducible assumption)))))) | exact (And.left (And.left (And.right (And.right (And.right (And.right (by with_reducible assumption))))))) | exact (And.left (And.right (And.left (And.right (And.right (And.right (And.right (by with_reducible assumption)))))))) | exact (And.right (And.right (And.left (And.right (And.right (And.right (And.right (by with_reducible assumption)))))))) | exact (And.left (And.right (And.right (And.right (And.right (by with_reducible assumption)))))) | exact (And.left (And.right (And.right (And.right (And.right (And.right (by with_reducible assumption))))))) | exact (And.right (And.right (And.right (And.right (And.right (And.right (by with_reducible assumption))))))) | exact (And.left (And.left (And.right (And.right (And.right (And.right (And.right (by with_reducible assumption)))))))) | exact (And.left (And.right (And.left (And.right (And.right (And.right (And.right (And.right (by with_reducible assumption))))))))) | exact (And.right (And.right (And.left (And.right (And.right (And.right (And.right (And.right (by with_reducible assumption))))))))) | exact (And.left (And.right (And.right (And.right (And.right (And.right (by with_reducible assumption))))))) | exact (And.left (And.right (And.right (And.right (And.right (And.right (And.right (by with_reducible assumption)))))))) | exact (And.right (And.right (And.right (And.right (And.right (And.right (And.right (by with_reducible assumption)))))))) | exact (And.left (And.left (And.right (And.right (And.right (And.right (And.right (And.right (by with_reducible assumption))))))))) | exact (And.left (And.right (And.left (And.right (And.right (And.right (And.right (And.right (And.right (by with_reducible assumption)))))))))) | exact (And.right (And.right (And.left (And.right (And.right (And.right (And.right (And.right (And.right (by with_reducible assumption)))))))))) | exact (And.left (And.right (And.right (And.right (And.right (And.right (And.right (by with_reducible assumption)))))))) | exact (And.left (And.right (And.right (And.right (And.right (And.right (And.right (And.right (by with_reducible assumption))))))))) | exact (And.right (And.right (And.right (And.right (And.right (And.right (And.right (And.right (by with_reducible assumption))))))))) | exact (And.left (And.left (And.right (And.right (And.right (And.right (And.right (And.right (And.right (by with_reducible assumption)))))))))) | exact (And.left (And.right (And.left (And.right (And.right (And.right (And.right (And.right (And.right (And.right (by with_reducible assumption))))))))))) | exact (And.right (And.right (And.left (And.right (And.right (And.right (And.right (And.right (And.right (And.right (by with_reducible assumption))))))))))) | exact (And.left (And.right (And.right (And.right (And.right (And.right (And.right (And.right (by with_reducible assumption))))))))) | exact (And.left (And.right (And.right (And.right (And.right (And.right (And.right (And.right (And.right (by with_reducible assumption)))))))))) | exact (And.right (And.right (And.right (And.right (And.right (And.right (And.right (And.right (And.right (by with_reducible assumption)))))))))))
  k_with "MINE tab" => (first
  | assumption
  | exact tab_of_news (by k_asm) (by k_dflt k_mem) (by k_dflt k_mem) (by assumption)
  | exact Tab.keeps (by assumption) (Fr.keep (by k_asm)))
  k_with "call ref" => (
  k_here
  k_dflt (refine use_i2d (by k_dflt (assumption)) (by k_dflt (k_asm)) (by k_dflt (k_asm)) (by k_dflt (k_asm)) (by k_dflt (k_asm)) (by k_dflt (k_asm)) (by k_dflt (first | exact rfl | assumption)) (by k_dflt (first | decide | ktr_room)) (by k_dflt (first | decide | ktr_units)) (by first | with_reducible (walk_at "MINE tab") | (walk_at "MINE tab")) (by k_dflt (walk_at "MINE bnd")) (by k_dflt (walk_at "MINE bnd")) ?_)
  k_whole
  intro zl' zn' zvs' zh' ztk' zF' zN' zl1 zi1 zn1 zs1 ze1 ze2
  (try k_lt zl1)
  (try dsimp only)
  (try k_fold))
  k_with "call ref" => (
  k_here
  k_dflt (refine use_put (by k_dflt (assumption)) (by k_dflt (k_asm)) (by k_dflt (k_asm)) (by k_dflt (k_asm)) (by k_dflt (k_asm)) (by k_dflt (k_asm)) (by k_dflt (first | exact rfl | assumption)) (by k_dflt (first | decide | ktr_room)) (by k_dflt (first | decide | ktr_units)) (by first | with_reducible (walk_at "MINE tab") | (walk_at "MINE tab")) (by first | with_reducible (walk_at "MINE tab") | (walk_at "MINE tab")) (by first | with_reducible (walk_at "MINE bnd") | (walk_at "MINE bnd")) (by first | with_reducible (walk_at "MINE bnd") | (walk_at "MINE bnd")) (by first | with_reducible (walk_at "MINE bnd") | (walk_at "MINE bnd")) (by first | with_reducible (walk_at "MINE bnd") | (walk_at "MINE bnd")) ?_)
  k_whole
  intro zt' zh' ztk' zF' zN' zhp0' zhp1'
  (try dsimp only)
  (try k_fold))
  k_with "call ref" => (
  k_here
  k_dflt (refine use_div (by k_dflt (assumption)) (by k_dflt (k_asm)) (by k_dflt (k_asm)) (by k_dflt (k_asm)) (by k_dflt (k_asm)) (by k_dflt (k_asm)) (by k_dflt (first | exact rfl | assumption)) (by k_dflt (first | decide | ktr_room)) (by k_dflt (first | decide | ktr_units)) (by first | with_reducible (walk_at "MINE tab") | (walk_at "MINE tab")) (by first | with_reducible (walk_at "MINE tab") | (walk_at "MINE tab")) (by first | with_reducible (walk_at "MINE bnd") | (walk_at "MINE bnd")) (by first | with_reducible (walk_at "MINE bnd") | (walk_at "MINE bnd")) (by first | with_reducible (walk_at "MINE bnd") | (walk_at "MINE bnd")) (by first | with_reducible (walk_at "MINE bnd") | (walk_at "MINE bnd")) ?_)
  k_whole
  intro zl' zn' zu1' zu2' zh' ztk' zF' zN' zl1 zl2
  (try k_lt zl1)
  (try dsimp only)
  (try k_fold))
  k_with "call ref" => (
  k_here
  k_dflt (refine use_times (by k_dflt (assumption)) (by k_dflt (k_asm)) (by k_dflt (k_asm)) (by k_dflt (k_asm)) (by k_dflt (k_asm)) (by k_dflt (k_asm)) (by k_dflt (first | exact rfl | assumption)) (by k_dflt (first | decide | ktr_room)) (by k_dflt (first | decide | ktr_units)) (by first | with_reducible (walk_at "MINE tab") | (walk_at "MINE tab")) (by first | with_reducible (walk_at "MINE tab") | (walk_at "MINE tab")) (by first | with_reducible (walk_at "MINE bnd") | (walk_at "MINE bnd")) (by first | with_reducible (walk_at "MINE bnd") | (walk_at "MINE bnd")) (by first | with_reducible (walk_at "MINE bnd") | (walk_at "MINE bnd")) (by first | with_reducible (walk_at "MINE bnd") | (walk_at "MINE bnd")) ?_)
  k_whole
  intro zt' zh' ztk' zF' zN' zhp0' zhp1'
  (try dsimp only)
  (try k_fold))
  k_with "call ref" => (
  k_here
  k_dflt (refine use_parts (by k_dflt (assumption)) (by k_dflt (k_asm)) (by k_dflt (k_asm)) (by k_dflt (k_asm)) (by k_dflt (k_asm)) (by k_dflt (k_asm)) (by k_dflt (first | exact rfl | assumption)) (by k_dflt (first | decide | ktr_room)) (by k_dflt (first | decide | ktr_units)) (by first | with_reducible (walk_at "MINE tab") | (walk_at "MINE tab")) (by first | with_reducible (walk_at "MINE tab") | (walk_at "MINE tab")) (by k_dflt (is_list)) (by k_dflt (exact .cons _ _ (.cons _ _ (.cons _ _ (.cons _ _ (.cons _ _ .nil)))))) (by k_dflt (walk_at "MINE bnd")) (by k_dflt (walk_at "MINE bnd")) ?_)
  k_whole
  intro zl' zn' zus' zh' ztk' zF' zN' zl1 zhi'
  (try k_lt zl1)
  (try dsimp only)
  (try k_fold))
  k_with "call ref" => (
  k_here
  k_dflt (refine use_bis (by k_dflt (assumption)) (by k_dflt (assumption)) (by k_dflt (k_asm)) (by k_dflt (k_asm)) (by k_dflt (k_asm)) (by k_dflt (k_asm)) (by k_dflt (k_asm)) (by k_dflt (first | exact rfl | assumption)) (by k_dflt (first | decide | ktr_room)) (by k_dflt (first | decide | ktr_units)) (by k_dflt (is_list)) ?_)
  k_whole
  intro zt' zh' ztk' zF' zN' zhb0' zhb1'
  (try dsimp only)
  (try k_fold))
  k_with "subscriptTail Name Name ref int" => (
  k_here
  (with_reducible show wpAny _ _ (subscriptTail _ _ (Value.ref _) (Value.int _ _)) _ _ _)
  (with_unfolding_all refine itemRows (by k_dflt (is_list)) ?_ (by with_unfolding_all rfl))
  k_whole
  intro zt'
  (try dsimp only))
  k_with "MINE bnd" => (first | assumption | decide | omega | exact GInv.l0 (by with_reducible assumption) | exact GInv.l1 (by with_reducible assumption) | exact GInv.r0 (by with_reducible assumption) (by with_reducible assumption) | exact GInv.r1 (by with_reducible assumption) | exact (put_seven (by assumption) (by assumption)).1 | exact (put_seven (by assumption) (by assumption)).2 | exact (tinv_bnd (by assumption) (by assumption) (by assumption) (by assumption)).1 | exact (tinv_bnd (by assumption) (by assumption) (by assumption) (by assumption)).2.1 | exact (tinv_bnd (by assumption) (by assumption) (by assumption) (by assumption)).2.2.1 | exact (tinv_bnd (by assumption) (by assumption) (by assumption) (by assumption)).2.2.2)
  have hx8 : x < 8 := by omega
  have hy8 : y < 8 := by omega
  have hx9 : 0 ≤ x := by omega
  have hy9 : 0 ≤ y := by omega
  dsimp only [lawDef, first0, defBody, defScope, defParams, prog0, PySem.Challenge.pw_ib0002_01, List.drop] at hbd hsc
  subst hbd hsc
  unfold tailN at N
  (try k_fold)
  have F := Fr.names [(Str.ofString "both", .int (times x y) t3), (Str.ofString "one", .int x t1), (Str.ofString "other", .int y t2)] F (List.forall_mem_cons.mpr ⟨m3, List.forall_mem_cons.mpr ⟨m1, List.forall_mem_cons.mpr ⟨m2, List.forall_mem_nil _⟩⟩⟩)
  dsimp only [kstB] at F
  clear m1 m2 m3
  k_with "pyIter ref" => (k_of "part" => k_state (fun pre made => TInv pre made) "made")
  k_with "state" => first | exact tinv_start | exact tinv_step (by assumption)
  repeat' ((fail_if_success (with_reducible show wpAny _ _ (execs (Stmt.Assign [Expr.Name (Str.ofString "rest") _] _ _ :: _) _) _ _ _)); (first | (k_unfold; (try dsimp only)) | (k_end; wrow_close) | walk1 | (dsimp only; walk1) | (leave1; walk_say "STEP leave1"; try dsimp only) | fail "no step"))
  k_with_none
  all_goals (try ((with_reducible show Q (Flow.ret (Value.bool false)) _); exfalso; (first | exact absurd (tinv_end (z := x) (by with_reducible assumption) hx0 hx1) (by with_reducible assumption) | exact absurd (tinv_end (z := y) (by with_reducible assumption) hy0 hy1) (by with_reducible assumption) | exact place_no hx0 hx1 (by with_reducible assumption) | exact place_no hy0 hy1 (by with_reducible assumption))))
  all_goals ((try dsimp only); k_dflt (refine' tail3 C1 C3 C4 C5 C6 hx0 hx1 hy0 hy1 B ?tF X T ?tm0 ?tm1 ?tm2 ?tN (by with_reducible assumption) (by with_reducible assumption) q1 q2 dO dP dK dA l0 l1 l2 ?tr ?tb ?ts); k_dflt (case tF => k_asm); (case tm0 => with_unfolding_all rfl); (case tm1 => with_unfolding_all rfl); (case tm2 => with_unfolding_all rfl); (case tN => with_unfolding_all exact kst_newsOf (by k_asm) (by unfold tailN; kst_inAny)); (case tr => exact ret); (case tb => dsimp only [lawDef, first0, defBody, defScope, defParams, prog0, PySem.Challenge.pw_ib0002_01, List.drop]); (case ts => dsimp only [lawDef, first0, defBody, defScope, defParams, prog0, PySem.Challenge.pw_ib0002_01, List.drop]))
end Mine
end -- Tail2

section -- Tail1
open PySem PySem.Spec PySem.Calls PySem.W PyProof.Rows
set_option maxRecDepth 100000
set_option rowWalk.seconds 0
namespace Mine

set_option maxHeartbeats 1000000 in
theorem tail1 {w p loose mean mg mb} (C1 : I2dOk w p loose mean mg mb) (C3 : PutOk w p loose mean mg mb) (C4 : DivOk w p loose mean mg mb) (C5 : TimesOk w p loose mean mg mb) (C6 : PartsOk w p loose mean mg mb)
    {x y : Int} {t1 t2 : Tok} (hx0 : 1 ≤ x) (hx1 : x ≤ 7) (hy0 : 1 ≤ y) (hy1 : y ≤ 7) {fa L la c1 c2 : Addr} {cd : Value} {h₀ base : Heap} {m : Str → Option Value} {s : Shared} {A₀ : Around} {n : Nat} {r1 r2 r3 r4 r5 : Tok} {oO oP oK oA o1 o2 : Obj} {vO vP vK : Option Value} {Q : Flow → Shared → Prop}
    (B : Below A₀ base [] h₀) (F : Fr h₀ L s.heap m) (X : (Mine.hd.heap_39 w.params).In h₀) (T : Top p loose mean mg mb h₀)(m1 : m (Str.ofString "one") = some (.int x t1)) (m2 : m (Str.ofString "other") = some (.int y t2))
    (N : News h₀ L s.heap (tailN L la c1 c2 n r1 r2 r3 r4 r5 oO oP oK oA o1 o2))
    (q1 : CodeOb o1 qual1) (q2 : CodeOb o2 qual2) (dO : oO.data = .cell vO) (dP : oP.data = .cell vP) (dK : oK.data = .cell vK) (dA : oA.data = .cell (some (.ref la)))
    (l0 : @LT.lt Nat _ 23 L ∧ @LT.lt Nat _ 16 L) (l1 : @LT.lt Nat _ (L + 1 + 1 + 1 + 1) la ∧ @LT.lt Nat _ (L + 1 + 1 + 1 + 1) c1 ∧ @LT.lt Nat _ (L + 1 + 1 + 1 + 1) c2)(ret : ∀ (h' : Heap) (tk' : Nat) (m' : Str → Option Value) (news : List (Addr × Obj)), Fr h₀ L h' m' → News h₀ L h' ((23, full2 c2) :: (16, full1 c1) :: news) → Q (.ret (.bool true)) { s with heap := h', toks := tk' })
    {bd : List Stmt} {sc : Scope} (hbd : (defBody lawDef).drop 4 = bd) (hsc : defScope lawDef = sc) :
    wpAny (model prog0 w) (callerA.deeper (envOfC (Str.ofString "law") sc L fa cd)) (execs bd (envOfC (Str.ofString "law") sc L fa cd)) Q (fun _ _ => False) s := by
  w_on
  refine (fun (h : (PySem.Challenge.rw_ib0002_01 = PySem.Challenge.rw_ib0002_01 ∧ Mine.hd.heap_39 = Mine.hd.heap_39) → _) => h ⟨rfl, rfl⟩) ?_
  k_fill
  intro _
  k_with_none
  k_with "MINE ne" => (refine neN ?_; (try dsimp only); first | exact Nat.ne_of_gt (by with_reducible assumption) | exact Nat.ne_of_lt (by with_reducible assumption) | exact Nat.ne_of_gt (And.left (by with_reducible assumption)) | exact Nat.ne_of_lt (And.left (by with_reducible assumption)) | exact Nat.ne_of_gt (And.left (And.right (by with_reducible assumption))) | exact Nat.ne_of_lt (And.left (And.right (by with_reducible assumption))) | exact Nat.ne_of_gt (And.left (And.right (And.right (by with_reducible assumption)))) | exact Nat.ne_of_lt (And.left (And.right (And.right (by with_reducible assumption)))) | exact Nat.ne_of_gt (And.left (And.right (And.right (And.right (by with_reducible assumption))))) | exact Nat.ne_of_lt (And.left (And.right (And.right (And.right (by with_reducible assumption))))) | exact Nat.ne_of_gt (And.left (And.right (And.right (And.right (And.right (by with_reducible assumption)))))) | exact Nat.ne_of_lt (And.left (And.right (And.right (And.right (And.right (by with_reducible assumption)))))) | exact Nat.ne_of_gt (And.left (And.right (And.right (And.right (And.right (And.right (by with_reducible assumption))))))) | exact Nat.ne_of_lt (And.left (And.right (And.right (And.right (And.right (And.right (by with_reducible assumption))))))) | exact Nat.ne_of_gt (And.left (And.right (And.right (And.right (And.right (And.right (And.right (by with_reducible assumption)))))))) | exact Nat.ne_of_lt (And.left (And.right (And.right (And.right (And.right (And.right (And.right (by with_reducible assumption)))))))) | exact Nat.ne_of_gt (And.left (And.right (And.right (And.right (And.right (And.right (And.right (And.right (by with_reducible assumption))))))))) | exact Nat.ne_of_lt (And.left (And.right (And.right (And.right (And.right (And.right (And.right (And.right (by with_reducible assumption))))))))) | exact Nat.ne_of_gt (And.left (And.right (And.right (And.right (And.right (And.right (And.right (And.right (And.right (by with_reducible assumption)))))))))) | exact Nat.ne_of_lt (And.left (And.right (And.right (And.right (And.right (And.right (And.right (And.right (And.right (by with_reducible assumption)))))))))) | exact Nat.ne_of_gt (And.right (by with_reducible assumption)) | exact Nat.ne_of_lt (And.right (by with_reducible assumption)) | exact Nat.ne_of_gt (And.right (And.right (by with_reducible assumption))) | exact Nat.ne_of_lt (And.right (And.right (by with_reducible assumption))) | exact Nat.ne_of_gt (And.right (And.right (And.right (by with_reducible assumption)))) | exact Nat.ne_of_lt (And.right (And.right (And.right (by with_reducible assumption)))) | exact Nat.ne_of_gt (And.right (And.right (And.right (And.right (by with_reducible assumption))))) | exact Nat.ne_of_lt (And.right (And.right (And.right (And.right (by with_reducible assumption))))) | exact Nat.ne_of_gt (And.right (And.right (And.right (And.right (And.right (by with_reducible assumption)))))) | exact Nat.ne_of_lt (And.right (And.right (And.right (And.right (And.right (by with_reducible assumption)))))) | exact Nat.ne_of_gt (And.right (And.right (And.right (And.right (And.right (And.right (by with_reducible assumption))))))) | exact Nat.ne_of_lt (And.right (And.right (And.right (And.right (And.right (And.right (by with_reducible assumption))))))) | exact Nat.ne_of_gt (And.right (And.right (And.right (And.right (And.right (And.right (And.right (by with_reducible assumption)))))))) | exact Nat.ne_of_lt (And.right (And.right (And.right (And.right (And.right (And.right (And.right (by with_reducible assumption)))))))) | exact Nat.ne_of_gt (And.right (And.right (And.right (And.right (And.right (And.right (And.right (And.right (by with_reducible assumption))))))))) | exact Nat.ne_of_lt (And.right (And.right (And.right (And.right (And.right (And.right (And.right (And.right (by with_reducible assumption))))))))) | exact (And.left (And.left (by with_reducible assumption))) | exact (And.left (And.right (And.left (by with_reducible assumption)))) | exact (And.right (And.right (And.left (by with_reducible assumption)))) | exact (And.left (And.left (And.right (by with_reducible assumption)))) | exact (And.left (And.right (And.left (And.right (by with_reducible assumption))))) | exact (And.right (And.right (And.left (And.right (by with_reducible assumption))))) | exact (And.left (And.right (by with_reducible assumption))) | exact (And.left (And.right (And.right (by with_reducible assumption)))) | exact (And.right (And.right (And.right (by with_reducible assumption)))) | exact (And.left (And.left (And.right (And.right (by with_reducible assumption))))) | exact (And.left (And.right (And.left (And.right (And.right (by with_reducible assumption)))))) | exact (And.right (And.right (And.left (And.right (And.right (by with_reducible assumption)))))) | exact (And.left (And.right (And.right (by with_reducible assumption)))) | exact (And.left (And.right (And.right (And.right (by with_reducible assumption))))) | exact (And.right (And.right (And.right (And.right (by with_reducible assumption))))) | exact (And.left (And.left (And.right (And.right (And.right (by with_reducible assumption)))))) | exact (And.left (And.right (And.left (And.right (And.right (And.right (by with_reducible assumption))))))) | exact (And.right (And.right (And.left (And.right (And.right (And.right (by with_reducible assumption))))))) | exact (And.left (And.right (And.right (And.right (by with_reducible assumption))))) | exact (And.left (And.right (And.right (And.right (And.right (by with_reducible assumption)))))) | exact (And.right (And.right (And.right (And.right (And.right (by with_reducible assumption)))))) | exact (And.left (And.left (And.right (And.right (And.right (And.right (by with_reducible assumption))))))) | exact (And.left (And.right (And.left (And.right (And.right (And.right (And.right (by with_reducible assumption)))))))) | exact (And.right (And.right (And.left (And.right (And.right (And.right (And.right (by with_reducible assumption)))))))) | exact (And.left (And.right (And.right (And.right (And.right (by with_reducible assumption)))))) | exact (And.left (And.right (And.right (And.right (And.right (And.right (by with_reducible assumption))))))) | exact (And.right (And.right (And.right (And.right (And.right (And.right (by with_reducible assumption))))))) | exact (And.left (And.left (And.right (And.right (And.right (And.right (And.right (by with_reducible assumption)))))))) | exact (And.left (And.right (And.left (And.right (And.right (And.right (And.right (And.right (by with_reducible assumption))))))))) | exact (And.right (And.right (And.left (And.right (And.right (And.right (And.right (And.right (by with_reducible assumption))))))))) | exact (And.left (And.right (And.right (And.right (And.right (And.right (by with_reducible assumption))))))) | exact (And.left (And.right (And.right (And.right (And.right (And.right (And.right (by with_reducible assumption)))))))) | exact (And.right (And.right (And.right (And.right (And.right (And.right (And.right (by with_reducible assumption)))))))) | exact (And.left (And.left (And.right (And.right (And.right (And.right (And.right (And.right (by with_reducible assumption))))))))) | exact (And.left (And.right (And.left (And.right (And.right (And.right (And.right (And.right (And.right (by with_reducible assumption)))))))))) | exact (And.right (And.right (And.left (And.right (And.right (And.right (And.right (And.right (And.right (by with_reducible assumption)))))))))) | exact (And.left (And.right (And.right (And.right (And.right (And.right (And.right (by with_reducible assumption)))))))) | exact (And.left (And.right (And.right (And.right (And.right (And.right (And.right (And.right (by with_reducible assumption))))))))) | exact (And.right (And.right (And.right (And.right (And.right (And.right (And.right (And.right (by with_reducible assumption))))))))) | exact (And.left (And.left (And.right (And.right (And.right (And.right (And.right (And.right (And.right (by with_reducible assumption)))))))))) | exact (And.left (And.right (And.left (And.right (And.right (And.right (And.right (And.right (And.right (And.right (by with_reducible assumption))))))))))) | exact (And.right (And.right (And.left (And.right (And.right (And.right (And.right (And.right (And.right (And.right (by with_reducible assumption))))))))))) | exact (And.left (And.right (And.right (And.right (And.right (And.right (And.right (And.right (by with_reducible assumption))))))))) | exact (And.left (And.right (And.right (And.right (And.right (And.right (And.right (And.right (And.right (by with_reducible assumption)))))))))) | exact (And.right (And.right (And.right (And.right (And.right (And.right (And.right (And.right (And.right (by with_reducible assumption)))))))))))
  k_with "MINE tab" => (first
  | assumption
  | exact tab_of_news (by k_asm) (by k_dflt k_mem) (by k_dflt k_mem) (by assumption)
  | exact Tab.keeps (by assumption) (Fr.keep (by k_asm)))
  k_with "call ref" => (
  k_here
  k_dflt (refine use_i2d (by k_dflt (assumption)) (by k_dflt (k_asm)) (by k_dflt (k_asm)) (by k_dflt (k_asm)) (by k_dflt (k_asm)) (by k_dflt (k_asm)) (by k_dflt (first | exact rfl | assumption)) (by k_dflt (first | decide | ktr_room)) (by k_dflt (first | decide | ktr_units)) (by first | with_reducible (walk_at "MINE tab") | (walk_at "MINE tab")) (by k_dflt (walk_at "MINE bnd")) (by k_dflt (walk_at "MINE bnd")) ?_)
  k_whole
  intro zl' zn' zvs' zh' ztk' zF' zN' zl1 zi1 zn1 zs1 ze1 ze2
  (try k_lt zl1)
  (try dsimp only)
  (try k_fold))
  k_with "call ref" => (
  k_here
  k_dflt (refine use_put (by k_dflt (assumption)) (by k_dflt (k_asm)) (by k_dflt (k_asm)) (by k_dflt (k_asm)) (by k_dflt (k_asm)) (by k_dflt (k_asm)) (by k_dflt (first | exact rfl | assumption)) (by k_dflt (first | decide | ktr_room)) (by k_dflt (first | decide | ktr_units)) (by first | with_reducible (walk_at "MINE tab") | (walk_at "MINE tab")) (by first | with_reducible (walk_at "MINE tab") | (walk_at "MINE tab")) (by first | with_reducible (walk_at "MINE bnd") | (walk_at "MINE bnd")) (by first | with_reducible (walk_at "MINE bnd") | (walk_at "MINE bnd")) (by first | with_reducible (walk_at "MINE bnd") | (walk_at "MINE bnd")) (by first | with_reducible (walk_at "MINE bnd") | (walk_at "MINE bnd")) ?_)
  k_whole
  intro zt' zh' ztk' zF' zN' zhp0' zhp1'
  (try dsimp only)
  (try k_fold))
  k_with "call ref" => (
  k_here
  k_dflt (refine use_div (by k_dflt (assumption)) (by k_dflt (k_asm)) (by k_dflt (k_asm)) (by k_dflt (k_asm)) (by k_dflt (k_asm)) (by k_dflt (k_asm)) (by k_dflt (first | exact rfl | assumption)) (by k_dflt (first | decide | ktr_room)) (by k_dflt (first | decide | ktr_units)) (by first | with_reducible (walk_at "MINE tab") | (walk_at "MINE tab")) (by first | with_reducible (walk_at "MINE tab") | (walk_at "MINE tab")) (by first | with_reducible (walk_at "MINE bnd") | (walk_at "MINE bnd")) (by first | with_reducible (walk_at "MINE bnd") | (walk_at "MINE bnd")) (by first | with_reducible (walk_at "MINE bnd") | (walk_at "MINE bnd")) (by first | with_reducible (walk_at "MINE bnd") | (walk_at "MINE bnd")) ?_)
  k_whole
  intro zl' zn' zu1' zu2' zh' ztk' zF' zN' zl1 zl2
  (try k_lt zl1)
  (try dsimp only)
  (try k_fold))
  k_with "call ref" => (
  k_here
  k_dflt (refine use_times (by k_dflt (assumption)) (by k_dflt (k_asm)) (by k_dflt (k_asm)) (by k_dflt (k_asm)) (by k_dflt (k_asm)) (by k_dflt (k_asm)) (by k_dflt (first | exact rfl | assumption)) (by k_dflt (first | decide | ktr_room)) (by k_dflt (first | decide | ktr_units)) (by first | with_reducible (walk_at "MINE tab") | (walk_at "MINE tab")) (by first | with_reducible (walk_at "MINE tab") | (walk_at "MINE tab")) (by first | with_reducible (walk_at "MINE bnd") | (walk_at "MINE bnd")) (by first | with_reducible (walk_at "MINE bnd") | (walk_at "MINE bnd")) (by first | with_reducible (walk_at "MINE bnd") | (walk_at "MINE bnd")) (by first | with_reducible (walk_at "MINE bnd") | (walk_at "MINE bnd")) ?_)
  k_whole
  intro zt' zh' ztk' zF' zN' zhp0' zhp1'
  (try dsimp only)
  (try k_fold))
  k_with "call ref" => (
  k_here
  k_dflt (refine use_parts (by k_dflt (assumption)) (by k_dflt (k_asm)) (by k_dflt (k_asm)) (by k_dflt (k_asm)) (by k_dflt (k_asm)) (by k_dflt (k_asm)) (by k_dflt (first | exact rfl | assumption)) (by k_dflt (first | decide | ktr_room)) (by k_dflt (first | decide | ktr_units)) (by first | with_reducible (walk_at "MINE tab") | (walk_at "MINE tab")) (by first | with_reducible (walk_at "MINE tab") | (walk_at "MINE tab")) (by k_dflt (is_list)) (by k_dflt (exact .cons _ _ (.cons _ _ (.cons _ _ (.cons _ _ (.cons _ _ .nil)))))) (by k_dflt (walk_at "MINE bnd")) (by k_dflt (walk_at "MINE bnd")) ?_)
  k_whole
  intro zl' zn' zus' zh' ztk' zF' zN' zl1 zhi'
  (try k_lt zl1)
  (try dsimp only)
  (try k_fold))
  k_with "subscriptTail Name Name ref int" => (
  k_here
  (with_reducible show wpAny _ _ (subscriptTail _ _ (Value.ref _) (Value.int _ _)) _ _ _)
  (with_unfolding_all refine itemRows (by k_dflt (is_list)) ?_ (by with_unfolding_all rfl))
  k_whole
  intro zt'
  (try dsimp only))
  k_with "MINE bnd" => (first | assumption | decide | omega | exact GInv.l0 (by with_reducible assumption) | exact GInv.l1 (by with_reducible assumption) | exact GInv.r0 (by with_reducible assumption) (by with_reducible assumption) | exact GInv.r1 (by with_reducible assumption) | exact (put_seven (by assumption) (by assumption)).1 | exact (put_seven (by assumption) (by assumption)).2 | exact (tinv_bnd (by assumption) (by assumption) (by assumption) (by assumption)).1 | exact (tinv_bnd (by assumption) (by assumption) (by assumption) (by assumption)).2.1 | exact (tinv_bnd (by assumption) (by assumption) (by assumption) (by assumption)).2.2.1 | exact (tinv_bnd (by assumption) (by assumption) (by assumption) (by assumption)).2.2.2)
  have hx8 : x < 8 := by omega
  have hy8 : y < 8 := by omega
  have hx9 : 0 ≤ x := by omega
  have hy9 : 0 ≤ y := by omega
  dsimp only [lawDef, first0, defBody, defScope, defParams, prog0, PySem.Challenge.pw_ib0002_01, List.drop] at hbd hsc
  subst hbd hsc
  unfold tailN at N
  (try k_fold)
  have F := Fr.names [(Str.ofString "one", .int x t1), (Str.ofString "other", .int y t2)] F (List.forall_mem_cons.mpr ⟨m1, List.forall_mem_cons.mpr ⟨m2, List.forall_mem_nil _⟩⟩)
  dsimp only [kstB] at F
  clear m1 m2
  have hp5 := put_seven hy0 hy1
  have hp50 := hp5.1
  have hp51 := hp5.2
  repeat' ((fail_if_success (with_reducible show wpAny _ _ (execs (Stmt.For _ _ _ _ _ :: _) _) _ _ _)); (first | (k_unfold; (try dsimp only)) | (k_end; wrow_close) | walk1 | (dsimp only; walk1) | (leave1; walk_say "STEP leave1"; try dsimp only) | fail "no step"))
  all_goals (try dsimp only)
  all_goals (try ((with_reducible show Q (Flow.ret (Value.bool false)) _); exfalso; (first | exact absurd (times_comm hx0 hx1 hy0 hy1) (by with_reducible assumption) | exact absurd (times_put hx0 hx1 hy0 hy1) (by with_reducible assumption))))
  all_goals (rename (PySem.Obj.data _ = Data.cell (some (Value.ref _))) => dO9; revert dO9; rename (PySem.Obj.data _ = Data.cell (some (Value.ref _))) => dP9; intro dO9; ((try dsimp only); k_dflt (refine' tail2 C1 C3 C4 C5 C6 hx0 hx1 hy0 hy1 B ?tF X T ?tm0 ?tm1 ?tm2 ?tN (by with_reducible assumption) (by with_reducible assumption) q1 q2 dO9 dP9 dK dA l0 l1 ⟨by omega, by omega, by omega, by omega⟩ ?tr ?tb ?ts); k_dflt (case tF => k_asm); (case tm0 => with_unfolding_all rfl); (case tm1 => with_unfolding_all rfl); (case tm2 => with_unfolding_all rfl); (case tN => with_unfolding_all exact kst_newsOf (by k_asm) (by unfold tailN; kst_inAny)); (case tr => exact ret); (case tb => dsimp only [lawDef, first0, defBody, defScope, defParams, prog0, PySem.Challenge.pw_ib0002_01, List.drop]); (case ts => dsimp only [lawDef, first0, defBody, defScope, defParams, prog0, PySem.Challenge.pw_ib0002_01, List.drop])))
end Mine
end -- Tail1

section -- I2d
open PySem PySem.Spec PySem.Calls PySem.W PyProof.Rows
set_option maxRecDepth 100000
set_option rowWalk.seconds 0
namespace Mine
theorem pre1_news {h₀ h : Heap} {L f D c1 cN cI cA : Addr} {oN oI oA : Obj} {doc pm ctv : Value} {tn : Tok} {news : List (Addr × Obj)} (N : News h₀ L h news)
    (a1 : (f, fnMade (Str.ofString "inner") qual1 (defParams inner1) (defBody inner1) (defScope inner1) [(Str.ofString "n", cN), (Str.ofString "inner", cI), (Str.ofString "a_digits", cA)] doc pm c1 ctv) ∈ news) (a2 : h.CodeRec (.ref c1) qual1)
    (a3 : (cN, oN) ∈ news) (a5 : (cI, oI) ∈ news) (a7 : (cA, oA) ∈ news) (a4 : oN.data = .cell (some (.int 1 tn))) (a6 : oI.data = .cell (some (.ref f))) (a8 : oA.data = .cell (some (.ref D))) : Pre1 f D h :=
  ⟨c1, cN, cI, cA, oN, oI, oA, doc, pm, ctv, tn, N.get a1, a2, N.get a3, a4, N.get a5, a6, N.get a7, a8⟩
theorem bits_facts {a : Int} (h0 : 0 ≤ a) (h1 : a < 32) : ∃ n : Nat, Builtin.Int.intBits a = n ∧ n ≤ 5 ∧ (a ≠ 0 → 0 < n) ∧ a < 2 ^ n := by
  have key : ∀ n : Nat, n < 32 → Builtin.Int.intBits (n : Int) ≤ 5 ∧ ((n : Int) ≠ 0 → 0 < Builtin.Int.intBits (n : Int)) ∧ (n : Int) < 2 ^ Builtin.Int.intBits (n : Int) := by decide
  have h : a = ((a.toNat : Nat) : Int) := by omega
  rw [h]
  exact ⟨_, rfl, key _ (by omega)⟩
theorem fdiv_back (n : Nat) : ((n : Int) + 1 - 1).fdiv 1 = (n : Int) := by
  rw [Int.fdiv_eq_ediv_of_nonneg _ (by decide)]; simp
theorem pow_back {a : Int} {n : Nat} (h : a < 2 ^ n) : a < 2 ^ ((n : Int) - 0).toNat := by
  rw [show ((n : Int) - 0).toNat = n by omega]; exact h
theorem put1_zeros {a : Int} {n : Nat} {vs : List Value} (e : Builtin.Int.intBits a = n) (hi : IntsAre vs (put1 (List.replicate n 0) (Int.toNat 0) a ((n : Int) - 0).toNat)) : IntsAre vs (bits a) := by
  rw [show ((n : Int) - 0).toNat = n by omega] at hi
  have : put1 (List.replicate n 0) (Int.toNat 0) a n = bits a := by
    subst e
    show [] ++ (figs a _ ++ (List.replicate _ 0).drop (0 + _)) = _
    rw [List.nil_append, Nat.zero_add, List.drop_of_length_le (by simp), List.append_nil]; rfl
  rw [← this]; exact hi
theorem bits_zero {a : Int} {n : Nat} {t : Tok} (e : Builtin.Int.intBits a = n) (h : a = 0) : IntsAre (List.replicate n (.int 0 t)) (bits a) := by
  subst h
  have : n = 0 := e.symm.trans (by decide)
  subst this
  exact (show bits 0 = [] by decide) ▸ .nil

set_option maxHeartbeats 8000000 in
theorem i2d_ok {w p loose mean mg mb} : I2dOk w p loose mean mg mb := by
  intro a₁ t1 t2 h0 h1
  obtain ⟨n, hn, hn5, hn0, hn2⟩ := bits_facts h0 h1
  w_on
  refine (fun (h : (PySem.Challenge.rw_ib0002_01 = PySem.Challenge.rw_ib0002_01 ∧ Mine.hd.heap_39 = Mine.hd.heap_39) → _) => h ⟨rfl, rfl⟩) ?_
  k_fill
  intro _
  k_with_none
  k_with "MINE ne" => (refine neN ?_; (try dsimp only); first | exact Nat.ne_of_gt (by with_reducible assumption) | exact Nat.ne_of_lt (by with_reducible assumption) | exact Nat.ne_of_gt (And.left (by with_reducible assumption)) | exact Nat.ne_of_lt (And.left (by with_reducible assumption)) | exact Nat.ne_of_gt (And.left (And.right (by with_reducible assumption))) | exact Nat.ne_of_lt (And.left (And.right (by with_reducible assumption))) | exact Nat.ne_of_gt (And.left (And.right (And.right (by with_reducible assumption)))) | exact Nat.ne_of_lt (And.left (And.right (And.right (by with_reducible assumption)))) | exact Nat.ne_of_gt (And.left (And.right (And.right (And.right (by with_reducible assumption))))) | exact Nat.ne_of_lt (And.left (And.right (And.right (And.right (by with_reducible assumption))))) | exact Nat.ne_of_gt (And.left (And.right (And.right (And.right (And.right (by with_reducible assumption)))))) | exact Nat.ne_of_lt (And.left (And.right (And.right (And.right (And.right (by with_reducible assumption)))))) | exact Nat.ne_of_gt (And.left (And.right (And.right (And.right (And.right (And.right (by with_reducible assumption))))))) | exact Nat.ne_of_lt (And.left (And.right (And.right (And.right (And.right (And.right (by with_reducible assumption))))))) | exact Nat.ne_of_gt (And.left (And.right (And.right (And.right (And.right (And.right (And.right (by with_reducible assumption)))))))) | exact Nat.ne_of_lt (And.left (And.right (And.right (And.right (And.right (And.right (And.right (by with_reducible assumption)))))))) | exact Nat.ne_of_gt (And.left (And.right (And.right (And.right (And.right (And.right (And.right (And.right (by with_reducible assumption))))))))) | exact Nat.ne_of_lt (And.left (And.right (And.right (And.right (And.right (And.right (And.right (And.right (by with_reducible assumption))))))))) | exact Nat.ne_of_gt (And.left (And.right (And.right (And.right (And.right (And.right (And.right (And.right (And.right (by with_reducible assumption)))))))))) | exact Nat.ne_of_lt (And.left (And.right (And.right (And.right (And.right (And.right (And.right (And.right (And.right (by with_reducible assumption)))))))))) | exact Nat.ne_of_gt (And.right (by with_reducible assumption)) | exact Nat.ne_of_lt (And.right (by with_reducible assumption)) | exact Nat.ne_of_gt (And.right (And.right (by with_reducible assumption))) | exact Nat.ne_of_lt (And.right (And.right (by with_reducible assumption))) | exact Nat.ne_of_gt (And.right (And.right (And.right (by with_reducible assumption)))) | exact Nat.ne_of_lt (And.right (And.right (And.right (by with_reducible assumption)))) | exact Nat.ne_of_gt (And.right (And.right (And.right (And.right (by with_reducible assumption))))) | exact Nat.ne_of_lt (And.right (And.right (And.right (And.right (by with_reducible assumption))))) | exact Nat.ne_of_gt (And.right (And.right (And.right (And.right (And.right (by with_reducible assumption)))))) | exact Nat.ne_of_lt (And.right (And.right (And.right (And.right (And.right (by with_reducible assumption)))))) | exact Nat.ne_of_gt (And.right (And.right (And.right (And.right (And.right (And.right (by with_reducible assumption))))))) | exact Nat.ne_of_lt (And.right (And.right (And.right (And.right (And.right (And.right (by with_reducible assumption))))))) | exact Nat.ne_of_gt (And.right (And.right (And.right (And.right (And.right (And.right (And.right (by with_reducible assumption)))))))) | exact Nat.ne_of_lt (And.right (And.right (And.right (And.right (And.right (And.right (And.right (by with_reducible assumption)))))))) | exact Nat.ne_of_gt (And.right (And.right (And.right (And.right (And.right (And.right (And.right (And.right (by with_reducible assumption))))))))) | exact Nat.ne_of_lt (And.right (And.right (And.right (And.right (And.right (And.right (And.right (And.right (by with_reducible assumption))))))))) | exact (And.left (And.left (by with_reducible assumption))) | exact (And.left (And.right (And.left (by with_reducible assumption)))) | exact (And.right (And.right (And.left (by with_reducible assumption)))) | exact (And.left (And.left (And.right (by with_reducible assumption)))) | exact (And.left (And.right (And.left (And.right (by with_reducible assumption))))) | exact (And.right (And.right (And.left (And.right (by with_reducible assumption))))) | exact (And.left (And.right (by with_reducible assumption))) | exact (And.left (And.right (And.right (by with_reducible assumption)))) | exact (And.right (And.right (And.right (by with_reducible assumption)))) | exact (And.left (And.left (And.right (And.right (by with_reducible assumption))))) | exact (And.left (And.right (And.left (And.right (And.right (by with_reducible assumption)))))) | exact (And.right (And.right (And.left (And.right (And.right (by with_reducible assumption)))))) | exact (And.left (And.right (And.right (by with_reducible assumption)))) | exact (And.left (And.right (And.right (And.right (by with_reducible assumption))))) | exact (And.right (And.right (And.right (And.right (by with_reducible assumption))))) | exact (And.left (And.left (And.right (And.right (And.right (by with_reducible assumption)))))) | exact (And.left (And.right (And.left (And.right (And.right (And.right (by with_reducible assumption))))))) | exact (And.right (And.right (And.left (And.right (And.right (And.right (by with_reducible assumption))))))) | exact (And.left (And.right (And.right (And.right (by with_reducible assumption))))) | exact (And.left (And.right (And.right (And.right (And.right (by with_reducible assumption)))))) | exact (And.right (And.right (And.right (And.right (And.right (by with_reducible assumption)))))) | exact (And.left (And.left (And.right (And.right (And.right (And.right (by with_reducible assumption))))))) | exact (And.left (And.right (And.left (And.right (And.right (And.right (And.right (by with_reducible assumption)))))))) | exact (And.right (And.right (And.left (And.right (And.right (And.right (And.right (by with_reducible assumption)))))))) | exact (And.left (And.right (And.right (And.right (And.right (by with_reducible assumption)))))) | exact (And.left (And.right (And.right (And.right (And.right (And.right (by with_reducible assumption))))))) | exact (And.right (And.right (And.right (And.right (And.right (And.right (by with_reducible assumption))))))) | exact (And.left (And.left (And.right (And.right (And.right (And.right (And.right (by with_reducible assumption)))))))) | exact (And.left (And.right (And.left (And.right (And.right (And.right (And.right (And.right (by with_reducible assumption))))))))) | exact (And.right (And.right (And.left (And.right (And.right (And.right (And.right (And.right (by with_reducible assumption))))))))) | exact (And.left (And.right (And.right (And.right (And.right (And.right (by with_reducible assumption))))))) | exact (And.left (And.right (And.right (And.right (And.right (And.right (And.right (by with_reducible assumption)))))))) | exact (And.right (And.right (And.right (And.right (And.right (And.right (And.right (by with_reducible assumption)))))))) | exact (And.left (And.left (And.right (And.right (And.right (And.right (And.right (And.right (by with_reducible assumption))))))))) | exact (And.left (And.right (And.left (And.right (And.right (And.right (And.right (And.right (And.right (by with_reducible assumption)))))))))) | exact (And.right (And.right (And.left (And.right (And.right (And.right (And.right (And.right (And.right (by with_reducible assumption)))))))))) | exact (And.left (And.right (And.right (And.right (And.right (And.right (And.right (by with_reducible assumption)))))))) | exact (And.left (And.right (And.right (And.right (And.right (And.right (And.right (And.right (by with_reducible assumption))))))))) | exact (And.right (And.right (And.right (And.right (And.right (And.right (And.right (And.right (by with_reducible assumption))))))))) | exact (And.left (And.left (And.right (And.right (And.right (And.right (And.right (And.right (And.right (by with_reducible assumption)))))))))) | exact (And.left (And.right (And.left (And.right (And.right (And.right (And.right (And.right (And.right (And.right (by with_reducible assumption))))))))))) | exact (And.right (And.right (And.left (And.right (And.right (And.right (And.right (And.right (And.right (And.right (by with_reducible assumption))))))))))) | exact (And.left (And.right (And.right (And.right (And.right (And.right (And.right (And.right (by with_reducible assumption))))))))) | exact (And.left (And.right (And.right (And.right (And.right (And.right (And.right (And.right (And.right (by with_reducible assumption)))))))))) | exact (And.right (And.right (And.right (And.right (And.right (And.right (And.right (And.right (And.right (by with_reducible assumption)))))))))))
  k_with "MINE enterC" => (
  refine enterC (by k_asm) (by k_asm) (by k_asm) (by k_asm) (by exact rfl) (by exact rfl) (by assumption) (by k_is) (by k_is) (by ktr_room) (by exact BindsTo.of_eq rfl) (by exact rfl) (by decide +kernel) ?_ (by exact rfl) (by exact rfl) (by exact rfl)
  k_whole)
  k_with "exec FunctionDef" => (
  k_here
  kn_here
  k_dflt (refine nestDef_K (by first | with_reducible (exact rfl) | (exact rfl)) (by first | with_reducible (exact rfl) | (exact rfl)) (by first | with_reducible (exact rfl) | (exact rfl)) ?_)
  k_dflt (refine nestB (by first | with_reducible (k_asm) | (k_asm)) (by first | with_reducible (k_asm) | (k_asm)) (by first | with_reducible (k_asm) | (k_asm)) (by first | with_reducible (kn_code) | (kn_code)) (by first | with_reducible (exact rfl) | (exact rfl)) (by first | with_reducible (k_asm) | (k_asm)) (by first | with_reducible (kn_triples) | (kn_triples)) (by first | with_reducible (kn_hit) | (kn_hit)) (by first | with_reducible (exact rfl) | (exact rfl)) ?_; k_whole)
  intro zf' zct' zdc' zh' ztk' zF' zN' zl1
  (try dsimp only at zN')
  (try k_lt zl1))
  k_with "call builtin:int.bit_length" => (
  k_here
  k_dflt (refine bitsTo (by assumption) ?_))
  k_with "binaryOp Mult ref int" => (
  k_here
  (with_reducible show wpAny _ _ (binaryOp Operator.Mult (Value.ref _) (Value.int _ _)) _ _ _)
  k_dflt (refine mulK _ (fdiv_back _) (by first | with_reducible (omega) | (omega)) (by first | with_reducible (k_asm) | (k_asm)) (by first | with_reducible (k_asm) | (k_asm)) (by first | with_reducible (is_list) | (is_list)) ?_)
  k_whole
  intro zD' zh' zF' zN' zl1
  (try k_lt zl1)
  (try k_sweep))
  k_with "call builtin:len" => (
  k_here
  (with_reducible show wpAny _ _ (call (Value.builtin "len") [Value.ref _]) _ _ _)
  k_dflt (refine KM.len_K (by first | with_reducible (k_asm) | (k_asm)) (by k_dflt (k_mem)) (by first | with_reducible (rw [List.size_toArray, List.length_replicate]) | (rw [List.size_toArray, List.length_replicate])) (by first | with_reducible (omega) | (omega)) ?_)
  k_whole)
  k_with "call ref" => (
  k_here
  k_dflt (refine use_callD (inner1_ok _ _ _ _ _ _ _ _ _ (ints_zeros _ _) (Nat.le_refl _) ?_ ?_ ?_ ?_ ?_ ?_) (by first | with_reducible (k_asm) | (k_asm)) (by first | with_reducible (k_asm) | (k_asm)) (by first | with_reducible (k_asm) | (k_asm)) (by first | with_reducible (k_asm) | (k_asm)) (by first | with_reducible (k_asm) | (k_asm)) (by first | with_reducible (first | exact rfl | assumption) | (first | exact rfl | assumption)) (by first | with_reducible ((try simp only [depth_under_make, depth_under_kw, depth_in1, depth_deeper, depth_caller] at *); (try dsimp only [ktrTop] at *); omega) | ((try simp only [depth_under_make, depth_under_kw, depth_in1, depth_deeper, depth_caller] at *); (try dsimp only [ktrTop] at *); omega)) (by first | with_reducible ((have zhcL9 := cLine_is); (try simp only [units_in1, units_deeper, Around.mark_units, units_caller] at *); (try dsimp only [ktrTop] at *); omega) | ((have zhcL9 := cLine_is); (try simp only [units_in1, units_deeper, Around.mark_units, units_caller] at *); (try dsimp only [ktrTop] at *); omega)) (by first | with_reducible (refine pre1_news (by k_asm) (by k_dflt k_mem) (by exact Heap.CodeRec.keeps (by assumption) (Fr.keep (by k_asm))) (by k_dflt k_mem) (by k_dflt k_mem) (by k_dflt k_mem) (by assumption) (by assumption) (by assumption)) | (refine pre1_news (by k_asm) (by k_dflt k_mem) (by exact Heap.CodeRec.keeps (by assumption) (Fr.keep (by k_asm))) (by k_dflt k_mem) (by k_dflt k_mem) (by k_dflt k_mem) (by assumption) (by assumption) (by assumption))) (by k_dflt (k_updF)) ?_; (omega); (omega); ((try rw [List.length_replicate]); omega); ((try rw [List.length_replicate]); omega); (omega); (exact pow_back (by assumption)))
  k_whole
  intro zvs' zh' ztk' zF' zN' zi'
  (try dsimp only at zN')
  (try dsimp only)
  (try k_fold))
  intro dp un gd cn cs a ccd cl outer A₀ base h₀ L m s Q E B F X T hk hpre hd hu hret
  refine wpAny_call ?_
  k_dflt walk_at "MINE enterC"
  intro g L' h₁ tk cells hkg hsz F' N' Y' B' X' T'
  obtain ⟨c1, hP, hrec⟩ := hpre.keeps hkg
  have hCH : CodeHd g 20 16 := codeHd_of_K X' (by kernel_rfl)
  have hab := Fr.above F'
  clear B F X T hpre
  k_cells Y'
  (try simp only [List.cons_append, List.nil_append] at N')
  (try dsimp only)
  (try k_fold)
  k_steps
  all_goals (try dsimp only)
  · refine hret _ _ _ (fun b o e => Fr.keep (by k_asm) b o (hkg b o e)) ⟨_, _, _, rfl, ?_, News.get (by k_asm) (by k_dflt k_mem), ?_⟩
    · omega
    · exact put1_zeros hn (by assumption)
  · refine hret _ _ _ (fun b o e => Fr.keep (by k_asm) b o (hkg b o e)) ⟨_, _, _, rfl, ?_, News.get (by k_asm) (by k_dflt k_mem), ?_⟩
    · omega
    · exact bits_zero hn (by assumption)
end Mine
end -- I2d

section -- D2i
open PySem PySem.Spec PySem.Calls PySem.W PyProof.Rows
set_option maxRecDepth 100000
set_option rowWalk.seconds 0
namespace Mine

theorem pre2_news {h₀ h : Heap} {L f l c2 cN cI cD : Addr} {vs : List Value} {oN oI oD : Obj} {doc pm ctv : Value} {tn : Tok} {news : List (Addr × Obj)} (N : News h₀ L h news)
    (a1 : (f, fnMade (Str.ofString "inner") qual2 (defParams inner2) (defBody inner2) (defScope inner2) [(Str.ofString "n", cN), (Str.ofString "inner", cI), (Str.ofString "digits", cD)] doc pm c2 ctv) ∈ news) (a2 : h.CodeRec (.ref c2) qual2)
    (a3 : (cN, oN) ∈ news) (a5 : (cI, oI) ∈ news) (a7 : (cD, oD) ∈ news) (a4 : oN.data = .cell (some (.int 1 tn))) (a6 : oI.data = .cell (some (.ref f))) (a8 : oD.data = .cell (some (.ref l))) (a9 : h.IsList l vs.toArray) : Pre2 f l vs h :=
  ⟨c2, cN, cI, cD, oN, oI, oD, doc, pm, ctv, tn, N.get a1, a2, N.get a3, a4, N.get a5, a6, N.get a7, a8, a9⟩
theorem told_none {ds : List Int} (h : ¬ 0 < ds.length) : 0 = told ds := by
  cases ds with
  | nil => rfl
  | cons d r => exact absurd (Nat.succ_pos _) h
theorem seg_all {ds : List Int} {n : Int} (h : n = ds.length) : told (seg ds 0 n) = told ds := by
  subst h; unfold seg; simp
set_option maxHeartbeats 8000000 in
theorem d2i_ok {w p loose mean mg mb} : D2iOk w p loose mean mg mb := by
  intro l t2 vs ds hi hl hb
  w_on
  refine (fun (h : (PySem.Challenge.rw_ib0002_01 = PySem.Challenge.rw_ib0002_01 ∧ Mine.hd.heap_39 = Mine.hd.heap_39) → _) => h ⟨rfl, rfl⟩) ?_
  k_fill
  intro _
  k_with_none
  k_with "MINE ne" => (refine neN ?_; (try dsimp only); first | exact Nat.ne_of_gt (by with_reducible assumption) | exact Nat.ne_of_lt (by with_reducible assumption) | exact Nat.ne_of_gt (And.left (by with_reducible assumption)) | exact Nat.ne_of_lt (And.left (by with_reducible assumption)) | exact Nat.ne_of_gt (And.left (And.right (by with_reducible assumption))) | exact Nat.ne_of_lt (And.left (And.right (by with_reducible assumption))) | exact Nat.ne_of_gt (And.left (And.right (And.right (by with_reducible assumption)))) | exact Nat.ne_of_lt (And.left (And.right (And.right (by with_reducible assumption)))) | exact Nat.ne_of_gt (And.left (And.right (And.right (And.right (by with_reducible assumption))))) | exact Nat.ne_of_lt (And.left (And.right (And.right (And.right (by with_reducible assumption))))) | exact Nat.ne_of_gt (And.left (And.right (And.right (And.right (And.right (by with_reducible assumption)))))) | exact Nat.ne_of_lt (And.left (And.right (And.right (And.right (And.right (by with_reducible assumption)))))) | exact Nat.ne_of_gt (And.left (And.right (And.right (And.right (And.right (And.right (by with_reducible assumption))))))) | exact Nat.ne_of_lt (And.left (And.right (And.right (And.right (And.right (And.right (by with_reducible assumption))))))) | exact Nat.ne_of_gt (And.left (And.right (And.right (And.right (And.right (And.right (And.right (by with_reducible assumption)))))))) | exact Nat.ne_of_lt (And.left (And.right (And.right (And.right (And.right (And.right (And.right (by with_reducible assumption)))))))) | exact Nat.ne_of_gt (And.left (And.right (And.right (And.right (And.right (And.right (And.right (And.right (by with_reducible assumption))))))))) | exact Nat.ne_of_lt (And.left (And.right (And.right (And.right (And.right (And.right (And.right (And.right (by with_reducible assumption))))))))) | exact Nat.ne_of_gt (And.left (And.right (And.right (And.right (And.right (And.right (And.right (And.right (And.right (by with_reducible assumption)))))))))) | exact Nat.ne_of_lt (And.left (And.right (And.right (And.right (And.right (And.right (And.right (And.right (And.right (by with_reducible assumption)))))))))) | exact Nat.ne_of_gt (And.right (by with_reducible assumption)) | exact Nat.ne_of_lt (And.right (by with_reducible assumption)) | exact Nat.ne_of_gt (And.right (And.right (by with_reducible assumption))) | exact Nat.ne_of_lt (And.right (And.right (by with_reducible assumption))) | exact Nat.ne_of_gt (And.right (And.right (And.right (by with_reducible assumption)))) | exact Nat.ne_of_lt (And.right (And.right (And.right (by with_reducible assumption)))) | exact Nat.ne_of_gt (And.right (And.right (And.right (And.right (by with_reducible assumption))))) | exact Nat.ne_of_lt (And.right (And.right (And.right (And.right (by with_reducible assumption))))) | exact Nat.ne_of_gt (And.right (And.right (And.right (And.right (And.right (by with_reducible assumption)))))) | exact Nat.ne_of_lt (And.right (And.right (And.right (And.right (And.right (by with_reducible assumption)))))) | exact Nat.ne_of_gt (And.right (And.right (And.right (And.right (And.right (And.right (by with_reducible assumption))))))) | exact Nat.ne_of_lt (And.right (And.right (And.right (And.right (And.right (And.right (by with_reducible assumption))))))) | exact Nat.ne_of_gt (And.right (And.right (And.right (And.right (And.right (And.right (And.right (by with_reducible assumption)))))))) | exact Nat.ne_of_lt (And.right (And.right (And.right (And.right (And.right (And.right (And.right (by with_reducible assumption)))))))) | exact Nat.ne_of_gt (And.right (And.right (And.right (And.right (And.right (And.right (And.right (And.right (by with_reducible assumption))))))))) | exact Nat.ne_of_lt (And.right (And.right (And.right (And.right (And.right (And.right (And.right (And.right (by with_reducible assumption))))))))) | exact (And.left (And.left (by with_reducible assumption))) | exact (And.left (And.right (And.left (by with_reducible assumption)))) | exact (And.right (And.right (And.left (by with_reducible assumption)))) | exact (And.left (And.left (And.right (by with_reducible assumption)))) | exact (And.left (And.right (And.left (And.right (by with_reducible assumption))))) | exact (And.right (And.right (And.left (And.right (by with_reducible assumption))))) | exact (And.left (And.right (by with_reducible assumption))) | exact (And.left (And.right (And.right (by with_reducible assumption)))) | exact (And.right (And.right (And.right (by with_reducible assumption)))) | exact (And.left (And.left (And.right (And.right (by with_reducible assumption))))) | exact (And.left (And.right (And.left (And.right (And.right (by with_reducible assumption)))))) | exact (And.right (And.right (And.left (And.right (And.right (by with_reducible assumption)))))) | exact (And.left (And.right (And.right (by with_reducible assumption)))) | exact (And.left (And.right (And.right (And.right (by with_reducible assumption))))) | exact (And.right (And.right (And.right (And.right (by with_reducible assumption))))) | exact (And.left (And.left (And.right (And.right (And.right (by with_reducible assumption)))))) | exact (And.left (And.right (And.left (And.right (And.right (And.right (by with_reducible assumption))))))) | exact (And.right (And.right (And.left (And.right (And.right (And.right (by with_reducible assumption))))))) | exact (And.left (And.right (And.right (And.right (by with_reducible assumption))))) | exact (And.left (And.right (And.right (And.right (And.right (by with_reducible assumption)))))) | exact (And.right (And.right (And.right (And.right (And.right (by with_reducible assumption)))))) | exact (And.left (And.left (And.right (And.right (And.right (And.right (by with_reducible assumption))))))) | exact (And.left (And.right (And.left (And.right (And.right (And.right (And.right (by with_reducible assumption)))))))) | exact (And.right (And.right (And.left (And.right (And.right (And.right (And.right (by with_reducible assumption)))))))) | exact (And.left (And.right (And.right (And.right (And.right (by with_reducible assumption)))))) | exact (And.left (And.right (And.right (And.right (And.right (And.right (by with_reducible assumption))))))) | exact (And.right (And.right (And.right (And.right (And.right (And.right (by with_reducible assumption))))))) | exact (And.left (And.left (And.right (And.right (And.right (And.right (And.right (by with_reducible assumption)))))))) | exact (And.left (And.right (And.left (And.right (And.right (And.right (And.right (And.right (by with_reducible assumption))))))))) | exact (And.right (And.right (And.left (And.right (And.right (And.right (And.right (And.right (by with_reducible assumption))))))))) | exact (And.left (And.right (And.right (And.right (And.right (And.right (by with_reducible assumption))))))) | exact (And.left (And.right (And.right (And.right (And.right (And.right (And.right (by with_reducible assumption)))))))) | exact (And.right (And.right (And.right (And.right (And.right (And.right (And.right (by with_reducible assumption)))))))) | exact (And.left (And.left (And.right (And.right (And.right (And.right (And.right (And.right (by with_reducible assumption))))))))) | exact (And.left (And.right (And.left (And.right (And.right (And.right (And.right (And.right (And.right (by with_reducible assumption)))))))))) | exact (And.right (And.right (And.left (And.right (And.right (And.right (And.right (And.right (And.right (by with_reducible assumption)))))))))) | exact (And.left (And.right (And.right (And.right (And.right (And.right (And.right (by with_reducible assumption)))))))) | exact (And.left (And.right (And.right (And.right (And.right (And.right (And.right (And.right (by with_reducible assumption))))))))) | exact (And.right (And.right (And.right (And.right (And.right (And.right (And.right (And.right (by with_reducible assumption))))))))) | exact (And.left (And.left (And.right (And.right (And.right (And.right (And.right (And.right (And.right (by with_reducible assumption)))))))))) | exact (And.left (And.right (And.left (And.right (And.right (And.right (And.right (And.right (And.right (And.right (by with_reducible assumption))))))))))) | exact (And.right (And.right (And.left (And.right (And.right (And.right (And.right (And.right (And.right (And.right (by with_reducible assumption))))))))))) | exact (And.left (And.right (And.right (And.right (And.right (And.right (And.right (And.right (by with_reducible assumption))))))))) | exact (And.left (And.right (And.right (And.right (And.right (And.right (And.right (And.right (And.right (by with_reducible assumption)))))))))) | exact (And.right (And.right (And.right (And.right (And.right (And.right (And.right (And.right (And.right (by with_reducible assumption)))))))))))
  k_with "MINE enterC" => (
  refine enterC (by k_asm) (by k_asm) (by k_asm) (by k_asm) (by exact rfl) (by exact rfl) (by assumption) (by k_is) (by k_is) (by ktr_room) (by exact BindsTo.of_eq rfl) (by exact rfl) (by decide +kernel) ?_ (by exact rfl) (by exact rfl) (by exact rfl)
  k_whole)
  k_with "exec FunctionDef" => (
  k_here
  kn_here
  k_dflt (refine nestDef_K (by first | with_reducible (exact rfl) | (exact rfl)) (by first | with_reducible (exact rfl) | (exact rfl)) (by first | with_reducible (exact rfl) | (exact rfl)) ?_)
  k_dflt (refine nestB (by first | with_reducible (k_asm) | (k_asm)) (by first | with_reducible (k_asm) | (k_asm)) (by first | with_reducible (k_asm) | (k_asm)) (by first | with_reducible (kn_code) | (kn_code)) (by first | with_reducible (exact rfl) | (exact rfl)) (by first | with_reducible (k_asm) | (k_asm)) (by first | with_reducible (kn_triples) | (kn_triples)) (by first | with_reducible (kn_hit) | (kn_hit)) (by first | with_reducible (exact rfl) | (exact rfl)) ?_; k_whole)
  intro zf' zct' zdc' zh' ztk' zF' zN' zl1
  (try dsimp only at zN')
  (try k_lt zl1))
  k_with "call ref" => (
  k_here
  k_dflt (refine use_call (inner2_ok (by assumption) (by assumption) (by assumption) _ _ _ _ _ (Nat.le_refl _) (by first | with_reducible (omega) | (omega)) (by first | with_reducible (omega) | (omega)) (by first | with_reducible (omega) | (omega))) (by first | with_reducible (k_asm) | (k_asm)) (by first | with_reducible (k_asm) | (k_asm)) (by first | with_reducible (k_asm) | (k_asm)) (by first | with_reducible (k_asm) | (k_asm)) (by first | with_reducible (k_asm) | (k_asm)) (by first | with_reducible (first | exact rfl | assumption) | (first | exact rfl | assumption)) (by first | with_reducible ((try simp only [depth_under_make, depth_under_kw, depth_in1, depth_deeper, depth_caller] at *); (try dsimp only [ktrTop] at *); omega) | ((try simp only [depth_under_make, depth_under_kw, depth_in1, depth_deeper, depth_caller] at *); (try dsimp only [ktrTop] at *); omega)) (by first | with_reducible ((have zhcL9 := cLine_is); (try simp only [units_in1, units_deeper, Around.mark_units, units_caller] at *); (try dsimp only [ktrTop] at *); omega) | ((have zhcL9 := cLine_is); (try simp only [units_in1, units_deeper, Around.mark_units, units_caller] at *); (try dsimp only [ktrTop] at *); omega)) (by k_dflt (refine pre2_news (by k_asm) (by k_mem) (by exact Heap.CodeRec.keeps (by assumption) (Fr.keep (by k_asm))) (by k_mem) (by k_mem) (by k_mem) (by assumption) (by assumption) (by assumption) (by is_list))) ?_)
  k_whole
  intro zv' zh' ztk' zF' zN' zk' zp'
  obtain ⟨zy', zu', ze', zhy'⟩ := zp'
  subst ze'
  (try dsimp only)
  (try k_fold))
  intro dp un gd cn cs a ccd cl outer A₀ base h₀ L m s Q E B F X T hk hpre hd hu hret
  refine wpAny_call ?_
  k_dflt walk_at "MINE enterC"
  intro g L' h₁ tk cells hkg hsz F' N' Y' B' X' T'
  obtain ⟨c1, hP, hrec⟩ := hpre.1.keeps hkg
  have hlst : g.IsList l _ := list_keeps hpre.2 hkg
  have hCH : CodeHd g 27 23 := codeHd_of_K X' (by kernel_rfl)
  have hlen := hi.length
  clear B F X T hpre
  k_cells Y'
  (try simp only [List.cons_append, List.nil_append] at N')
  (try dsimp only)
  (try k_fold)
  k_steps
  all_goals (try dsimp only)
  all_goals (refine hret _ _ _ (fun b o e => Fr.keep (by k_asm) b o (hkg b o e)) ⟨_, congrArg (fun z => Value.int z _) ?_⟩)
  all_goals first
    | exact told_none (by assumption)
    | exact Eq.trans (by assumption) (seg_all rfl)
end Mine
end -- D2i

section -- LawPut
open PySem PySem.Spec PySem.Calls PySem.W PyProof.Rows
set_option maxRecDepth 100000
set_option rowWalk.seconds 0
namespace Mine

local macro_rules | `(tactic| l_ints) => `(tactic| exact ints_zeros _ _)
set_option maxHeartbeats 4000000 in
theorem put_ok {w p loose mean mg mb} (C1 : I2dOk w p loose mean mg mb) (C2 : D2iOk w p loose mean mg mb) : PutOk w p loose mean mg mb := by
  intro x y t1 t2 h0 h1 h2 h3
  w_on
  refine (fun (h : (PySem.Challenge.rw_ib0002_01 = PySem.Challenge.rw_ib0002_01 ∧ Mine.hd.heap_39 = Mine.hd.heap_39) → _) => h ⟨rfl, rfl⟩) ?_
  k_fill
  intro _
  k_with_none
  k_with "MINE ne" => (refine neN ?_; (try dsimp only); first | exact Nat.ne_of_gt (by with_reducible assumption) | exact Nat.ne_of_lt (by with_reducible assumption) | exact Nat.ne_of_gt (And.left (by with_reducible assumption)) | exact Nat.ne_of_lt (And.left (by with_reducible assumption)) | exact Nat.ne_of_gt (And.left (And.right (by with_reducible assumption))) | exact Nat.ne_of_lt (And.left (And.right (by with_reducible assumption))) | exact Nat.ne_of_gt (And.left (And.right (And.right (by with_reducible assumption)))) | exact Nat.ne_of_lt (And.left (And.right (And.right (by with_reducible assumption)))) | exact Nat.ne_of_gt (And.left (And.right (And.right (And.right (by with_reducible assumption))))) | exact Nat.ne_of_lt (And.left (And.right (And.right (And.right (by with_reducible assumption))))) | exact Nat.ne_of_gt (And.left (And.right (And.right (And.right (And.right (by with_reducible assumption)))))) | exact Nat.ne_of_lt (And.left (And.right (And.right (And.right (And.right (by with_reducible assumption)))))) | exact Nat.ne_of_gt (And.left (And.right (And.right (And.right (And.right (And.right (by with_reducible assumption))))))) | exact Nat.ne_of_lt (And.left (And.right (And.right (And.right (And.right (And.right (by with_reducible assumption))))))) | exact Nat.ne_of_gt (And.left (And.right (And.right (And.right (And.right (And.right (And.right (by with_reducible assumption)))))))) | exact Nat.ne_of_lt (And.left (And.right (And.right (And.right (And.right (And.right (And.right (by with_reducible assumption)))))))) | exact Nat.ne_of_gt (And.left (And.right (And.right (And.right (And.right (And.right (And.right (And.right (by with_reducible assumption))))))))) | exact Nat.ne_of_lt (And.left (And.right (And.right (And.right (And.right (And.right (And.right (And.right (by with_reducible assumption))))))))) | exact Nat.ne_of_gt (And.left (And.right (And.right (And.right (And.right (And.right (And.right (And.right (And.right (by with_reducible assumption)))))))))) | exact Nat.ne_of_lt (And.left (And.right (And.right (And.right (And.right (And.right (And.right (And.right (And.right (by with_reducible assumption)))))))))) | exact Nat.ne_of_gt (And.right (by with_reducible assumption)) | exact Nat.ne_of_lt (And.right (by with_reducible assumption)) | exact Nat.ne_of_gt (And.right (And.right (by with_reducible assumption))) | exact Nat.ne_of_lt (And.right (And.right (by with_reducible assumption))) | exact Nat.ne_of_gt (And.right (And.right (And.right (by with_reducible assumption)))) | exact Nat.ne_of_lt (And.right (And.right (And.right (by with_reducible assumption)))) | exact Nat.ne_of_gt (And.right (And.right (And.right (And.right (by with_reducible assumption))))) | exact Nat.ne_of_lt (And.right (And.right (And.right (And.right (by with_reducible assumption))))) | exact Nat.ne_of_gt (And.right (And.right (And.right (And.right (And.right (by with_reducible assumption)))))) | exact Nat.ne_of_lt (And.right (And.right (And.right (And.right (And.right (by with_reducible assumption)))))) | exact Nat.ne_of_gt (And.right (And.right (And.right (And.right (And.right (And.right (by with_reducible assumption))))))) | exact Nat.ne_of_lt (And.right (And.right (And.right (And.right (And.right (And.right (by with_reducible assumption))))))) | exact Nat.ne_of_gt (And.right (And.right (And.right (And.right (And.right (And.right (And.right (by with_reducible assumption)))))))) | exact Nat.ne_of_lt (And.right (And.right (And.right (And.right (And.right (And.right (And.right (by with_reducible assumption)))))))) | exact Nat.ne_of_gt (And.right (And.right (And.right (And.right (And.right (And.right (And.right (And.right (by with_reducible assumption))))))))) | exact Nat.ne_of_lt (And.right (And.right (And.right (And.right (And.right (And.right (And.right (And.right (by with_reducible assumption))))))))) | exact (And.left (And.left (by with_reducible assumption))) | exact (And.left (And.right (And.left (by with_reducible assumption)))) | exact (And.right (And.right (And.left (by with_reducible assumption)))) | exact (And.left (And.left (And.right (by with_reducible assumption)))) | exact (And.left (And.right (And.left (And.right (by with_reducible assumption))))) | exact (And.right (And.right (And.left (And.right (by with_reducible assumption))))) | exact (And.left (And.right (by with_reducible assumption))) | exact (And.left (And.right (And.right (by with_reducible assumption)))) | exact (And.right (And.right (And.right (by with_reducible assumption)))) | exact (And.left (And.left (And.right (And.right (by with_reducible assumption))))) | exact (And.left (And.right (And.left (And.right (And.right (by with_reducible assumption)))))) | exact (And.right (And.right (And.left (And.right (And.right (by with_reducible assumption)))))) | exact (And.left (And.right (And.right (by with_reducible assumption)))) | exact (And.left (And.right (And.right (And.right (by with_reducible assumption))))) | exact (And.right (And.right (And.right (And.right (by with_reducible assumption))))) | exact (And.left (And.left (And.right (And.right (And.right (by with_reducible assumption)))))) | exact (And.left (And.right (And.left (And.right (And.right (And.right (by with_reducible assumption))))))) | exact (And.right (And.right (And.left (And.right (And.right (And.right (by with_reducible assumption))))))) | exact (And.left (And.right (And.right (And.right (by with_reducible assumption))))) | exact (And.left (And.right (And.right (And.right (And.right (by with_reducible assumption)))))) | exact (And.right (And.right (And.right (And.right (And.right (by with_reducible assumption)))))) | exact (And.left (And.left (And.right (And.right (And.right (And.right (by with_reducible assumption))))))) | exact (And.left (And.right (And.left (And.right (And.right (And.right (And.right (by with_reducible assumption)))))))) | exact (And.right (And.right (And.left (And.right (And.right (And.right (And.right (by with_reducible assumption)))))))) | exact (And.left (And.right (And.right (And.right (And.right (by with_reducible assumption)))))) | exact (And.left (And.right (And.right (And.right (And.right (And.right (by with_reducible assumption))))))) | exact (And.right (And.right (And.right (And.right (And.right (And.right (by with_reducible assumption))))))) | exact (And.left (And.left (And.right (And.right (And.right (And.right (And.right (by with_reducible assumption)))))))) | exact (And.left (And.right (And.left (And.right (And.right (And.right (And.right (And.right (by with_reducible assumption))))))))) | exact (And.right (And.right (And.left (And.right (And.right (And.right (And.right (And.right (by with_reducible assumption))))))))) | exact (And.left (And.right (And.right (And.right (And.right (And.right (by with_reducible assumption))))))) | exact (And.left (And.right (And.right (And.right (And.right (And.right (And.right (by with_reducible assumption)))))))) | exact (And.right (And.right (And.right (And.right (And.right (And.right (And.right (by with_reducible assumption)))))))) | exact (And.left (And.left (And.right (And.right (And.right (And.right (And.right (And.right (by with_reducible assumption))))))))) | exact (And.left (And.right (And.left (And.right (And.right (And.right (And.right (And.right (And.right (by with_reducible assumption)))))))))) | exact (And.right (And.right (And.left (And.right (And.right (And.right (And.right (And.right (And.right (by with_reducible assumption)))))))))) | exact (And.left (And.right (And.right (And.right (And.right (And.right (And.right (by with_reducible assumption)))))))) | exact (And.left (And.right (And.right (And.right (And.right (And.right (And.right (And.right (by with_reducible assumption))))))))) | exact (And.right (And.right (And.right (And.right (And.right (And.right (And.right (And.right (by with_reducible assumption))))))))) | exact (And.left (And.left (And.right (And.right (And.right (And.right (And.right (And.right (And.right (by with_reducible assumption)))))))))) | exact (And.left (And.right (And.left (And.right (And.right (And.right (And.right (And.right (And.right (And.right (by with_reducible assumption))))))))))) | exact (And.right (And.right (And.left (And.right (And.right (And.right (And.right (And.right (And.right (And.right (by with_reducible assumption))))))))))) | exact (And.left (And.right (And.right (And.right (And.right (And.right (And.right (And.right (by with_reducible assumption))))))))) | exact (And.left (And.right (And.right (And.right (And.right (And.right (And.right (And.right (And.right (by with_reducible assumption)))))))))) | exact (And.right (And.right (And.right (And.right (And.right (And.right (And.right (And.right (And.right (by with_reducible assumption)))))))))))
  k_with "MINE enterC" => (
  refine enterC (by k_asm) (by k_asm) (by k_asm) (by k_asm) (by exact rfl) (by exact rfl) (by assumption) (by k_is) (by k_is) (by ktr_room) (by exact BindsTo.of_eq rfl) (by exact rfl) (by decide +kernel) ?_ (by exact rfl) (by exact rfl) (by exact rfl)
  k_whole)
  k_with "MINE tab" => (first
  | assumption
  | exact Tab.keeps (by assumption) (Fr.keep (by k_asm)))
  k_with "call ref" => (
  k_here
  k_dflt (refine use_i2d (by first | with_reducible (assumption) | (assumption)) (by first | with_reducible (k_asm) | (k_asm)) (by first | with_reducible (k_asm) | (k_asm)) (by first | with_reducible (k_asm) | (k_asm)) (by first | with_reducible (k_asm) | (k_asm)) (by first | with_reducible (k_asm) | (k_asm)) (by first | with_reducible (first | exact rfl | assumption) | (first | exact rfl | assumption)) (by first | with_reducible (ktr_room) | (ktr_room)) (by first | with_reducible (ktr_units) | (ktr_units)) (by first | with_reducible (walk_at "MINE tab") | (walk_at "MINE tab")) (by first | with_reducible (omega) | (omega)) (by first | with_reducible (omega) | (omega)) ?_)
  k_whole
  intro zl' zn' zvs' zh' ztk' zF' zN' zl1 zi1 zn1 zs1 ze1 ze2
  (try k_lt zl1)
  (try dsimp only)
  (try k_fold))
  k_with "call ref" => (
  k_here
  k_dflt (refine use_d2i (by first | with_reducible (assumption) | (assumption)) (by first | with_reducible (k_asm) | (k_asm)) (by first | with_reducible (k_asm) | (k_asm)) (by first | with_reducible (k_asm) | (k_asm)) (by first | with_reducible (k_asm) | (k_asm)) (by first | with_reducible (k_asm) | (k_asm)) (by first | with_reducible (first | exact rfl | assumption) | (first | exact rfl | assumption)) (by first | with_reducible (ktr_room) | (ktr_room)) (by first | with_reducible (ktr_units) | (ktr_units)) (by first | with_reducible (walk_at "MINE tab") | (walk_at "MINE tab")) (by first | with_reducible (is_list) | (is_list)) (by first | with_reducible (l_ints) | (l_ints)) (by first | with_reducible (walk_at "MINE len5") | (walk_at "MINE len5")) (by first | with_reducible (walk_at "MINE figures") | (walk_at "MINE figures")) ?_)
  k_whole
  intro zt' zh' ztk' zF' zN'
  (try dsimp only)
  (try k_fold))
  k_with "call builtin:max" => (
  k_here
  k_dflt (refine maxNat (by k_dflt (first | rfl | assumption)) (by first | with_reducible (k_asm) | (k_asm)) (by first | with_reducible (k_asm) | (k_asm)) ?_)
  k_whole
  intro zM' zt' zh' ztk' zhm1 zhm2 zhm3 zF' zN'
  have zhM5 := max_le5 zhm3 (by assumption) (by assumption)
  (try dsimp only)
  (try k_sweep))
  k_with "binaryOp Mult ref int" => (
  k_here
  (with_reducible show wpAny _ _ (binaryOp Operator.Mult (Value.ref _) (Value.int _ _)) _ _ _)
  k_dflt (refine mulK _ (Int.ofNat_sub (by first | with_reducible (assumption) | (assumption))).symm (by first | with_reducible (omega) | (omega)) (by first | with_reducible (k_asm) | (k_asm)) (by first | with_reducible (k_asm) | (k_asm)) (by first | with_reducible (is_list) | (is_list)) ?_)
  k_whole
  intro zD' zh' zF' zN' zl1
  have zhz' := ints_zeros
  (try k_lt zl1)
  (try k_sweep))
  k_with "subscriptTail" => (
  k_here
  (with_reducible show wpAny _ _ (subscriptTail _ _ (Value.ref _) (Value.int _ _)) _ _ _)
  (with_unfolding_all refine itemInts (by is_list) (by assumption) (by assumption) (by exact idx_lt (by assumption) (by assumption) (by assumption)) (by exact idx_63 (by assumption) (by assumption)) ?_ (by with_unfolding_all rfl))
  k_whole
  intro zt'
  (try dsimp only))
  k_with "MINE len5" => (exact put_len5 (by assumption))
  k_with "MINE figures" => (exact put_figs)
  intro dp un gd cn cs a ccd cl outer A₀ base h₀ L m s Q E B F X T hk hpre hd hu hret
  refine wpAny_call ?_
  k_dflt walk_at "MINE enterC"
  intro g L' h₁ tk cells hkg hsz F' N' Y' B' X' T'
  have ht1 := hpre.1.keeps hkg
  have ht2 := hpre.2.keeps hkg
  clear B F X T hpre
  k_cells Y'
  (try simp only [List.cons_append, List.nil_append] at N')
  (try dsimp only)
  (try k_fold)
  k_steps
  all_goals (try dsimp only)
  all_goals (refine hret _ _ _ (fun b o e => Fr.keep (by k_asm) b o (hkg b o e)) ⟨_, congrArg (fun z => Value.int z _) ?_⟩)
  exact put_law h0 h1 h2 h3 (by assumption) (by assumption) (by assumption) (by assumption) (by assumption)
end Mine
end -- LawPut

section -- LawTimes
open PySem PySem.Spec PySem.Calls PySem.W PyProof.Rows
set_option maxRecDepth 100000
set_option rowWalk.seconds 0
namespace Mine
/-- one turn of the product -/
def tstep (x f : Int) (k : Nat) (b : Int) : Int := if b = 1 then put f (x * 2 ^ k) else f
def TS (V : Int) : Prop := 0 ≤ V ∧ V < 32
theorem ts_zero : TS 0 := ⟨by decide, by decide⟩
theorem ts_step {x f b : Int} {k : Nat} (h0 : 0 ≤ x) (h1 : x < 8) (hk : k ≤ 2) (hf : TS f) : TS (tstep x f k b) := by
  unfold tstep
  split
  · have : 0 ≤ x * 2 ^ k ∧ x * 2 ^ k < 32 := by
      have hc : k = 0 ∨ k = 1 ∨ k = 2 := by omega
      rcases hc with rfl | rfl | rfl <;> simp <;> omega
    exact put_small hf.1 hf.2 this.1 this.2
  · exact hf
theorem times_all : ((List.range 8).all fun i => (List.range 8).all fun j => decide (times (i : Int) (j : Int) = (List.range (bits (j : Int)).length).foldl (fun f k => tstep (i : Int) f k ((bits (j : Int)).getD k 0)) 0)) = true := by decide +kernel
theorem times_fold {x y : Int} (h0 : 0 ≤ x) (h1 : x < 8) (h2 : 0 ≤ y) (h3 : y < 8) : times x y = (List.range (bits y).length).foldl (fun f k => tstep x f k ((bits y).getD k 0)) 0 := by
  have k := of_decide_eq_true (List.all_eq_true.mp (List.all_eq_true.mp times_all x.toNat (List.mem_range.mpr (by omega))) y.toNat (List.mem_range.mpr (by omega)))
  have e1 : ((x.toNat : Nat) : Int) = x := by omega
  have e2 : ((y.toNat : Nat) : Int) = y := by omega
  rwa [e1, e2] at k
/-- two ways that meet: the value alone is kept -/
def JoinI (h₀ : Heap) (L : Addr) (m : Str → Option Value) (news : List (Addr × Obj)) (V : Int) (s₀ : Shared) (v : Value) (s' : Shared) : Prop :=
  ∃ t h' tk', v = .int V t ∧ s' = { s₀ with heap := h', toks := tk' } ∧ Fr h₀ L h' m ∧ News h₀ L h' news
section
variable {M : Model} {A : Around} {E : Value → Shared → Prop} {s : Shared} {h₀ : Heap} {L : Addr} {m : Str → Option Value} {news : List (Addr × Obj)} {V : Int} {Q : Value → Shared → Prop}
theorem join_go {t : Sem Value} (F : Fr h₀ L s.heap m) (N : News h₀ L s.heap news) (h : wpAny M A t (JoinI h₀ L m news V s) E s)
    (c : ∀ t' h' tk', Fr h₀ L h' m → News h₀ L h' news → Q (.int V t') { s with heap := h', toks := tk' }) : wpAny M A t Q E s := by
  refine wpAny_mono h (fun v s' hv => ?_) fun _ _ e => e
  obtain ⟨t', h', tk', rfl, rfl, F', N'⟩ := hv
  exact c t' h' tk' F' N'
theorem join_end {V' : Int} {t : Tok} {h' : Heap} {tk' : Nat} (F : Fr h₀ L h' m) (N : News h₀ L h' news) (e : V' = V) : JoinI h₀ L m news V s (.int V' t) { s with heap := h', toks := tk' } :=
  ⟨t, h', tk', by rw [e], rfl, F, N⟩
end

set_option maxHeartbeats 4000000 in
theorem times_len0 {w p loose mean mg mb} (C1 : I2dOk w p loose mean mg mb) (C2 : PutOk w p loose mean mg mb) {x y  : Int} {t1 t2 : Tok} (h0 : 0 ≤ x) (h1 : x < 8) (h2 : 0 ≤ y) (h3 : y < 8) (hbits : bits y = []) :
    Call w p loose mean mg mb 58 [.int x t1, .int y t2] 14 (fun h => Tab 16 pos1 qual1 h ∧ Tab 23 pos2 qual2 h) (fun _ _ v => ∃ t, v = .int (times x y) t) := by
  have htm : times x y = 0 := by rw [times_fold h0 h1 h2 h3, hbits]; rfl
  have hy32 : y < 32 := by omega
  rw [htm]
  clear htm h3
  w_on
  refine (fun (h : (PySem.Challenge.rw_ib0002_01 = PySem.Challenge.rw_ib0002_01 ∧ Mine.hd.heap_39 = Mine.hd.heap_39) → _) => h ⟨rfl, rfl⟩) ?_
  k_fill
  intro _
  k_with_none
  k_with "MINE ne" => (refine neN ?_; (try dsimp only); first | exact Nat.ne_of_gt (by with_reducible assumption) | exact Nat.ne_of_lt (by with_reducible assumption) | exact Nat.ne_of_gt (And.left (by with_reducible assumption)) | exact Nat.ne_of_lt (And.left (by with_reducible assumption)) | exact Nat.ne_of_gt (And.left (And.right (by with_reducible assumption))) | exact Nat.ne_of_lt (And.left (And.right (by with_reducible assumption))) | exact Nat.ne_of_gt (And.left (And.right (And.right (by with_reducible assumption)))) | exact Nat.ne_of_lt (And.left (And.right (And.right (by with_reducible assumption)))) | exact Nat.ne_of_gt (And.left (And.right (And.right (And.right (by with_reducible assumption))))) | exact Nat.ne_of_lt (And.left (And.right (And.right (And.right (by with_reducible assumption))))) | exact Nat.ne_of_gt (And.left (And.right (And.right (And.right (And.right (by with_reducible assumption)))))) | exact Nat.ne_of_lt (And.left (And.right (And.right (And.right (And.right (by with_reducible assumption)))))) | exact Nat.ne_of_gt (And.left (And.right (And.right (And.right (And.right (And.right (by with_reducible assumption))))))) | exact Nat.ne_of_lt (And.left (And.right (And.right (And.right (And.right (And.right (by with_reducible assumption))))))) | exact Nat.ne_of_gt (And.left (And.right (And.right (And.right (And.right (And.right (And.right (by with_reducible assumption)))))))) | exact Nat.ne_of_lt (And.left (And.right (And.right (And.right (And.right (And.right (And.right (by with_reducible assumption)))))))) | exact Nat.ne_of_gt (And.left (And.right (And.right (And.right (And.right (And.right (And.right (And.right (by with_reducible assumption))))))))) | exact Nat.ne_of_lt (And.left (And.right (And.right (And.right (And.right (And.right (And.right (And.right (by with_reducible assumption))))))))) | exact Nat.ne_of_gt (And.left (And.right (And.right (And.right (And.right (And.right (And.right (And.right (And.right (by with_reducible assumption)))))))))) | exact Nat.ne_of_lt (And.left (And.right (And.right (And.right (And.right (And.right (And.right (And.right (And.right (by with_reducible assumption)))))))))) | exact Nat.ne_of_gt (And.right (by with_reducible assumption)) | exact Nat.ne_of_lt (And.right (by with_reducible assumption)) | exact Nat.ne_of_gt (And.right (And.right (by with_reducible assumption))) | exact Nat.ne_of_lt (And.right (And.right (by with_reducible assumption))) | exact Nat.ne_of_gt (And.right (And.right (And.right (by with_reducible assumption)))) | exact Nat.ne_of_lt (And.right (And.right (And.right (by with_reducible assumption)))) | exact Nat.ne_of_gt (And.right (And.right (And.right (And.right (by with_reducible assumption))))) | exact Nat.ne_of_lt (And.right (And.right (And.right (And.right (by with_reducible assumption))))) | exact Nat.ne_of_gt (And.right (And.right (And.right (And.right (And.right (by with_reducible assumption)))))) | exact Nat.ne_of_lt (And.right (And.right (And.right (And.right (And.right (by with_reducible assumption)))))) | exact Nat.ne_of_gt (And.right (And.right (And.right (And.right (And.right (And.right (by with_reducible assumption))))))) | exact Nat.ne_of_lt (And.right (And.right (And.right (And.right (And.right (And.right (by with_reducible assumption))))))) | exact Nat.ne_of_gt (And.right (And.right (And.right (And.right (And.right (And.right (And.right (by with_reducible assumption)))))))) | exact Nat.ne_of_lt (And.right (And.right (And.right (And.right (And.right (And.right (And.right (by with_reducible assumption)))))))) | exact Nat.ne_of_gt (And.right (And.right (And.right (And.right (And.right (And.right (And.right (And.right (by with_reducible assumption))))))))) | exact Nat.ne_of_lt (And.right (And.right (And.right (And.right (And.right (And.right (And.right (And.right (by with_reducible assumption))))))))) | exact (And.left (And.left (by with_reducible assumption))) | exact (And.left (And.right (And.left (by with_reducible assumption)))) | exact (And.right (And.right (And.left (by with_reducible assumption)))) | exact (And.left (And.left (And.right (by with_reducible assumption)))) | exact (And.left (And.right (And.left (And.right (by with_reducible assumption))))) | exact (And.right (And.right (And.left (And.right (by with_reducible assumption))))) | exact (And.left (And.right (by with_reducible assumption))) | exact (And.left (And.right (And.right (by with_reducible assumption)))) | exact (And.right (And.right (And.right (by with_reducible assumption)))) | exact (And.left (And.left (And.right (And.right (by with_reducible assumption))))) | exact (And.left (And.right (And.left (And.right (And.right (by with_reducible assumption)))))) | exact (And.right (And.right (And.left (And.right (And.right (by with_reducible assumption)))))) | exact (And.left (And.right (And.right (by with_reducible assumption)))) | exact (And.left (And.right (And.right (And.right (by with_reducible assumption))))) | exact (And.right (And.right (And.right (And.right (by with_reducible assumption))))) | exact (And.left (And.left (And.right (And.right (And.right (by with_reducible assumption)))))) | exact (And.left (And.right (And.left (And.right (And.right (And.right (by with_reducible assumption))))))) | exact (And.right (And.right (And.left (And.right (And.right (And.right (by with_reducible assumption))))))) | exact (And.left (And.right (And.right (And.right (by with_reducible assumption))))) | exact (And.left (And.right (And.right (And.right (And.right (by with_reducible assumption)))))) | exact (And.right (And.right (And.right (And.right (And.right (by with_reducible assumption)))))) | exact (And.left (And.left (And.right (And.right (And.right (And.right (by with_reducible assumption))))))) | exact (And.left (And.right (And.left (And.right (And.right (And.right (And.right (by with_reducible assumption)))))))) | exact (And.right (And.right (And.left (And.right (And.right (And.right (And.right (by with_reducible assumption)))))))) | exact (And.left (And.right (And.right (And.right (And.right (by with_reducible assumption)))))) | exact (And.left (And.right (And.right (And.right (And.right (And.right (by with_reducible assumption))))))) | exact (And.right (And.right (And.right (And.right (And.right (And.right (by with_reducible assumption))))))) | exact (And.left (And.left (And.right (And.right (And.right (And.right (And.right (by with_reducible assumption)))))))) | exact (And.left (And.right (And.left (And.right (And.right (And.right (And.right (And.right (by with_reducible assumption))))))))) | exact (And.right (And.right (And.left (And.right (And.right (And.right (And.right (And.right (by with_reducible assumption))))))))) | exact (And.left (And.right (And.right (And.right (And.right (And.right (by with_reducible assumption))))))) | exact (And.left (And.right (And.right (And.right (And.right (And.right (And.right (by with_reducible assumption)))))))) | exact (And.right (And.right (And.right (And.right (And.right (And.right (And.right (by with_reducible assumption)))))))) | exact (And.left (And.left (And.right (And.right (And.right (And.right (And.right (And.right (by with_reducible assumption))))))))) | exact (And.left (And.right (And.left (And.right (And.right (And.right (And.right (And.right (And.right (by with_reducible assumption)))))))))) | exact (And.right (And.right (And.left (And.right (And.right (And.right (And.right (And.right (And.right (by with_reducible assumption)))))))))) | exact (And.left (And.right (And.right (And.right (And.right (And.right (And.right (by with_reducible assumption)))))))) | exact (And.left (And.right (And.right (And.right (And.right (And.right (And.right (And.right (by with_reducible assumption))))))))) | exact (And.right (And.right (And.right (And.right (And.right (And.right (And.right (And.right (by with_reducible assumption))))))))) | exact (And.left (And.left (And.right (And.right (And.right (And.right (And.right (And.right (And.right (by with_reducible assumption)))))))))) | exact (And.left (And.right (And.left (And.right (And.right (And.right (And.right (And.right (And.right (And.right (by with_reducible assumption))))))))))) | exact (And.right (And.right (And.left (And.right (And.right (And.right (And.right (And.right (And.right (And.right (by with_reducible assumption))))))))))) | exact (And.left (And.right (And.right (And.right (And.right (And.right (And.right (And.right (by with_reducible assumption))))))))) | exact (And.left (And.right (And.right (And.right (And.right (And.right (And.right (And.right (And.right (by with_reducible assumption)))))))))) | exact (And.right (And.right (And.right (And.right (And.right (And.right (And.right (And.right (And.right (by with_reducible assumption)))))))))))
  k_with "MINE enterP" => (
  refine enterP (by k_asm) (by k_asm) (by k_asm) (by k_asm) (by exact rfl) (by exact rfl) (by assumption) (by k_is) (by k_is) (by ktr_room) (by (first | exact BindsTo.of_eq rfl | exact binds_K (by k_in) rfl (by k_is) rfl rfl rfl)) (by exact locs rfl) ?_ (by exact rfl) (by exact rfl) (by exact rfl) (by decide)
  k_whole)
  k_with "MINE tab" => (first
  | assumption
  | exact Tab.keeps (by assumption) (Fr.keep (by k_asm)))
  k_with "call ref" => (
  k_here
  k_dflt (refine use_i2d (by first | with_reducible (assumption) | (assumption)) (by first | with_reducible (k_asm) | (k_asm)) (by first | with_reducible (k_asm) | (k_asm)) (by first | with_reducible (k_asm) | (k_asm)) (by first | with_reducible (k_asm) | (k_asm)) (by first | with_reducible (k_asm) | (k_asm)) (by first | with_reducible (first | exact rfl | assumption) | (first | exact rfl | assumption)) (by first | with_reducible (ktr_room) | (ktr_room)) (by first | with_reducible (ktr_units) | (ktr_units)) (by first | with_reducible (walk_at "MINE tab") | (walk_at "MINE tab")) (by first | with_reducible (walk_at "MINE bnd") | (walk_at "MINE bnd")) (by first | with_reducible (walk_at "MINE bnd") | (walk_at "MINE bnd")) ?_)
  k_whole
  intro zl' zn' zvs' zh' ztk' zF' zN' zl1 zi1 zn1 zs1 ze1 ze2
  rw [(by assumption : bits _ = _)] at zi1
  (first
    | (have ze9 := ints_inv0 zi1; subst ze9)
    | (have ze9 := ints_inv1 zi1; obtain ⟨zt1', ze9⟩ := ze9; subst ze9)
    | (have ze9 := ints_inv2 zi1; obtain ⟨zt1', zt2', ze9⟩ := ze9; subst ze9)
    | (have ze9 := ints_inv3 zi1; obtain ⟨zt1', zt2', zt3', ze9⟩ := ze9; subst ze9)
    | (have ze9 := ints_inv4 zi1; obtain ⟨zt1', zt2', zt3', zt4', ze9⟩ := ze9; subst ze9)
    | (have ze9 := ints_inv5 zi1; obtain ⟨zt1', zt2', zt3', zt4', zt5', ze9⟩ := ze9; subst ze9))
  clear zi1 zs1 ze1 ze2
  (try k_lt zl1)
  (try dsimp only)
  (try k_fold))
  k_with "call ref" => (
  k_here
  k_dflt (refine use_put (by first | with_reducible (assumption) | (assumption)) (by first | with_reducible (k_asm) | (k_asm)) (by first | with_reducible (k_asm) | (k_asm)) (by first | with_reducible (k_asm) | (k_asm)) (by first | with_reducible (k_asm) | (k_asm)) (by first | with_reducible (k_asm) | (k_asm)) (by first | with_reducible (first | exact rfl | assumption) | (first | exact rfl | assumption)) (by first | with_reducible (ktr_room) | (ktr_room)) (by first | with_reducible (ktr_units) | (ktr_units)) (by first | with_reducible (walk_at "MINE tab") | (walk_at "MINE tab")) (by first | with_reducible (walk_at "MINE tab") | (walk_at "MINE tab")) (by first | with_reducible (walk_at "MINE bnd") | (walk_at "MINE bnd")) (by first | with_reducible (walk_at "MINE bnd") | (walk_at "MINE bnd")) (by first | with_reducible (walk_at "MINE bnd") | (walk_at "MINE bnd")) (by first | with_reducible (walk_at "MINE bnd") | (walk_at "MINE bnd")) ?_)
  k_whole
  intro zt' zh' ztk' zF' zN' zhp0' zhp1'
  (try dsimp only)
  (try k_fold))
  k_with "exec For Tuple Call cons nil" => (
  k_here
  (rename Fr _ _ _ _ => zlF')
  (with_unfolding_all refine For_turns zlF' ?_)
  k_whole)
  k_with "JoinI" => (
  k_dflt (refine join_end (by k_asm) (by k_asm) ?_)
  k_dflt (first | exact (if_pos (by with_reducible assumption)).symm | exact (if_neg (by with_reducible assumption)).symm))
  k_with "MINE bnd" => (first | decide | assumption | omega | ((simp only [Int.reduceToNat, Int.reducePow]); omega))
  intro dp un gd cn cs a ccd cl outer A₀ base h₀ L m s Q E B F X T hk hpre hd hu hret
  refine wpAny_call ?_
  k_dflt walk_at "MINE enterP"
  intro g L' h₁ hkg hsz F' N' B' X' T'
  have ht1 := hpre.1.keeps hkg
  have ht2 := hpre.2.keeps hkg
  clear B F X T hpre
  (try dsimp only)
  (try k_fold)
  k_steps
  all_goals (try dsimp only)
  all_goals (refine hret _ _ _ (fun b o e => Fr.keep (by k_asm) b o (hkg b o e)) ⟨_, rfl⟩)
set_option maxHeartbeats 4000000 in
theorem times_len1 {w p loose mean mg mb} (C1 : I2dOk w p loose mean mg mb) (C2 : PutOk w p loose mean mg mb) {x y b0 : Int} {t1 t2 : Tok} (h0 : 0 ≤ x) (h1 : x < 8) (h2 : 0 ≤ y) (h3 : y < 8) (hbits : bits y = [b0]) :
    Call w p loose mean mg mb 58 [.int x t1, .int y t2] 14 (fun h => Tab 16 pos1 qual1 h ∧ Tab 23 pos2 qual2 h) (fun _ _ v => ∃ t, v = .int (times x y) t) := by
  have htm : times x y = (tstep x 0 0 b0) := by rw [times_fold h0 h1 h2 h3, hbits]; rfl
  have hy32 : y < 32 := by omega
  rw [htm]
  clear htm h3
  w_on
  refine (fun (h : (PySem.Challenge.rw_ib0002_01 = PySem.Challenge.rw_ib0002_01 ∧ Mine.hd.heap_39 = Mine.hd.heap_39) → _) => h ⟨rfl, rfl⟩) ?_
  k_fill
  intro _
  k_with_none
  k_with "MINE ne" => (refine neN ?_; (try dsimp only); first | exact Nat.ne_of_gt (by with_reducible assumption) | exact Nat.ne_of_lt (by with_reducible assumption) | exact Nat.ne_of_gt (And.left (by with_reducible assumption)) | exact Nat.ne_of_lt (And.left (by with_reducible assumption)) | exact Nat.ne_of_gt (And.left (And.right (by with_reducible assumption))) | exact Nat.ne_of_lt (And.left (And.right (by with_reducible assumption))) | exact Nat.ne_of_gt (And.left (And.right (And.right (by with_reducible assumption)))) | exact Nat.ne_of_lt (And.left (And.right (And.right (by with_reducible assumption)))) | exact Nat.ne_of_gt (And.left (And.right (And.right (And.right (by with_reducible assumption))))) | exact Nat.ne_of_lt (And.left (And.right (And.right (And.right (by with_reducible assumption))))) | exact Nat.ne_of_gt (And.left (And.right (And.right (And.right (And.right (by with_reducible assumption)))))) | exact Nat.ne_of_lt (And.left (And.right (And.right (And.right (And.right (by with_reducible assumption)))))) | exact Nat.ne_of_gt (And.left (And.right (And.right (And.right (And.right (And.right (by with_reducible assumption))))))) | exact Nat.ne_of_lt (And.left (And.right (And.right (And.right (And.right (And.right (by with_reducible assumption))))))) | exact Nat.ne_of_gt (And.left (And.right (And.right (And.right (And.right (And.right (And.right (by with_reducible assumption)))))))) | exact Nat.ne_of_lt (And.left (And.right (And.right (And.right (And.right (And.right (And.right (by with_reducible assumption)))))))) | exact Nat.ne_of_gt (And.left (And.right (And.right (And.right (And.right (And.right (And.right (And.right (by with_reducible assumption))))))))) | exact Nat.ne_of_lt (And.left (And.right (And.right (And.right (And.right (And.right (And.right (And.right (by with_reducible assumption))))))))) | exact Nat.ne_of_gt (And.left (And.right (And.right (And.right (And.right (And.right (And.right (And.right (And.right (by with_reducible assumption)))))))))) | exact Nat.ne_of_lt (And.left (And.right (And.right (And.right (And.right (And.right (And.right (And.right (And.right (by with_reducible assumption)))))))))) | exact Nat.ne_of_gt (And.right (by with_reducible assumption)) | exact Nat.ne_of_lt (And.right (by with_reducible assumption)) | exact Nat.ne_of_gt (And.right (And.right (by with_reducible assumption))) | exact Nat.ne_of_lt (And.right (And.right (by with_reducible assumption))) | exact Nat.ne_of_gt (And.right (And.right (And.right (by with_reducible assumption)))) | exact Nat.ne_of_lt (And.right (And.right (And.right (by with_reducible assumption)))) | exact Nat.ne_of_gt (And.right (And.right (And.right (And.right (by with_reducible assumption))))) | exact Nat.ne_of_lt (And.right (And.right (And.right (And.right (by with_reducible assumption))))) | exact Nat.ne_of_gt (And.right (And.right (And.right (And.right (And.right (by with_reducible assumption)))))) | exact Nat.ne_of_lt (And.right (And.right (And.right (And.right (And.right (by with_reducible assumption)))))) | exact Nat.ne_of_gt (And.right (And.right (And.right (And.right (And.right (And.right (by with_reducible assumption))))))) | exact Nat.ne_of_lt (And.right (And.right (And.right (And.right (And.right (And.right (by with_reducible assumption))))))) | exact Nat.ne_of_gt (And.right (And.right (And.right (And.right (And.right (And.right (And.right (by with_reducible assumption)))))))) | exact Nat.ne_of_lt (And.right (And.right (And.right (And.right (And.right (And.right (And.right (by with_reducible assumption)))))))) | exact Nat.ne_of_gt (And.right (And.right (And.right (And.right (And.right (And.right (And.right (And.right (by with_reducible assumption))))))))) | exact Nat.ne_of_lt (And.right (And.right (And.right (And.right (And.right (And.right (And.right (And.right (by with_reducible assumption))))))))) | exact (And.left (And.left (by with_reducible assumption))) | exact (And.left (And.right (And.left (by with_reducible assumption)))) | exact (And.right (And.right (And.left (by with_reducible assumption)))) | exact (And.left (And.left (And.right (by with_reducible assumption)))) | exact (And.left (And.right (And.left (And.right (by with_reducible assumption))))) | exact (And.right (And.right (And.left (And.right (by with_reducible assumption))))) | exact (And.left (And.right (by with_reducible assumption))) | exact (And.left (And.right (And.right (by with_reducible assumption)))) | exact (And.right (And.right (And.right (by with_reducible assumption)))) | exact (And.left (And.left (And.right (And.right (by with_reducible assumption))))) | exact (And.left (And.right (And.left (And.right (And.right (by with_reducible assumption)))))) | exact (And.right (And.right (And.left (And.right (And.right (by with_reducible assumption)))))) | exact (And.left (And.right (And.right (by with_reducible assumption)))) | exact (And.left (And.right (And.right (And.right (by with_reducible assumption))))) | exact (And.right (And.right (And.right (And.right (by with_reducible assumption))))) | exact (And.left (And.left (And.right (And.right (And.right (by with_reducible assumption)))))) | exact (And.left (And.right (And.left (And.right (And.right (And.right (by with_reducible assumption))))))) | exact (And.right (And.right (And.left (And.right (And.right (And.right (by with_reducible assumption))))))) | exact (And.left (And.right (And.right (And.right (by with_reducible assumption))))) | exact (And.left (And.right (And.right (And.right (And.right (by with_reducible assumption)))))) | exact (And.right (And.right (And.right (And.right (And.right (by with_reducible assumption)))))) | exact (And.left (And.left (And.right (And.right (And.right (And.right (by with_reducible assumption))))))) | exact (And.left (And.right (And.left (And.right (And.right (And.right (And.right (by with_reducible assumption)))))))) | exact (And.right (And.right (And.left (And.right (And.right (And.right (And.right (by with_reducible assumption)))))))) | exact (And.left (And.right (And.right (And.right (And.right (by with_reducible assumption)))))) | exact (And.left (And.right (And.right (And.right (And.right (And.right (by with_reducible assumption))))))) | exact (And.right (And.right (And.right (And.right (And.right (And.right (by with_reducible assumption))))))) | exact (And.left (And.left (And.right (And.right (And.right (And.right (And.right (by with_reducible assumption)))))))) | exact (And.left (And.right (And.left (And.right (And.right (And.right (And.right (And.right (by with_reducible assumption))))))))) | exact (And.right (And.right (And.left (And.right (And.right (And.right (And.right (And.right (by with_reducible assumption))))))))) | exact (And.left (And.right (And.right (And.right (And.right (And.right (by with_reducible assumption))))))) | exact (And.left (And.right (And.right (And.right (And.right (And.right (And.right (by with_reducible assumption)))))))) | exact (And.right (And.right (And.right (And.right (And.right (And.right (And.right (by with_reducible assumption)))))))) | exact (And.left (And.left (And.right (And.right (And.right (And.right (And.right (And.right (by with_reducible assumption))))))))) | exact (And.left (And.right (And.left (And.right (And.right (And.right (And.right (And.right (And.right (by with_reducible assumption)))))))))) | exact (And.right (And.right (And.left (And.right (And.right (And.right (And.right (And.right (And.right (by with_reducible assumption)))))))))) | exact (And.left (And.right (And.right (And.right (And.right (And.right (And.right (by with_reducible assumption)))))))) | exact (And.left (And.right (And.right (And.right (And.right (And.right (And.right (And.right (by with_reducible assumption))))))))) | exact (And.right (And.right (And.right (And.right (And.right (And.right (And.right (And.right (by with_reducible assumption))))))))) | exact (And.left (And.left (And.right (And.right (And.right (And.right (And.right (And.right (And.right (by with_reducible assumption)))))))))) | exact (And.left (And.right (And.left (And.right (And.right (And.right (And.right (And.right (And.right (And.right (by with_reducible assumption))))))))))) | exact (And.right (And.right (And.left (And.right (And.right (And.right (And.right (And.right (And.right (And.right (by with_reducible assumption))))))))))) | exact (And.left (And.right (And.right (And.right (And.right (And.right (And.right (And.right (by with_reducible assumption))))))))) | exact (And.left (And.right (And.right (And.right (And.right (And.right (And.right (And.right (And.right (by with_reducible assumption)))))))))) | exact (And.right (And.right (And.right (And.right (And.right (And.right (And.right (And.right (And.right (by with_reducible assumption)))))))))))
  k_with "MINE enterP" => (
  refine enterP (by k_asm) (by k_asm) (by k_asm) (by k_asm) (by exact rfl) (by exact rfl) (by assumption) (by k_is) (by k_is) (by ktr_room) (by (first | exact BindsTo.of_eq rfl | exact binds_K (by k_in) rfl (by k_is) rfl rfl rfl)) (by exact locs rfl) ?_ (by exact rfl) (by exact rfl) (by exact rfl) (by decide)
  k_whole)
  k_with "MINE tab" => (first
  | assumption
  | exact Tab.keeps (by assumption) (Fr.keep (by k_asm)))
  k_with "call ref" => (
  k_here
  k_dflt (refine use_i2d (by first | with_reducible (assumption) | (assumption)) (by first | with_reducible (k_asm) | (k_asm)) (by first | with_reducible (k_asm) | (k_asm)) (by first | with_reducible (k_asm) | (k_asm)) (by first | with_reducible (k_asm) | (k_asm)) (by first | with_reducible (k_asm) | (k_asm)) (by first | with_reducible (first | exact rfl | assumption) | (first | exact rfl | assumption)) (by first | with_reducible (ktr_room) | (ktr_room)) (by first | with_reducible (ktr_units) | (ktr_units)) (by first | with_reducible (walk_at "MINE tab") | (walk_at "MINE tab")) (by first | with_reducible (walk_at "MINE bnd") | (walk_at "MINE bnd")) (by first | with_reducible (walk_at "MINE bnd") | (walk_at "MINE bnd")) ?_)
  k_whole
  intro zl' zn' zvs' zh' ztk' zF' zN' zl1 zi1 zn1 zs1 ze1 ze2
  rw [(by assumption : bits _ = _)] at zi1
  (first
    | (have ze9 := ints_inv0 zi1; subst ze9)
    | (have ze9 := ints_inv1 zi1; obtain ⟨zt1', ze9⟩ := ze9; subst ze9)
    | (have ze9 := ints_inv2 zi1; obtain ⟨zt1', zt2', ze9⟩ := ze9; subst ze9)
    | (have ze9 := ints_inv3 zi1; obtain ⟨zt1', zt2', zt3', ze9⟩ := ze9; subst ze9)
    | (have ze9 := ints_inv4 zi1; obtain ⟨zt1', zt2', zt3', zt4', ze9⟩ := ze9; subst ze9)
    | (have ze9 := ints_inv5 zi1; obtain ⟨zt1', zt2', zt3', zt4', zt5', ze9⟩ := ze9; subst ze9))
  clear zi1 zs1 ze1 ze2
  (try k_lt zl1)
  (try dsimp only)
  (try k_fold))
  k_with "call ref" => (
  k_here
  k_dflt (refine use_put (by first | with_reducible (assumption) | (assumption)) (by first | with_reducible (k_asm) | (k_asm)) (by first | with_reducible (k_asm) | (k_asm)) (by first | with_reducible (k_asm) | (k_asm)) (by first | with_reducible (k_asm) | (k_asm)) (by first | with_reducible (k_asm) | (k_asm)) (by first | with_reducible (first | exact rfl | assumption) | (first | exact rfl | assumption)) (by first | with_reducible (ktr_room) | (ktr_room)) (by first | with_reducible (ktr_units) | (ktr_units)) (by first | with_reducible (walk_at "MINE tab") | (walk_at "MINE tab")) (by first | with_reducible (walk_at "MINE tab") | (walk_at "MINE tab")) (by first | with_reducible (walk_at "MINE bnd") | (walk_at "MINE bnd")) (by first | with_reducible (walk_at "MINE bnd") | (walk_at "MINE bnd")) (by first | with_reducible (walk_at "MINE bnd") | (walk_at "MINE bnd")) (by first | with_reducible (walk_at "MINE bnd") | (walk_at "MINE bnd")) ?_)
  k_whole
  intro zt' zh' ztk' zF' zN' zhp0' zhp1'
  (try dsimp only)
  (try k_fold))
  k_with "exec For Tuple Call cons nil" => (
  k_here
  (rename Fr _ _ _ _ => zlF')
  (with_unfolding_all refine For_turns zlF' ?_)
  k_whole)
  k_with "JoinI" => (
  k_dflt (refine join_end (by k_asm) (by k_asm) ?_)
  k_dflt (first | exact (if_pos (by with_reducible assumption)).symm | exact (if_neg (by with_reducible assumption)).symm))
  k_with "MINE bnd" => (first | decide | assumption | omega | ((simp only [Int.reduceToNat, Int.reducePow]); omega))
  k_with "eval IfExp" => ((fail_if_success (show wpAny _ _ _ (JoinI _ _ _ _ _ _) _ _)); k_here; first | k_dflt ((have hts0 : TS 0 := ts_zero); (refine join_go (V := (tstep x 0 0 b0)) (by k_asm) (by k_asm) ?_ (fun t9' h9' tk9' F9' N9' => ?_)); rotate_left; (have hts9 : TS (tstep x 0 0 b0) := ts_step h0 h1 (by k_dflt decide) hts0; have hlo9 := hts9.1; have hhi9 := hts9.2; (try dsimp only); (try k_fold))))
  intro dp un gd cn cs a ccd cl outer A₀ base h₀ L m s Q E B F X T hk hpre hd hu hret
  refine wpAny_call ?_
  k_dflt walk_at "MINE enterP"
  intro g L' h₁ hkg hsz F' N' B' X' T'
  have ht1 := hpre.1.keeps hkg
  have ht2 := hpre.2.keeps hkg
  clear B F X T hpre
  (try dsimp only)
  (try k_fold)
  k_steps
  all_goals (try dsimp only)
  all_goals (refine hret _ _ _ (fun b o e => Fr.keep (by k_asm) b o (hkg b o e)) ⟨_, rfl⟩)
set_option maxHeartbeats 4000000 in
theorem times_len2 {w p loose mean mg mb} (C1 : I2dOk w p loose mean mg mb) (C2 : PutOk w p loose mean mg mb) {x y b0 b1 : Int} {t1 t2 : Tok} (h0 : 0 ≤ x) (h1 : x < 8) (h2 : 0 ≤ y) (h3 : y < 8) (hbits : bits y = [b0, b1]) :
    Call w p loose mean mg mb 58 [.int x t1, .int y t2] 14 (fun h => Tab 16 pos1 qual1 h ∧ Tab 23 pos2 qual2 h) (fun _ _ v => ∃ t, v = .int (times x y) t) := by
  have htm : times x y = (tstep x (tstep x 0 0 b0) 1 b1) := by rw [times_fold h0 h1 h2 h3, hbits]; rfl
  have hy32 : y < 32 := by omega
  rw [htm]
  clear htm h3
  w_on
  refine (fun (h : (PySem.Challenge.rw_ib0002_01 = PySem.Challenge.rw_ib0002_01 ∧ Mine.hd.heap_39 = Mine.hd.heap_39) → _) => h ⟨rfl, rfl⟩) ?_
  k_fill
  intro _
  k_with_none
  k_with "MINE ne" => (refine neN ?_; (try dsimp only); first | exact Nat.ne_of_gt (by with_reducible assumption) | exact Nat.ne_of_lt (by with_reducible assumption) | exact Nat.ne_of_gt (And.left (by with_reducible assumption)) | exact Nat.ne_of_lt (And.left (by with_reducible assumption)) | exact Nat.ne_of_gt (And.left (And.right (by with_reducible assumption))) | exact Nat.ne_of_lt (And.left (And.right (by with_reducible assumption))) | exact Nat.ne_of_gt (And.left (And.right (And.right (by with_reducible assumption)))) | exact Nat.ne_of_lt (And.left (And.right (And.right (by with_reducible assumption)))) | exact Nat.ne_of_gt (And.left (And.right (And.right (And.right (by with_reducible assumption))))) | exact Nat.ne_of_lt (And.left (And.right (And.right (And.right (by with_reducible assumption))))) | exact Nat.ne_of_gt (And.left (And.right (And.right (And.right (And.right (by with_reducible assumption)))))) | exact Nat.ne_of_lt (And.left (And.right (And.right (And.right (And.right (by with_reducible assumption)))))) | exact Nat.ne_of_gt (And.left (And.right (And.right (And.right (And.right (And.right (by with_reducible assumption))))))) | exact Nat.ne_of_lt (And.left (And.right (And.right (And.right (And.right (And.right (by with_reducible assumption))))))) | exact Nat.ne_of_gt (And.left (And.right (And.right (And.right (And.right (And.right (And.right (by with_reducible assumption)))))))) | exact Nat.ne_of_lt (And.left (And.right (And.right (And.right (And.right (And.right (And.right (by with_reducible assumption)))))))) | exact Nat.ne_of_gt (And.left (And.right (And.right (And.right (And.right (And.right (And.right (And.right (by with_reducible assumption))))))))) | exact Nat.ne_of_lt (And.left (And.right (And.right (And.right (And.right (And.right (And.right (And.right (by with_reducible assumption))))))))) | exact Nat.ne_of_gt (And.left (And.right (And.right (And.right (And.right (And.right (And.right (And.right (And.right (by with_reducible assumption)))))))))) | exact Nat.ne_of_lt (And.left (And.right (And.right (And.right (And.right (And.right (And.right (And.right (And.right (by with_reducible assumption)))))))))) | exact Nat.ne_of_gt (And.right (by with_reducible assumption)) | exact Nat.ne_of_lt (And.right (by with_reducible assumption)) | exact Nat.ne_of_gt (And.right (And.right (by with_reducible assumption))) | exact Nat.ne_of_lt (And.right (And.right (by with_reducible assumption))) | exact Nat.ne_of_gt (And.right (And.right (And.right (by with_reducible assumption)))) | exact Nat.ne_of_lt (And.right (And.right (And.right (by with_reducible assumption)))) | exact Nat.ne_of_gt (And.right (And.right (And.right (And.right (by with_reducible assumption))))) | exact Nat.ne_of_lt (And.right (And.right (And.right (And.right (by with_reducible assumption))))) | exact Nat.ne_of_gt (And.right (And.right (And.right (And.right (And.right (by with_reducible assumption)))))) | exact Nat.ne_of_lt (And.right (And.right (And.right (And.right (And.right (by with_reducible assumption)))))) | exact Nat.ne_of_gt (And.right (And.right (And.right (And.right (And.right (And.right (by with_reducible assumption))))))) | exact Nat.ne_of_lt (And.right (And.right (And.right (And.right (And.right (And.right (by with_reducible assumption))))))) | exact Nat.ne_of_gt (And.right (And.right (And.right (And.right (And.right (And.right (And.right (by with_reducible assumption)))))))) | exact Nat.ne_of_lt (And.right (And.right (And.right (And.right (And.right (And.right (And.right (by with_reducible assumption)))))))) | exact Nat.ne_of_gt (And.right (And.right (And.right (And.right (And.right (And.right (And.right (And.right (by with_reducible assumption))))))))) | exact Nat.ne_of_lt (And.right (And.right (And.right (And.right (And.right (And.right (And.right (And.right (by with_reducible assumption))))))))) | exact (And.left (And.left (by with_reducible assumption))) | exact (And.left (And.right (And.left (by with_reducible assumption)))) | exact (And.right (And.right (And.left (by with_reducible assumption)))) | exact (And.left (And.left (And.right (by with_reducible assumption)))) | exact (And.left (And.right (And.left (And.right (by with_reducible assumption))))) | exact (And.right (And.right (And.left (And.right (by with_reducible assumption))))) | exact (And.left (And.right (by with_reducible assumption))) | exact (And.left (And.right (And.right (by with_reducible assumption)))) | exact (And.right (And.right (And.right (by with_reducible assumption)))) | exact (And.left (And.left (And.right (And.right (by with_reducible assumption))))) | exact (And.left (And.right (And.left (And.right (And.right (by with_reducible assumption)))))) | exact (And.right (And.right (And.left (And.right (And.right (by with_reducible assumption)))))) | exact (And.left (And.right (And.right (by with_reducible assumption)))) | exact (And.left (And.right (And.right (And.right (by with_reducible assumption))))) | exact (And.right (And.right (And.right (And.right (by with_reducible assumption))))) | exact (And.left (And.left (And.right (And.right (And.right (by with_reducible assumption)))))) | exact (And.left (And.right (And.left (And.right (And.right (And.right (by with_reducible assumption))))))) | exact (And.right (And.right (And.left (And.right (And.right (And.right (by with_reducible assumption))))))) | exact (And.left (And.right (And.right (And.right (by with_reducible assumption))))) | exact (And.left (And.right (And.right (And.right (And.right (by with_reducible assumption)))))) | exact (And.right (And.right (And.right (And.right (And.right (by with_reducible assumption)))))) | exact (And.left (And.left (And.right (And.right (And.right (And.right (by with_reducible assumption))))))) | exact (And.left (And.right (And.left (And.right (And.right (And.right (And.right (by with_reducible assumption)))))))) | exact (And.right (And.right (And.left (And.right (And.right (And.right (And.right (by with_reducible assumption)))))))) | exact (And.left (And.right (And.right (And.right (And.right (by with_reducible assumption)))))) | exact (And.left (And.right (And.right (And.right (And.right (And.right (by with_reducible assumption))))))) | exact (And.right (And.right (And.right (And.right (And.right (And.right (by with_reducible assumption))))))) | exact (And.left (And.left (And.right (And.right (And.right (And.right (And.right (by with_reducible assumption)))))))) | exact (And.left (And.right (And.left (And.right (And.right (And.right (And.right (And.right (by with_reducible assumption))))))))) | exact (And.right (And.right (And.left (And.right (And.right (And.right (And.right (And.right (by with_reducible assumption))))))))) | exact (And.left (And.right (And.right (And.right (And.right (And.right (by with_reducible assumption))))))) | exact (And.left (And.right (And.right (And.right (And.right (And.right (And.right (by with_reducible assumption)))))))) | exact (And.right (And.right (And.right (And.right (And.right (And.right (And.right (by with_reducible assumption)))))))) | exact (And.left (And.left (And.right (And.right (And.right (And.right (And.right (And.right (by with_reducible assumption))))))))) | exact (And.left (And.right (And.left (And.right (And.right (And.right (And.right (And.right (And.right (by with_reducible assumption)))))))))) | exact (And.right (And.right (And.left (And.right (And.right (And.right (And.right (And.right (And.right (by with_reducible assumption)))))))))) | exact (And.left (And.right (And.right (And.right (And.right (And.right (And.right (by with_reducible assumption)))))))) | exact (And.left (And.right (And.right (And.right (And.right (And.right (And.right (And.right (by with_reducible assumption))))))))) | exact (And.right (And.right (And.right (And.right (And.right (And.right (And.right (And.right (by with_reducible assumption))))))))) | exact (And.left (And.left (And.right (And.right (And.right (And.right (And.right (And.right (And.right (by with_reducible assumption)))))))))) | exact (And.left (And.right (And.left (And.right (And.right (And.right (And.right (And.right (And.right (And.right (by with_reducible assumption))))))))))) | exact (And.right (And.right (And.left (And.right (And.right (And.right (And.right (And.right (And.right (And.right (by with_reducible assumption))))))))))) | exact (And.left (And.right (And.right (And.right (And.right (And.right (And.right (And.right (by with_reducible assumption))))))))) | exact (And.left (And.right (And.right (And.right (And.right (And.right (And.right (And.right (And.right (by with_reducible assumption)))))))))) | exact (And.right (And.right (And.right (And.right (And.right (And.right (And.right (And.right (And.right (by with_reducible assumption)))))))))))
  k_with "MINE enterP" => (
  refine enterP (by k_asm) (by k_asm) (by k_asm) (by k_asm) (by exact rfl) (by exact rfl) (by assumption) (by k_is) (by k_is) (by ktr_room) (by (first | exact BindsTo.of_eq rfl | exact binds_K (by k_in) rfl (by k_is) rfl rfl rfl)) (by exact locs rfl) ?_ (by exact rfl) (by exact rfl) (by exact rfl) (by decide)
  k_whole)
  k_with "MINE tab" => (first
  | assumption
  | exact Tab.keeps (by assumption) (Fr.keep (by k_asm)))
  k_with "call ref" => (
  k_here
  k_dflt (refine use_i2d (by first | with_reducible (assumption) | (assumption)) (by first | with_reducible (k_asm) | (k_asm)) (by first | with_reducible (k_asm) | (k_asm)) (by first | with_reducible (k_asm) | (k_asm)) (by first | with_reducible (k_asm) | (k_asm)) (by first | with_reducible (k_asm) | (k_asm)) (by first | with_reducible (first | exact rfl | assumption) | (first | exact rfl | assumption)) (by first | with_reducible (ktr_room) | (ktr_room)) (by first | with_reducible (ktr_units) | (ktr_units)) (by first | with_reducible (walk_at "MINE tab") | (walk_at "MINE tab")) (by first | with_reducible (walk_at "MINE bnd") | (walk_at "MINE bnd")) (by first | with_reducible (walk_at "MINE bnd") | (walk_at "MINE bnd")) ?_)
  k_whole
  intro zl' zn' zvs' zh' ztk' zF' zN' zl1 zi1 zn1 zs1 ze1 ze2
  rw [(by assumption : bits _ = _)] at zi1
  (first
    | (have ze9 := ints_inv0 zi1; subst ze9)
    | (have ze9 := ints_inv1 zi1; obtain ⟨zt1', ze9⟩ := ze9; subst ze9)
    | (have ze9 := ints_inv2 zi1; obtain ⟨zt1', zt2', ze9⟩ := ze9; subst ze9)
    | (have ze9 := ints_inv3 zi1; obtain ⟨zt1', zt2', zt3', ze9⟩ := ze9; subst ze9)
    | (have ze9 := ints_inv4 zi1; obtain ⟨zt1', zt2', zt3', zt4', ze9⟩ := ze9; subst ze9)
    | (have ze9 := ints_inv5 zi1; obtain ⟨zt1', zt2', zt3', zt4', zt5', ze9⟩ := ze9; subst ze9))
  clear zi1 zs1 ze1 ze2
  (try k_lt zl1)
  (try dsimp only)
  (try k_fold))
  k_with "call ref" => (
  k_here
  k_dflt (refine use_put (by first | with_reducible (assumption) | (assumption)) (by first | with_reducible (k_asm) | (k_asm)) (by first | with_reducible (k_asm) | (k_asm)) (by first | with_reducible (k_asm) | (k_asm)) (by first | with_reducible (k_asm) | (k_asm)) (by first | with_reducible (k_asm) | (k_asm)) (by first | with_reducible (first | exact rfl | assumption) | (first | exact rfl | assumption)) (by first | with_reducible (ktr_room) | (ktr_room)) (by first | with_reducible (ktr_units) | (ktr_units)) (by first | with_reducible (walk_at "MINE tab") | (walk_at "MINE tab")) (by first | with_reducible (walk_at "MINE tab") | (walk_at "MINE tab")) (by first | with_reducible (walk_at "MINE bnd") | (walk_at "MINE bnd")) (by first | with_reducible (walk_at "MINE bnd") | (walk_at "MINE bnd")) (by first | with_reducible (walk_at "MINE bnd") | (walk_at "MINE bnd")) (by first | with_reducible (walk_at "MINE bnd") | (walk_at "MINE bnd")) ?_)
  k_whole
  intro zt' zh' ztk' zF' zN' zhp0' zhp1'
  (try dsimp only)
  (try k_fold))
  k_with "exec For Tuple Call cons nil" => (
  k_here
  (rename Fr _ _ _ _ => zlF')
  (with_unfolding_all refine For_turns zlF' ?_)
  k_whole)
  k_with "JoinI" => (
  k_dflt (refine join_end (by k_asm) (by k_asm) ?_)
  k_dflt (first | exact (if_pos (by with_reducible assumption)).symm | exact (if_neg (by with_reducible assumption)).symm))
  k_with "MINE bnd" => (first | decide | assumption | omega | ((simp only [Int.reduceToNat, Int.reducePow]); omega))
  k_with "eval IfExp" => ((fail_if_success (show wpAny _ _ _ (JoinI _ _ _ _ _ _) _ _)); k_here; first | k_dflt ((have hts0 : TS (tstep x 0 0 b0) := by with_reducible assumption); (refine join_go (V := (tstep x (tstep x 0 0 b0) 1 b1)) (by k_asm) (by k_asm) ?_ (fun t9' h9' tk9' F9' N9' => ?_)); rotate_left; (have hts9 : TS (tstep x (tstep x 0 0 b0) 1 b1) := ts_step h0 h1 (by k_dflt decide) hts0; have hlo9 := hts9.1; have hhi9 := hts9.2; (try dsimp only); (try k_fold))) | k_dflt ((have hts0 : TS 0 := ts_zero); (refine join_go (V := (tstep x 0 0 b0)) (by k_asm) (by k_asm) ?_ (fun t9' h9' tk9' F9' N9' => ?_)); rotate_left; (have hts9 : TS (tstep x 0 0 b0) := ts_step h0 h1 (by k_dflt decide) hts0; have hlo9 := hts9.1; have hhi9 := hts9.2; (try dsimp only); (try k_fold))))
  intro dp un gd cn cs a ccd cl outer A₀ base h₀ L m s Q E B F X T hk hpre hd hu hret
  refine wpAny_call ?_
  k_dflt walk_at "MINE enterP"
  intro g L' h₁ hkg hsz F' N' B' X' T'
  have ht1 := hpre.1.keeps hkg
  have ht2 := hpre.2.keeps hkg
  clear B F X T hpre
  (try dsimp only)
  (try k_fold)
  k_steps
  all_goals (try dsimp only)
  all_goals (refine hret _ _ _ (fun b o e => Fr.keep (by k_asm) b o (hkg b o e)) ⟨_, rfl⟩)
set_option maxHeartbeats 4000000 in
theorem times_len3 {w p loose mean mg mb} (C1 : I2dOk w p loose mean mg mb) (C2 : PutOk w p loose mean mg mb) {x y b0 b1 b2 : Int} {t1 t2 : Tok} (h0 : 0 ≤ x) (h1 : x < 8) (h2 : 0 ≤ y) (h3 : y < 8) (hbits : bits y = [b0, b1, b2]) :
    Call w p loose mean mg mb 58 [.int x t1, .int y t2] 14 (fun h => Tab 16 pos1 qual1 h ∧ Tab 23 pos2 qual2 h) (fun _ _ v => ∃ t, v = .int (times x y) t) := by
  have htm : times x y = (tstep x (tstep x (tstep x 0 0 b0) 1 b1) 2 b2) := by rw [times_fold h0 h1 h2 h3, hbits]; rfl
  have hy32 : y < 32 := by omega
  rw [htm]
  clear htm h3
  w_on
  refine (fun (h : (PySem.Challenge.rw_ib0002_01 = PySem.Challenge.rw_ib0002_01 ∧ Mine.hd.heap_39 = Mine.hd.heap_39) → _) => h ⟨rfl, rfl⟩) ?_
  k_fill
  intro _
  k_with_none
  k_with "MINE ne" => (refine neN ?_; (try dsimp only); first | exact Nat.ne_of_gt (by with_reducible assumption) | exact Nat.ne_of_lt (by with_reducible assumption) | exact Nat.ne_of_gt (And.left (by with_reducible assumption)) | exact Nat.ne_of_lt (And.left (by with_reducible assumption)) | exact Nat.ne_of_gt (And.left (And.right (by with_reducible assumption))) | exact Nat.ne_of_lt (And.left (And.right (by with_reducible assumption))) | exact Nat.ne_of_gt (And.left (And.right (And.right (by with_reducible assumption)))) | exact Nat.ne_of_lt (And.left (And.right (And.right (by with_reducible assumption)))) | exact Nat.ne_of_gt (And.left (And.right (And.right (And.right (by with_reducible assumption))))) | exact Nat.ne_of_lt (And.left (And.right (And.right (And.right (by with_reducible assumption))))) | exact Nat.ne_of_gt (And.left (And.right (And.right (And.right (And.right (by with_reducible assumption)))))) | exact Nat.ne_of_lt (And.left (And.right (And.right (And.right (And.right (by with_reducible assumption)))))) | exact Nat.ne_of_gt (And.left (And.right (And.right (And.right (And.right (And.right (by with_reducible assumption))))))) | exact Nat.ne_of_lt (And.left (And.right (And.right (And.right (And.right (And.right (by with_reducible assumption))))))) | exact Nat.ne_of_gt (And.left (And.right (And.right (And.right (And.right (And.right (And.right (by with_reducible assumption)))))))) | exact Nat.ne_of_lt (And.left (And.right (And.right (And.right (And.right (And.right (And.right (by with_reducible assumption)))))))) | exact Nat.ne_of_gt (And.left (And.right (And.right (And.right (And.right (And.right (And.right (And.right (by with_reducible assumption))))))))) | exact Nat.ne_of_lt (And.left (And.right (And.right (And.right (And.right (And.right (And.right (And.right (by with_reducible assumption))))))))) | exact Nat.ne_of_gt (And.left (And.right (And.right (And.right (And.right (And.right (And.right (And.right (And.right (by with_reducible assumption)))))))))) | exact Nat.ne_of_lt (And.left (And.right (And.right (And.right (And.right (And.right (And.right (And.right (And.right (by with_reducible assumption)))))))))) | exact Nat.ne_of_gt (And.right (by with_reducible assumption)) | exact Nat.ne_of_lt (And.right (by with_reducible assumption)) | exact Nat.ne_of_gt (And.right (And.right (by with_reducible assumption))) | exact Nat.ne_of_lt (And.right (And.right (by with_reducible assumption))) | exact Nat.ne_of_gt (And.right (And.right (And.right (by with_reducible assumption)))) | exact Nat.ne_of_lt (And.right (And.right (And.right (by with_reducible assumption)))) | exact Nat.ne_of_gt (And.right (And.right (And.right (And.right (by with_reducible assumption))))) | exact Nat.ne_of_lt (And.right (And.right (And.right (And.right (by with_reducible assumption))))) | exact Nat.ne_of_gt (And.right (And.right (And.right (And.right (And.right (by with_reducible assumption)))))) | exact Nat.ne_of_lt (And.right (And.right (And.right (And.right (And.right (by with_reducible assumption)))))) | exact Nat.ne_of_gt (And.right (And.right (And.right (And.right (And.right (And.right (by with_reducible assumption))))))) | exact Nat.ne_of_lt (And.right (And.right (And.right (And.right (And.right (And.right (by with_reducible assumption))))))) | exact Nat.ne_of_gt (And.right (And.right (And.right (And.right (And.right (And.right (And.right (by with_reducible assumption)))))))) | exact Nat.ne_of_lt (And.right (And.right (And.right (And.right (And.right (And.right (And.right (by with_reducible assumption)))))))) | exact Nat.ne_of_gt (And.right (And.right (And.right (And.right (And.right (And.right (And.right (And.right (by with_reducible assumption))))))))) | exact Nat.ne_of_lt (And.right (And.right (And.right (And.right (And.right (And.right (And.right (And.right (by with_reducible assumption))))))))) | exact (And.left (And.left (by with_reducible assumption))) | exact (And.left (And.right (And.left (by with_reducible assumption)))) | exact (And.right (And.right (And.left (by with_reducible assumption)))) | exact (And.left (And.left (And.right (by with_reducible assumption)))) | exact (And.left (And.right (And.left (And.right (by with_reducible assumption))))) | exact (And.right (And.right (And.left (And.right (by with_reducible assumption))))) | exact (And.left (And.right (by with_reducible assumption))) | exact (And.left (And.right (And.right (by with_reducible assumption)))) | exact (And.right (And.right (And.right (by with_reducible assumption)))) | exact (And.left (And.left (And.right (And.right (by with_reducible assumption))))) | exact (And.left (And.right (And.left (And.right (And.right (by with_reducible assumption)))))) | exact (And.right (And.right (And.left (And.right (And.right (by with_reducible assumption)))))) | exact (And.left (And.right (And.right (by with_reducible assumption)))) | exact (And.left (And.right (And.right (And.right (by with_reducible assumption))))) | exact (And.right (And.right (And.right (And.right (by with_reducible assumption))))) | exact (And.left (And.left (And.right (And.right (And.right (by with_reducible assumption)))))) | exact (And.left (And.right (And.left (And.right (And.right (And.right (by with_reducible assumption))))))) | exact (And.right (And.right (And.left (And.right (And.right (And.right (by with_reducible assumption))))))) | exact (And.left (And.right (And.right (And.right (by with_reducible assumption))))) | exact (And.left (And.right (And.right (And.right (And.right (by with_reducible assumption)))))) | exact (And.right (And.right (And.right (And.right (And.right (by with_reducible assumption)))))) | exact (And.left (And.left (And.right (And.right (And.right (And.right (by with_reducible assumption))))))) | exact (And.left (And.right (And.left (And.right (And.right (And.right (And.right (by with_reducible assumption)))))))) | exact (And.right (And.right (And.left (And.right (And.right (And.right (And.right (by with_reducible assumption)))))))) | exact (And.left (And.right (And.right (And.right (And.right (by with_reducible assumption)))))) | exact (And.left (And.right (And.right (And.right (And.right (And.right (by with_reducible assumption))))))) | exact (And.right (And.right (And.right (And.right (And.right (And.right (by with_reducible assumption))))))) | exact (And.left (And.left (And.right (And.right (And.right (And.right (And.right (by with_reducible assumption)))))))) | exact (And.left (And.right (And.left (And.right (And.right (And.right (And.right (And.right (by with_reducible assumption))))))))) | exact (And.right (And.right (And.left (And.right (And.right (And.right (And.right (And.right (by with_reducible assumption))))))))) | exact (And.left (And.right (And.right (And.right (And.right (And.right (by with_reducible assumption))))))) | exact (And.left (And.right (And.right (And.right (And.right (And.right (And.right (by with_reducible assumption)))))))) | exact (And.right (And.right (And.right (And.right (And.right (And.right (And.right (by with_reducible assumption)))))))) | exact (And.left (And.left (And.right (And.right (And.right (And.right (And.right (And.right (by with_reducible assumption))))))))) | exact (And.left (And.right (And.left (And.right (And.right (And.right (And.right (And.right (And.right (by with_reducible assumption)))))))))) | exact (And.right (And.right (And.left (And.right (And.right (And.right (And.right (And.right (And.right (by with_reducible assumption)))))))))) | exact (And.left (And.right (And.right (And.right (And.right (And.right (And.right (by with_reducible assumption)))))))) | exact (And.left (And.right (And.right (And.right (And.right (And.right (And.right (And.right (by with_reducible assumption))))))))) | exact (And.right (And.right (And.right (And.right (And.right (And.right (And.right (And.right (by with_reducible assumption))))))))) | exact (And.left (And.left (And.right (And.right (And.right (And.right (And.right (And.right (And.right (by with_reducible assumption)))))))))) | exact (And.left (And.right (And.left (And.right (And.right (And.right (And.right (And.right (And.right (And.right (by with_reducible assumption))))))))))) | exact (And.right (And.right (And.left (And.right (And.right (And.right (And.right (And.right (And.right (And.right (by with_reducible assumption))))))))))) | exact (And.left (And.right (And.right (And.right (And.right (And.right (And.right (And.right (by with_reducible assumption))))))))) | exact (And.left (And.right (And.right (And.right (And.right (And.right (And.right (And.right (And.right (by with_reducible assumption)))))))))) | exact (And.right (And.right (And.right (And.right (And.right (And.right (And.right (And.right (And.right (by with_reducible assumption)))))))))))
  k_with "MINE enterP" => (
  refine enterP (by k_asm) (by k_asm) (by k_asm) (by k_asm) (by exact rfl) (by exact rfl) (by assumption) (by k_is) (by k_is) (by ktr_room) (by (first | exact BindsTo.of_eq rfl | exact binds_K (by k_in) rfl (by k_is) rfl rfl rfl)) (by exact locs rfl) ?_ (by exact rfl) (by exact rfl) (by exact rfl) (by decide)
  k_whole)
  k_with "MINE tab" => (first
  | assumption
  | exact Tab.keeps (by assumption) (Fr.keep (by k_asm)))
  k_with "call ref" => (
  k_here
  k_dflt (refine use_i2d (by first | with_reducible (assumption) | (assumption)) (by first | with_reducible (k_asm) | (k_asm)) (by first | with_reducible (k_asm) | (k_asm)) (by first | with_reducible (k_asm) | (k_asm)) (by first | with_reducible (k_asm) | (k_asm)) (by first | with_reducible (k_asm) | (k_asm)) (by first | with_reducible (first | exact rfl | assumption) | (first | exact rfl | assumption)) (by first | with_reducible (ktr_room) | (ktr_room)) (by first | with_reducible (ktr_units) | (ktr_units)) (by first | with_reducible (walk_at "MINE tab") | (walk_at "MINE tab")) (by first | with_reducible (walk_at "MINE bnd") | (walk_at "MINE bnd")) (by first | with_reducible (walk_at "MINE bnd") | (walk_at "MINE bnd")) ?_)
  k_whole
  intro zl' zn' zvs' zh' ztk' zF' zN' zl1 zi1 zn1 zs1 ze1 ze2
  rw [(by assumption : bits _ = _)] at zi1
  (first
    | (have ze9 := ints_inv0 zi1; subst ze9)
    | (have ze9 := ints_inv1 zi1; obtain ⟨zt1', ze9⟩ := ze9; subst ze9)
    | (have ze9 := ints_inv2 zi1; obtain ⟨zt1', zt2', ze9⟩ := ze9; subst ze9)
    | (have ze9 := ints_inv3 zi1; obtain ⟨zt1', zt2', zt3', ze9⟩ := ze9; subst ze9)
    | (have ze9 := ints_inv4 zi1; obtain ⟨zt1', zt2', zt3', zt4', ze9⟩ := ze9; subst ze9)
    | (have ze9 := ints_inv5 zi1; obtain ⟨zt1', zt2', zt3', zt4', zt5', ze9⟩ := ze9; subst ze9))
  clear zi1 zs1 ze1 ze2
  (try k_lt zl1)
  (try dsimp only)
  (try k_fold))
  k_with "call ref" => (
  k_here
  k_dflt (refine use_put (by first | with_reducible (assumption) | (assumption)) (by first | with_reducible (k_asm) | (k_asm)) (by first | with_reducible (k_asm) | (k_asm)) (by first | with_reducible (k_asm) | (k_asm)) (by first | with_reducible (k_asm) | (k_asm)) (by first | with_reducible (k_asm) | (k_asm)) (by first | with_reducible (first | exact rfl | assumption) | (first | exact rfl | assumption)) (by first | with_reducible (ktr_room) | (ktr_room)) (by first | with_reducible (ktr_units) | (ktr_units)) (by first | with_reducible (walk_at "MINE tab") | (walk_at "MINE tab")) (by first | with_reducible (walk_at "MINE tab") | (walk_at "MINE tab")) (by first | with_reducible (walk_at "MINE bnd") | (walk_at "MINE bnd")) (by first | with_reducible (walk_at "MINE bnd") | (walk_at "MINE bnd")) (by first | with_reducible (walk_at "MINE bnd") | (walk_at "MINE bnd")) (by first | with_reducible (walk_at "MINE bnd") | (walk_at "MINE bnd")) ?_)
  k_whole
  intro zt' zh' ztk' zF' zN' zhp0' zhp1'
  (try dsimp only)
  (try k_fold))
  k_with "exec For Tuple Call cons nil" => (
  k_here
  (rename Fr _ _ _ _ => zlF')
  (with_unfolding_all refine For_turns zlF' ?_)
  k_whole)
  k_with "JoinI" => (
  k_dflt (refine join_end (by k_asm) (by k_asm) ?_)
  k_dflt (first | exact (if_pos (by with_reducible assumption)).symm | exact (if_neg (by with_reducible assumption)).symm))
  k_with "MINE bnd" => (first | decide | assumption | omega | ((simp only [Int.reduceToNat, Int.reducePow]); omega))
  k_with "eval IfExp" => ((fail_if_success (show wpAny _ _ _ (JoinI _ _ _ _ _ _) _ _)); k_here; first | k_dflt ((have hts0 : TS (tstep x (tstep x 0 0 b0) 1 b1) := by with_reducible assumption); (refine join_go (V := (tstep x (tstep x (tstep x 0 0 b0) 1 b1) 2 b2)) (by k_asm) (by k_asm) ?_ (fun t9' h9' tk9' F9' N9' => ?_)); rotate_left; (have hts9 : TS (tstep x (tstep x (tstep x 0 0 b0) 1 b1) 2 b2) := ts_step h0 h1 (by k_dflt decide) hts0; have hlo9 := hts9.1; have hhi9 := hts9.2; (try dsimp only); (try k_fold))) | k_dflt ((have hts0 : TS (tstep x 0 0 b0) := by with_reducible assumption); (refine join_go (V := (tstep x (tstep x 0 0 b0) 1 b1)) (by k_asm) (by k_asm) ?_ (fun t9' h9' tk9' F9' N9' => ?_)); rotate_left; (have hts9 : TS (tstep x (tstep x 0 0 b0) 1 b1) := ts_step h0 h1 (by k_dflt decide) hts0; have hlo9 := hts9.1; have hhi9 := hts9.2; (try dsimp only); (try k_fold))) | k_dflt ((have hts0 : TS 0 := ts_zero); (refine join_go (V := (tstep x 0 0 b0)) (by k_asm) (by k_asm) ?_ (fun t9' h9' tk9' F9' N9' => ?_)); rotate_left; (have hts9 : TS (tstep x 0 0 b0) := ts_step h0 h1 (by k_dflt decide) hts0; have hlo9 := hts9.1; have hhi9 := hts9.2; (try dsimp only); (try k_fold))))
  intro dp un gd cn cs a ccd cl outer A₀ base h₀ L m s Q E B F X T hk hpre hd hu hret
  refine wpAny_call ?_
  k_dflt walk_at "MINE enterP"
  intro g L' h₁ hkg hsz F' N' B' X' T'
  have ht1 := hpre.1.keeps hkg
  have ht2 := hpre.2.keeps hkg
  clear B F X T hpre
  (try dsimp only)
  (try k_fold)
  k_steps
  all_goals (try dsimp only)
  all_goals (refine hret _ _ _ (fun b o e => Fr.keep (by k_asm) b o (hkg b o e)) ⟨_, rfl⟩)
section
variable {w : World} {p : Program} {loose : List Str} {mean : ExcName → Option Value} {mg mb : Str → Option Value}
theorem times_0 (C1 : I2dOk w p loose mean mg mb) (C2 : PutOk w p loose mean mg mb) {x : Int} {t1 t2 : Tok} (h0 : 0 ≤ x) (h1 : x < 8) :
    Call w p loose mean mg mb 58 [.int x t1, .int 0 t2] 14 (fun h => Tab 16 pos1 qual1 h ∧ Tab 23 pos2 qual2 h) (fun _ _ v => ∃ t, v = .int (times x 0) t) := times_len0 C1 C2 h0 h1 (by decide) (by decide) (show bits 0 = [] by decide)
theorem times_1 (C1 : I2dOk w p loose mean mg mb) (C2 : PutOk w p loose mean mg mb) {x : Int} {t1 t2 : Tok} (h0 : 0 ≤ x) (h1 : x < 8) :
    Call w p loose mean mg mb 58 [.int x t1, .int 1 t2] 14 (fun h => Tab 16 pos1 qual1 h ∧ Tab 23 pos2 qual2 h) (fun _ _ v => ∃ t, v = .int (times x 1) t) := times_len1 C1 C2 h0 h1 (by decide) (by decide) (show bits 1 = [1] by decide)
theorem times_2 (C1 : I2dOk w p loose mean mg mb) (C2 : PutOk w p loose mean mg mb) {x : Int} {t1 t2 : Tok} (h0 : 0 ≤ x) (h1 : x < 8) :
    Call w p loose mean mg mb 58 [.int x t1, .int 2 t2] 14 (fun h => Tab 16 pos1 qual1 h ∧ Tab 23 pos2 qual2 h) (fun _ _ v => ∃ t, v = .int (times x 2) t) := times_len2 C1 C2 h0 h1 (by decide) (by decide) (show bits 2 = [0, 1] by decide)
theorem times_3 (C1 : I2dOk w p loose mean mg mb) (C2 : PutOk w p loose mean mg mb) {x : Int} {t1 t2 : Tok} (h0 : 0 ≤ x) (h1 : x < 8) :
    Call w p loose mean mg mb 58 [.int x t1, .int 3 t2] 14 (fun h => Tab 16 pos1 qual1 h ∧ Tab 23 pos2 qual2 h) (fun _ _ v => ∃ t, v = .int (times x 3) t) := times_len2 C1 C2 h0 h1 (by decide) (by decide) (show bits 3 = [1, 1] by decide)
theorem times_4 (C1 : I2dOk w p loose mean mg mb) (C2 : PutOk w p loose mean mg mb) {x : Int} {t1 t2 : Tok} (h0 : 0 ≤ x) (h1 : x < 8) :
    Call w p loose mean mg mb 58 [.int x t1, .int 4 t2] 14 (fun h => Tab 16 pos1 qual1 h ∧ Tab 23 pos2 qual2 h) (fun _ _ v => ∃ t, v = .int (times x 4) t) := times_len3 C1 C2 h0 h1 (by decide) (by decide) (show bits 4 = [0, 0, 1] by decide)
theorem times_5 (C1 : I2dOk w p loose mean mg mb) (C2 : PutOk w p loose mean mg mb) {x : Int} {t1 t2 : Tok} (h0 : 0 ≤ x) (h1 : x < 8) :
    Call w p loose mean mg mb 58 [.int x t1, .int 5 t2] 14 (fun h => Tab 16 pos1 qual1 h ∧ Tab 23 pos2 qual2 h) (fun _ _ v => ∃ t, v = .int (times x 5) t) := times_len3 C1 C2 h0 h1 (by decide) (by decide) (show bits 5 = [1, 0, 1] by decide)
theorem times_6 (C1 : I2dOk w p loose mean mg mb) (C2 : PutOk w p loose mean mg mb) {x : Int} {t1 t2 : Tok} (h0 : 0 ≤ x) (h1 : x < 8) :
    Call w p loose mean mg mb 58 [.int x t1, .int 6 t2] 14 (fun h => Tab 16 pos1 qual1 h ∧ Tab 23 pos2 qual2 h) (fun _ _ v => ∃ t, v = .int (times x 6) t) := times_len3 C1 C2 h0 h1 (by decide) (by decide) (show bits 6 = [0, 1, 1] by decide)
theorem times_7 (C1 : I2dOk w p loose mean mg mb) (C2 : PutOk w p loose mean mg mb) {x : Int} {t1 t2 : Tok} (h0 : 0 ≤ x) (h1 : x < 8) :
    Call w p loose mean mg mb 58 [.int x t1, .int 7 t2] 14 (fun h => Tab 16 pos1 qual1 h ∧ Tab 23 pos2 qual2 h) (fun _ _ v => ∃ t, v = .int (times x 7) t) := times_len3 C1 C2 h0 h1 (by decide) (by decide) (show bits 7 = [1, 1, 1] by decide)
end
end Mine
end -- LawTimes

section -- LawDiv
open PySem PySem.Spec PySem.Calls PySem.W PyProof.Rows
set_option maxRecDepth 100000
set_option rowWalk.seconds 0
namespace Mine

set_option maxHeartbeats 4000000 in
theorem div_ok {w p loose mean mg mb} (C1 : I2dOk w p loose mean mg mb) (C2 : PutOk w p loose mean mg mb) : DivOk w p loose mean mg mb := by
  intro x y t1 t2 hx0 hx1 hy0 hy1
  w_on
  refine (fun (h : (PySem.Challenge.rw_ib0002_01 = PySem.Challenge.rw_ib0002_01 ∧ Mine.hd.heap_39 = Mine.hd.heap_39) → _) => h ⟨rfl, rfl⟩) ?_
  k_fill
  intro _
  k_with_none
  k_with "MINE ne" => (refine neN ?_; (try dsimp only); first | exact Nat.ne_of_gt (by with_reducible assumption) | exact Nat.ne_of_lt (by with_reducible assumption) | exact Nat.ne_of_gt (And.left (by with_reducible assumption)) | exact Nat.ne_of_lt (And.left (by with_reducible assumption)) | exact Nat.ne_of_gt (And.left (And.right (by with_reducible assumption))) | exact Nat.ne_of_lt (And.left (And.right (by with_reducible assumption))) | exact Nat.ne_of_gt (And.left (And.right (And.right (by with_reducible assumption)))) | exact Nat.ne_of_lt (And.left (And.right (And.right (by with_reducible assumption)))) | exact Nat.ne_of_gt (And.left (And.right (And.right (And.right (by with_reducible assumption))))) | exact Nat.ne_of_lt (And.left (And.right (And.right (And.right (by with_reducible assumption))))) | exact Nat.ne_of_gt (And.left (And.right (And.right (And.right (And.right (by with_reducible assumption)))))) | exact Nat.ne_of_lt (And.left (And.right (And.right (And.right (And.right (by with_reducible assumption)))))) | exact Nat.ne_of_gt (And.left (And.right (And.right (And.right (And.right (And.right (by with_reducible assumption))))))) | exact Nat.ne_of_lt (And.left (And.right (And.right (And.right (And.right (And.right (by with_reducible assumption))))))) | exact Nat.ne_of_gt (And.left (And.right (And.right (And.right (And.right (And.right (And.right (by with_reducible assumption)))))))) | exact Nat.ne_of_lt (And.left (And.right (And.right (And.right (And.right (And.right (And.right (by with_reducible assumption)))))))) | exact Nat.ne_of_gt (And.left (And.right (And.right (And.right (And.right (And.right (And.right (And.right (by with_reducible assumption))))))))) | exact Nat.ne_of_lt (And.left (And.right (And.right (And.right (And.right (And.right (And.right (And.right (by with_reducible assumption))))))))) | exact Nat.ne_of_gt (And.left (And.right (And.right (And.right (And.right (And.right (And.right (And.right (And.right (by with_reducible assumption)))))))))) | exact Nat.ne_of_lt (And.left (And.right (And.right (And.right (And.right (And.right (And.right (And.right (And.right (by with_reducible assumption)))))))))) | exact Nat.ne_of_gt (And.right (by with_reducible assumption)) | exact Nat.ne_of_lt (And.right (by with_reducible assumption)) | exact Nat.ne_of_gt (And.right (And.right (by with_reducible assumption))) | exact Nat.ne_of_lt (And.right (And.right (by with_reducible assumption))) | exact Nat.ne_of_gt (And.right (And.right (And.right (by with_reducible assumption)))) | exact Nat.ne_of_lt (And.right (And.right (And.right (by with_reducible assumption)))) | exact Nat.ne_of_gt (And.right (And.right (And.right (And.right (by with_reducible assumption))))) | exact Nat.ne_of_lt (And.right (And.right (And.right (And.right (by with_reducible assumption))))) | exact Nat.ne_of_gt (And.right (And.right (And.right (And.right (And.right (by with_reducible assumption)))))) | exact Nat.ne_of_lt (And.right (And.right (And.right (And.right (And.right (by with_reducible assumption)))))) | exact Nat.ne_of_gt (And.right (And.right (And.right (And.right (And.right (And.right (by with_reducible assumption))))))) | exact Nat.ne_of_lt (And.right (And.right (And.right (And.right (And.right (And.right (by with_reducible assumption))))))) | exact Nat.ne_of_gt (And.right (And.right (And.right (And.right (And.right (And.right (And.right (by with_reducible assumption)))))))) | exact Nat.ne_of_lt (And.right (And.right (And.right (And.right (And.right (And.right (And.right (by with_reducible assumption)))))))) | exact Nat.ne_of_gt (And.right (And.right (And.right (And.right (And.right (And.right (And.right (And.right (by with_reducible assumption))))))))) | exact Nat.ne_of_lt (And.right (And.right (And.right (And.right (And.right (And.right (And.right (And.right (by with_reducible assumption))))))))) | exact (And.left (And.left (by with_reducible assumption))) | exact (And.left (And.right (And.left (by with_reducible assumption)))) | exact (And.right (And.right (And.left (by with_reducible assumption)))) | exact (And.left (And.left (And.right (by with_reducible assumption)))) | exact (And.left (And.right (And.left (And.right (by with_reducible assumption))))) | exact (And.right (And.right (And.left (And.right (by with_reducible assumption))))) | exact (And.left (And.right (by with_reducible assumption))) | exact (And.left (And.right (And.right (by with_reducible assumption)))) | exact (And.right (And.right (And.right (by with_reducible assumption)))) | exact (And.left (And.left (And.right (And.right (by with_reducible assumption))))) | exact (And.left (And.right (And.left (And.right (And.right (by with_reducible assumption)))))) | exact (And.right (And.right (And.left (And.right (And.right (by with_reducible assumption)))))) | exact (And.left (And.right (And.right (by with_reducible assumption)))) | exact (And.left (And.right (And.right (And.right (by with_reducible assumption))))) | exact (And.right (And.right (And.right (And.right (by with_reducible assumption))))) | exact (And.left (And.left (And.right (And.right (And.right (by with_reducible assumption)))))) | exact (And.left (And.right (And.left (And.right (And.right (And.right (by with_reducible assumption))))))) | exact (And.right (And.right (And.left (And.right (And.right (And.right (by with_reducible assumption))))))) | exact (And.left (And.right (And.right (And.right (by with_reducible assumption))))) | exact (And.left (And.right (And.right (And.right (And.right (by with_reducible assumption)))))) | exact (And.right (And.right (And.right (And.right (And.right (by with_reducible assumption)))))) | exact (And.left (And.left (And.right (And.right (And.right (And.right (by with_reducible assumption))))))) | exact (And.left (And.right (And.left (And.right (And.right (And.right (And.right (by with_reducible assumption)))))))) | exact (And.right (And.right (And.left (And.right (And.right (And.right (And.right (by with_reducible assumption)))))))) | exact (And.left (And.right (And.right (And.right (And.right (by with_reducible assumption)))))) | exact (And.left (And.right (And.right (And.right (And.right (And.right (by with_reducible assumption))))))) | exact (And.right (And.right (And.right (And.right (And.right (And.right (by with_reducible assumption))))))) | exact (And.left (And.left (And.right (And.right (And.right (And.right (And.right (by with_reducible assumption)))))))) | exact (And.left (And.right (And.left (And.right (And.right (And.right (And.right (And.right (by with_reducible assumption))))))))) | exact (And.right (And.right (And.left (And.right (And.right (And.right (And.right (And.right (by with_reducible assumption))))))))) | exact (And.left (And.right (And.right (And.right (And.right (And.right (by with_reducible assumption))))))) | exact (And.left (And.right (And.right (And.right (And.right (And.right (And.right (by with_reducible assumption)))))))) | exact (And.right (And.right (And.right (And.right (And.right (And.right (And.right (by with_reducible assumption)))))))) | exact (And.left (And.left (And.right (And.right (And.right (And.right (And.right (And.right (by with_reducible assumption))))))))) | exact (And.left (And.right (And.left (And.right (And.right (And.right (And.right (And.right (And.right (by with_reducible assumption)))))))))) | exact (And.right (And.right (And.left (And.right (And.right (And.right (And.right (And.right (And.right (by with_reducible assumption)))))))))) | exact (And.left (And.right (And.right (And.right (And.right (And.right (And.right (by with_reducible assumption)))))))) | exact (And.left (And.right (And.right (And.right (And.right (And.right (And.right (And.right (by with_reducible assumption))))))))) | exact (And.right (And.right (And.right (And.right (And.right (And.right (And.right (And.right (by with_reducible assumption))))))))) | exact (And.left (And.left (And.right (And.right (And.right (And.right (And.right (And.right (And.right (by with_reducible assumption)))))))))) | exact (And.left (And.right (And.left (And.right (And.right (And.right (And.right (And.right (And.right (And.right (by with_reducible assumption))))))))))) | exact (And.right (And.right (And.left (And.right (And.right (And.right (And.right (And.right (And.right (And.right (by with_reducible assumption))))))))))) | exact (And.left (And.right (And.right (And.right (And.right (And.right (And.right (And.right (by with_reducible assumption))))))))) | exact (And.left (And.right (And.right (And.right (And.right (And.right (And.right (And.right (And.right (by with_reducible assumption)))))))))) | exact (And.right (And.right (And.right (And.right (And.right (And.right (And.right (And.right (And.right (by with_reducible assumption)))))))))))
  k_with "MINE enterP" => (
  refine enterP (by k_asm) (by k_asm) (by k_asm) (by k_asm) (by exact rfl) (by exact rfl) (by assumption) (by k_is) (by k_is) (by ktr_room) (by (first | exact BindsTo.of_eq rfl | exact binds_K (by k_in) rfl (by k_is) rfl rfl rfl)) (by exact locs rfl) ?_ (by exact rfl) (by exact rfl) (by exact rfl) (by decide)
  k_whole)
  k_with "MINE tab" => (first
  | assumption
  | exact Tab.keeps (by assumption) (Fr.keep (by k_asm)))
  k_with "call ref" => (
  k_here
  k_dflt (refine use_i2d (by first | with_reducible (assumption) | (assumption)) (by first | with_reducible (k_asm) | (k_asm)) (by first | with_reducible (k_asm) | (k_asm)) (by first | with_reducible (k_asm) | (k_asm)) (by first | with_reducible (k_asm) | (k_asm)) (by first | with_reducible (k_asm) | (k_asm)) (by first | with_reducible (first | exact rfl | assumption) | (first | exact rfl | assumption)) (by first | with_reducible (ktr_room) | (ktr_room)) (by first | with_reducible (ktr_units) | (ktr_units)) (by first | with_reducible (walk_at "MINE tab") | (walk_at "MINE tab")) (by first | with_reducible (walk_at "MINE bnd") | (walk_at "MINE bnd")) (by first | with_reducible (walk_at "MINE bnd") | (walk_at "MINE bnd")) ?_)
  k_whole
  intro zl' zn' zvs' zh' ztk' zF' zN' zl1 zi1 zn1 zs1 ze1 ze2
  (try k_lt zl1)
  (try dsimp only)
  (try k_fold))
  k_with "call ref" => (
  k_here
  k_dflt (refine use_d2i (by first | with_reducible (assumption) | (assumption)) (by first | with_reducible (k_asm) | (k_asm)) (by first | with_reducible (k_asm) | (k_asm)) (by first | with_reducible (k_asm) | (k_asm)) (by first | with_reducible (k_asm) | (k_asm)) (by first | with_reducible (k_asm) | (k_asm)) (by first | with_reducible (first | exact rfl | assumption) | (first | exact rfl | assumption)) (by first | with_reducible (ktr_room) | (ktr_room)) (by first | with_reducible (ktr_units) | (ktr_units)) (by first | with_reducible (walk_at "MINE tab") | (walk_at "MINE tab")) (by first | with_reducible (is_list) | (is_list)) (by first | with_reducible (l_ints) | (l_ints)) (by first | with_reducible (walk_at "MINE len5") | (walk_at "MINE len5")) (by first | with_reducible (walk_at "MINE figures") | (walk_at "MINE figures")) ?_)
  k_whole
  intro zt' zh' ztk' zF' zN'
  (try dsimp only)
  (try k_fold))
  k_with "call ref" => (
  k_here
  k_dflt (refine use_put (by first | with_reducible (assumption) | (assumption)) (by first | with_reducible (k_asm) | (k_asm)) (by first | with_reducible (k_asm) | (k_asm)) (by first | with_reducible (k_asm) | (k_asm)) (by first | with_reducible (k_asm) | (k_asm)) (by first | with_reducible (k_asm) | (k_asm)) (by first | with_reducible (first | exact rfl | assumption) | (first | exact rfl | assumption)) (by first | with_reducible (ktr_room) | (ktr_room)) (by first | with_reducible (ktr_units) | (ktr_units)) (by first | with_reducible (walk_at "MINE tab") | (walk_at "MINE tab")) (by first | with_reducible (walk_at "MINE tab") | (walk_at "MINE tab")) (by first | with_reducible (walk_at "MINE bnd") | (walk_at "MINE bnd")) (by first | with_reducible (walk_at "MINE bnd") | (walk_at "MINE bnd")) (by first | with_reducible (walk_at "MINE bnd") | (walk_at "MINE bnd")) (by first | with_reducible (walk_at "MINE bnd") | (walk_at "MINE bnd")) ?_)
  k_whole
  intro zt' zh' ztk' zF' zN' zhp0' zhp1'
  (try dsimp only)
  (try k_fold))
  k_with "MINE bnd" => (first
  | assumption
  | exact DInv.lo (by assumption)
  | exact DInv.hi (by assumption)
  | (refine Int.le_trans ?_ (by assumption); decide)
  | exact (div_mul (DInv.lo (by assumption)) (DInv.hi (by assumption)) (by assumption) (by assumption) rfl rfl (by assumption) (by assumption)).1
  | exact (div_mul (DInv.lo (by assumption)) (DInv.hi (by assumption)) (by assumption) (by assumption) rfl rfl (by assumption) (by assumption)).2)
  k_with "binaryOp Pow int int" => (
  k_here
  (refine pow2Z (by omega) (by omega) ?_)
  intro zp' zhp')
  k_with "binaryOp Mult int int" => (
  k_here
  (refine mulSmall (by omega) (by omega) ?_))
  k_with "newTuple" => (
  k_here
  k_dflt (refine newTupleZ (by first | with_reducible (k_asm) | (k_asm)) (by first | with_reducible (k_asm) | (k_asm)) (by k_dflt (exact Nat.le_of_ble_eq_true rfl)) ?_)
  k_whole
  intro zD' zh' zF' zN' zl1 zl2
  (try k_lt zl1)
  (try k_sweep))
  k_with "pyIter ref" => k_state_short (fun pre o f => DInv x y pre o f) "one" "often"
  k_with "state" => first | exact dinv_start hx0 hx1 | exact dinv_step (by assumption) hy0 hy1 rfl rfl (by assumption) (by assumption) (by assumption)
  intro dp un gd cn cs a ccd cl outer A₀ base h₀ L m s Q E B F X T hk hpre hd hu hret
  refine wpAny_call ?_
  k_dflt walk_at "MINE enterP"
  intro g L' h₁ hkg hsz F' N' B' X' T'
  have hab := Fr.above F'
  have ht1 := hpre.1.keeps hkg
  have ht2 := hpre.2.keeps hkg
  clear B F X T hpre
  (try dsimp only)
  (try k_fold)
  k_steps
  k_with_none
  all_goals (try dsimp only)
  all_goals first
    | (exfalso; exact dinv_end (by assumption) (by decide))
    | skip
  obtain ⟨e1, e2⟩ := dinv_stop (by assumption) rfl rfl (by assumption)
  subst e1 e2
  refine hret _ _ _ (fun b o e => Fr.keep (by k_asm) b o (hkg b o e)) ⟨_, _, _, _, rfl, ?_, News.get (by k_asm) (List.Mem.head _)⟩
  have hab2 : s.heap.objs.size ≤ L' := hsz ▸ hab
  exact Nat.le_of_lt (Nat.lt_of_le_of_lt hab2 (by assumption))
end Mine
end -- LawDiv

section -- LawParts
open PySem PySem.Spec PySem.Calls PySem.W PyProof.Rows
set_option maxRecDepth 100000
set_option rowWalk.seconds 0
namespace Mine
theorem list_keeps2 {h h' : Heap} {l : Addr} {items : Array Value} (x : h.IsList l items) (k : ∀ b o, h.get? b = some o → h'.get? b = some o) : h'.IsList l items := let ⟨o, ho, r⟩ := x; ⟨o, k l o ho, r⟩

set_option maxHeartbeats 4000000 in
theorem parts_ok {w p loose mean mg mb} (C1 : DivOk w p loose mean mg mb) : PartsOk w p loose mean mg mb := by
  intro x l t1 vs hx0 hx1 hi
  w_on
  refine (fun (h : (PySem.Challenge.rw_ib0002_01 = PySem.Challenge.rw_ib0002_01 ∧ Mine.hd.heap_39 = Mine.hd.heap_39) → _) => h ⟨rfl, rfl⟩) ?_
  k_fill
  intro _
  k_with_none
  k_with "MINE ne" => (refine neN ?_; (try dsimp only); first | exact Nat.ne_of_gt (by with_reducible assumption) | exact Nat.ne_of_lt (by with_reducible assumption) | exact Nat.ne_of_gt (And.left (by with_reducible assumption)) | exact Nat.ne_of_lt (And.left (by with_reducible assumption)) | exact Nat.ne_of_gt (And.left (And.right (by with_reducible assumption))) | exact Nat.ne_of_lt (And.left (And.right (by with_reducible assumption))) | exact Nat.ne_of_gt (And.left (And.right (And.right (by with_reducible assumption)))) | exact Nat.ne_of_lt (And.left (And.right (And.right (by with_reducible assumption)))) | exact Nat.ne_of_gt (And.left (And.right (And.right (And.right (by with_reducible assumption))))) | exact Nat.ne_of_lt (And.left (And.right (And.right (And.right (by with_reducible assumption))))) | exact Nat.ne_of_gt (And.left (And.right (And.right (And.right (And.right (by with_reducible assumption)))))) | exact Nat.ne_of_lt (And.left (And.right (And.right (And.right (And.right (by with_reducible assumption)))))) | exact Nat.ne_of_gt (And.left (And.right (And.right (And.right (And.right (And.right (by with_reducible assumption))))))) | exact Nat.ne_of_lt (And.left (And.right (And.right (And.right (And.right (And.right (by with_reducible assumption))))))) | exact Nat.ne_of_gt (And.left (And.right (And.right (And.right (And.right (And.right (And.right (by with_reducible assumption)))))))) | exact Nat.ne_of_lt (And.left (And.right (And.right (And.right (And.right (And.right (And.right (by with_reducible assumption)))))))) | exact Nat.ne_of_gt (And.left (And.right (And.right (And.right (And.right (And.right (And.right (And.right (by with_reducible assumption))))))))) | exact Nat.ne_of_lt (And.left (And.right (And.right (And.right (And.right (And.right (And.right (And.right (by with_reducible assumption))))))))) | exact Nat.ne_of_gt (And.left (And.right (And.right (And.right (And.right (And.right (And.right (And.right (And.right (by with_reducible assumption)))))))))) | exact Nat.ne_of_lt (And.left (And.right (And.right (And.right (And.right (And.right (And.right (And.right (And.right (by with_reducible assumption)))))))))) | exact Nat.ne_of_gt (And.right (by with_reducible assumption)) | exact Nat.ne_of_lt (And.right (by with_reducible assumption)) | exact Nat.ne_of_gt (And.right (And.right (by with_reducible assumption))) | exact Nat.ne_of_lt (And.right (And.right (by with_reducible assumption))) | exact Nat.ne_of_gt (And.right (And.right (And.right (by with_reducible assumption)))) | exact Nat.ne_of_lt (And.right (And.right (And.right (by with_reducible assumption)))) | exact Nat.ne_of_gt (And.right (And.right (And.right (And.right (by with_reducible assumption))))) | exact Nat.ne_of_lt (And.right (And.right (And.right (And.right (by with_reducible assumption))))) | exact Nat.ne_of_gt (And.right (And.right (And.right (And.right (And.right (by with_reducible assumption)))))) | exact Nat.ne_of_lt (And.right (And.right (And.right (And.right (And.right (by with_reducible assumption)))))) | exact Nat.ne_of_gt (And.right (And.right (And.right (And.right (And.right (And.right (by with_reducible assumption))))))) | exact Nat.ne_of_lt (And.right (And.right (And.right (And.right (And.right (And.right (by with_reducible assumption))))))) | exact Nat.ne_of_gt (And.right (And.right (And.right (And.right (And.right (And.right (And.right (by with_reducible assumption)))))))) | exact Nat.ne_of_lt (And.right (And.right (And.right (And.right (And.right (And.right (And.right (by with_reducible assumption)))))))) | exact Nat.ne_of_gt (And.right (And.right (And.right (And.right (And.right (And.right (And.right (And.right (by with_reducible assumption))))))))) | exact Nat.ne_of_lt (And.right (And.right (And.right (And.right (And.right (And.right (And.right (And.right (by with_reducible assumption))))))))) | exact (And.left (And.left (by with_reducible assumption))) | exact (And.left (And.right (And.left (by with_reducible assumption)))) | exact (And.right (And.right (And.left (by with_reducible assumption)))) | exact (And.left (And.left (And.right (by with_reducible assumption)))) | exact (And.left (And.right (And.left (And.right (by with_reducible assumption))))) | exact (And.right (And.right (And.left (And.right (by with_reducible assumption))))) | exact (And.left (And.right (by with_reducible assumption))) | exact (And.left (And.right (And.right (by with_reducible assumption)))) | exact (And.right (And.right (And.right (by with_reducible assumption)))) | exact (And.left (And.left (And.right (And.right (by with_reducible assumption))))) | exact (And.left (And.right (And.left (And.right (And.right (by with_reducible assumption)))))) | exact (And.right (And.right (And.left (And.right (And.right (by with_reducible assumption)))))) | exact (And.left (And.right (And.right (by with_reducible assumption)))) | exact (And.left (And.right (And.right (And.right (by with_reducible assumption))))) | exact (And.right (And.right (And.right (And.right (by with_reducible assumption))))) | exact (And.left (And.left (And.right (And.right (And.right (by with_reducible assumption)))))) | exact (And.left (And.right (And.left (And.right (And.right (And.right (by with_reducible assumption))))))) | exact (And.right (And.right (And.left (And.right (And.right (And.right (by with_reducible assumption))))))) | exact (And.left (And.right (And.right (And.right (by with_reducible assumption))))) | exact (And.left (And.right (And.right (And.right (And.right (by with_reducible assumption)))))) | exact (And.right (And.right (And.right (And.right (And.right (by with_reducible assumption)))))) | exact (And.left (And.left (And.right (And.right (And.right (And.right (by with_reducible assumption))))))) | exact (And.left (And.right (And.left (And.right (And.right (And.right (And.right (by with_reducible assumption)))))))) | exact (And.right (And.right (And.left (And.right (And.right (And.right (And.right (by with_reducible assumption)))))))) | exact (And.left (And.right (And.right (And.right (And.right (by with_reducible assumption)))))) | exact (And.left (And.right (And.right (And.right (And.right (And.right (by with_reducible assumption))))))) | exact (And.right (And.right (And.right (And.right (And.right (And.right (by with_reducible assumption))))))) | exact (And.left (And.left (And.right (And.right (And.right (And.right (And.right (by with_reducible assumption)))))))) | exact (And.left (And.right (And.left (And.right (And.right (And.right (And.right (And.right (by with_reducible assumption))))))))) | exact (And.right (And.right (And.left (And.right (And.right (And.right (And.right (And.right (by with_reducible assumption))))))))) | exact (And.left (And.right (And.right (And.right (And.right (And.right (by with_reducible assumption))))))) | exact (And.left (And.right (And.right (And.right (And.right (And.right (And.right (by with_reducible assumption)))))))) | exact (And.right (And.right (And.right (And.right (And.right (And.right (And.right (by with_reducible assumption)))))))) | exact (And.left (And.left (And.right (And.right (And.right (And.right (And.right (And.right (by with_reducible assumption))))))))) | exact (And.left (And.right (And.left (And.right (And.right (And.right (And.right (And.right (And.right (by with_reducible assumption)))))))))) | exact (And.right (And.right (And.left (And.right (And.right (And.right (And.right (And.right (And.right (by with_reducible assumption)))))))))) | exact (And.left (And.right (And.right (And.right (And.right (And.right (And.right (by with_reducible assumption)))))))) | exact (And.left (And.right (And.right (And.right (And.right (And.right (And.right (And.right (by with_reducible assumption))))))))) | exact (And.right (And.right (And.right (And.right (And.right (And.right (And.right (And.right (by with_reducible assumption))))))))) | exact (And.left (And.left (And.right (And.right (And.right (And.right (And.right (And.right (And.right (by with_reducible assumption)))))))))) | exact (And.left (And.right (And.left (And.right (And.right (And.right (And.right (And.right (And.right (And.right (by with_reducible assumption))))))))))) | exact (And.right (And.right (And.left (And.right (And.right (And.right (And.right (And.right (And.right (And.right (by with_reducible assumption))))))))))) | exact (And.left (And.right (And.right (And.right (And.right (And.right (And.right (And.right (by with_reducible assumption))))))))) | exact (And.left (And.right (And.right (And.right (And.right (And.right (And.right (And.right (And.right (by with_reducible assumption)))))))))) | exact (And.right (And.right (And.right (And.right (And.right (And.right (And.right (And.right (And.right (by with_reducible assumption)))))))))))
  k_with "MINE enterP" => (
  refine enterP (by k_asm) (by k_asm) (by k_asm) (by k_asm) (by exact rfl) (by exact rfl) (by assumption) (by k_is) (by k_is) (by ktr_room) (by (first | exact BindsTo.of_eq rfl | exact binds_K (by k_in) rfl (by k_is) rfl rfl rfl)) (by exact locs rfl) ?_ (by exact rfl) (by exact rfl) (by exact rfl) (by decide)
  k_whole)
  k_with "MINE tab" => (first
  | assumption
  | exact Tab.keeps (by assumption) (Fr.keep (by k_asm)))
  k_with "newTuple" => (
  k_here
  k_dflt (refine newTupleZ (by first | with_reducible (k_asm) | (k_asm)) (by first | with_reducible (k_asm) | (k_asm)) (by k_dflt (exact Nat.le_of_ble_eq_true rfl)) ?_)
  k_whole
  intro zD' zh' zF' zN' zl1 zl2
  (try k_lt zl1)
  (try k_sweep))
  k_with "newList" => (
  k_here
  k_dflt (refine newListZ (by first | with_reducible (k_asm) | (k_asm)) (by first | with_reducible (k_asm) | (k_asm)) (by k_dflt (exact Nat.le_of_ble_eq_true rfl)) ?_)
  k_whole
  intro zD' zh' zF' zN' zl1 zl2
  (try k_lt zl1)
  (try k_sweep))
  k_with "call ref" => (
  k_here
  k_dflt (refine use_div (by first | with_reducible (assumption) | (assumption)) (by first | with_reducible (k_asm) | (k_asm)) (by first | with_reducible (k_asm) | (k_asm)) (by first | with_reducible (k_asm) | (k_asm)) (by first | with_reducible (k_asm) | (k_asm)) (by first | with_reducible (k_asm) | (k_asm)) (by first | with_reducible (first | exact rfl | assumption) | (first | exact rfl | assumption)) (by first | with_reducible (ktr_room) | (ktr_room)) (by first | with_reducible (ktr_units) | (ktr_units)) (by first | with_reducible (walk_at "MINE tab") | (walk_at "MINE tab")) (by first | with_reducible (walk_at "MINE tab") | (walk_at "MINE tab")) (by first | with_reducible (walk_at "MINE bnd") | (walk_at "MINE bnd")) (by first | with_reducible (walk_at "MINE bnd") | (walk_at "MINE bnd")) (by first | with_reducible (walk_at "MINE bnd") | (walk_at "MINE bnd")) (by first | with_reducible (walk_at "MINE bnd") | (walk_at "MINE bnd")) ?_)
  k_whole
  intro zl' zn' zu1' zu2' zh' ztk' zF' zN' zl1 zl2
  (try k_lt zl1)
  (try dsimp only)
  (try k_fold))
  k_with "MINE bnd" => (first
  | assumption
  | exact PIn.b1 (by assumption)
  | exact PIn.b2 (by assumption)
  | exact PIn.b3 (by assumption)
  | exact PIn.b4 (by assumption))
  k_with "call builtin:list.append" => (
  k_here
  k_dflt (refine append_K (by first | with_reducible (k_asm) | (k_asm)) (by first | with_reducible (k_asm) | (k_asm)) (by k_dflt (k_upd)) ?_ (by first | with_reducible (exact PIn.size (by assumption) (by assumption) (by assumption) (by assumption)) | (exact PIn.size (by assumption) (by assumption) (by assumption) (by assumption))))
  k_whole
  intro zh' zF' zN'
  (try k_sweep))
  k_with "pyIter ref" => (k_of "one" => k_state (fun pre num fnd => POut x pre num fnd) "number" "found")
  k_with "pyIter ref" => (k_of "turn" => k_state_short (fun pre num fnd => PIn x kPre kN pre num fnd) "number" "found")
  k_with "state" => first | exact pOut_start (by omega) (by omega) | exact pIn_start (by assumption) (rows_lo (by assumption)) (rows_hi (by assumption)) | exact pIn_hit (by assumption) (by assumption) (by assumption) | exact pIn_miss (by assumption) (fun _ => by assumption) | exact pIn_miss (by assumption) (fun h => absurd h (by assumption)) | exact pOut_step (by assumption) (by decide)
  intro dp un gd cn cs a ccd cl outer A₀ base h₀ L m s Q E B F X T hk hpre hd hu hret
  refine wpAny_call ?_
  k_dflt walk_at "MINE enterP"
  intro g L' h₁ hkg hsz F' N' B' X' T'
  have hab := Fr.above F'
  have ht1 := hpre.1.keeps hkg
  have ht2 := hpre.2.1.keeps hkg
  have hlst : g.IsList l _ := list_keeps2 hpre.2.2 hkg
  clear B F X T hpre
  (try dsimp only)
  (try k_fold)
  k_steps
  k_with_none
  all_goals (try dsimp only)
  all_goals first
    | (exfalso; exact parts_never (by assumption) hx0 hx1 (by assumption))
    | (refine hret _ _ _ (fun b o e => Fr.keep (by k_asm) b o (hkg b o e)) ⟨_, _, _, rfl, ?_, News.get (by k_asm) (by k_dflt k_mem), parts_done (by assumption) (by assumption)⟩
       have hab2 : s.heap.objs.size ≤ L' := hsz ▸ hab
       exact Nat.le_of_lt (Nat.lt_of_le_of_lt hab2 (by assumption)))
end Mine
end -- LawParts

section -- LawIns
open PySem PySem.Spec PySem.Calls PySem.W PyProof.Rows
set_option maxRecDepth 100000
set_option rowWalk.seconds 0
namespace Mine
set_option maxHeartbeats 1000000 in
theorem ins_0 {w p loose mean mg mb} {D : Addr} {x : Int} {t : Tok} {n : Nat}   : CallL w p loose mean mg mb 37 D [.ref D, .int x t] 4 [] n ([] ++ [x]) := by
  w_on
  refine (fun (h : (PySem.Challenge.rw_ib0002_01 = PySem.Challenge.rw_ib0002_01 ∧ Mine.hd.heap_39 = Mine.hd.heap_39) → _) => h ⟨rfl, rfl⟩) ?_
  k_fill
  intro _
  k_with_none
  k_with "MINE ne" => (refine neN ?_; (try dsimp only); first | exact Nat.ne_of_gt (by with_reducible assumption) | exact Nat.ne_of_lt (by with_reducible assumption) | exact Nat.ne_of_gt (And.left (by with_reducible assumption)) | exact Nat.ne_of_lt (And.left (by with_reducible assumption)) | exact Nat.ne_of_gt (And.left (And.right (by with_reducible assumption))) | exact Nat.ne_of_lt (And.left (And.right (by with_reducible assumption))) | exact Nat.ne_of_gt (And.left (And.right (And.right (by with_reducible assumption)))) | exact Nat.ne_of_lt (And.left (And.right (And.right (by with_reducible assumption)))) | exact Nat.ne_of_gt (And.left (And.right (And.right (And.right (by with_reducible assumption))))) | exact Nat.ne_of_lt (And.left (And.right (And.right (And.right (by with_reducible assumption))))) | exact Nat.ne_of_gt (And.left (And.right (And.right (And.right (And.right (by with_reducible assumption)))))) | exact Nat.ne_of_lt (And.left (And.right (And.right (And.right (And.right (by with_reducible assumption)))))) | exact Nat.ne_of_gt (And.left (And.right (And.right (And.right (And.right (And.right (by with_reducible assumption))))))) | exact Nat.ne_of_lt (And.left (And.right (And.right (And.right (And.right (And.right (by with_reducible assumption))))))) | exact Nat.ne_of_gt (And.left (And.right (And.right (And.right (And.right (And.right (And.right (by with_reducible assumption)))))))) | exact Nat.ne_of_lt (And.left (And.right (And.right (And.right (And.right (And.right (And.right (by with_reducible assumption)))))))) | exact Nat.ne_of_gt (And.left (And.right (And.right (And.right (And.right (And.right (And.right (And.right (by with_reducible assumption))))))))) | exact Nat.ne_of_lt (And.left (And.right (And.right (And.right (And.right (And.right (And.right (And.right (by with_reducible assumption))))))))) | exact Nat.ne_of_gt (And.left (And.right (And.right (And.right (And.right (And.right (And.right (And.right (And.right (by with_reducible assumption)))))))))) | exact Nat.ne_of_lt (And.left (And.right (And.right (And.right (And.right (And.right (And.right (And.right (And.right (by with_reducible assumption)))))))))) | exact Nat.ne_of_gt (And.right (by with_reducible assumption)) | exact Nat.ne_of_lt (And.right (by with_reducible assumption)) | exact Nat.ne_of_gt (And.right (And.right (by with_reducible assumption))) | exact Nat.ne_of_lt (And.right (And.right (by with_reducible assumption))) | exact Nat.ne_of_gt (And.right (And.right (And.right (by with_reducible assumption)))) | exact Nat.ne_of_lt (And.right (And.right (And.right (by with_reducible assumption)))) | exact Nat.ne_of_gt (And.right (And.right (And.right (And.right (by with_reducible assumption))))) | exact Nat.ne_of_lt (And.right (And.right (And.right (And.right (by with_reducible assumption))))) | exact Nat.ne_of_gt (And.right (And.right (And.right (And.right (And.right (by with_reducible assumption)))))) | exact Nat.ne_of_lt (And.right (And.right (And.right (And.right (And.right (by with_reducible assumption)))))) | exact Nat.ne_of_gt (And.right (And.right (And.right (And.right (And.right (And.right (by with_reducible assumption))))))) | exact Nat.ne_of_lt (And.right (And.right (And.right (And.right (And.right (And.right (by with_reducible assumption))))))) | exact Nat.ne_of_gt (And.right (And.right (And.right (And.right (And.right (And.right (And.right (by with_reducible assumption)))))))) | exact Nat.ne_of_lt (And.right (And.right (And.right (And.right (And.right (And.right (And.right (by with_reducible assumption)))))))) | exact Nat.ne_of_gt (And.right (And.right (And.right (And.right (And.right (And.right (And.right (And.right (by with_reducible assumption))))))))) | exact Nat.ne_of_lt (And.right (And.right (And.right (And.right (And.right (And.right (And.right (And.right (by with_reducible assumption))))))))) | exact (And.left (And.left (by with_reducible assumption))) | exact (And.left (And.right (And.left (by with_reducible assumption)))) | exact (And.right (And.right (And.left (by with_reducible assumption)))) | exact (And.left (And.left (And.right (by with_reducible assumption)))) | exact (And.left (And.right (And.left (And.right (by with_reducible assumption))))) | exact (And.right (And.right (And.left (And.right (by with_reducible assumption))))) | exact (And.left (And.right (by with_reducible assumption))) | exact (And.left (And.right (And.right (by with_reducible assumption)))) | exact (And.right (And.right (And.right (by with_reducible assumption)))) | exact (And.left (And.left (And.right (And.right (by with_reducible assumption))))) | exact (And.left (And.right (And.left (And.right (And.right (by with_reducible assumption)))))) | exact (And.right (And.right (And.left (And.right (And.right (by with_reducible assumption)))))) | exact (And.left (And.right (And.right (by with_reducible assumption)))) | exact (And.left (And.right (And.right (And.right (by with_reducible assumption))))) | exact (And.right (And.right (And.right (And.right (by with_reducible assumption))))) | exact (And.left (And.left (And.right (And.right (And.right (by with_reducible assumption)))))) | exact (And.left (And.right (And.left (And.right (And.right (And.right (by with_reducible assumption))))))) | exact (And.right (And.right (And.left (And.right (And.right (And.right (by with_reducible assumption))))))) | exact (And.left (And.right (And.right (And.right (by with_reducible assumption))))) | exact (And.left (And.right (And.right (And.right (And.right (by with_reducible assumption)))))) | exact (And.right (And.right (And.right (And.right (And.right (by with_reducible assumption)))))) | exact (And.left (And.left (And.right (And.right (And.right (And.right (by with_reducible assumption))))))) | exact (And.left (And.right (And.left (And.right (And.right (And.right (And.right (by with_reducible assumption)))))))) | exact (And.right (And.right (And.left (And.right (And.right (And.right (And.right (by with_reducible assumption)))))))) | exact (And.left (And.right (And.right (And.right (And.right (by with_reducible assumption)))))) | exact (And.left (And.right (And.right (And.right (And.right (And.right (by with_reducible assumption))))))) | exact (And.right (And.right (And.right (And.right (And.right (And.right (by with_reducible assumption))))))) | exact (And.left (And.left (And.right (And.right (And.right (And.right (And.right (by with_reducible assumption)))))))) | exact (And.left (And.right (And.left (And.right (And.right (And.right (And.right (And.right (by with_reducible assumption))))))))) | exact (And.right (And.right (And.left (And.right (And.right (And.right (And.right (And.right (by with_reducible assumption))))))))) | exact (And.left (And.right (And.right (And.right (And.right (And.right (by with_reducible assumption))))))) | exact (And.left (And.right (And.right (And.right (And.right (And.right (And.right (by with_reducible assumption)))))))) | exact (And.right (And.right (And.right (And.right (And.right (And.right (And.right (by with_reducible assumption)))))))) | exact (And.left (And.left (And.right (And.right (And.right (And.right (And.right (And.right (by with_reducible assumption))))))))) | exact (And.left (And.right (And.left (And.right (And.right (And.right (And.right (And.right (And.right (by with_reducible assumption)))))))))) | exact (And.right (And.right (And.left (And.right (And.right (And.right (And.right (And.right (And.right (by with_reducible assumption)))))))))) | exact (And.left (And.right (And.right (And.right (And.right (And.right (And.right (by with_reducible assumption)))))))) | exact (And.left (And.right (And.right (And.right (And.right (And.right (And.right (And.right (by with_reducible assumption))))))))) | exact (And.right (And.right (And.right (And.right (And.right (And.right (And.right (And.right (by with_reducible assumption))))))))) | exact (And.left (And.left (And.right (And.right (And.right (And.right (And.right (And.right (And.right (by with_reducible assumption)))))))))) | exact (And.left (And.right (And.left (And.right (And.right (And.right (And.right (And.right (And.right (And.right (by with_reducible assumption))))))))))) | exact (And.right (And.right (And.left (And.right (And.right (And.right (And.right (And.right (And.right (And.right (by with_reducible assumption))))))))))) | exact (And.left (And.right (And.right (And.right (And.right (And.right (And.right (And.right (by with_reducible assumption))))))))) | exact (And.left (And.right (And.right (And.right (And.right (And.right (And.right (And.right (And.right (by with_reducible assumption)))))))))) | exact (And.right (And.right (And.right (And.right (And.right (And.right (And.right (And.right (And.right (by with_reducible assumption)))))))))))
  k_with "MINE enterPN" => (
  refine enterPN (news := _) (by k_asm) (by k_asm) (by k_asm) (by k_asm) (by assumption) (by exact rfl) (by exact rfl) (by assumption) (by k_is) (by k_is) (by ktr_room) (by refine kp_binds (by exact Frag.In.keeps (by k_asm) (Fr.keep (by k_asm))) (by exact fun _ => rfl)) (by exact locs rfl) ?_ (by exact rfl) (by exact rfl) (by exact rfl) (by decide)
  k_whole)
  k_with "call builtin:list.insert" => (
  k_here
  k_dflt (refine kl_insert (by first | with_reducible (k_asm) | (k_asm)) (by first | with_reducible (k_asm) | (k_asm)) (by k_dflt (rfl)) (by k_dflt (rfl)) (by k_dflt (k_upd)) (by k_dflt (exact Nat.le_of_ble_eq_true rfl)) ?_)
  k_whole
  intro zh' zF' zN'
  (try k_sweep))
  k_with "call ref" => (
  k_here
  k_dflt (first
    | (refine use_call (bis_0 ) (by first | with_reducible (k_asm) | (k_asm)) (by first | with_reducible (k_asm) | (k_asm)) (by first | with_reducible (k_asm) | (k_asm)) (by first | with_reducible (k_asm) | (k_asm)) (by first | with_reducible (k_asm) | (k_asm)) (by first | with_reducible (first | exact rfl | assumption) | (first | exact rfl | assumption)) (by first | with_reducible (ktr_room) | (ktr_room)) (by first | with_reducible (ktr_units) | (ktr_units)) (by first | with_reducible (is_list) | (is_list)) ?_)
    | (refine use_call (bis_1 ?_) (by first | with_reducible (k_asm) | (k_asm)) (by first | with_reducible (k_asm) | (k_asm)) (by first | with_reducible (k_asm) | (k_asm)) (by first | with_reducible (k_asm) | (k_asm)) (by first | with_reducible (k_asm) | (k_asm)) (by first | with_reducible (first | exact rfl | assumption) | (first | exact rfl | assumption)) (by first | with_reducible (ktr_room) | (ktr_room)) (by first | with_reducible (ktr_units) | (ktr_units)) (by first | with_reducible (is_list) | (is_list)) ?_; (assumption))
    | (refine use_call (bis_2 ?_ ?_) (by first | with_reducible (k_asm) | (k_asm)) (by first | with_reducible (k_asm) | (k_asm)) (by first | with_reducible (k_asm) | (k_asm)) (by first | with_reducible (k_asm) | (k_asm)) (by first | with_reducible (k_asm) | (k_asm)) (by first | with_reducible (first | exact rfl | assumption) | (first | exact rfl | assumption)) (by first | with_reducible (ktr_room) | (ktr_room)) (by first | with_reducible (ktr_units) | (ktr_units)) (by first | with_reducible (is_list) | (is_list)) ?_; (assumption); (assumption))
    | (refine use_call (bis_3 ?_ ?_ ?_) (by first | with_reducible (k_asm) | (k_asm)) (by first | with_reducible (k_asm) | (k_asm)) (by first | with_reducible (k_asm) | (k_asm)) (by first | with_reducible (k_asm) | (k_asm)) (by first | with_reducible (k_asm) | (k_asm)) (by first | with_reducible (first | exact rfl | assumption) | (first | exact rfl | assumption)) (by first | with_reducible (ktr_room) | (ktr_room)) (by first | with_reducible (ktr_units) | (ktr_units)) (by first | with_reducible (is_list) | (is_list)) ?_; (assumption); (assumption); (assumption))
    | (refine use_call (bis_4 ?_ ?_ ?_ ?_) (by first | with_reducible (k_asm) | (k_asm)) (by first | with_reducible (k_asm) | (k_asm)) (by first | with_reducible (k_asm) | (k_asm)) (by first | with_reducible (k_asm) | (k_asm)) (by first | with_reducible (k_asm) | (k_asm)) (by first | with_reducible (first | exact rfl | assumption) | (first | exact rfl | assumption)) (by first | with_reducible (ktr_room) | (ktr_room)) (by first | with_reducible (ktr_units) | (ktr_units)) (by first | with_reducible (is_list) | (is_list)) ?_; (assumption); (assumption); (assumption); (assumption)))
  k_whole
  intro zv' zh' ztk' zF' zN' zk' zp'
  obtain ⟨zu', ze'⟩ := zp'
  subst ze'
  (try dsimp only)
  (try k_fold))
  intro dp un gd cn cs a ccd cl outer A₀ base h₀ L m s Q E B F X T hk N hd hu hret
  refine wpAny_call ?_
  k_dflt walk_at "MINE enterPN"
  intro g L' h₁ hkg hsz F' N' B' X' T' hlt
  have hkg : ∀ b o, b ≠ D → s.heap.get? b = some o → g.get? b = some o := fun b o nb e => hkg b o (fun q => nb (List.mem_singleton.mp q)) e
  clear B F X T N
  (try dsimp only)
  (try k_fold)
  k_steps
  all_goals (refine hret _ _ _ _ (fun b o nb e => Fr.keep (by k_asm) b o (hkg b o nb e)) (News.get (by k_asm) (List.Mem.head _)) ?_)
  all_goals exact (IntsAre.cons _ _ .nil)
set_option maxHeartbeats 1000000 in
theorem ins_1 {w p loose mean mg mb} {D : Addr} {x : Int} {t : Tok} {n : Nat} {a0 : Int} {u0 : Tok} (b0 : a0 < x) : CallL w p loose mean mg mb 37 D [.ref D, .int x t] 4 [.int a0 u0] n ([a0] ++ [x]) := by
  w_on
  refine (fun (h : (PySem.Challenge.rw_ib0002_01 = PySem.Challenge.rw_ib0002_01 ∧ Mine.hd.heap_39 = Mine.hd.heap_39) → _) => h ⟨rfl, rfl⟩) ?_
  k_fill
  intro _
  k_with_none
  k_with "MINE ne" => (refine neN ?_; (try dsimp only); first | exact Nat.ne_of_gt (by with_reducible assumption) | exact Nat.ne_of_lt (by with_reducible assumption) | exact Nat.ne_of_gt (And.left (by with_reducible assumption)) | exact Nat.ne_of_lt (And.left (by with_reducible assumption)) | exact Nat.ne_of_gt (And.left (And.right (by with_reducible assumption))) | exact Nat.ne_of_lt (And.left (And.right (by with_reducible assumption))) | exact Nat.ne_of_gt (And.left (And.right (And.right (by with_reducible assumption)))) | exact Nat.ne_of_lt (And.left (And.right (And.right (by with_reducible assumption)))) | exact Nat.ne_of_gt (And.left (And.right (And.right (And.right (by with_reducible assumption))))) | exact Nat.ne_of_lt (And.left (And.right (And.right (And.right (by with_reducible assumption))))) | exact Nat.ne_of_gt (And.left (And.right (And.right (And.right (And.right (by with_reducible assumption)))))) | exact Nat.ne_of_lt (And.left (And.right (And.right (And.right (And.right (by with_reducible assumption)))))) | exact Nat.ne_of_gt (And.left (And.right (And.right (And.right (And.right (And.right (by with_reducible assumption))))))) | exact Nat.ne_of_lt (And.left (And.right (And.right (And.right (And.right (And.right (by with_reducible assumption))))))) | exact Nat.ne_of_gt (And.left (And.right (And.right (And.right (And.right (And.right (And.right (by with_reducible assumption)))))))) | exact Nat.ne_of_lt (And.left (And.right (And.right (And.right (And.right (And.right (And.right (by with_reducible assumption)))))))) | exact Nat.ne_of_gt (And.left (And.right (And.right (And.right (And.right (And.right (And.right (And.right (by with_reducible assumption))))))))) | exact Nat.ne_of_lt (And.left (And.right (And.right (And.right (And.right (And.right (And.right (And.right (by with_reducible assumption))))))))) | exact Nat.ne_of_gt (And.left (And.right (And.right (And.right (And.right (And.right (And.right (And.right (And.right (by with_reducible assumption)))))))))) | exact Nat.ne_of_lt (And.left (And.right (And.right (And.right (And.right (And.right (And.right (And.right (And.right (by with_reducible assumption)))))))))) | exact Nat.ne_of_gt (And.right (by with_reducible assumption)) | exact Nat.ne_of_lt (And.right (by with_reducible assumption)) | exact Nat.ne_of_gt (And.right (And.right (by with_reducible assumption))) | exact Nat.ne_of_lt (And.right (And.right (by with_reducible assumption))) | exact Nat.ne_of_gt (And.right (And.right (And.right (by with_reducible assumption)))) | exact Nat.ne_of_lt (And.right (And.right (And.right (by with_reducible assumption)))) | exact Nat.ne_of_gt (And.right (And.right (And.right (And.right (by with_reducible assumption))))) | exact Nat.ne_of_lt (And.right (And.right (And.right (And.right (by with_reducible assumption))))) | exact Nat.ne_of_gt (And.right (And.right (And.right (And.right (And.right (by with_reducible assumption)))))) | exact Nat.ne_of_lt (And.right (And.right (And.right (And.right (And.right (by with_reducible assumption)))))) | exact Nat.ne_of_gt (And.right (And.right (And.right (And.right (And.right (And.right (by with_reducible assumption))))))) | exact Nat.ne_of_lt (And.right (And.right (And.right (And.right (And.right (And.right (by with_reducible assumption))))))) | exact Nat.ne_of_gt (And.right (And.right (And.right (And.right (And.right (And.right (And.right (by with_reducible assumption)))))))) | exact Nat.ne_of_lt (And.right (And.right (And.right (And.right (And.right (And.right (And.right (by with_reducible assumption)))))))) | exact Nat.ne_of_gt (And.right (And.right (And.right (And.right (And.right (And.right (And.right (And.right (by with_reducible assumption))))))))) | exact Nat.ne_of_lt (And.right (And.right (And.right (And.right (And.right (And.right (And.right (And.right (by with_reducible assumption))))))))) | exact (And.left (And.left (by with_reducible assumption))) | exact (And.left (And.right (And.left (by with_reducible assumption)))) | exact (And.right (And.right (And.left (by with_reducible assumption)))) | exact (And.left (And.left (And.right (by with_reducible assumption)))) | exact (And.left (And.right (And.left (And.right (by with_reducible assumption))))) | exact (And.right (And.right (And.left (And.right (by with_reducible assumption))))) | exact (And.left (And.right (by with_reducible assumption))) | exact (And.left (And.right (And.right (by with_reducible assumption)))) | exact (And.right (And.right (And.right (by with_reducible assumption)))) | exact (And.left (And.left (And.right (And.right (by with_reducible assumption))))) | exact (And.left (And.right (And.left (And.right (And.right (by with_reducible assumption)))))) | exact (And.right (And.right (And.left (And.right (And.right (by with_reducible assumption)))))) | exact (And.left (And.right (And.right (by with_reducible assumption)))) | exact (And.left (And.right (And.right (And.right (by with_reducible assumption))))) | exact (And.right (And.right (And.right (And.right (by with_reducible assumption))))) | exact (And.left (And.left (And.right (And.right (And.right (by with_reducible assumption)))))) | exact (And.left (And.right (And.left (And.right (And.right (And.right (by with_reducible assumption))))))) | exact (And.right (And.right (And.left (And.right (And.right (And.right (by with_reducible assumption))))))) | exact (And.left (And.right (And.right (And.right (by with_reducible assumption))))) | exact (And.left (And.right (And.right (And.right (And.right (by with_reducible assumption)))))) | exact (And.right (And.right (And.right (And.right (And.right (by with_reducible assumption)))))) | exact (And.left (And.left (And.right (And.right (And.right (And.right (by with_reducible assumption))))))) | exact (And.left (And.right (And.left (And.right (And.right (And.right (And.right (by with_reducible assumption)))))))) | exact (And.right (And.right (And.left (And.right (And.right (And.right (And.right (by with_reducible assumption)))))))) | exact (And.left (And.right (And.right (And.right (And.right (by with_reducible assumption)))))) | exact (And.left (And.right (And.right (And.right (And.right (And.right (by with_reducible assumption))))))) | exact (And.right (And.right (And.right (And.right (And.right (And.right (by with_reducible assumption))))))) | exact (And.left (And.left (And.right (And.right (And.right (And.right (And.right (by with_reducible assumption)))))))) | exact (And.left (And.right (And.left (And.right (And.right (And.right (And.right (And.right (by with_reducible assumption))))))))) | exact (And.right (And.right (And.left (And.right (And.right (And.right (And.right (And.right (by with_reducible assumption))))))))) | exact (And.left (And.right (And.right (And.right (And.right (And.right (by with_reducible assumption))))))) | exact (And.left (And.right (And.right (And.right (And.right (And.right (And.right (by with_reducible assumption)))))))) | exact (And.right (And.right (And.right (And.right (And.right (And.right (And.right (by with_reducible assumption)))))))) | exact (And.left (And.left (And.right (And.right (And.right (And.right (And.right (And.right (by with_reducible assumption))))))))) | exact (And.left (And.right (And.left (And.right (And.right (And.right (And.right (And.right (And.right (by with_reducible assumption)))))))))) | exact (And.right (And.right (And.left (And.right (And.right (And.right (And.right (And.right (And.right (by with_reducible assumption)))))))))) | exact (And.left (And.right (And.right (And.right (And.right (And.right (And.right (by with_reducible assumption)))))))) | exact (And.left (And.right (And.right (And.right (And.right (And.right (And.right (And.right (by with_reducible assumption))))))))) | exact (And.right (And.right (And.right (And.right (And.right (And.right (And.right (And.right (by with_reducible assumption))))))))) | exact (And.left (And.left (And.right (And.right (And.right (And.right (And.right (And.right (And.right (by with_reducible assumption)))))))))) | exact (And.left (And.right (And.left (And.right (And.right (And.right (And.right (And.right (And.right (And.right (by with_reducible assumption))))))))))) | exact (And.right (And.right (And.left (And.right (And.right (And.right (And.right (And.right (And.right (And.right (by with_reducible assumption))))))))))) | exact (And.left (And.right (And.right (And.right (And.right (And.right (And.right (And.right (by with_reducible assumption))))))))) | exact (And.left (And.right (And.right (And.right (And.right (And.right (And.right (And.right (And.right (by with_reducible assumption)))))))))) | exact (And.right (And.right (And.right (And.right (And.right (And.right (And.right (And.right (And.right (by with_reducible assumption)))))))))))
  k_with "MINE enterPN" => (
  refine enterPN (news := _) (by k_asm) (by k_asm) (by k_asm) (by k_asm) (by assumption) (by exact rfl) (by exact rfl) (by assumption) (by k_is) (by k_is) (by ktr_room) (by refine kp_binds (by exact Frag.In.keeps (by k_asm) (Fr.keep (by k_asm))) (by exact fun _ => rfl)) (by exact locs rfl) ?_ (by exact rfl) (by exact rfl) (by exact rfl) (by decide)
  k_whole)
  k_with "call builtin:list.insert" => (
  k_here
  k_dflt (refine kl_insert (by first | with_reducible (k_asm) | (k_asm)) (by first | with_reducible (k_asm) | (k_asm)) (by k_dflt (rfl)) (by k_dflt (rfl)) (by k_dflt (k_upd)) (by k_dflt (exact Nat.le_of_ble_eq_true rfl)) ?_)
  k_whole
  intro zh' zF' zN'
  (try k_sweep))
  k_with "call ref" => (
  k_here
  k_dflt (first
    | (refine use_call (bis_0 ) (by first | with_reducible (k_asm) | (k_asm)) (by first | with_reducible (k_asm) | (k_asm)) (by first | with_reducible (k_asm) | (k_asm)) (by first | with_reducible (k_asm) | (k_asm)) (by first | with_reducible (k_asm) | (k_asm)) (by first | with_reducible (first | exact rfl | assumption) | (first | exact rfl | assumption)) (by first | with_reducible (ktr_room) | (ktr_room)) (by first | with_reducible (ktr_units) | (ktr_units)) (by first | with_reducible (is_list) | (is_list)) ?_)
    | (refine use_call (bis_1 ?_) (by first | with_reducible (k_asm) | (k_asm)) (by first | with_reducible (k_asm) | (k_asm)) (by first | with_reducible (k_asm) | (k_asm)) (by first | with_reducible (k_asm) | (k_asm)) (by first | with_reducible (k_asm) | (k_asm)) (by first | with_reducible (first | exact rfl | assumption) | (first | exact rfl | assumption)) (by first | with_reducible (ktr_room) | (ktr_room)) (by first | with_reducible (ktr_units) | (ktr_units)) (by first | with_reducible (is_list) | (is_list)) ?_; (assumption))
    | (refine use_call (bis_2 ?_ ?_) (by first | with_reducible (k_asm) | (k_asm)) (by first | with_reducible (k_asm) | (k_asm)) (by first | with_reducible (k_asm) | (k_asm)) (by first | with_reducible (k_asm) | (k_asm)) (by first | with_reducible (k_asm) | (k_asm)) (by first | with_reducible (first | exact rfl | assumption) | (first | exact rfl | assumption)) (by first | with_reducible (ktr_room) | (ktr_room)) (by first | with_reducible (ktr_units) | (ktr_units)) (by first | with_reducible (is_list) | (is_list)) ?_; (assumption); (assumption))
    | (refine use_call (bis_3 ?_ ?_ ?_) (by first | with_reducible (k_asm) | (k_asm)) (by first | with_reducible (k_asm) | (k_asm)) (by first | with_reducible (k_asm) | (k_asm)) (by first | with_reducible (k_asm) | (k_asm)) (by first | with_reducible (k_asm) | (k_asm)) (by first | with_reducible (first | exact rfl | assumption) | (first | exact rfl | assumption)) (by first | with_reducible (ktr_room) | (ktr_room)) (by first | with_reducible (ktr_units) | (ktr_units)) (by first | with_reducible (is_list) | (is_list)) ?_; (assumption); (assumption); (assumption))
    | (refine use_call (bis_4 ?_ ?_ ?_ ?_) (by first | with_reducible (k_asm) | (k_asm)) (by first | with_reducible (k_asm) | (k_asm)) (by first | with_reducible (k_asm) | (k_asm)) (by first | with_reducible (k_asm) | (k_asm)) (by first | with_reducible (k_asm) | (k_asm)) (by first | with_reducible (first | exact rfl | assumption) | (first | exact rfl | assumption)) (by first | with_reducible (ktr_room) | (ktr_room)) (by first | with_reducible (ktr_units) | (ktr_units)) (by first | with_reducible (is_list) | (is_list)) ?_; (assumption); (assumption); (assumption); (assumption)))
  k_whole
  intro zv' zh' ztk' zF' zN' zk' zp'
  obtain ⟨zu', ze'⟩ := zp'
  subst ze'
  (try dsimp only)
  (try k_fold))
  intro dp un gd cn cs a ccd cl outer A₀ base h₀ L m s Q E B F X T hk N hd hu hret
  refine wpAny_call ?_
  k_dflt walk_at "MINE enterPN"
  intro g L' h₁ hkg hsz F' N' B' X' T' hlt
  have hkg : ∀ b o, b ≠ D → s.heap.get? b = some o → g.get? b = some o := fun b o nb e => hkg b o (fun q => nb (List.mem_singleton.mp q)) e
  clear B F X T N
  (try dsimp only)
  (try k_fold)
  k_steps
  all_goals (refine hret _ _ _ _ (fun b o nb e => Fr.keep (by k_asm) b o (hkg b o nb e)) (News.get (by k_asm) (List.Mem.head _)) ?_)
  all_goals exact (IntsAre.cons _ _ (.cons _ _ .nil))
set_option maxHeartbeats 1000000 in
theorem ins_2 {w p loose mean mg mb} {D : Addr} {x : Int} {t : Tok} {n : Nat} {a0 : Int} {u0 : Tok} {a1 : Int} {u1 : Tok} (b0 : a0 < x) (b1 : a1 < x) : CallL w p loose mean mg mb 37 D [.ref D, .int x t] 4 [.int a0 u0, .int a1 u1] n ([a0, a1] ++ [x]) := by
  w_on
  refine (fun (h : (PySem.Challenge.rw_ib0002_01 = PySem.Challenge.rw_ib0002_01 ∧ Mine.hd.heap_39 = Mine.hd.heap_39) → _) => h ⟨rfl, rfl⟩) ?_
  k_fill
  intro _
  k_with_none
  k_with "MINE ne" => (refine neN ?_; (try dsimp only); first | exact Nat.ne_of_gt (by with_reducible assumption) | exact Nat.ne_of_lt (by with_reducible assumption) | exact Nat.ne_of_gt (And.left (by with_reducible assumption)) | exact Nat.ne_of_lt (And.left (by with_reducible assumption)) | exact Nat.ne_of_gt (And.left (And.right (by with_reducible assumption))) | exact Nat.ne_of_lt (And.left (And.right (by with_reducible assumption))) | exact Nat.ne_of_gt (And.left (And.right (And.right (by with_reducible assumption)))) | exact Nat.ne_of_lt (And.left (And.right (And.right (by with_reducible assumption)))) | exact Nat.ne_of_gt (And.left (And.right (And.right (And.right (by with_reducible assumption))))) | exact Nat.ne_of_lt (And.left (And.right (And.right (And.right (by with_reducible assumption))))) | exact Nat.ne_of_gt (And.left (And.right (And.right (And.right (And.right (by with_reducible assumption)))))) | exact Nat.ne_of_lt (And.left (And.right (And.right (And.right (And.right (by with_reducible assumption)))))) | exact Nat.ne_of_gt (And.left (And.right (And.right (And.right (And.right (And.right (by with_reducible assumption))))))) | exact Nat.ne_of_lt (And.left (And.right (And.right (And.right (And.right (And.right (by with_reducible assumption))))))) | exact Nat.ne_of_gt (And.left (And.right (And.right (And.right (And.right (And.right (And.right (by with_reducible assumption)))))))) | exact Nat.ne_of_lt (And.left (And.right (And.right (And.right (And.right (And.right (And.right (by with_reducible assumption)))))))) | exact Nat.ne_of_gt (And.left (And.right (And.right (And.right (And.right (And.right (And.right (And.right (by with_reducible assumption))))))))) | exact Nat.ne_of_lt (And.left (And.right (And.right (And.right (And.right (And.right (And.right (And.right (by with_reducible assumption))))))))) | exact Nat.ne_of_gt (And.left (And.right (And.right (And.right (And.right (And.right (And.right (And.right (And.right (by with_reducible assumption)))))))))) | exact Nat.ne_of_lt (And.left (And.right (And.right (And.right (And.right (And.right (And.right (And.right (And.right (by with_reducible assumption)))))))))) | exact Nat.ne_of_gt (And.right (by with_reducible assumption)) | exact Nat.ne_of_lt (And.right (by with_reducible assumption)) | exact Nat.ne_of_gt (And.right (And.right (by with_reducible assumption))) | exact Nat.ne_of_lt (And.right (And.right (by with_reducible assumption))) | exact Nat.ne_of_gt (And.right (And.right (And.right (by with_reducible assumption)))) | exact Nat.ne_of_lt (And.right (And.right (And.right (by with_reducible assumption)))) | exact Nat.ne_of_gt (And.right (And.right (And.right (And.right (by with_reducible assumption))))) | exact Nat.ne_of_lt (And.right (And.right (And.right (And.right (by with_reducible assumption))))) | exact Nat.ne_of_gt (And.right (And.right (And.right (And.right (And.right (by with_reducible assumption)))))) | exact Nat.ne_of_lt (And.right (And.right (And.right (And.right (And.right (by with_reducible assumption)))))) | exact Nat.ne_of_gt (And.right (And.right (And.right (And.right (And.right (And.right (by with_reducible assumption))))))) | exact Nat.ne_of_lt (And.right (And.right (And.right (And.right (And.right (And.right (by with_reducible assumption))))))) | exact Nat.ne_of_gt (And.right (And.right (And.right (And.right (And.right (And.right (And.right (by with_reducible assumption)))))))) | exact Nat.ne_of_lt (And.right (And.right (And.right (And.right (And.right (And.right (And.right (by with_reducible assumption)))))))) | exact Nat.ne_of_gt (And.right (And.right (And.right (And.right (And.right (And.right (And.right (And.right (by with_reducible assumption))))))))) | exact Nat.ne_of_lt (And.right (And.right (And.right (And.right (And.right (And.right (And.right (And.right (by with_reducible assumption))))))))) | exact (And.left (And.left (by with_reducible assumption))) | exact (And.left (And.right (And.left (by with_reducible assumption)))) | exact (And.right (And.right (And.left (by with_reducible assumption)))) | exact (And.left (And.left (And.right (by with_reducible assumption)))) | exact (And.left (And.right (And.left (And.right (by with_reducible assumption))))) | exact (And.right (And.right (And.left (And.right (by with_reducible assumption))))) | exact (And.left (And.right (by with_reducible assumption))) | exact (And.left (And.right (And.right (by with_reducible assumption)))) | exact (And.right (And.right (And.right (by with_reducible assumption)))) | exact (And.left (And.left (And.right (And.right (by with_reducible assumption))))) | exact (And.left (And.right (And.left (And.right (And.right (by with_reducible assumption)))))) | exact (And.right (And.right (And.left (And.right (And.right (by with_reducible assumption)))))) | exact (And.left (And.right (And.right (by with_reducible assumption)))) | exact (And.left (And.right (And.right (And.right (by with_reducible assumption))))) | exact (And.right (And.right (And.right (And.right (by with_reducible assumption))))) | exact (And.left (And.left (And.right (And.right (And.right (by with_reducible assumption)))))) | exact (And.left (And.right (And.left (And.right (And.right (And.right (by with_reducible assumption))))))) | exact (And.right (And.right (And.left (And.right (And.right (And.right (by with_reducible assumption))))))) | exact (And.left (And.right (And.right (And.right (by with_reducible assumption))))) | exact (And.left (And.right (And.right (And.right (And.right (by with_reducible assumption)))))) | exact (And.right (And.right (And.right (And.right (And.right (by with_reducible assumption)))))) | exact (And.left (And.left (And.right (And.right (And.right (And.right (by with_reducible assumption))))))) | exact (And.left (And.right (And.left (And.right (And.right (And.right (And.right (by with_reducible assumption)))))))) | exact (And.right (And.right (And.left (And.right (And.right (And.right (And.right (by with_reducible assumption)))))))) | exact (And.left (And.right (And.right (And.right (And.right (by with_reducible assumption)))))) | exact (And.left (And.right (And.right (And.right (And.right (And.right (by with_reducible assumption))))))) | exact (And.right (And.right (And.right (And.right (And.right (And.right (by with_reducible assumption))))))) | exact (And.left (And.left (And.right (And.right (And.right (And.right (And.right (by with_reducible assumption)))))))) | exact (And.left (And.right (And.left (And.right (And.right (And.right (And.right (And.right (by with_reducible assumption))))))))) | exact (And.right (And.right (And.left (And.right (And.right (And.right (And.right (And.right (by with_reducible assumption))))))))) | exact (And.left (And.right (And.right (And.right (And.right (And.right (by with_reducible assumption))))))) | exact (And.left (And.right (And.right (And.right (And.right (And.right (And.right (by with_reducible assumption)))))))) | exact (And.right (And.right (And.right (And.right (And.right (And.right (And.right (by with_reducible assumption)))))))) | exact (And.left (And.left (And.right (And.right (And.right (And.right (And.right (And.right (by with_reducible assumption))))))))) | exact (And.left (And.right (And.left (And.right (And.right (And.right (And.right (And.right (And.right (by with_reducible assumption)))))))))) | exact (And.right (And.right (And.left (And.right (And.right (And.right (And.right (And.right (And.right (by with_reducible assumption)))))))))) | exact (And.left (And.right (And.right (And.right (And.right (And.right (And.right (by with_reducible assumption)))))))) | exact (And.left (And.right (And.right (And.right (And.right (And.right (And.right (And.right (by with_reducible assumption))))))))) | exact (And.right (And.right (And.right (And.right (And.right (And.right (And.right (And.right (by with_reducible assumption))))))))) | exact (And.left (And.left (And.right (And.right (And.right (And.right (And.right (And.right (And.right (by with_reducible assumption)))))))))) | exact (And.left (And.right (And.left (And.right (And.right (And.right (And.right (And.right (And.right (And.right (by with_reducible assumption))))))))))) | exact (And.right (And.right (And.left (And.right (And.right (And.right (And.right (And.right (And.right (And.right (by with_reducible assumption))))))))))) | exact (And.left (And.right (And.right (And.right (And.right (And.right (And.right (And.right (by with_reducible assumption))))))))) | exact (And.left (And.right (And.right (And.right (And.right (And.right (And.right (And.right (And.right (by with_reducible assumption)))))))))) | exact (And.right (And.right (And.right (And.right (And.right (And.right (And.right (And.right (And.right (by with_reducible assumption)))))))))))
  k_with "MINE enterPN" => (
  refine enterPN (news := _) (by k_asm) (by k_asm) (by k_asm) (by k_asm) (by assumption) (by exact rfl) (by exact rfl) (by assumption) (by k_is) (by k_is) (by ktr_room) (by refine kp_binds (by exact Frag.In.keeps (by k_asm) (Fr.keep (by k_asm))) (by exact fun _ => rfl)) (by exact locs rfl) ?_ (by exact rfl) (by exact rfl) (by exact rfl) (by decide)
  k_whole)
  k_with "call builtin:list.insert" => (
  k_here
  k_dflt (refine kl_insert (by first | with_reducible (k_asm) | (k_asm)) (by first | with_reducible (k_asm) | (k_asm)) (by k_dflt (rfl)) (by k_dflt (rfl)) (by k_dflt (k_upd)) (by k_dflt (exact Nat.le_of_ble_eq_true rfl)) ?_)
  k_whole
  intro zh' zF' zN'
  (try k_sweep))
  k_with "call ref" => (
  k_here
  k_dflt (first
    | (refine use_call (bis_0 ) (by first | with_reducible (k_asm) | (k_asm)) (by first | with_reducible (k_asm) | (k_asm)) (by first | with_reducible (k_asm) | (k_asm)) (by first | with_reducible (k_asm) | (k_asm)) (by first | with_reducible (k_asm) | (k_asm)) (by first | with_reducible (first | exact rfl | assumption) | (first | exact rfl | assumption)) (by first | with_reducible (ktr_room) | (ktr_room)) (by first | with_reducible (ktr_units) | (ktr_units)) (by first | with_reducible (is_list) | (is_list)) ?_)
    | (refine use_call (bis_1 ?_) (by first | with_reducible (k_asm) | (k_asm)) (by first | with_reducible (k_asm) | (k_asm)) (by first | with_reducible (k_asm) | (k_asm)) (by first | with_reducible (k_asm) | (k_asm)) (by first | with_reducible (k_asm) | (k_asm)) (by first | with_reducible (first | exact rfl | assumption) | (first | exact rfl | assumption)) (by first | with_reducible (ktr_room) | (ktr_room)) (by first | with_reducible (ktr_units) | (ktr_units)) (by first | with_reducible (is_list) | (is_list)) ?_; (assumption))
    | (refine use_call (bis_2 ?_ ?_) (by first | with_reducible (k_asm) | (k_asm)) (by first | with_reducible (k_asm) | (k_asm)) (by first | with_reducible (k_asm) | (k_asm)) (by first | with_reducible (k_asm) | (k_asm)) (by first | with_reducible (k_asm) | (k_asm)) (by first | with_reducible (first | exact rfl | assumption) | (first | exact rfl | assumption)) (by first | with_reducible (ktr_room) | (ktr_room)) (by first | with_reducible (ktr_units) | (ktr_units)) (by first | with_reducible (is_list) | (is_list)) ?_; (assumption); (assumption))
    | (refine use_call (bis_3 ?_ ?_ ?_) (by first | with_reducible (k_asm) | (k_asm)) (by first | with_reducible (k_asm) | (k_asm)) (by first | with_reducible (k_asm) | (k_asm)) (by first | with_reducible (k_asm) | (k_asm)) (by first | with_reducible (k_asm) | (k_asm)) (by first | with_reducible (first | exact rfl | assumption) | (first | exact rfl | assumption)) (by first | with_reducible (ktr_room) | (ktr_room)) (by first | with_reducible (ktr_units) | (ktr_units)) (by first | with_reducible (is_list) | (is_list)) ?_; (assumption); (assumption); (assumption))
    | (refine use_call (bis_4 ?_ ?_ ?_ ?_) (by first | with_reducible (k_asm) | (k_asm)) (by first | with_reducible (k_asm) | (k_asm)) (by first | with_reducible (k_asm) | (k_asm)) (by first | with_reducible (k_asm) | (k_asm)) (by first | with_reducible (k_asm) | (k_asm)) (by first | with_reducible (first | exact rfl | assumption) | (first | exact rfl | assumption)) (by first | with_reducible (ktr_room) | (ktr_room)) (by first | with_reducible (ktr_units) | (ktr_units)) (by first | with_reducible (is_list) | (is_list)) ?_; (assumption); (assumption); (assumption); (assumption)))
  k_whole
  intro zv' zh' ztk' zF' zN' zk' zp'
  obtain ⟨zu', ze'⟩ := zp'
  subst ze'
  (try dsimp only)
  (try k_fold))
  intro dp un gd cn cs a ccd cl outer A₀ base h₀ L m s Q E B F X T hk N hd hu hret
  refine wpAny_call ?_
  k_dflt walk_at "MINE enterPN"
  intro g L' h₁ hkg hsz F' N' B' X' T' hlt
  have hkg : ∀ b o, b ≠ D → s.heap.get? b = some o → g.get? b = some o := fun b o nb e => hkg b o (fun q => nb (List.mem_singleton.mp q)) e
  clear B F X T N
  (try dsimp only)
  (try k_fold)
  k_steps
  all_goals (refine hret _ _ _ _ (fun b o nb e => Fr.keep (by k_asm) b o (hkg b o nb e)) (News.get (by k_asm) (List.Mem.head _)) ?_)
  all_goals exact (IntsAre.cons _ _ (.cons _ _ (.cons _ _ .nil)))
set_option maxHeartbeats 1000000 in
theorem ins_3 {w p loose mean mg mb} {D : Addr} {x : Int} {t : Tok} {n : Nat} {a0 : Int} {u0 : Tok} {a1 : Int} {u1 : Tok} {a2 : Int} {u2 : Tok} (b0 : a0 < x) (b1 : a1 < x) (b2 : a2 < x) : CallL w p loose mean mg mb 37 D [.ref D, .int x t] 4 [.int a0 u0, .int a1 u1, .int a2 u2] n ([a0, a1, a2] ++ [x]) := by
  w_on
  refine (fun (h : (PySem.Challenge.rw_ib0002_01 = PySem.Challenge.rw_ib0002_01 ∧ Mine.hd.heap_39 = Mine.hd.heap_39) → _) => h ⟨rfl, rfl⟩) ?_
  k_fill
  intro _
  k_with_none
  k_with "MINE ne" => (refine neN ?_; (try dsimp only); first | exact Nat.ne_of_gt (by with_reducible assumption) | exact Nat.ne_of_lt (by with_reducible assumption) | exact Nat.ne_of_gt (And.left (by with_reducible assumption)) | exact Nat.ne_of_lt (And.left (by with_reducible assumption)) | exact Nat.ne_of_gt (And.left (And.right (by with_reducible assumption))) | exact Nat.ne_of_lt (And.left (And.right (by with_reducible assumption))) | exact Nat.ne_of_gt (And.left (And.right (And.right (by with_reducible assumption)))) | exact Nat.ne_of_lt (And.left (And.right (And.right (by with_reducible assumption)))) | exact Nat.ne_of_gt (And.left (And.right (And.right (And.right (by with_reducible assumption))))) | exact Nat.ne_of_lt (And.left (And.right (And.right (And.right (by with_reducible assumption))))) | exact Nat.ne_of_gt (And.left (And.right (And.right (And.right (And.right (by with_reducible assumption)))))) | exact Nat.ne_of_lt (And.left (And.right (And.right (And.right (And.right (by with_reducible assumption)))))) | exact Nat.ne_of_gt (And.left (And.right (And.right (And.right (And.right (And.right (by with_reducible assumption))))))) | exact Nat.ne_of_lt (And.left (And.right (And.right (And.right (And.right (And.right (by with_reducible assumption))))))) | exact Nat.ne_of_gt (And.left (And.right (And.right (And.right (And.right (And.right (And.right (by with_reducible assumption)))))))) | exact Nat.ne_of_lt (And.left (And.right (And.right (And.right (And.right (And.right (And.right (by with_reducible assumption)))))))) | exact Nat.ne_of_gt (And.left (And.right (And.right (And.right (And.right (And.right (And.right (And.right (by with_reducible assumption))))))))) | exact Nat.ne_of_lt (And.left (And.right (And.right (And.right (And.right (And.right (And.right (And.right (by with_reducible assumption))))))))) | exact Nat.ne_of_gt (And.left (And.right (And.right (And.right (And.right (And.right (And.right (And.right (And.right (by with_reducible assumption)))))))))) | exact Nat.ne_of_lt (And.left (And.right (And.right (And.right (And.right (And.right (And.right (And.right (And.right (by with_reducible assumption)))))))))) | exact Nat.ne_of_gt (And.right (by with_reducible assumption)) | exact Nat.ne_of_lt (And.right (by with_reducible assumption)) | exact Nat.ne_of_gt (And.right (And.right (by with_reducible assumption))) | exact Nat.ne_of_lt (And.right (And.right (by with_reducible assumption))) | exact Nat.ne_of_gt (And.right (And.right (And.right (by with_reducible assumption)))) | exact Nat.ne_of_lt (And.right (And.right (And.right (by with_reducible assumption)))) | exact Nat.ne_of_gt (And.right (And.right (And.right (And.right (by with_reducible assumption))))) | exact Nat.ne_of_lt (And.right (And.right (And.right (And.right (by with_reducible assumption))))) | exact Nat.ne_of_gt (And.right (And.right (And.right (And.right (And.right (by with_reducible assumption)))))) | exact Nat.ne_of_lt (And.right (And.right (And.right (And.right (And.right (by with_reducible assumption)))))) | exact Nat.ne_of_gt (And.right (And.right (And.right (And.right (And.right (And.right (by with_reducible assumption))))))) | exact Nat.ne_of_lt (And.right (And.right (And.right (And.right (And.right (And.right (by with_reducible assumption))))))) | exact Nat.ne_of_gt (And.right (And.right (And.right (And.right (And.right (And.right (And.right (by with_reducible assumption)))))))) | exact Nat.ne_of_lt (And.right (And.right (And.right (And.right (And.right (And.right (And.right (by with_reducible assumption)))))))) | exact Nat.ne_of_gt (And.right (And.right (And.right (And.right (And.right (And.right (And.right (And.right (by with_reducible assumption))))))))) | exact Nat.ne_of_lt (And.right (And.right (And.right (And.right (And.right (And.right (And.right (And.right (by with_reducible assumption))))))))) | exact (And.left (And.left (by with_reducible assumption))) | exact (And.left (And.right (And.left (by with_reducible assumption)))) | exact (And.right (And.right (And.left (by with_reducible assumption)))) | exact (And.left (And.left (And.right (by with_reducible assumption)))) | exact (And.left (And.right (And.left (And.right (by with_reducible assumption))))) | exact (And.right (And.right (And.left (And.right (by with_reducible assumption))))) | exact (And.left (And.right (by with_reducible assumption))) | exact (And.left (And.right (And.right (by with_reducible assumption)))) | exact (And.right (And.right (And.right (by with_reducible assumption)))) | exact (And.left (And.left (And.right (And.right (by with_reducible assumption))))) | exact (And.left (And.right (And.left (And.right (And.right (by with_reducible assumption)))))) | exact (And.right (And.right (And.left (And.right (And.right (by with_reducible assumption)))))) | exact (And.left (And.right (And.right (by with_reducible assumption)))) | exact (And.left (And.right (And.right (And.right (by with_reducible assumption))))) | exact (And.right (And.right (And.right (And.right (by with_reducible assumption))))) | exact (And.left (And.left (And.right (And.right (And.right (by with_reducible assumption)))))) | exact (And.left (And.right (And.left (And.right (And.right (And.right (by with_reducible assumption))))))) | exact (And.right (And.right (And.left (And.right (And.right (And.right (by with_reducible assumption))))))) | exact (And.left (And.right (And.right (And.right (by with_reducible assumption))))) | exact (And.left (And.right (And.right (And.right (And.right (by with_reducible assumption)))))) | exact (And.right (And.right (And.right (And.right (And.right (by with_reducible assumption)))))) | exact (And.left (And.left (And.right (And.right (And.right (And.right (by with_reducible assumption))))))) | exact (And.left (And.right (And.left (And.right (And.right (And.right (And.right (by with_reducible assumption)))))))) | exact (And.right (And.right (And.left (And.right (And.right (And.right (And.right (by with_reducible assumption)))))))) | exact (And.left (And.right (And.right (And.right (And.right (by with_reducible assumption)))))) | exact (And.left (And.right (And.right (And.right (And.right (And.right (by with_reducible assumption))))))) | exact (And.right (And.right (And.right (And.right (And.right (And.right (by with_reducible assumption))))))) | exact (And.left (And.left (And.right (And.right (And.right (And.right (And.right (by with_reducible assumption)))))))) | exact (And.left (And.right (And.left (And.right (And.right (And.right (And.right (And.right (by with_reducible assumption))))))))) | exact (And.right (And.right (And.left (And.right (And.right (And.right (And.right (And.right (by with_reducible assumption))))))))) | exact (And.left (And.right (And.right (And.right (And.right (And.right (by with_reducible assumption))))))) | exact (And.left (And.right (And.right (And.right (And.right (And.right (And.right (by with_reducible assumption)))))))) | exact (And.right (And.right (And.right (And.right (And.right (And.right (And.right (by with_reducible assumption)))))))) | exact (And.left (And.left (And.right (And.right (And.right (And.right (And.right (And.right (by with_reducible assumption))))))))) | exact (And.left (And.right (And.left (And.right (And.right (And.right (And.right (And.right (And.right (by with_reducible assumption)))))))))) | exact (And.right (And.right (And.left (And.right (And.right (And.right (And.right (And.right (And.right (by with_reducible assumption)))))))))) | exact (And.left (And.right (And.right (And.right (And.right (And.right (And.right (by with_reducible assumption)))))))) | exact (And.left (And.right (And.right (And.right (And.right (And.right (And.right (And.right (by with_reducible assumption))))))))) | exact (And.right (And.right (And.right (And.right (And.right (And.right (And.right (And.right (by with_reducible assumption))))))))) | exact (And.left (And.left (And.right (And.right (And.right (And.right (And.right (And.right (And.right (by with_reducible assumption)))))))))) | exact (And.left (And.right (And.left (And.right (And.right (And.right (And.right (And.right (And.right (And.right (by with_reducible assumption))))))))))) | exact (And.right (And.right (And.left (And.right (And.right (And.right (And.right (And.right (And.right (And.right (by with_reducible assumption))))))))))) | exact (And.left (And.right (And.right (And.right (And.right (And.right (And.right (And.right (by with_reducible assumption))))))))) | exact (And.left (And.right (And.right (And.right (And.right (And.right (And.right (And.right (And.right (by with_reducible assumption)))))))))) | exact (And.right (And.right (And.right (And.right (And.right (And.right (And.right (And.right (And.right (by with_reducible assumption)))))))))))
  k_with "MINE enterPN" => (
  refine enterPN (news := _) (by k_asm) (by k_asm) (by k_asm) (by k_asm) (by assumption) (by exact rfl) (by exact rfl) (by assumption) (by k_is) (by k_is) (by ktr_room) (by refine kp_binds (by exact Frag.In.keeps (by k_asm) (Fr.keep (by k_asm))) (by exact fun _ => rfl)) (by exact locs rfl) ?_ (by exact rfl) (by exact rfl) (by exact rfl) (by decide)
  k_whole)
  k_with "call builtin:list.insert" => (
  k_here
  k_dflt (refine kl_insert (by first | with_reducible (k_asm) | (k_asm)) (by first | with_reducible (k_asm) | (k_asm)) (by k_dflt (rfl)) (by k_dflt (rfl)) (by k_dflt (k_upd)) (by k_dflt (exact Nat.le_of_ble_eq_true rfl)) ?_)
  k_whole
  intro zh' zF' zN'
  (try k_sweep))
  k_with "call ref" => (
  k_here
  k_dflt (first
    | (refine use_call (bis_0 ) (by first | with_reducible (k_asm) | (k_asm)) (by first | with_reducible (k_asm) | (k_asm)) (by first | with_reducible (k_asm) | (k_asm)) (by first | with_reducible (k_asm) | (k_asm)) (by first | with_reducible (k_asm) | (k_asm)) (by first | with_reducible (first | exact rfl | assumption) | (first | exact rfl | assumption)) (by first | with_reducible (ktr_room) | (ktr_room)) (by first | with_reducible (ktr_units) | (ktr_units)) (by first | with_reducible (is_list) | (is_list)) ?_)
    | (refine use_call (bis_1 ?_) (by first | with_reducible (k_asm) | (k_asm)) (by first | with_reducible (k_asm) | (k_asm)) (by first | with_reducible (k_asm) | (k_asm)) (by first | with_reducible (k_asm) | (k_asm)) (by first | with_reducible (k_asm) | (k_asm)) (by first | with_reducible (first | exact rfl | assumption) | (first | exact rfl | assumption)) (by first | with_reducible (ktr_room) | (ktr_room)) (by first | with_reducible (ktr_units) | (ktr_units)) (by first | with_reducible (is_list) | (is_list)) ?_; (assumption))
    | (refine use_call (bis_2 ?_ ?_) (by first | with_reducible (k_asm) | (k_asm)) (by first | with_reducible (k_asm) | (k_asm)) (by first | with_reducible (k_asm) | (k_asm)) (by first | with_reducible (k_asm) | (k_asm)) (by first | with_reducible (k_asm) | (k_asm)) (by first | with_reducible (first | exact rfl | assumption) | (first | exact rfl | assumption)) (by first | with_reducible (ktr_room) | (ktr_room)) (by first | with_reducible (ktr_units) | (ktr_units)) (by first | with_reducible (is_list) | (is_list)) ?_; (assumption); (assumption))
    | (refine use_call (bis_3 ?_ ?_ ?_) (by first | with_reducible (k_asm) | (k_asm)) (by first | with_reducible (k_asm) | (k_asm)) (by first | with_reducible (k_asm) | (k_asm)) (by first | with_reducible (k_asm) | (k_asm)) (by first | with_reducible (k_asm) | (k_asm)) (by first | with_reducible (first | exact rfl | assumption) | (first | exact rfl | assumption)) (by first | with_reducible (ktr_room) | (ktr_room)) (by first | with_reducible (ktr_units) | (ktr_units)) (by first | with_reducible (is_list) | (is_list)) ?_; (assumption); (assumption); (assumption))
    | (refine use_call (bis_4 ?_ ?_ ?_ ?_) (by first | with_reducible (k_asm) | (k_asm)) (by first | with_reducible (k_asm) | (k_asm)) (by first | with_reducible (k_asm) | (k_asm)) (by first | with_reducible (k_asm) | (k_asm)) (by first | with_reducible (k_asm) | (k_asm)) (by first | with_reducible (first | exact rfl | assumption) | (first | exact rfl | assumption)) (by first | with_reducible (ktr_room) | (ktr_room)) (by first | with_reducible (ktr_units) | (ktr_units)) (by first | with_reducible (is_list) | (is_list)) ?_; (assumption); (assumption); (assumption); (assumption)))
  k_whole
  intro zv' zh' ztk' zF' zN' zk' zp'
  obtain ⟨zu', ze'⟩ := zp'
  subst ze'
  (try dsimp only)
  (try k_fold))
  intro dp un gd cn cs a ccd cl outer A₀ base h₀ L m s Q E B F X T hk N hd hu hret
  refine wpAny_call ?_
  k_dflt walk_at "MINE enterPN"
  intro g L' h₁ hkg hsz F' N' B' X' T' hlt
  have hkg : ∀ b o, b ≠ D → s.heap.get? b = some o → g.get? b = some o := fun b o nb e => hkg b o (fun q => nb (List.mem_singleton.mp q)) e
  clear B F X T N
  (try dsimp only)
  (try k_fold)
  k_steps
  all_goals (refine hret _ _ _ _ (fun b o nb e => Fr.keep (by k_asm) b o (hkg b o nb e)) (News.get (by k_asm) (List.Mem.head _)) ?_)
  all_goals exact (IntsAre.cons _ _ (.cons _ _ (.cons _ _ (.cons _ _ .nil))))
set_option maxHeartbeats 1000000 in
theorem ins_4 {w p loose mean mg mb} {D : Addr} {x : Int} {t : Tok} {n : Nat} {a0 : Int} {u0 : Tok} {a1 : Int} {u1 : Tok} {a2 : Int} {u2 : Tok} {a3 : Int} {u3 : Tok} (b0 : a0 < x) (b1 : a1 < x) (b2 : a2 < x) (b3 : a3 < x) : CallL w p loose mean mg mb 37 D [.ref D, .int x t] 4 [.int a0 u0, .int a1 u1, .int a2 u2, .int a3 u3] n ([a0, a1, a2, a3] ++ [x]) := by
  w_on
  refine (fun (h : (PySem.Challenge.rw_ib0002_01 = PySem.Challenge.rw_ib0002_01 ∧ Mine.hd.heap_39 = Mine.hd.heap_39) → _) => h ⟨rfl, rfl⟩) ?_
  k_fill
  intro _
  k_with_none
  k_with "MINE ne" => (refine neN ?_; (try dsimp only); first | exact Nat.ne_of_gt (by with_reducible assumption) | exact Nat.ne_of_lt (by with_reducible assumption) | exact Nat.ne_of_gt (And.left (by with_reducible assumption)) | exact Nat.ne_of_lt (And.left (by with_reducible assumption)) | exact Nat.ne_of_gt (And.left (And.right (by with_reducible assumption))) | exact Nat.ne_of_lt (And.left (And.right (by with_reducible assumption))) | exact Nat.ne_of_gt (And.left (And.right (And.right (by with_reducible assumption)))) | exact Nat.ne_of_lt (And.left (And.right (And.right (by with_reducible assumption)))) | exact Nat.ne_of_gt (And.left (And.right (And.right (And.right (by with_reducible assumption))))) | exact Nat.ne_of_lt (And.left (And.right (And.right (And.right (by with_reducible assumption))))) | exact Nat.ne_of_gt (And.left (And.right (And.right (And.right (And.right (by with_reducible assumption)))))) | exact Nat.ne_of_lt (And.left (And.right (And.right (And.right (And.right (by with_reducible assumption)))))) | exact Nat.ne_of_gt (And.left (And.right (And.right (And.right (And.right (And.right (by with_reducible assumption))))))) | exact Nat.ne_of_lt (And.left (And.right (And.right (And.right (And.right (And.right (by with_reducible assumption))))))) | exact Nat.ne_of_gt (And.left (And.right (And.right (And.right (And.right (And.right (And.right (by with_reducible assumption)))))))) | exact Nat.ne_of_lt (And.left (And.right (And.right (And.right (And.right (And.right (And.right (by with_reducible assumption)))))))) | exact Nat.ne_of_gt (And.left (And.right (And.right (And.right (And.right (And.right (And.right (And.right (by with_reducible assumption))))))))) | exact Nat.ne_of_lt (And.left (And.right (And.right (And.right (And.right (And.right (And.right (And.right (by with_reducible assumption))))))))) | exact Nat.ne_of_gt (And.left (And.right (And.right (And.right (And.right (And.right (And.right (And.right (And.right (by with_reducible assumption)))))))))) | exact Nat.ne_of_lt (And.left (And.right (And.right (And.right (And.right (And.right (And.right (And.right (And.right (by with_reducible assumption)))))))))) | exact Nat.ne_of_gt (And.right (by with_reducible assumption)) | exact Nat.ne_of_lt (And.right (by with_reducible assumption)) | exact Nat.ne_of_gt (And.right (And.right (by with_reducible assumption))) | exact Nat.ne_of_lt (And.right (And.right (by with_reducible assumption))) | exact Nat.ne_of_gt (And.right (And.right (And.right (by with_reducible assumption)))) | exact Nat.ne_of_lt (And.right (And.right (And.right (by with_reducible assumption)))) | exact Nat.ne_of_gt (And.right (And.right (And.right (And.right (by with_reducible assumption))))) | exact Nat.ne_of_lt (And.right (And.right (And.right (And.right (by with_reducible assumption))))) | exact Nat.ne_of_gt (And.right (And.right (And.right (And.right (And.right (by with_reducible assumption)))))) | exact Nat.ne_of_lt (And.right (And.right (And.right (And.right (And.right (by with_reducible assumption)))))) | exact Nat.ne_of_gt (And.right (And.right (And.right (And.right (And.right (And.right (by with_reducible assumption))))))) | exact Nat.ne_of_lt (And.right (And.right (And.right (And.right (And.right (And.right (by with_reducible assumption))))))) | exact Nat.ne_of_gt (And.right (And.right (And.right (And.right (And.right (And.right (And.right (by with_reducible assumption)))))))) | exact Nat.ne_of_lt (And.right (And.right (And.right (And.right (And.right (And.right (And.right (by with_reducible assumption)))))))) | exact Nat.ne_of_gt (And.right (And.right (And.right (And.right (And.right (And.right (And.right (And.right (by with_reducible assumption))))))))) | exact Nat.ne_of_lt (And.right (And.right (And.right (And.right (And.right (And.right (And.right (And.right (by with_reducible assumption))))))))) | exact (And.left (And.left (by with_reducible assumption))) | exact (And.left (And.right (And.left (by with_reducible assumption)))) | exact (And.right (And.right (And.left (by with_reducible assumption)))) | exact (And.left (And.left (And.right (by with_reducible assumption)))) | exact (And.left (And.right (And.left (And.right (by with_reducible assumption))))) | exact (And.right (And.right (And.left (And.right (by with_reducible assumption))))) | exact (And.left (And.right (by with_reducible assumption))) | exact (And.left (And.right (And.right (by with_reducible assumption)))) | exact (And.right (And.right (And.right (by with_reducible assumption)))) | exact (And.left (And.left (And.right (And.right (by with_reducible assumption))))) | exact (And.left (And.right (And.left (And.right (And.right (by with_reducible assumption)))))) | exact (And.right (And.right (And.left (And.right (And.right (by with_reducible assumption)))))) | exact (And.left (And.right (And.right (by with_reducible assumption)))) | exact (And.left (And.right (And.right (And.right (by with_reducible assumption))))) | exact (And.right (And.right (And.right (And.right (by with_reducible assumption))))) | exact (And.left (And.left (And.right (And.right (And.right (by with_reducible assumption)))))) | exact (And.left (And.right (And.left (And.right (And.right (And.right (by with_reducible assumption))))))) | exact (And.right (And.right (And.left (And.right (And.right (And.right (by with_reducible assumption))))))) | exact (And.left (And.right (And.right (And.right (by with_reducible assumption))))) | exact (And.left (And.right (And.right (And.right (And.right (by with_reducible assumption)))))) | exact (And.right (And.right (And.right (And.right (And.right (by with_reducible assumption)))))) | exact (And.left (And.left (And.right (And.right (And.right (And.right (by with_reducible assumption))))))) | exact (And.left (And.right (And.left (And.right (And.right (And.right (And.right (by with_reducible assumption)))))))) | exact (And.right (And.right (And.left (And.right (And.right (And.right (And.right (by with_reducible assumption)))))))) | exact (And.left (And.right (And.right (And.right (And.right (by with_reducible assumption)))))) | exact (And.left (And.right (And.right (And.right (And.right (And.right (by with_reducible assumption))))))) | exact (And.right (And.right (And.right (And.right (And.right (And.right (by with_reducible assumption))))))) | exact (And.left (And.left (And.right (And.right (And.right (And.right (And.right (by with_reducible assumption)))))))) | exact (And.left (And.right (And.left (And.right (And.right (And.right (And.right (And.right (by with_reducible assumption))))))))) | exact (And.right (And.right (And.left (And.right (And.right (And.right (And.right (And.right (by with_reducible assumption))))))))) | exact (And.left (And.right (And.right (And.right (And.right (And.right (by with_reducible assumption))))))) | exact (And.left (And.right (And.right (And.right (And.right (And.right (And.right (by with_reducible assumption)))))))) | exact (And.right (And.right (And.right (And.right (And.right (And.right (And.right (by with_reducible assumption)))))))) | exact (And.left (And.left (And.right (And.right (And.right (And.right (And.right (And.right (by with_reducible assumption))))))))) | exact (And.left (And.right (And.left (And.right (And.right (And.right (And.right (And.right (And.right (by with_reducible assumption)))))))))) | exact (And.right (And.right (And.left (And.right (And.right (And.right (And.right (And.right (And.right (by with_reducible assumption)))))))))) | exact (And.left (And.right (And.right (And.right (And.right (And.right (And.right (by with_reducible assumption)))))))) | exact (And.left (And.right (And.right (And.right (And.right (And.right (And.right (And.right (by with_reducible assumption))))))))) | exact (And.right (And.right (And.right (And.right (And.right (And.right (And.right (And.right (by with_reducible assumption))))))))) | exact (And.left (And.left (And.right (And.right (And.right (And.right (And.right (And.right (And.right (by with_reducible assumption)))))))))) | exact (And.left (And.right (And.left (And.right (And.right (And.right (And.right (And.right (And.right (And.right (by with_reducible assumption))))))))))) | exact (And.right (And.right (And.left (And.right (And.right (And.right (And.right (And.right (And.right (And.right (by with_reducible assumption))))))))))) | exact (And.left (And.right (And.right (And.right (And.right (And.right (And.right (And.right (by with_reducible assumption))))))))) | exact (And.left (And.right (And.right (And.right (And.right (And.right (And.right (And.right (And.right (by with_reducible assumption)))))))))) | exact (And.right (And.right (And.right (And.right (And.right (And.right (And.right (And.right (And.right (by with_reducible assumption)))))))))))
  k_with "MINE enterPN" => (
  refine enterPN (news := _) (by k_asm) (by k_asm) (by k_asm) (by k_asm) (by assumption) (by exact rfl) (by exact rfl) (by assumption) (by k_is) (by k_is) (by ktr_room) (by refine kp_binds (by exact Frag.In.keeps (by k_asm) (Fr.keep (by k_asm))) (by exact fun _ => rfl)) (by exact locs rfl) ?_ (by exact rfl) (by exact rfl) (by exact rfl) (by decide)
  k_whole)
  k_with "call builtin:list.insert" => (
  k_here
  k_dflt (refine kl_insert (by first | with_reducible (k_asm) | (k_asm)) (by first | with_reducible (k_asm) | (k_asm)) (by k_dflt (rfl)) (by k_dflt (rfl)) (by k_dflt (k_upd)) (by k_dflt (exact Nat.le_of_ble_eq_true rfl)) ?_)
  k_whole
  intro zh' zF' zN'
  (try k_sweep))
  k_with "call ref" => (
  k_here
  k_dflt (first
    | (refine use_call (bis_0 ) (by first | with_reducible (k_asm) | (k_asm)) (by first | with_reducible (k_asm) | (k_asm)) (by first | with_reducible (k_asm) | (k_asm)) (by first | with_reducible (k_asm) | (k_asm)) (by first | with_reducible (k_asm) | (k_asm)) (by first | with_reducible (first | exact rfl | assumption) | (first | exact rfl | assumption)) (by first | with_reducible (ktr_room) | (ktr_room)) (by first | with_reducible (ktr_units) | (ktr_units)) (by first | with_reducible (is_list) | (is_list)) ?_)
    | (refine use_call (bis_1 ?_) (by first | with_reducible (k_asm) | (k_asm)) (by first | with_reducible (k_asm) | (k_asm)) (by first | with_reducible (k_asm) | (k_asm)) (by first | with_reducible (k_asm) | (k_asm)) (by first | with_reducible (k_asm) | (k_asm)) (by first | with_reducible (first | exact rfl | assumption) | (first | exact rfl | assumption)) (by first | with_reducible (ktr_room) | (ktr_room)) (by first | with_reducible (ktr_units) | (ktr_units)) (by first | with_reducible (is_list) | (is_list)) ?_; (assumption))
    | (refine use_call (bis_2 ?_ ?_) (by first | with_reducible (k_asm) | (k_asm)) (by first | with_reducible (k_asm) | (k_asm)) (by first | with_reducible (k_asm) | (k_asm)) (by first | with_reducible (k_asm) | (k_asm)) (by first | with_reducible (k_asm) | (k_asm)) (by first | with_reducible (first | exact rfl | assumption) | (first | exact rfl | assumption)) (by first | with_reducible (ktr_room) | (ktr_room)) (by first | with_reducible (ktr_units) | (ktr_units)) (by first | with_reducible (is_list) | (is_list)) ?_; (assumption); (assumption))
    | (refine use_call (bis_3 ?_ ?_ ?_) (by first | with_reducible (k_asm) | (k_asm)) (by first | with_reducible (k_asm) | (k_asm)) (by first | with_reducible (k_asm) | (k_asm)) (by first | with_reducible (k_asm) | (k_asm)) (by first | with_reducible (k_asm) | (k_asm)) (by first | with_reducible (first | exact rfl | assumption) | (first | exact rfl | assumption)) (by first | with_reducible (ktr_room) | (ktr_room)) (by first | with_reducible (ktr_units) | (ktr_units)) (by first | with_reducible (is_list) | (is_list)) ?_; (assumption); (assumption); (assumption))
    | (refine use_call (bis_4 ?_ ?_ ?_ ?_) (by first | with_reducible (k_asm) | (k_asm)) (by first | with_reducible (k_asm) | (k_asm)) (by first | with_reducible (k_asm) | (k_asm)) (by first | with_reducible (k_asm) | (k_asm)) (by first | with_reducible (k_asm) | (k_asm)) (by first | with_reducible (first | exact rfl | assumption) | (first | exact rfl | assumption)) (by first | with_reducible (ktr_room) | (ktr_room)) (by first | with_reducible (ktr_units) | (ktr_units)) (by first | with_reducible (is_list) | (is_list)) ?_; (assumption); (assumption); (assumption); (assumption)))
  k_whole
  intro zv' zh' ztk' zF' zN' zk' zp'
  obtain ⟨zu', ze'⟩ := zp'
  subst ze'
  (try dsimp only)
  (try k_fold))
  intro dp un gd cn cs a ccd cl outer A₀ base h₀ L m s Q E B F X T hk N hd hu hret
  refine wpAny_call ?_
  k_dflt walk_at "MINE enterPN"
  intro g L' h₁ hkg hsz F' N' B' X' T' hlt
  have hkg : ∀ b o, b ≠ D → s.heap.get? b = some o → g.get? b = some o := fun b o nb e => hkg b o (fun q => nb (List.mem_singleton.mp q)) e
  clear B F X T N
  (try dsimp only)
  (try k_fold)
  k_steps
  all_goals (refine hret _ _ _ _ (fun b o nb e => Fr.keep (by k_asm) b o (hkg b o nb e)) (News.get (by k_asm) (List.Mem.head _)) ?_)
  all_goals exact (IntsAre.cons _ _ (.cons _ _ (.cons _ _ (.cons _ _ (.cons _ _ .nil)))))
theorem ins_ok {w p loose mean mg mb} : InsOk w p loose mean mg mb := by
  intro D x t vs n ns hi hl hb
  match ns, hi, hl, hb with
  | [], hi, hl, hb => obtain rfl := ints_inv0 hi; exact ins_0 
  | [a0], hi, hl, hb => obtain ⟨u0, rfl⟩ := ints_inv1 hi; exact ins_1 (b0 := hb a0 (by simp))
  | [a0, a1], hi, hl, hb => obtain ⟨u0, u1, rfl⟩ := ints_inv2 hi; exact ins_2 (b0 := hb a0 (by simp)) (b1 := hb a1 (by simp))
  | [a0, a1, a2], hi, hl, hb => obtain ⟨u0, u1, u2, rfl⟩ := ints_inv3 hi; exact ins_3 (b0 := hb a0 (by simp)) (b1 := hb a1 (by simp)) (b2 := hb a2 (by simp))
  | [a0, a1, a2, a3], hi, hl, hb => obtain ⟨u0, u1, u2, u3, rfl⟩ := ints_inv4 hi; exact ins_4 (b0 := hb a0 (by simp)) (b1 := hb a1 (by simp)) (b2 := hb a2 (by simp)) (b3 := hb a3 (by simp))
  | _ :: _ :: _ :: _ :: _ :: _, _, hl, _ => exact absurd hl (by simp only [List.length_cons]; omega)
end Mine
end -- LawIns

section -- LawFI
open PySem PySem.Spec PySem.Calls PySem.W PyProof.Rows
set_option maxRecDepth 100000
set_option rowWalk.seconds 0
namespace Mine

set_option maxHeartbeats 4000000 in
theorem fi2d_ok {w p loose mean mg mb} : FI2d w p loose mean mg mb := by
  intro a₁ t1 t2 h0 h1
  obtain ⟨n, hn, hn5, hn0, hn2⟩ := bits_facts h0 h1
  w_on
  refine (fun (h : (PySem.Challenge.rw_ib0002_01 = PySem.Challenge.rw_ib0002_01 ∧ Mine.hd.heap_39 = Mine.hd.heap_39) → _) => h ⟨rfl, rfl⟩) ?_
  k_fill
  intro _
  k_with_none
  k_with "MINE ne" => (refine neN ?_; (try dsimp only); first | exact Nat.ne_of_gt (by with_reducible assumption) | exact Nat.ne_of_lt (by with_reducible assumption) | exact Nat.ne_of_gt (And.left (by with_reducible assumption)) | exact Nat.ne_of_lt (And.left (by with_reducible assumption)) | exact Nat.ne_of_gt (And.left (And.right (by with_reducible assumption))) | exact Nat.ne_of_lt (And.left (And.right (by with_reducible assumption))) | exact Nat.ne_of_gt (And.left (And.right (And.right (by with_reducible assumption)))) | exact Nat.ne_of_lt (And.left (And.right (And.right (by with_reducible assumption)))) | exact Nat.ne_of_gt (And.left (And.right (And.right (And.right (by with_reducible assumption))))) | exact Nat.ne_of_lt (And.left (And.right (And.right (And.right (by with_reducible assumption))))) | exact Nat.ne_of_gt (And.left (And.right (And.right (And.right (And.right (by with_reducible assumption)))))) | exact Nat.ne_of_lt (And.left (And.right (And.right (And.right (And.right (by with_reducible assumption)))))) | exact Nat.ne_of_gt (And.left (And.right (And.right (And.right (And.right (And.right (by with_reducible assumption))))))) | exact Nat.ne_of_lt (And.left (And.right (And.right (And.right (And.right (And.right (by with_reducible assumption))))))) | exact Nat.ne_of_gt (And.left (And.right (And.right (And.right (And.right (And.right (And.right (by with_reducible assumption)))))))) | exact Nat.ne_of_lt (And.left (And.right (And.right (And.right (And.right (And.right (And.right (by with_reducible assumption)))))))) | exact Nat.ne_of_gt (And.left (And.right (And.right (And.right (And.right (And.right (And.right (And.right (by with_reducible assumption))))))))) | exact Nat.ne_of_lt (And.left (And.right (And.right (And.right (And.right (And.right (And.right (And.right (by with_reducible assumption))))))))) | exact Nat.ne_of_gt (And.left (And.right (And.right (And.right (And.right (And.right (And.right (And.right (And.right (by with_reducible assumption)))))))))) | exact Nat.ne_of_lt (And.left (And.right (And.right (And.right (And.right (And.right (And.right (And.right (And.right (by with_reducible assumption)))))))))) | exact Nat.ne_of_gt (And.right (by with_reducible assumption)) | exact Nat.ne_of_lt (And.right (by with_reducible assumption)) | exact Nat.ne_of_gt (And.right (And.right (by with_reducible assumption))) | exact Nat.ne_of_lt (And.right (And.right (by with_reducible assumption))) | exact Nat.ne_of_gt (And.right (And.right (And.right (by with_reducible assumption)))) | exact Nat.ne_of_lt (And.right (And.right (And.right (by with_reducible assumption)))) | exact Nat.ne_of_gt (And.right (And.right (And.right (And.right (by with_reducible assumption))))) | exact Nat.ne_of_lt (And.right (And.right (And.right (And.right (by with_reducible assumption))))) | exact Nat.ne_of_gt (And.right (And.right (And.right (And.right (And.right (by with_reducible assumption)))))) | exact Nat.ne_of_lt (And.right (And.right (And.right (And.right (And.right (by with_reducible assumption)))))) | exact Nat.ne_of_gt (And.right (And.right (And.right (And.right (And.right (And.right (by with_reducible assumption))))))) | exact Nat.ne_of_lt (And.right (And.right (And.right (And.right (And.right (And.right (by with_reducible assumption))))))) | exact Nat.ne_of_gt (And.right (And.right (And.right (And.right (And.right (And.right (And.right (by with_reducible assumption)))))))) | exact Nat.ne_of_lt (And.right (And.right (And.right (And.right (And.right (And.right (And.right (by with_reducible assumption)))))))) | exact Nat.ne_of_gt (And.right (And.right (And.right (And.right (And.right (And.right (And.right (And.right (by with_reducible assumption))))))))) | exact Nat.ne_of_lt (And.right (And.right (And.right (And.right (And.right (And.right (And.right (And.right (by with_reducible assumption))))))))) | exact (And.left (And.left (by with_reducible assumption))) | exact (And.left (And.right (And.left (by with_reducible assumption)))) | exact (And.right (And.right (And.left (by with_reducible assumption)))) | exact (And.left (And.left (And.right (by with_reducible assumption)))) | exact (And.left (And.right (And.left (And.right (by with_reducible assumption))))) | exact (And.right (And.right (And.left (And.right (by with_reducible assumption))))) | exact (And.left (And.right (by with_reducible assumption))) | exact (And.left (And.right (And.right (by with_reducible assumption)))) | exact (And.right (And.right (And.right (by with_reducible assumption)))) | exact (And.left (And.left (And.right (And.right (by with_reducible assumption))))) | exact (And.left (And.right (And.left (And.right (And.right (by with_reducible assumption)))))) | exact (And.right (And.right (And.left (And.right (And.right (by with_reducible assumption)))))) | exact (And.left (And.right (And.right (by with_reducible assumption)))) | exact (And.left (And.right (And.right (And.right (by with_reducible assumption))))) | exact (And.right (And.right (And.right (And.right (by with_reducible assumption))))) | exact (And.left (And.left (And.right (And.right (And.right (by with_reducible assumption)))))) | exact (And.left (And.right (And.left (And.right (And.right (And.right (by with_reducible assumption))))))) | exact (And.right (And.right (And.left (And.right (And.right (And.right (by with_reducible assumption))))))) | exact (And.left (And.right (And.right (And.right (by with_reducible assumption))))) | exact (And.left (And.right (And.right (And.right (And.right (by with_reducible assumption)))))) | exact (And.right (And.right (And.right (And.right (And.right (by with_reducible assumption)))))) | exact (And.left (And.left (And.right (And.right (And.right (And.right (by with_reducible assumption))))))) | exact (And.left (And.right (And.left (And.right (And.right (And.right (And.right (by with_reducible assumption)))))))) | exact (And.right (And.right (And.left (And.right (And.right (And.right (And.right (by with_reducible assumption)))))))) | exact (And.left (And.right (And.right (And.right (And.right (by with_reducible assumption)))))) | exact (And.left (And.right (And.right (And.right (And.right (And.right (by with_reducible assumption))))))) | exact (And.right (And.right (And.right (And.right (And.right (And.right (by with_reducible assumption))))))) | exact (And.left (And.left (And.right (And.right (And.right (And.right (And.right (by with_reducible assumption)))))))) | exact (And.left (And.right (And.left (And.right (And.right (And.right (And.right (And.right (by with_reducible assumption))))))))) | exact (And.right (And.right (And.left (And.right (And.right (And.right (And.right (And.right (by with_reducible assumption))))))))) | exact (And.left (And.right (And.right (And.right (And.right (And.right (by with_reducible assumption))))))) | exact (And.left (And.right (And.right (And.right (And.right (And.right (And.right (by with_reducible assumption)))))))) | exact (And.right (And.right (And.right (And.right (And.right (And.right (And.right (by with_reducible assumption)))))))) | exact (And.left (And.left (And.right (And.right (And.right (And.right (And.right (And.right (by with_reducible assumption))))))))) | exact (And.left (And.right (And.left (And.right (And.right (And.right (And.right (And.right (And.right (by with_reducible assumption)))))))))) | exact (And.right (And.right (And.left (And.right (And.right (And.right (And.right (And.right (And.right (by with_reducible assumption)))))))))) | exact (And.left (And.right (And.right (And.right (And.right (And.right (And.right (by with_reducible assumption)))))))) | exact (And.left (And.right (And.right (And.right (And.right (And.right (And.right (And.right (by with_reducible assumption))))))))) | exact (And.right (And.right (And.right (And.right (And.right (And.right (And.right (And.right (by with_reducible assumption))))))))) | exact (And.left (And.left (And.right (And.right (And.right (And.right (And.right (And.right (And.right (by with_reducible assumption)))))))))) | exact (And.left (And.right (And.left (And.right (And.right (And.right (And.right (And.right (And.right (And.right (by with_reducible assumption))))))))))) | exact (And.right (And.right (And.left (And.right (And.right (And.right (And.right (And.right (And.right (And.right (by with_reducible assumption))))))))))) | exact (And.left (And.right (And.right (And.right (And.right (And.right (And.right (And.right (by with_reducible assumption))))))))) | exact (And.left (And.right (And.right (And.right (And.right (And.right (And.right (And.right (And.right (by with_reducible assumption)))))))))) | exact (And.right (And.right (And.right (And.right (And.right (And.right (And.right (And.right (And.right (by with_reducible assumption)))))))))))
  k_with "MINE enterCN" => (
  refine enterCN (news := [(16, tabObj #[])]) (by k_asm) (by k_asm) (by k_asm) (by k_asm) (by assumption) (by exact rfl) (by exact rfl) (by assumption) (by k_is) (by k_is) (by ktr_room) (by exact BindsTo.of_eq rfl) (by exact rfl) (by decide +kernel) ?_ (by exact rfl) (by exact rfl) (by exact rfl)
  k_whole)
  k_with "exec FunctionDef" => (
  k_here
  kn_here
  k_dflt (refine nestDef_K (by first | with_reducible (exact rfl) | (exact rfl)) (by first | with_reducible (exact rfl) | (exact rfl)) (by first | with_reducible (exact rfl) | (exact rfl)) ?_)
  k_dflt (refine nest_K (by first | with_reducible (k_asm) | (k_asm)) (by first | with_reducible (k_asm) | (k_asm)) (by first | with_reducible (k_asm) | (k_asm)) (by first | with_reducible (kn_code) | (kn_code)) (by first | with_reducible (exact rfl) | (exact rfl)) (by first | with_reducible (k_updF) | (k_updF)) (by first | with_reducible (kn_triples) | (kn_triples)) (by first | with_reducible (kn_among) | (kn_among)) (by first | with_reducible (exact rfl) | (exact rfl)) ?_; k_whole)
  intro zf' zc' zoc' zvs' zt' zct' zdc' zh' ztk' zF' zN' zd1' zd2' zl1 zl2
  have zhco' := codeOb_mk qual1 zd1' zd2' (by k_dflt rfl)
  (try dsimp only at zN')
  (try k_lt zl1)
  (try k_lt2 zl2))
  k_with "call builtin:int.bit_length" => (
  k_here
  k_dflt (refine bitsTo (by assumption) ?_))
  k_with "binaryOp Mult ref int" => (
  k_here
  (with_reducible show wpAny _ _ (binaryOp Operator.Mult (Value.ref _) (Value.int _ _)) _ _ _)
  k_dflt (refine mulK _ (fdiv_back _) (by first | with_reducible (omega) | (omega)) (by first | with_reducible (k_asm) | (k_asm)) (by first | with_reducible (k_asm) | (k_asm)) (by first | with_reducible (is_list) | (is_list)) ?_)
  k_whole
  intro zD' zh' zF' zN' zl1
  (try k_lt zl1)
  (try k_sweep))
  k_with "call builtin:len" => (
  k_here
  (with_reducible show wpAny _ _ (call (Value.builtin "len") [Value.ref _]) _ _ _)
  k_dflt (refine KM.len_K (by first | with_reducible (k_asm) | (k_asm)) (by k_dflt (k_mem)) (by first | with_reducible (rw [List.size_toArray, List.length_replicate]) | (rw [List.size_toArray, List.length_replicate])) (by first | with_reducible (omega) | (omega)) ?_)
  k_whole)
  k_with "call ref" => (
  k_here
  k_dflt (refine use_callD (inner1_ok _ _ _ _ _ _ _ _ _ (ints_zeros _ _) (Nat.le_refl _) ?_ ?_ ?_ ?_ ?_ ?_) (by first | with_reducible (k_asm) | (k_asm)) (by first | with_reducible (k_asm) | (k_asm)) (by first | with_reducible (k_asm) | (k_asm)) (by first | with_reducible (k_asm) | (k_asm)) (by first | with_reducible (k_asm) | (k_asm)) (by first | with_reducible (first | exact rfl | assumption) | (first | exact rfl | assumption)) (by first | with_reducible ((try simp only [depth_under_make, depth_under_kw, depth_in1, depth_deeper, depth_caller] at *); (try dsimp only [ktrTop] at *); omega) | ((try simp only [depth_under_make, depth_under_kw, depth_in1, depth_deeper, depth_caller] at *); (try dsimp only [ktrTop] at *); omega)) (by first | with_reducible ((have zhcL9 := cLine_is); (try simp only [units_in1, units_deeper, Around.mark_units, units_caller] at *); (try dsimp only [ktrTop] at *); omega) | ((have zhcL9 := cLine_is); (try simp only [units_in1, units_deeper, Around.mark_units, units_caller] at *); (try dsimp only [ktrTop] at *); omega)) (by first | with_reducible (refine pre1_news (by k_asm) (by k_dflt k_mem) (by exact codeRec_news (by k_asm) (by k_dflt k_mem) (by assumption)) (by k_dflt k_mem) (by k_dflt k_mem) (by k_dflt k_mem) (by assumption) (by assumption) (by assumption)) | (refine pre1_news (by k_asm) (by k_dflt k_mem) (by exact codeRec_news (by k_asm) (by k_dflt k_mem) (by assumption)) (by k_dflt k_mem) (by k_dflt k_mem) (by k_dflt k_mem) (by assumption) (by assumption) (by assumption))) (by k_dflt (k_updF)) ?_; (omega); (omega); ((try rw [List.length_replicate]); omega); ((try rw [List.length_replicate]); omega); (omega); (exact pow_back (by assumption)))
  k_whole
  intro zvs' zh' ztk' zF' zN' zi'
  (try dsimp only at zN')
  (try dsimp only)
  (try k_fold))
  intro dp un gd cn cs a ccd cl outer A₀ base h₀ L m s Q E B F X T hk N hpre hd hu hret
  refine wpAny_call ?_
  k_dflt walk_at "MINE enterCN"
  intro g L' h₁ tk cells hkg hsz F' N' Y' B' X' T' hlt
  have hkg : ∀ b o, b ∉ [(16 : Addr)] → s.heap.get? b = some o → g.get? b = some o := hkg
  have hCH : CodeHd g 20 16 := codeHd_of_K X' (by kernel_rfl)
  have hab := Fr.above F'
  clear B F X T N hpre
  k_lt hlt
  k_cells Y'
  (try simp only [List.cons_append, List.nil_append] at N')
  (try dsimp only)
  (try k_fold)
  k_steps
  all_goals (try dsimp only)
  all_goals (refine hret _ _ _ (fun b o nb e => Fr.keep (by k_asm) b o (hkg b o nb e)) (fi_post (by k_asm) (by k_dflt k_mem) (by k_dflt k_mem) (by assumption) (by k_dflt k_mem) ?_ ?_ ?_ ?_))
  all_goals first
    | omega
    | exact put1_zeros hn (by assumption)
    | exact bits_zero hn (by assumption)
end Mine
end -- LawFI

section -- LawFD
open PySem PySem.Spec PySem.Calls PySem.W PyProof.Rows
set_option maxRecDepth 100000
set_option rowWalk.seconds 0
namespace Mine

set_option maxHeartbeats 4000000 in
theorem fd2i_ok {w p loose mean mg mb} : FD2i w p loose mean mg mb := by
  intro l t2 vs ds hl23 hi hl hb
  w_on
  refine (fun (h : (PySem.Challenge.rw_ib0002_01 = PySem.Challenge.rw_ib0002_01 ∧ Mine.hd.heap_39 = Mine.hd.heap_39) → _) => h ⟨rfl, rfl⟩) ?_
  k_fill
  intro _
  k_with_none
  k_with "MINE ne" => (refine neN ?_; (try dsimp only); first | exact Nat.ne_of_gt (by with_reducible assumption) | exact Nat.ne_of_lt (by with_reducible assumption) | exact Nat.ne_of_gt (And.left (by with_reducible assumption)) | exact Nat.ne_of_lt (And.left (by with_reducible assumption)) | exact Nat.ne_of_gt (And.left (And.right (by with_reducible assumption))) | exact Nat.ne_of_lt (And.left (And.right (by with_reducible assumption))) | exact Nat.ne_of_gt (And.left (And.right (And.right (by with_reducible assumption)))) | exact Nat.ne_of_lt (And.left (And.right (And.right (by with_reducible assumption)))) | exact Nat.ne_of_gt (And.left (And.right (And.right (And.right (by with_reducible assumption))))) | exact Nat.ne_of_lt (And.left (And.right (And.right (And.right (by with_reducible assumption))))) | exact Nat.ne_of_gt (And.left (And.right (And.right (And.right (And.right (by with_reducible assumption)))))) | exact Nat.ne_of_lt (And.left (And.right (And.right (And.right (And.right (by with_reducible assumption)))))) | exact Nat.ne_of_gt (And.left (And.right (And.right (And.right (And.right (And.right (by with_reducible assumption))))))) | exact Nat.ne_of_lt (And.left (And.right (And.right (And.right (And.right (And.right (by with_reducible assumption))))))) | exact Nat.ne_of_gt (And.left (And.right (And.right (And.right (And.right (And.right (And.right (by with_reducible assumption)))))))) | exact Nat.ne_of_lt (And.left (And.right (And.right (And.right (And.right (And.right (And.right (by with_reducible assumption)))))))) | exact Nat.ne_of_gt (And.left (And.right (And.right (And.right (And.right (And.right (And.right (And.right (by with_reducible assumption))))))))) | exact Nat.ne_of_lt (And.left (And.right (And.right (And.right (And.right (And.right (And.right (And.right (by with_reducible assumption))))))))) | exact Nat.ne_of_gt (And.left (And.right (And.right (And.right (And.right (And.right (And.right (And.right (And.right (by with_reducible assumption)))))))))) | exact Nat.ne_of_lt (And.left (And.right (And.right (And.right (And.right (And.right (And.right (And.right (And.right (by with_reducible assumption)))))))))) | exact Nat.ne_of_gt (And.right (by with_reducible assumption)) | exact Nat.ne_of_lt (And.right (by with_reducible assumption)) | exact Nat.ne_of_gt (And.right (And.right (by with_reducible assumption))) | exact Nat.ne_of_lt (And.right (And.right (by with_reducible assumption))) | exact Nat.ne_of_gt (And.right (And.right (And.right (by with_reducible assumption)))) | exact Nat.ne_of_lt (And.right (And.right (And.right (by with_reducible assumption)))) | exact Nat.ne_of_gt (And.right (And.right (And.right (And.right (by with_reducible assumption))))) | exact Nat.ne_of_lt (And.right (And.right (And.right (And.right (by with_reducible assumption))))) | exact Nat.ne_of_gt (And.right (And.right (And.right (And.right (And.right (by with_reducible assumption)))))) | exact Nat.ne_of_lt (And.right (And.right (And.right (And.right (And.right (by with_reducible assumption)))))) | exact Nat.ne_of_gt (And.right (And.right (And.right (And.right (And.right (And.right (by with_reducible assumption))))))) | exact Nat.ne_of_lt (And.right (And.right (And.right (And.right (And.right (And.right (by with_reducible assumption))))))) | exact Nat.ne_of_gt (And.right (And.right (And.right (And.right (And.right (And.right (And.right (by with_reducible assumption)))))))) | exact Nat.ne_of_lt (And.right (And.right (And.right (And.right (And.right (And.right (And.right (by with_reducible assumption)))))))) | exact Nat.ne_of_gt (And.right (And.right (And.right (And.right (And.right (And.right (And.right (And.right (by with_reducible assumption))))))))) | exact Nat.ne_of_lt (And.right (And.right (And.right (And.right (And.right (And.right (And.right (And.right (by with_reducible assumption))))))))) | exact (And.left (And.left (by with_reducible assumption))) | exact (And.left (And.right (And.left (by with_reducible assumption)))) | exact (And.right (And.right (And.left (by with_reducible assumption)))) | exact (And.left (And.left (And.right (by with_reducible assumption)))) | exact (And.left (And.right (And.left (And.right (by with_reducible assumption))))) | exact (And.right (And.right (And.left (And.right (by with_reducible assumption))))) | exact (And.left (And.right (by with_reducible assumption))) | exact (And.left (And.right (And.right (by with_reducible assumption)))) | exact (And.right (And.right (And.right (by with_reducible assumption)))) | exact (And.left (And.left (And.right (And.right (by with_reducible assumption))))) | exact (And.left (And.right (And.left (And.right (And.right (by with_reducible assumption)))))) | exact (And.right (And.right (And.left (And.right (And.right (by with_reducible assumption)))))) | exact (And.left (And.right (And.right (by with_reducible assumption)))) | exact (And.left (And.right (And.right (And.right (by with_reducible assumption))))) | exact (And.right (And.right (And.right (And.right (by with_reducible assumption))))) | exact (And.left (And.left (And.right (And.right (And.right (by with_reducible assumption)))))) | exact (And.left (And.right (And.left (And.right (And.right (And.right (by with_reducible assumption))))))) | exact (And.right (And.right (And.left (And.right (And.right (And.right (by with_reducible assumption))))))) | exact (And.left (And.right (And.right (And.right (by with_reducible assumption))))) | exact (And.left (And.right (And.right (And.right (And.right (by with_reducible assumption)))))) | exact (And.right (And.right (And.right (And.right (And.right (by with_reducible assumption)))))) | exact (And.left (And.left (And.right (And.right (And.right (And.right (by with_reducible assumption))))))) | exact (And.left (And.right (And.left (And.right (And.right (And.right (And.right (by with_reducible assumption)))))))) | exact (And.right (And.right (And.left (And.right (And.right (And.right (And.right (by with_reducible assumption)))))))) | exact (And.left (And.right (And.right (And.right (And.right (by with_reducible assumption)))))) | exact (And.left (And.right (And.right (And.right (And.right (And.right (by with_reducible assumption))))))) | exact (And.right (And.right (And.right (And.right (And.right (And.right (by with_reducible assumption))))))) | exact (And.left (And.left (And.right (And.right (And.right (And.right (And.right (by with_reducible assumption)))))))) | exact (And.left (And.right (And.left (And.right (And.right (And.right (And.right (And.right (by with_reducible assumption))))))))) | exact (And.right (And.right (And.left (And.right (And.right (And.right (And.right (And.right (by with_reducible assumption))))))))) | exact (And.left (And.right (And.right (And.right (And.right (And.right (by with_reducible assumption))))))) | exact (And.left (And.right (And.right (And.right (And.right (And.right (And.right (by with_reducible assumption)))))))) | exact (And.right (And.right (And.right (And.right (And.right (And.right (And.right (by with_reducible assumption)))))))) | exact (And.left (And.left (And.right (And.right (And.right (And.right (And.right (And.right (by with_reducible assumption))))))))) | exact (And.left (And.right (And.left (And.right (And.right (And.right (And.right (And.right (And.right (by with_reducible assumption)))))))))) | exact (And.right (And.right (And.left (And.right (And.right (And.right (And.right (And.right (And.right (by with_reducible assumption)))))))))) | exact (And.left (And.right (And.right (And.right (And.right (And.right (And.right (by with_reducible assumption)))))))) | exact (And.left (And.right (And.right (And.right (And.right (And.right (And.right (And.right (by with_reducible assumption))))))))) | exact (And.right (And.right (And.right (And.right (And.right (And.right (And.right (And.right (by with_reducible assumption))))))))) | exact (And.left (And.left (And.right (And.right (And.right (And.right (And.right (And.right (And.right (by with_reducible assumption)))))))))) | exact (And.left (And.right (And.left (And.right (And.right (And.right (And.right (And.right (And.right (And.right (by with_reducible assumption))))))))))) | exact (And.right (And.right (And.left (And.right (And.right (And.right (And.right (And.right (And.right (And.right (by with_reducible assumption))))))))))) | exact (And.left (And.right (And.right (And.right (And.right (And.right (And.right (And.right (by with_reducible assumption))))))))) | exact (And.left (And.right (And.right (And.right (And.right (And.right (And.right (And.right (And.right (by with_reducible assumption)))))))))) | exact (And.right (And.right (And.right (And.right (And.right (And.right (And.right (And.right (And.right (by with_reducible assumption)))))))))))
  k_with "MINE enterCN" => (
  refine enterCN (news := [(23, tabObj #[])]) (by k_asm) (by k_asm) (by k_asm) (by k_asm) (by assumption) (by exact rfl) (by exact rfl) (by assumption) (by k_is) (by k_is) (by ktr_room) (by exact BindsTo.of_eq rfl) (by exact rfl) (by decide +kernel) ?_ (by exact rfl) (by exact rfl) (by exact rfl)
  k_whole)
  k_with "exec FunctionDef" => (
  k_here
  kn_here
  k_dflt (refine nestDef_K (by first | with_reducible (exact rfl) | (exact rfl)) (by first | with_reducible (exact rfl) | (exact rfl)) (by first | with_reducible (exact rfl) | (exact rfl)) ?_)
  k_dflt (refine nest_K (by first | with_reducible (k_asm) | (k_asm)) (by first | with_reducible (k_asm) | (k_asm)) (by first | with_reducible (k_asm) | (k_asm)) (by first | with_reducible (kn_code) | (kn_code)) (by first | with_reducible (exact rfl) | (exact rfl)) (by first | with_reducible (k_updF) | (k_updF)) (by first | with_reducible (kn_triples) | (kn_triples)) (by first | with_reducible (kn_among) | (kn_among)) (by first | with_reducible (exact rfl) | (exact rfl)) ?_; k_whole)
  intro zf' zc' zoc' zvs' zt' zct' zdc' zh' ztk' zF' zN' zd1' zd2' zl1 zl2
  have zhco' := codeOb_mk qual2 zd1' zd2' (by k_dflt rfl)
  (try dsimp only at zN')
  (try k_lt zl1)
  (try k_lt2 zl2))
  k_with "call ref" => (
  k_here
  k_dflt (refine use_call (inner2_ok (by assumption) (by assumption) (by assumption) _ _ _ _ _ (Nat.le_refl _) (by first | with_reducible (omega) | (omega)) (by first | with_reducible (omega) | (omega)) (by first | with_reducible (omega) | (omega))) (by first | with_reducible (k_asm) | (k_asm)) (by first | with_reducible (k_asm) | (k_asm)) (by first | with_reducible (k_asm) | (k_asm)) (by first | with_reducible (k_asm) | (k_asm)) (by first | with_reducible (k_asm) | (k_asm)) (by first | with_reducible (first | exact rfl | assumption) | (first | exact rfl | assumption)) (by first | with_reducible ((try simp only [depth_under_make, depth_under_kw, depth_in1, depth_deeper, depth_caller] at *); (try dsimp only [ktrTop] at *); omega) | ((try simp only [depth_under_make, depth_under_kw, depth_in1, depth_deeper, depth_caller] at *); (try dsimp only [ktrTop] at *); omega)) (by first | with_reducible ((have zhcL9 := cLine_is); (try simp only [units_in1, units_deeper, Around.mark_units, units_caller] at *); (try dsimp only [ktrTop] at *); omega) | ((have zhcL9 := cLine_is); (try simp only [units_in1, units_deeper, Around.mark_units, units_caller] at *); (try dsimp only [ktrTop] at *); omega)) (by k_dflt (refine pre2_news (by k_asm) (by k_mem) (by exact codeRec_news (by k_asm) (by k_dflt k_mem) (by assumption)) (by k_mem) (by k_mem) (by k_mem) (by assumption) (by assumption) (by assumption) (by is_list))) ?_)
  k_whole
  intro zv' zh' ztk' zF' zN' zk' zp'
  obtain ⟨zy', zu', ze', zhy'⟩ := zp'
  subst ze'
  (try dsimp only)
  (try k_fold))
  intro dp un gd cn cs a ccd cl outer A₀ base h₀ L m s Q E B F X T hk N hpre hd hu hret
  refine wpAny_call ?_
  k_dflt walk_at "MINE enterCN"
  intro g L' h₁ tk cells hkg hsz F' N' Y' B' X' T' hlt
  have hkg : ∀ b o, b ∉ [(23 : Addr)] → s.heap.get? b = some o → g.get? b = some o := hkg
  have hlst : g.IsList l _ := (let ⟨o, ho, r⟩ := hpre; ⟨o, hkg _ _ (fun z => hl23 (List.mem_singleton.mp z)) ho, r⟩)
  have hCH : CodeHd g 27 23 := codeHd_of_K X' (by kernel_rfl)
  have hlen := hi.length
  have hab := Fr.above F'
  clear B F X T N hpre
  k_lt hlt
  k_cells Y'
  (try simp only [List.cons_append, List.nil_append] at N')
  (try dsimp only)
  (try k_fold)
  k_steps
  all_goals (try dsimp only)
  all_goals (refine hret _ _ _ (fun b o nb e => Fr.keep (by k_asm) b o (hkg b o nb e)) (fd_post (by k_asm) (by k_dflt k_mem) (by k_dflt k_mem) (by assumption) ?_ ?_))
  all_goals first
    | omega
    | exact told_none (by assumption)
    | exact Eq.trans (by assumption) (seg_all rfl)
end Mine
end -- LawFD

section -- LawFP
open PySem PySem.Spec PySem.Calls PySem.W PyProof.Rows
set_option maxRecDepth 100000
set_option rowWalk.seconds 0
namespace Mine

local macro_rules | `(tactic| l_ints) => `(tactic| exact ints_zeros _ _)
set_option maxHeartbeats 2000000 in
theorem fput_ok {w p loose mean mg mb} (C1 : I2dOk w p loose mean mg mb) (C2 : FD2i w p loose mean mg mb) : FPut w p loose mean mg mb := by
  intro x y t1 t2 h0 h1 h2 h3
  w_on
  refine (fun (h : (PySem.Challenge.rw_ib0002_01 = PySem.Challenge.rw_ib0002_01 ∧ Mine.hd.heap_39 = Mine.hd.heap_39) → _) => h ⟨rfl, rfl⟩) ?_
  k_fill
  intro _
  k_with_none
  k_with "MINE ne" => (refine neN ?_; (try dsimp only); first | exact Nat.ne_of_gt (by with_reducible assumption) | exact Nat.ne_of_lt (by with_reducible assumption) | exact Nat.ne_of_gt (And.left (by with_reducible assumption)) | exact Nat.ne_of_lt (And.left (by with_reducible assumption)) | exact Nat.ne_of_gt (And.left (And.right (by with_reducible assumption))) | exact Nat.ne_of_lt (And.left (And.right (by with_reducible assumption))) | exact Nat.ne_of_gt (And.left (And.right (And.right (by with_reducible assumption)))) | exact Nat.ne_of_lt (And.left (And.right (And.right (by with_reducible assumption)))) | exact Nat.ne_of_gt (And.left (And.right (And.right (And.right (by with_reducible assumption))))) | exact Nat.ne_of_lt (And.left (And.right (And.right (And.right (by with_reducible assumption))))) | exact Nat.ne_of_gt (And.left (And.right (And.right (And.right (And.right (by with_reducible assumption)))))) | exact Nat.ne_of_lt (And.left (And.right (And.right (And.right (And.right (by with_reducible assumption)))))) | exact Nat.ne_of_gt (And.left (And.right (And.right (And.right (And.right (And.right (by with_reducible assumption))))))) | exact Nat.ne_of_lt (And.left (And.right (And.right (And.right (And.right (And.right (by with_reducible assumption))))))) | exact Nat.ne_of_gt (And.left (And.right (And.right (And.right (And.right (And.right (And.right (by with_reducible assumption)))))))) | exact Nat.ne_of_lt (And.left (And.right (And.right (And.right (And.right (And.right (And.right (by with_reducible assumption)))))))) | exact Nat.ne_of_gt (And.left (And.right (And.right (And.right (And.right (And.right (And.right (And.right (by with_reducible assumption))))))))) | exact Nat.ne_of_lt (And.left (And.right (And.right (And.right (And.right (And.right (And.right (And.right (by with_reducible assumption))))))))) | exact Nat.ne_of_gt (And.left (And.right (And.right (And.right (And.right (And.right (And.right (And.right (And.right (by with_reducible assumption)))))))))) | exact Nat.ne_of_lt (And.left (And.right (And.right (And.right (And.right (And.right (And.right (And.right (And.right (by with_reducible assumption)))))))))) | exact Nat.ne_of_gt (And.right (by with_reducible assumption)) | exact Nat.ne_of_lt (And.right (by with_reducible assumption)) | exact Nat.ne_of_gt (And.right (And.right (by with_reducible assumption))) | exact Nat.ne_of_lt (And.right (And.right (by with_reducible assumption))) | exact Nat.ne_of_gt (And.right (And.right (And.right (by with_reducible assumption)))) | exact Nat.ne_of_lt (And.right (And.right (And.right (by with_reducible assumption)))) | exact Nat.ne_of_gt (And.right (And.right (And.right (And.right (by with_reducible assumption))))) | exact Nat.ne_of_lt (And.right (And.right (And.right (And.right (by with_reducible assumption))))) | exact Nat.ne_of_gt (And.right (And.right (And.right (And.right (And.right (by with_reducible assumption)))))) | exact Nat.ne_of_lt (And.right (And.right (And.right (And.right (And.right (by with_reducible assumption)))))) | exact Nat.ne_of_gt (And.right (And.right (And.right (And.right (And.right (And.right (by with_reducible assumption))))))) | exact Nat.ne_of_lt (And.right (And.right (And.right (And.right (And.right (And.right (by with_reducible assumption))))))) | exact Nat.ne_of_gt (And.right (And.right (And.right (And.right (And.right (And.right (And.right (by with_reducible assumption)))))))) | exact Nat.ne_of_lt (And.right (And.right (And.right (And.right (And.right (And.right (And.right (by with_reducible assumption)))))))) | exact Nat.ne_of_gt (And.right (And.right (And.right (And.right (And.right (And.right (And.right (And.right (by with_reducible assumption))))))))) | exact Nat.ne_of_lt (And.right (And.right (And.right (And.right (And.right (And.right (And.right (And.right (by with_reducible assumption))))))))) | exact (And.left (And.left (by with_reducible assumption))) | exact (And.left (And.right (And.left (by with_reducible assumption)))) | exact (And.right (And.right (And.left (by with_reducible assumption)))) | exact (And.left (And.left (And.right (by with_reducible assumption)))) | exact (And.left (And.right (And.left (And.right (by with_reducible assumption))))) | exact (And.right (And.right (And.left (And.right (by with_reducible assumption))))) | exact (And.left (And.right (by with_reducible assumption))) | exact (And.left (And.right (And.right (by with_reducible assumption)))) | exact (And.right (And.right (And.right (by with_reducible assumption)))) | exact (And.left (And.left (And.right (And.right (by with_reducible assumption))))) | exact (And.left (And.right (And.left (And.right (And.right (by with_reducible assumption)))))) | exact (And.right (And.right (And.left (And.right (And.right (by with_reducible assumption)))))) | exact (And.left (And.right (And.right (by with_reducible assumption)))) | exact (And.left (And.right (And.right (And.right (by with_reducible assumption))))) | exact (And.right (And.right (And.right (And.right (by with_reducible assumption))))) | exact (And.left (And.left (And.right (And.right (And.right (by with_reducible assumption)))))) | exact (And.left (And.right (And.left (And.right (And.right (And.right (by with_reducible assumption))))))) | exact (And.right (And.right (And.left (And.right (And.right (And.right (by with_reducible assumption))))))) | exact (And.left (And.right (And.right (And.right (by with_reducible assumption))))) | exact (And.left (And.right (And.right (And.right (And.right (by with_reducible assumption)))))) | exact (And.right (And.right (And.right (And.right (And.right (by with_reducible assumption)))))) | exact (And.left (And.left (And.right (And.right (And.right (And.right (by with_reducible assumption))))))) | exact (And.left (And.right (And.left (And.right (And.right (And.right (And.right (by with_reducible assumption)))))))) | exact (And.right (And.right (And.left (And.right (And.right (And.right (And.right (by with_reducible assumption)))))))) | exact (And.left (And.right (And.right (And.right (And.right (by with_reducible assumption)))))) | exact (And.left (And.right (And.right (And.right (And.right (And.right (by with_reducible assumption))))))) | exact (And.right (And.right (And.right (And.right (And.right (And.right (by with_reducible assumption))))))) | exact (And.left (And.left (And.right (And.right (And.right (And.right (And.right (by with_reducible assumption)))))))) | exact (And.left (And.right (And.left (And.right (And.right (And.right (And.right (And.right (by with_reducible assumption))))))))) | exact (And.right (And.right (And.left (And.right (And.right (And.right (And.right (And.right (by with_reducible assumption))))))))) | exact (And.left (And.right (And.right (And.right (And.right (And.right (by with_reducible assumption))))))) | exact (And.left (And.right (And.right (And.right (And.right (And.right (And.right (by with_reducible assumption)))))))) | exact (And.right (And.right (And.right (And.right (And.right (And.right (And.right (by with_reducible assumption)))))))) | exact (And.left (And.left (And.right (And.right (And.right (And.right (And.right (And.right (by with_reducible assumption))))))))) | exact (And.left (And.right (And.left (And.right (And.right (And.right (And.right (And.right (And.right (by with_reducible assumption)))))))))) | exact (And.right (And.right (And.left (And.right (And.right (And.right (And.right (And.right (And.right (by with_reducible assumption)))))))))) | exact (And.left (And.right (And.right (And.right (And.right (And.right (And.right (by with_reducible assumption)))))))) | exact (And.left (And.right (And.right (And.right (And.right (And.right (And.right (And.right (by with_reducible assumption))))))))) | exact (And.right (And.right (And.right (And.right (And.right (And.right (And.right (And.right (by with_reducible assumption))))))))) | exact (And.left (And.left (And.right (And.right (And.right (And.right (And.right (And.right (And.right (by with_reducible assumption)))))))))) | exact (And.left (And.right (And.left (And.right (And.right (And.right (And.right (And.right (And.right (And.right (by with_reducible assumption))))))))))) | exact (And.right (And.right (And.left (And.right (And.right (And.right (And.right (And.right (And.right (And.right (by with_reducible assumption))))))))))) | exact (And.left (And.right (And.right (And.right (And.right (And.right (And.right (And.right (by with_reducible assumption))))))))) | exact (And.left (And.right (And.right (And.right (And.right (And.right (And.right (And.right (And.right (by with_reducible assumption)))))))))) | exact (And.right (And.right (And.right (And.right (And.right (And.right (And.right (And.right (And.right (by with_reducible assumption)))))))))))
  k_with "MINE enterCN" => (
  refine enterCN (news := [(23, tabObj #[])]) (by k_asm) (by k_asm) (by k_asm) (by k_asm) (by assumption) (by exact rfl) (by exact rfl) (by assumption) (by k_is) (by k_is) (by ktr_room) (by exact BindsTo.of_eq rfl) (by exact rfl) (by decide +kernel) ?_ (by exact rfl) (by exact rfl) (by exact rfl)
  k_whole)
  k_with "MINE tab" => (first
  | assumption
  | exact Tab.keeps (by assumption) (Fr.keep (by k_asm)))
  k_with "call ref" => (
  k_here
  k_dflt (refine use_i2d (by first | with_reducible (assumption) | (assumption)) (by first | with_reducible (k_asm) | (k_asm)) (by first | with_reducible (k_asm) | (k_asm)) (by first | with_reducible (k_asm) | (k_asm)) (by first | with_reducible (k_asm) | (k_asm)) (by first | with_reducible (k_asm) | (k_asm)) (by first | with_reducible (first | exact rfl | assumption) | (first | exact rfl | assumption)) (by first | with_reducible (ktr_room) | (ktr_room)) (by first | with_reducible (ktr_units) | (ktr_units)) (by first | with_reducible (walk_at "MINE tab") | (walk_at "MINE tab")) (by first | with_reducible (omega) | (omega)) (by first | with_reducible (omega) | (omega)) ?_)
  k_whole
  intro zl' zn' zvs' zh' ztk' zF' zN' zl1 zi1 zn1 zs1 ze1 ze2
  (try k_lt zl1)
  (try dsimp only)
  (try k_fold))
  k_with "call ref" => (
  k_here
  k_dflt (refine use_d2i (by first | with_reducible (assumption) | (assumption)) (by first | with_reducible (k_asm) | (k_asm)) (by first | with_reducible (k_asm) | (k_asm)) (by first | with_reducible (k_asm) | (k_asm)) (by first | with_reducible (k_asm) | (k_asm)) (by first | with_reducible (k_asm) | (k_asm)) (by first | with_reducible (first | exact rfl | assumption) | (first | exact rfl | assumption)) (by first | with_reducible (ktr_room) | (ktr_room)) (by first | with_reducible (ktr_units) | (ktr_units)) (by first | with_reducible (walk_at "MINE tab") | (walk_at "MINE tab")) (by first | with_reducible (is_list) | (is_list)) (by first | with_reducible (l_ints) | (l_ints)) (by first | with_reducible (walk_at "MINE len5") | (walk_at "MINE len5")) (by first | with_reducible (walk_at "MINE figures") | (walk_at "MINE figures")) ?_)
  k_whole
  intro zt' zh' ztk' zF' zN'
  (try dsimp only)
  (try k_fold))
  k_with "call ref" => (
  k_here
  k_dflt (refine use_fd2i (by first | with_reducible (assumption) | (assumption)) (by first | with_reducible (k_asm) | (k_asm)) (by first | with_reducible (k_asm) | (k_asm)) (by first | with_reducible (k_asm) | (k_asm)) (by first | with_reducible (k_asm) | (k_asm)) (by first | with_reducible (k_asm) | (k_asm)) (by first | with_reducible (first | exact rfl | assumption) | (first | exact rfl | assumption)) (by first | with_reducible (ktr_room) | (ktr_room)) (by first | with_reducible (ktr_units) | (ktr_units)) (by k_dflt (k_updF)) (by first | with_reducible (k_ne) | (k_ne)) (by first | with_reducible (is_list) | (is_list)) (by first | with_reducible (l_ints) | (l_ints)) (by first | with_reducible (walk_at "MINE len5") | (walk_at "MINE len5")) (by first | with_reducible (walk_at "MINE figures") | (walk_at "MINE figures")) ?_)
  k_whole
  intro zt' zc' zo' zh' ztk' zF' zN' zl1 zl4' zhco'
  (try dsimp only at zN')
  (try k_lt zl1)
  (try dsimp only)
  (try k_fold))
  k_with "call builtin:max" => (
  k_here
  k_dflt (refine maxNat (by k_dflt (first | rfl | assumption)) (by first | with_reducible (k_asm) | (k_asm)) (by first | with_reducible (k_asm) | (k_asm)) ?_)
  k_whole
  intro zM' zt' zh' ztk' zhm1 zhm2 zhm3 zF' zN'
  have zhM5 := max_le5 zhm3 (by assumption) (by assumption)
  (try dsimp only)
  (try k_sweep))
  k_with "binaryOp Mult ref int" => (
  k_here
  (with_reducible show wpAny _ _ (binaryOp Operator.Mult (Value.ref _) (Value.int _ _)) _ _ _)
  k_dflt (refine mulK _ (Int.ofNat_sub (by first | with_reducible (assumption) | (assumption))).symm (by first | with_reducible (omega) | (omega)) (by first | with_reducible (k_asm) | (k_asm)) (by first | with_reducible (k_asm) | (k_asm)) (by first | with_reducible (is_list) | (is_list)) ?_)
  k_whole
  intro zD' zh' zF' zN' zl1
  have zhz' := ints_zeros
  (try k_lt zl1)
  (try k_sweep))
  k_with "subscriptTail" => (
  k_here
  (with_reducible show wpAny _ _ (subscriptTail _ _ (Value.ref _) (Value.int _ _)) _ _ _)
  (with_unfolding_all refine itemInts (by is_list) (by assumption) (by assumption) (by exact idx_lt (by assumption) (by assumption) (by assumption)) (by exact idx_63 (by assumption) (by assumption)) ?_ (by with_unfolding_all rfl))
  k_whole
  intro zt'
  (try dsimp only))
  k_with "MINE len5" => (exact put_len5 (by assumption))
  k_with "MINE figures" => (exact put_figs)
  intro dp un gd cn cs a ccd cl outer A₀ base h₀ L m s Q E B F X T hk N hpre hd hu hret
  refine wpAny_call ?_
  k_dflt walk_at "MINE enterCN"
  intro g L' h₁ tk cells hkg hsz F' N' Y' B' X' T' hlt
  have hkg : ∀ b o, b ∉ [(23 : Addr)] → s.heap.get? b = some o → g.get? b = some o := hkg
  have ht1 := tab_hide (N (23, tabObj #[]) (List.Mem.head _)).1 (fun b o nb e => hkg b o (fun z => nb (List.mem_singleton.mp z)) e) hpre
  have hab := Fr.above F'
  clear B F X T N hpre
  k_lt hlt
  k_cells Y'
  (try simp only [List.cons_append, List.nil_append] at N')
  (try dsimp only)
  (try k_fold)
  k_steps
  all_goals (try dsimp only)
  all_goals (refine hret _ _ _ (fun b o nb e => Fr.keep (by k_asm) b o (hkg b o nb e)) (fd_post (by k_asm) (by k_dflt k_mem) (by k_dflt k_mem) (by assumption) ?_ ?_))
  · omega
  · exact put_law h0 h1 h2 h3 (by assumption) (by assumption) (by assumption) (by assumption) (by assumption)
end Mine
end -- LawFP

section -- LawFV
open PySem PySem.Spec PySem.Calls PySem.W PyProof.Rows
set_option maxRecDepth 100000
set_option rowWalk.seconds 0
namespace Mine

set_option maxHeartbeats 1000000 in
theorem fdiv_ok {w p loose mean mg mb} (C1 : I2dOk w p loose mean mg mb) (C2 : FI2d w p loose mean mg mb) (C3 : FPut w p loose mean mg mb) : FDiv w p loose mean mg mb := by
  intro t1 t2
  have hb3 : bits 3 = [1, 1] := by decide
  have hb2 : bits 2 = [0, 1] := by decide
  have hb1 : bits 1 = [1] := by decide
  have hp : put 3 2 = 1 := by decide +kernel
  w_on
  refine (fun (h : (PySem.Challenge.rw_ib0002_01 = PySem.Challenge.rw_ib0002_01 ∧ Mine.hd.heap_39 = Mine.hd.heap_39) → _) => h ⟨rfl, rfl⟩) ?_
  k_fill
  intro _
  k_with_none
  k_with "MINE ne" => (refine neN ?_; (try dsimp only); first | exact Nat.ne_of_gt (by with_reducible assumption) | exact Nat.ne_of_lt (by with_reducible assumption) | exact Nat.ne_of_gt (And.left (by with_reducible assumption)) | exact Nat.ne_of_lt (And.left (by with_reducible assumption)) | exact Nat.ne_of_gt (And.left (And.right (by with_reducible assumption))) | exact Nat.ne_of_lt (And.left (And.right (by with_reducible assumption))) | exact Nat.ne_of_gt (And.left (And.right (And.right (by with_reducible assumption)))) | exact Nat.ne_of_lt (And.left (And.right (And.right (by with_reducible assumption)))) | exact Nat.ne_of_gt (And.left (And.right (And.right (And.right (by with_reducible assumption))))) | exact Nat.ne_of_lt (And.left (And.right (And.right (And.right (by with_reducible assumption))))) | exact Nat.ne_of_gt (And.left (And.right (And.right (And.right (And.right (by with_reducible assumption)))))) | exact Nat.ne_of_lt (And.left (And.right (And.right (And.right (And.right (by with_reducible assumption)))))) | exact Nat.ne_of_gt (And.left (And.right (And.right (And.right (And.right (And.right (by with_reducible assumption))))))) | exact Nat.ne_of_lt (And.left (And.right (And.right (And.right (And.right (And.right (by with_reducible assumption))))))) | exact Nat.ne_of_gt (And.left (And.right (And.right (And.right (And.right (And.right (And.right (by with_reducible assumption)))))))) | exact Nat.ne_of_lt (And.left (And.right (And.right (And.right (And.right (And.right (And.right (by with_reducible assumption)))))))) | exact Nat.ne_of_gt (And.left (And.right (And.right (And.right (And.right (And.right (And.right (And.right (by with_reducible assumption))))))))) | exact Nat.ne_of_lt (And.left (And.right (And.right (And.right (And.right (And.right (And.right (And.right (by with_reducible assumption))))))))) | exact Nat.ne_of_gt (And.left (And.right (And.right (And.right (And.right (And.right (And.right (And.right (And.right (by with_reducible assumption)))))))))) | exact Nat.ne_of_lt (And.left (And.right (And.right (And.right (And.right (And.right (And.right (And.right (And.right (by with_reducible assumption)))))))))) | exact Nat.ne_of_gt (And.right (by with_reducible assumption)) | exact Nat.ne_of_lt (And.right (by with_reducible assumption)) | exact Nat.ne_of_gt (And.right (And.right (by with_reducible assumption))) | exact Nat.ne_of_lt (And.right (And.right (by with_reducible assumption))) | exact Nat.ne_of_gt (And.right (And.right (And.right (by with_reducible assumption)))) | exact Nat.ne_of_lt (And.right (And.right (And.right (by with_reducible assumption)))) | exact Nat.ne_of_gt (And.right (And.right (And.right (And.right (by with_reducible assumption))))) | exact Nat.ne_of_lt (And.right (And.right (And.right (And.right (by with_reducible assumption))))) | exact Nat.ne_of_gt (And.right (And.right (And.right (And.right (And.right (by with_reducible assumption)))))) | exact Nat.ne_of_lt (And.right (And.right (And.right (And.right (And.right (by with_reducible assumption)))))) | exact Nat.ne_of_gt (And.right (And.right (And.right (And.right (And.right (And.right (by with_reducible assumption))))))) | exact Nat.ne_of_lt (And.right (And.right (And.right (And.right (And.right (And.right (by with_reducible assumption))))))) | exact Nat.ne_of_gt (And.right (And.right (And.right (And.right (And.right (And.right (And.right (by with_reducible assumption)))))))) | exact Nat.ne_of_lt (And.right (And.right (And.right (And.right (And.right (And.right (And.right (by with_reducible assumption)))))))) | exact Nat.ne_of_gt (And.right (And.right (And.right (And.right (And.right (And.right (And.right (And.right (by with_reducible assumption))))))))) | exact Nat.ne_of_lt (And.right (And.right (And.right (And.right (And.right (And.right (And.right (And.right (by with_reducible assumption))))))))) | exact (And.left (And.left (by with_reducible assumption))) | exact (And.left (And.right (And.left (by with_reducible assumption)))) | exact (And.right (And.right (And.left (by with_reducible assumption)))) | exact (And.left (And.left (And.right (by with_reducible assumption)))) | exact (And.left (And.right (And.left (And.right (by with_reducible assumption))))) | exact (And.right (And.right (And.left (And.right (by with_reducible assumption))))) | exact (And.left (And.right (by with_reducible assumption))) | exact (And.left (And.right (And.right (by with_reducible assumption)))) | exact (And.right (And.right (And.right (by with_reducible assumption)))) | exact (And.left (And.left (And.right (And.right (by with_reducible assumption))))) | exact (And.left (And.right (And.left (And.right (And.right (by with_reducible assumption)))))) | exact (And.right (And.right (And.left (And.right (And.right (by with_reducible assumption)))))) | exact (And.left (And.right (And.right (by with_reducible assumption)))) | exact (And.left (And.right (And.right (And.right (by with_reducible assumption))))) | exact (And.right (And.right (And.right (And.right (by with_reducible assumption))))) | exact (And.left (And.left (And.right (And.right (And.right (by with_reducible assumption)))))) | exact (And.left (And.right (And.left (And.right (And.right (And.right (by with_reducible assumption))))))) | exact (And.right (And.right (And.left (And.right (And.right (And.right (by with_reducible assumption))))))) | exact (And.left (And.right (And.right (And.right (by with_reducible assumption))))) | exact (And.left (And.right (And.right (And.right (And.right (by with_reducible assumption)))))) | exact (And.right (And.right (And.right (And.right (And.right (by with_reducible assumption)))))) | exact (And.left (And.left (And.right (And.right (And.right (And.right (by with_reducible assumption))))))) | exact (And.left (And.right (And.left (And.right (And.right (And.right (And.right (by with_reducible assumption)))))))) | exact (And.right (And.right (And.left (And.right (And.right (And.right (And.right (by with_reducible assumption)))))))) | exact (And.left (And.right (And.right (And.right (And.right (by with_reducible assumption)))))) | exact (And.left (And.right (And.right (And.right (And.right (And.right (by with_reducible assumption))))))) | exact (And.right (And.right (And.right (And.right (And.right (And.right (by with_reducible assumption))))))) | exact (And.left (And.left (And.right (And.right (And.right (And.right (And.right (by with_reducible assumption)))))))) | exact (And.left (And.right (And.left (And.right (And.right (And.right (And.right (And.right (by with_reducible assumption))))))))) | exact (And.right (And.right (And.left (And.right (And.right (And.right (And.right (And.right (by with_reducible assumption))))))))) | exact (And.left (And.right (And.right (And.right (And.right (And.right (by with_reducible assumption))))))) | exact (And.left (And.right (And.right (And.right (And.right (And.right (And.right (by with_reducible assumption)))))))) | exact (And.right (And.right (And.right (And.right (And.right (And.right (And.right (by with_reducible assumption)))))))) | exact (And.left (And.left (And.right (And.right (And.right (And.right (And.right (And.right (by with_reducible assumption))))))))) | exact (And.left (And.right (And.left (And.right (And.right (And.right (And.right (And.right (And.right (by with_reducible assumption)))))))))) | exact (And.right (And.right (And.left (And.right (And.right (And.right (And.right (And.right (And.right (by with_reducible assumption)))))))))) | exact (And.left (And.right (And.right (And.right (And.right (And.right (And.right (by with_reducible assumption)))))))) | exact (And.left (And.right (And.right (And.right (And.right (And.right (And.right (And.right (by with_reducible assumption))))))))) | exact (And.right (And.right (And.right (And.right (And.right (And.right (And.right (And.right (by with_reducible assumption))))))))) | exact (And.left (And.left (And.right (And.right (And.right (And.right (And.right (And.right (And.right (by with_reducible assumption)))))))))) | exact (And.left (And.right (And.left (And.right (And.right (And.right (And.right (And.right (And.right (And.right (by with_reducible assumption))))))))))) | exact (And.right (And.right (And.left (And.right (And.right (And.right (And.right (And.right (And.right (And.right (by with_reducible assumption))))))))))) | exact (And.left (And.right (And.right (And.right (And.right (And.right (And.right (And.right (by with_reducible assumption))))))))) | exact (And.left (And.right (And.right (And.right (And.right (And.right (And.right (And.right (And.right (by with_reducible assumption)))))))))) | exact (And.right (And.right (And.right (And.right (And.right (And.right (And.right (And.right (And.right (by with_reducible assumption)))))))))))
  k_with "MINE enterPN" => (
  refine enterPN (news := emptyTabs) (by k_asm) (by k_asm) (by k_asm) (by k_asm) (by assumption) (by exact rfl) (by exact rfl) (by assumption) (by k_is) (by k_is) (by ktr_room) (by exact BindsTo.of_eq rfl) (by exact locs rfl) ?_ (by exact rfl) (by exact rfl) (by exact rfl) (by decide)
  k_whole)
  k_with "MINE tab" => (first
  | assumption
  | exact tab_of_news (by k_asm) (by k_dflt k_mem) (by k_dflt k_mem) (by assumption)
  | exact Tab.keeps (by assumption) (Fr.keep (by k_asm)))
  k_with "newTuple" => (
  k_here
  k_dflt (refine newTupleZ (by first | with_reducible (k_asm) | (k_asm)) (by first | with_reducible (k_asm) | (k_asm)) (by k_dflt (exact Nat.le_of_ble_eq_true rfl)) ?_)
  k_whole
  intro zD' zh' zF' zN' zl1 zl2
  (try k_lt zl1)
  (try k_sweep))
  k_with "newList" => (
  k_here
  k_dflt (refine newListZ (by first | with_reducible (k_asm) | (k_asm)) (by first | with_reducible (k_asm) | (k_asm)) (by k_dflt (exact Nat.le_of_ble_eq_true rfl)) ?_)
  k_whole
  intro zD' zh' zF' zN' zl1 zl2
  (try k_lt zl1)
  (try k_sweep))
  k_with "call ref" => (
  k_here
  k_dflt (refine use_fi2d (by first | with_reducible (assumption) | (assumption)) (by first | with_reducible (k_asm) | (k_asm)) (by first | with_reducible (k_asm) | (k_asm)) (by first | with_reducible (k_asm) | (k_asm)) (by first | with_reducible (k_asm) | (k_asm)) (by first | with_reducible (k_asm) | (k_asm)) (by first | with_reducible (first | exact rfl | assumption) | (first | exact rfl | assumption)) (by first | with_reducible (ktr_room) | (ktr_room)) (by first | with_reducible (ktr_units) | (ktr_units)) (by k_dflt (k_updF)) (by first | with_reducible (walk_at "MINE bnd") | (walk_at "MINE bnd")) (by first | with_reducible (walk_at "MINE bnd") | (walk_at "MINE bnd")) ?_)
  k_whole
  intro zl' zn' zvs' zc' zo' zh' ztk' zF' zN' zl1 zl2 zl3' zi1 zhco'
  have zl4' := zl3'.1
  have zl5' := zl3'.2
  rw [(by assumption : bits _ = _)] at zi1
  (first
    | (have ze9 := ints_inv0 zi1; subst ze9)
    | (have ze9 := ints_inv1 zi1; obtain ⟨zt1', ze9⟩ := ze9; subst ze9)
    | (have ze9 := ints_inv2 zi1; obtain ⟨zt1', zt2', ze9⟩ := ze9; subst ze9))
  clear zi1
  (try dsimp only at zN')
  (try k_lt zl1)
  (try k_lt2 zl2)
  (try dsimp only)
  (try k_fold))
  k_with "call ref" => (
  k_here
  k_dflt (refine use_i2d (by first | with_reducible (assumption) | (assumption)) (by first | with_reducible (k_asm) | (k_asm)) (by first | with_reducible (k_asm) | (k_asm)) (by first | with_reducible (k_asm) | (k_asm)) (by first | with_reducible (k_asm) | (k_asm)) (by first | with_reducible (k_asm) | (k_asm)) (by first | with_reducible (first | exact rfl | assumption) | (first | exact rfl | assumption)) (by first | with_reducible (ktr_room) | (ktr_room)) (by first | with_reducible (ktr_units) | (ktr_units)) (by first | with_reducible (walk_at "MINE tab") | (walk_at "MINE tab")) (by first | with_reducible (walk_at "MINE bnd") | (walk_at "MINE bnd")) (by first | with_reducible (walk_at "MINE bnd") | (walk_at "MINE bnd")) ?_)
  k_whole
  intro zl' zn' zvs' zh' ztk' zF' zN' zl1 zi1 zn1 zs1 ze1 ze2
  rw [(by assumption : bits _ = _)] at zi1
  (first
    | (have ze9 := ints_inv0 zi1; subst ze9)
    | (have ze9 := ints_inv1 zi1; obtain ⟨zt1', ze9⟩ := ze9; subst ze9)
    | (have ze9 := ints_inv2 zi1; obtain ⟨zt1', zt2', ze9⟩ := ze9; subst ze9)
    | (have ze9 := ints_inv3 zi1; obtain ⟨zt1', zt2', zt3', ze9⟩ := ze9; subst ze9)
    | (have ze9 := ints_inv4 zi1; obtain ⟨zt1', zt2', zt3', zt4', ze9⟩ := ze9; subst ze9)
    | (have ze9 := ints_inv5 zi1; obtain ⟨zt1', zt2', zt3', zt4', zt5', ze9⟩ := ze9; subst ze9))
  clear zi1 zs1 ze1 ze2
  (try k_lt zl1)
  (try dsimp only)
  (try k_fold))
  k_with "call ref" => (
  k_here
  k_dflt (refine use_fput (by first | with_reducible (assumption) | (assumption)) (by first | with_reducible (k_asm) | (k_asm)) (by first | with_reducible (k_asm) | (k_asm)) (by first | with_reducible (k_asm) | (k_asm)) (by first | with_reducible (k_asm) | (k_asm)) (by first | with_reducible (k_asm) | (k_asm)) (by first | with_reducible (first | exact rfl | assumption) | (first | exact rfl | assumption)) (by first | with_reducible (ktr_room) | (ktr_room)) (by first | with_reducible (ktr_units) | (ktr_units)) (by k_dflt (k_updF)) (by first | with_reducible (walk_at "MINE tab") | (walk_at "MINE tab")) (by first | with_reducible (walk_at "MINE bnd") | (walk_at "MINE bnd")) (by first | with_reducible (walk_at "MINE bnd") | (walk_at "MINE bnd")) (by first | with_reducible (walk_at "MINE bnd") | (walk_at "MINE bnd")) (by first | with_reducible (walk_at "MINE bnd") | (walk_at "MINE bnd")) ?_)
  k_whole
  intro zt' zc' zo' zh' ztk' zF' zN' zl1 zl4' zhco'
  (try dsimp only at zN')
  (try k_lt zl1)
  (try dsimp only)
  (try k_fold))
  k_with "MINE bnd" => (first | decide | assumption)
  intro dp un gd cn cs a ccd cl outer A₀ base h₀ L m s Q E B F X T hk N hpre hd hu hret
  refine wpAny_call ?_
  k_dflt walk_at "MINE enterPN"
  intro g L' h₁ hkg hsz F' N' B' X' T' hlt
  have hab := Fr.above F'
  have hab2 : s.heap.objs.size ≤ L' := hsz ▸ hab
  clear B F X T N hpre
  k_lt hlt
  (try dsimp only)
  (try k_fold)
  k_steps
  all_goals (try dsimp only)
  all_goals (refine hret _ _ _ (fun b o nb e => Fr.keep (by k_asm) b o (hkg b o nb e)) (fdiv_post (by k_asm) (by k_dflt k_mem) (by k_dflt k_mem) (by k_dflt k_mem) (by k_dflt k_mem) (by assumption) (by assumption) (by k_dflt k_mem) ?_ ?_ ?_ ?_ ?_ ?_ ?_))
  all_goals first
    | exact Nat.le_of_lt (Nat.lt_of_le_of_lt hab2 (by assumption))
    | omega
    | exact hp
    | rfl
end Mine
end -- LawFV

section -- LawAlone
open PySem PySem.Spec PySem.Calls PySem.W PyProof.Rows
set_option maxRecDepth 100000
set_option rowWalk.seconds 0
namespace Mine
theorem lt_all {l : List (Addr × Obj)} {a b : Addr} (h : ∀ q ∈ l, q.1 < a) (h2 : @LT.lt Nat _ a b) : ∀ q ∈ l, q.1 < b := fun q hq => Nat.lt_trans (h q hq) h2
theorem ins_three {w p loose mean mg mb} (C : InsOk w p loose mean mg mb) {D : Addr} {t u : Tok} {n : Nat} : CallL w p loose mean mg mb 37 D [.ref D, .int 3 t] 4 [.int 2 u] n (sieve 2) :=
  sieve_two ▸ C D 3 t [.int 2 u] n [2] (.cons _ _ .nil) (by decide) (by decide)

set_option maxHeartbeats 4000000 in
theorem alone_ok {w p loose mean mg mb} (C1 : I2dOk w p loose mean mg mb) (C2 : D2iOk w p loose mean mg mb) (C3 : PutOk w p loose mean mg mb) (C4 : DivOk w p loose mean mg mb) (C5 : InsOk w p loose mean mg mb) (C6 : FDiv w p loose mean mg mb) : AloneOk w p loose mean mg mb := by
  intro t
  w_on
  refine (fun (h : (PySem.Challenge.rw_ib0002_01 = PySem.Challenge.rw_ib0002_01 ∧ Mine.hd.heap_39 = Mine.hd.heap_39) → _) => h ⟨rfl, rfl⟩) ?_
  k_fill
  intro _
  k_with_none
  k_with "MINE ne" => (refine neN ?_; (try dsimp only); first | exact Nat.ne_of_gt (by with_reducible assumption) | exact Nat.ne_of_lt (by with_reducible assumption) | exact Nat.ne_of_gt (And.left (by with_reducible assumption)) | exact Nat.ne_of_lt (And.left (by with_reducible assumption)) | exact Nat.ne_of_gt (And.left (And.right (by with_reducible assumption))) | exact Nat.ne_of_lt (And.left (And.right (by with_reducible assumption))) | exact Nat.ne_of_gt (And.left (And.right (And.right (by with_reducible assumption)))) | exact Nat.ne_of_lt (And.left (And.right (And.right (by with_reducible assumption)))) | exact Nat.ne_of_gt (And.left (And.right (And.right (And.right (by with_reducible assumption))))) | exact Nat.ne_of_lt (And.left (And.right (And.right (And.right (by with_reducible assumption))))) | exact Nat.ne_of_gt (And.left (And.right (And.right (And.right (And.right (by with_reducible assumption)))))) | exact Nat.ne_of_lt (And.left (And.right (And.right (And.right (And.right (by with_reducible assumption)))))) | exact Nat.ne_of_gt (And.left (And.right (And.right (And.right (And.right (And.right (by with_reducible assumption))))))) | exact Nat.ne_of_lt (And.left (And.right (And.right (And.right (And.right (And.right (by with_reducible assumption))))))) | exact Nat.ne_of_gt (And.left (And.right (And.right (And.right (And.right (And.right (And.right (by with_reducible assumption)))))))) | exact Nat.ne_of_lt (And.left (And.right (And.right (And.right (And.right (And.right (And.right (by with_reducible assumption)))))))) | exact Nat.ne_of_gt (And.left (And.right (And.right (And.right (And.right (And.right (And.right (And.right (by with_reducible assumption))))))))) | exact Nat.ne_of_lt (And.left (And.right (And.right (And.right (And.right (And.right (And.right (And.right (by with_reducible assumption))))))))) | exact Nat.ne_of_gt (And.left (And.right (And.right (And.right (And.right (And.right (And.right (And.right (And.right (by with_reducible assumption)))))))))) | exact Nat.ne_of_lt (And.left (And.right (And.right (And.right (And.right (And.right (And.right (And.right (And.right (by with_reducible assumption)))))))))) | exact Nat.ne_of_gt (And.right (by with_reducible assumption)) | exact Nat.ne_of_lt (And.right (by with_reducible assumption)) | exact Nat.ne_of_gt (And.right (And.right (by with_reducible assumption))) | exact Nat.ne_of_lt (And.right (And.right (by with_reducible assumption))) | exact Nat.ne_of_gt (And.right (And.right (And.right (by with_reducible assumption)))) | exact Nat.ne_of_lt (And.right (And.right (And.right (by with_reducible assumption)))) | exact Nat.ne_of_gt (And.right (And.right (And.right (And.right (by with_reducible assumption))))) | exact Nat.ne_of_lt (And.right (And.right (And.right (And.right (by with_reducible assumption))))) | exact Nat.ne_of_gt (And.right (And.right (And.right (And.right (And.right (by with_reducible assumption)))))) | exact Nat.ne_of_lt (And.right (And.right (And.right (And.right (And.right (by with_reducible assumption)))))) | exact Nat.ne_of_gt (And.right (And.right (And.right (And.right (And.right (And.right (by with_reducible assumption))))))) | exact Nat.ne_of_lt (And.right (And.right (And.right (And.right (And.right (And.right (by with_reducible assumption))))))) | exact Nat.ne_of_gt (And.right (And.right (And.right (And.right (And.right (And.right (And.right (by with_reducible assumption)))))))) | exact Nat.ne_of_lt (And.right (And.right (And.right (And.right (And.right (And.right (And.right (by with_reducible assumption)))))))) | exact Nat.ne_of_gt (And.right (And.right (And.right (And.right (And.right (And.right (And.right (And.right (by with_reducible assumption))))))))) | exact Nat.ne_of_lt (And.right (And.right (And.right (And.right (And.right (And.right (And.right (And.right (by with_reducible assumption))))))))) | exact (And.left (And.left (by with_reducible assumption))) | exact (And.left (And.right (And.left (by with_reducible assumption)))) | exact (And.right (And.right (And.left (by with_reducible assumption)))) | exact (And.left (And.left (And.right (by with_reducible assumption)))) | exact (And.left (And.right (And.left (And.right (by with_reducible assumption))))) | exact (And.right (And.right (And.left (And.right (by with_reducible assumption))))) | exact (And.left (And.right (by with_reducible assumption))) | exact (And.left (And.right (And.right (by with_reducible assumption)))) | exact (And.right (And.right (And.right (by with_reducible assumption)))) | exact (And.left (And.left (And.right (And.right (by with_reducible assumption))))) | exact (And.left (And.right (And.left (And.right (And.right (by with_reducible assumption)))))) | exact (And.right (And.right (And.left (And.right (And.right (by with_reducible assumption)))))) | exact (And.left (And.right (And.right (by with_reducible assumption)))) | exact (And.left (And.right (And.right (And.right (by with_reducible assumption))))) | exact (And.right (And.right (And.right (And.right (by with_reducible assumption))))) | exact (And.left (And.left (And.right (And.right (And.right (by with_reducible assumption)))))) | exact (And.left (And.right (And.left (And.right (And.right (And.right (by with_reducible assumption))))))) | exact (And.right (And.right (And.left (And.right (And.right (And.right (by with_reducible assumption))))))) | exact (And.left (And.right (And.right (And.right (by with_reducible assumption))))) | exact (And.left (And.right (And.right (And.right (And.right (by with_reducible assumption)))))) | exact (And.right (And.right (And.right (And.right (And.right (by with_reducible assumption)))))) | exact (And.left (And.left (And.right (And.right (And.right (And.right (by with_reducible assumption))))))) | exact (And.left (And.right (And.left (And.right (And.right (And.right (And.right (by with_reducible assumption)))))))) | exact (And.right (And.right (And.left (And.right (And.right (And.right (And.right (by with_reducible assumption)))))))) | exact (And.left (And.right (And.right (And.right (And.right (by with_reducible assumption)))))) | exact (And.left (And.right (And.right (And.right (And.right (And.right (by with_reducible assumption))))))) | exact (And.right (And.right (And.right (And.right (And.right (And.right (by with_reducible assumption))))))) | exact (And.left (And.left (And.right (And.right (And.right (And.right (And.right (by with_reducible assumption)))))))) | exact (And.left (And.right (And.left (And.right (And.right (And.right (And.right (And.right (by with_reducible assumption))))))))) | exact (And.right (And.right (And.left (And.right (And.right (And.right (And.right (And.right (by with_reducible assumption))))))))) | exact (And.left (And.right (And.right (And.right (And.right (And.right (by with_reducible assumption))))))) | exact (And.left (And.right (And.right (And.right (And.right (And.right (And.right (by with_reducible assumption)))))))) | exact (And.right (And.right (And.right (And.right (And.right (And.right (And.right (by with_reducible assumption)))))))) | exact (And.left (And.left (And.right (And.right (And.right (And.right (And.right (And.right (by with_reducible assumption))))))))) | exact (And.left (And.right (And.left (And.right (And.right (And.right (And.right (And.right (And.right (by with_reducible assumption)))))))))) | exact (And.right (And.right (And.left (And.right (And.right (And.right (And.right (And.right (And.right (by with_reducible assumption)))))))))) | exact (And.left (And.right (And.right (And.right (And.right (And.right (And.right (by with_reducible assumption)))))))) | exact (And.left (And.right (And.right (And.right (And.right (And.right (And.right (And.right (by with_reducible assumption))))))))) | exact (And.right (And.right (And.right (And.right (And.right (And.right (And.right (And.right (by with_reducible assumption))))))))) | exact (And.left (And.left (And.right (And.right (And.right (And.right (And.right (And.right (And.right (by with_reducible assumption)))))))))) | exact (And.left (And.right (And.left (And.right (And.right (And.right (And.right (And.right (And.right (And.right (by with_reducible assumption))))))))))) | exact (And.right (And.right (And.left (And.right (And.right (And.right (And.right (And.right (And.right (And.right (by with_reducible assumption))))))))))) | exact (And.left (And.right (And.right (And.right (And.right (And.right (And.right (And.right (by with_reducible assumption))))))))) | exact (And.left (And.right (And.right (And.right (And.right (And.right (And.right (And.right (And.right (by with_reducible assumption)))))))))) | exact (And.right (And.right (And.right (And.right (And.right (And.right (And.right (And.right (And.right (by with_reducible assumption)))))))))))
  k_with "MINE enterCN" => (
  refine enterCN (news := emptyTabs) (by k_asm) (by k_asm) (by k_asm) (by k_asm) (by assumption) (by exact rfl) (by exact rfl) (by assumption) (by k_is) (by k_is) (by ktr_room) (by exact BindsTo.of_eq rfl) (by exact rfl) (by decide +kernel) ?_ (by exact rfl) (by exact rfl) (by exact rfl)
  k_whole)
  k_with "exec For Name Call cons nil" => (
  k_here
  (rename Fr _ _ _ _ => zlF')
  (with_unfolding_all refine For_turns zlF' ?_)
  k_whole)
  k_with "eval ListComp" => (
  k_here
  lct_look
  k_dflt (refine LCt.ListComp_T (F₀ := by k_asm) (by with_unfolding_all rfl) (by decide) (by rfl) (by decide) (by rfl) ?_))
  k_with "CompSrcT" => (
  k_here
  k_dflt (refine LCt.CompSrcT.ledger (by rfl) (by k_asm) (by k_asm) (by k_mem) (by exact size5 (by assumption)) ?_)
  intro zg'
  (refine kci_list (sieveG (2 + (i : Int))) (by assumption) (fun zk' zt' zI' zoI' zC' zoC' zD' zm' zys' zl' zh' ztk' zE' zhk' zhI' zhC' zhx' zF' zN' zoff' zne' => ?_) ?_ (sieveG_grows _))
  (all_goals (try (simp only [LCg.Off3, and_true] at zoff')))
  (all_goals (try ((show KPfMark → _); intro zhMark')))
  (all_goals (try (have zhb' := (hsm).2 _ zhk')))
  kcf_last)
  k_with "CompEnd" => (k_dflt (first
  | refine end_el (by k_asm) (by k_asm) (by kcf_all) (by first | assumption | (simp only [LCg.Off3, and_true]; assumption)) (by lcg_src) ?_
  | refine end_no (by k_asm) (by k_asm) (by kcf_all) (by first | assumption | (simp only [LCg.Off3, and_true]; assumption)) (by lcg_src) ?_))
  k_with "KCiEl" => ((refine kci_el (by exact sieveG_yes (by assumption) (by assumption)) (by with_unfolding_all rfl) (by with_unfolding_all rfl)))
  k_with "KCiNo" => ((refine kci_no (by (first | exact sieveG_no1 (by assumption) | exact sieveG_no2 (by assumption))) (by with_unfolding_all rfl)))
  k_with "binaryOp Mult int int" => (
  k_here
  (refine mulSmall (by omega) (by omega) ?_))
  k_with "newTuple" => (
  k_here
  k_dflt (refine newTupleZ (by first | with_reducible (k_asm) | (k_asm)) (by first | with_reducible (k_asm) | (k_asm)) (by k_dflt (exact Nat.le_of_ble_eq_true rfl)) ?_)
  k_whole
  intro zD' zh' zF' zN' zl1 zl2
  (try k_lt zl1)
  (try k_sweep))
  k_with "newList" => (
  k_here
  k_dflt (refine newListZ (by first | with_reducible (k_asm) | (k_asm)) (by first | with_reducible (k_asm) | (k_asm)) (by k_dflt (exact Nat.le_of_ble_eq_true rfl)) ?_)
  k_whole
  intro zD' zh' zF' zN' zl1 zl2
  (try k_lt zl1)
  (try k_sweep))
  k_with "call ref" => (
  k_here
  k_dflt (refine use_div (by first | with_reducible (assumption) | (assumption)) (by first | with_reducible (k_asm) | (k_asm)) (by first | with_reducible (k_asm) | (k_asm)) (by first | with_reducible (k_asm) | (k_asm)) (by first | with_reducible (k_asm) | (k_asm)) (by first | with_reducible (k_asm) | (k_asm)) (by first | with_reducible (first | exact rfl | assumption) | (first | exact rfl | assumption)) (by first | with_reducible (ktr_room) | (ktr_room)) (by first | with_reducible (ktr_units) | (ktr_units)) (by first | with_reducible (walk_at "MINE tab") | (walk_at "MINE tab")) (by first | with_reducible (walk_at "MINE tab") | (walk_at "MINE tab")) (by first | with_reducible (walk_at "MINE bnd") | (walk_at "MINE bnd")) (by first | with_reducible (walk_at "MINE bnd") | (walk_at "MINE bnd")) (by first | with_reducible (walk_at "MINE bnd") | (walk_at "MINE bnd")) (by first | with_reducible (walk_at "MINE bnd") | (walk_at "MINE bnd")) ?_)
  k_whole
  intro zl' zn' zu1' zu2' zh' ztk' zF' zN' zl1 zl2
  (try k_lt zl1)
  (try dsimp only)
  (try k_fold))
  k_with "MINE tab" => (first
  | assumption
  | exact tab_of_news (by k_asm) (by k_dflt k_mem) (by k_dflt k_mem) (by assumption))
  k_with "MINE bnd" => (first | assumption | exact low_k (by assumption) | exact high_k (by assumption) (by assumption))
  k_with "call ref" => (exact (not_k (by assumption) (by assumption)).elim)
  k_with "call ref" => (
  k_here
  k_dflt (first
    | (refine use_callL (ins_sieve (by first | with_reducible (assumption) | (assumption)) (by first | with_reducible (assumption) | (assumption)) (by first | with_reducible (assumption) | (assumption)) (by first | with_reducible (assumption) | (assumption))) (by first | with_reducible (k_asm) | (k_asm)) (by first | with_reducible (k_asm) | (k_asm)) (by first | with_reducible (k_asm) | (k_asm)) (by first | with_reducible (k_asm) | (k_asm)) (by first | with_reducible (k_asm) | (k_asm)) (by first | with_reducible (first | exact rfl | assumption) | (first | exact rfl | assumption)) (by first | with_reducible (ktr_room) | (ktr_room)) (by first | with_reducible (ktr_units) | (ktr_units)) (by k_dflt (k_updF)) ?_)
    | (refine use_callL (ins_three (by first | with_reducible (assumption) | (assumption))) (by first | with_reducible (k_asm) | (k_asm)) (by first | with_reducible (k_asm) | (k_asm)) (by first | with_reducible (k_asm) | (k_asm)) (by first | with_reducible (k_asm) | (k_asm)) (by first | with_reducible (k_asm) | (k_asm)) (by first | with_reducible (first | exact rfl | assumption) | (first | exact rfl | assumption)) (by first | with_reducible (ktr_room) | (ktr_room)) (by first | with_reducible (ktr_units) | (ktr_units)) (by k_dflt (k_updF)) ?_))
  k_whole
  intro zvs' zn' zh' ztk' zF' zN' zhi'
  (try dsimp only at zN')
  (try dsimp only)
  (try k_fold))
  k_with "MINE off" => (first
  | exact trivial
  | (refine And.intro (by first | exact And.intro (by k_ne) (by k_ne) | (walk_at "MINE drop"; exact And.intro (by omega) (by omega))) ?_; walk_at "MINE off"))
  k_with "MINE drop" => (repeat (first | (rename @Ne Nat _ _ => hx9; clear hx9) | (rename @Ne Nat _ _ ∧ _ => hx9; clear hx9) | (rename (@Ne Nat _ _ ∧ _) ∧ _ => hx9; clear hx9)))
  k_with "call ref" => (
  k_here
  k_dflt (first
    | (refine use_fdiv (pre := [_, _, _]) (by first | with_reducible (assumption) | (assumption)) (by first | with_reducible (k_asm) | (k_asm)) (by first | with_reducible (k_asm) | (k_asm)) (by first | with_reducible (k_asm) | (k_asm)) (by first | with_reducible (assumption) | (assumption)) (by first | with_reducible (k_asm) | (k_asm)) (by first | with_reducible (first | exact rfl | assumption) | (first | exact rfl | assumption)) (by first | with_reducible (ktr_room) | (ktr_room)) (by first | with_reducible (ktr_units) | (ktr_units)) (by k_dflt (walk_at "MINE off")) ?_)
    | (refine use_fdiv (pre := [_, _, _, _]) (by first | with_reducible (assumption) | (assumption)) (by first | with_reducible (k_asm) | (k_asm)) (by first | with_reducible (k_asm) | (k_asm)) (by first | with_reducible (k_asm) | (k_asm)) (by first | with_reducible (assumption) | (assumption)) (by first | with_reducible (k_asm) | (k_asm)) (by first | with_reducible (first | exact rfl | assumption) | (first | exact rfl | assumption)) (by first | with_reducible (ktr_room) | (ktr_room)) (by first | with_reducible (ktr_units) | (ktr_units)) (by k_dflt (walk_at "MINE off")) ?_)
    | (refine use_fdiv (pre := [_, _, _, _, _]) (by first | with_reducible (assumption) | (assumption)) (by first | with_reducible (k_asm) | (k_asm)) (by first | with_reducible (k_asm) | (k_asm)) (by first | with_reducible (k_asm) | (k_asm)) (by first | with_reducible (assumption) | (assumption)) (by first | with_reducible (k_asm) | (k_asm)) (by first | with_reducible (first | exact rfl | assumption) | (first | exact rfl | assumption)) (by first | with_reducible (ktr_room) | (ktr_room)) (by first | with_reducible (ktr_units) | (ktr_units)) (by k_dflt (walk_at "MINE off")) ?_)
    | (refine use_fdiv (pre := [_, _, _, _, _, _]) (by first | with_reducible (assumption) | (assumption)) (by first | with_reducible (k_asm) | (k_asm)) (by first | with_reducible (k_asm) | (k_asm)) (by first | with_reducible (k_asm) | (k_asm)) (by first | with_reducible (assumption) | (assumption)) (by first | with_reducible (k_asm) | (k_asm)) (by first | with_reducible (first | exact rfl | assumption) | (first | exact rfl | assumption)) (by first | with_reducible (ktr_room) | (ktr_room)) (by first | with_reducible (ktr_units) | (ktr_units)) (by k_dflt (walk_at "MINE off")) ?_)
    | (refine use_fdiv (pre := [_, _, _, _, _, _, _]) (by first | with_reducible (assumption) | (assumption)) (by first | with_reducible (k_asm) | (k_asm)) (by first | with_reducible (k_asm) | (k_asm)) (by first | with_reducible (k_asm) | (k_asm)) (by first | with_reducible (assumption) | (assumption)) (by first | with_reducible (k_asm) | (k_asm)) (by first | with_reducible (first | exact rfl | assumption) | (first | exact rfl | assumption)) (by first | with_reducible (ktr_room) | (ktr_room)) (by first | with_reducible (ktr_units) | (ktr_units)) (by k_dflt (walk_at "MINE off")) ?_))
  k_whole
  intro zl' zn' zu1' zu2' zc1' zc2' zo1' zo2' zh' ztk' zF' zN' zl1 zl2 zl3 zho1' zho2'
  (try simp only [List.cons_append, List.nil_append] at zN' zl1)
  have zl4 := lt_all zl1 zl2
  have zl5 := lt_all zl4 zl3
  (try k_lt zl1)
  (try k_lt zl4)
  (try k_lt zl5)
  (try k_lt2 zl2)
  (try k_lt2 zl3)
  (try dsimp only)
  (try k_fold))
  intro dp un gd cn cs a ccd cl outer A₀ base h₀ L m s Q E B F X T hk N hc1 hc2 hd hu hret
  refine wpAny_call ?_
  k_dflt walk_at "MINE enterCN"
  intro g L' h₁ tk cells hkg hsz F' N' Y' B' X' T' hlt
  have hkg : ∀ b o, b ≠ 16 → b ≠ 23 → s.heap.get? b = some o → g.get? b = some o := fun b o n1 n2 e => hkg b o (by simp [n1, n2]) e
  have hab := Fr.above F'
  have hab2 : s.heap.objs.size ≤ L' := hsz ▸ hab
  have hh1 : CodeHd g 20 16 := codeHd_of_K X' (by kernel_rfl)
  have hh2 : CodeHd g 27 23 := codeHd_of_K X' (by kernel_rfl)
  clear B F X T N hc1 hc2
  k_lt hlt
  k_cells Y'
  (try simp only [List.cons_append, List.nil_append] at N')
  (try dsimp only)
  (try k_fold)
  k_steps
  all_goals (try dsimp only)
  rename_i hB F2 N2 h2 tk2 ta tb tc hR F3 N3 hk3
  k_dflt refine iter_rangeInv (n := 14) (JA (L' + 1) zD' _) rfl hR (by decide) (by decide) F3 N3 (ja_end (vs := []) (n := 0) (List.Mem.head _) (List.Mem.tail _ (List.Mem.head _)) (by k_subL) .nil (by assumption) (.inl ⟨by decide, rfl⟩)) ?step ?done
  case step =>
    intro i m1 news1 h5 tk5 I t5 hi hJ hoff hI1 hI2 F5 N5
    obtain ⟨rfl, vs, n, oc, v, tabs, hsub, hvs, hoc, ht⟩ := hJ
    replace N5 := sub_news N5 hsub
    dsimp only [emptyTabs] at hI1
    k_lt hI1
    replace hI2 : @LT.lt Nat _ L' I := hI2
    rcases ht with ⟨hle, rfl⟩ | ⟨hge, c1, c2, o1, o2, rfl, hD1, hD2, ho1, ho2⟩
    · rcases Nat.le_one_iff_eq_zero_or_eq_one.mp hle with e0 | rfl
      · dsimp only [emptyTabs] at N5
        clear hoff
        have hsm := sieve_small i (by omega)
        have hi2 : (2 : Int) + (i : Int) < 16 := by omega
        have hl5 : vs.length ≤ 5 := hvs.length ▸ hsm.1
        k_steps
        all_goals exact ja_end (by k_dflt k_mem) (by k_dflt k_mem) (by k_subL) (by first | exact ints_keep (by assumption) hvs | assumption) (by assumption) (.inl ⟨by omega, rfl⟩)
      · rw [sieve_one] at hvs
        obtain ⟨u5, rfl⟩ := ints_inv1 hvs
        have hdp : divr 3 2 = 1 := by decide +kernel
        rw [show (2 : Int) + ((1 : Nat) : Int) = 3 from rfl]
        dsimp only [emptyTabs] at N5
        clear hoff hvs
        k_steps
        all_goals exact ja_two (by k_dflt k_mem) (by k_dflt k_mem) (by k_dflt k_mem) (by k_dflt k_mem) (by k_dflt k_mem) (by k_dflt k_mem) (by assumption) (by assumption) (by assumption) (by assumption) (by omega) (by omega)
    · have q1 : @Ne Nat c1 I := hoff (c1, o1) (hsub.mem _ (List.Mem.tail _ (List.Mem.tail _ (List.Mem.head _))))
      have q2 : @Ne Nat c2 I := hoff (c2, o2) (hsub.mem _ (List.Mem.tail _ (List.Mem.tail _ (List.Mem.tail _ (List.Mem.head _)))))
      dsimp only [fullTabs] at N5
      clear hoff
      have hsm := sieve_small i (by omega)
      have hl5 : vs.length ≤ 5 := hvs.length ▸ hsm.1
      have hi2 : (2 : Int) + (i : Int) < 16 := by omega
      have hi4 : (4 : Int) ≤ 2 + (i : Int) := by omega
      have hi5 : (0 : Int) ≤ 2 + (i : Int) := by omega
      have hi6 : (2 : Int) + (i : Int) < 32 := by omega
      k_steps
      all_goals exact ja_end (by k_dflt k_mem) (by k_dflt k_mem) (by k_subL) (by first | exact ints_keep (by assumption) hvs | assumption) (by assumption) (.inr ⟨by omega, c1, c2, o1, o2, rfl, hD1, hD2, ho1, ho2⟩)
  case done =>
    intro h9 tk9 m9 news9 F9 N9 hJ
    obtain ⟨rfl, vs, n, oc, v, tabs, hsub, hvs, hoc, ht⟩ := hJ
    rcases ht with ⟨hle, rfl⟩ | ⟨hge, c1, c2, o1, o2, rfl, hD1, hD2, ho1, ho2⟩
    · exact absurd hle (by decide)
    · rw [sieve_all] at hvs
      have N9' : News g _ h9 _ := fun p hp => N9 p (hsub.mem p hp)
      clear N9 hsub
      k_steps
      dsimp only
      have w1 := Nat.le_of_lt (Nat.lt_of_le_of_lt hab2 zl2)
      refine hret zD' n vs c1 c2 o1 o2 _ _ (fun b o n1 n2 e => Fr.keep (by k_asm) b o (hkg b o n1 n2 e)) w1 (Nat.le_trans w1 (Nat.le_of_lt hD1)) (Nat.le_trans w1 (Nat.le_of_lt hD2)) (News.get N9' (List.Mem.head _)) hvs (fun q hq => News.get N9' (List.Mem.tail _ (List.Mem.tail _ hq))) ho1 ho2
end Mine
end -- LawAlone

section -- Oks
open PySem PySem.Spec PySem.Calls PySem.W PyProof.Rows
set_option maxRecDepth 100000
namespace Mine
section
variable {w : World} {p : Program} {loose : List Str} {mean : ExcName → Option Value} {mg mb : Str → Option Value}
theorem times_ok (C1 : I2dOk w p loose mean mg mb) (C2 : PutOk w p loose mean mg mb) : TimesOk w p loose mean mg mb := by
  intro x y t1 t2 h0 h1 h2 h3
  have hc : y = 0 ∨ y = 1 ∨ y = 2 ∨ y = 3 ∨ y = 4 ∨ y = 5 ∨ y = 6 ∨ y = 7 := by omega
  rcases hc with rfl | rfl | rfl | rfl | rfl | rfl | rfl | rfl
  · exact times_0 C1 C2 h0 h1
  · exact times_1 C1 C2 h0 h1
  · exact times_2 C1 C2 h0 h1
  · exact times_3 C1 C2 h0 h1
  · exact times_4 C1 C2 h0 h1
  · exact times_5 C1 C2 h0 h1
  · exact times_6 C1 C2 h0 h1
  · exact times_7 C1 C2 h0 h1
theorem put_is : PutOk w p loose mean mg mb := put_ok i2d_ok d2i_ok
theorem div_is : DivOk w p loose mean mg mb := div_ok i2d_ok put_is
theorem times_is : TimesOk w p loose mean mg mb := times_ok i2d_ok put_is
theorem parts_is : PartsOk w p loose mean mg mb := parts_ok div_is
theorem alone_is : AloneOk w p loose mean mg mb := alone_ok i2d_ok d2i_ok put_is div_is ins_ok (fdiv_ok i2d_ok fi2d_ok (fput_ok i2d_ok fd2i_ok))
end
theorem fig_lo (a : Int) : 1 ≤ 1 + Int.fmod a 7 := by have := Int.fmod_nonneg_of_pos a (show (0 : Int) < 7 by decide); omega
theorem fig_hi (a : Int) : 1 + Int.fmod a 7 ≤ 7 := by have := Int.fmod_lt_of_pos a (show (0 : Int) < 7 by decide); omega
end Mine
end -- Oks

section -- LawTop
open PySem PySem.Spec PySem.Calls PySem.W PyProof.Rows
set_option maxRecDepth 100000
set_option rowWalk.seconds 0
namespace Mine
theorem ints_1 {ns : List Int} {a : Int} {t : Tok} (h : [a] = ns) : IntsAre [.int a t] ns := h ▸ .cons _ _ .nil
theorem ints_2 {ns : List Int} {a b : Int} {t u : Tok} (h : [a, b] = ns) : IntsAre [.int a t, .int b u] ns := h ▸ .cons _ _ (.cons _ _ .nil)
theorem ints_3 {ns : List Int} {a b c : Int} {t u v : Tok} (h : [a, b, c] = ns) : IntsAre [.int a t, .int b u, .int c v] ns := h ▸ .cons _ _ (.cons _ _ (.cons _ _ .nil))
theorem ints_snoc {ys : List Value} {ns : List Int} {a : Int} {t : Tok} (h : IntsAre ys ns) : IntsAre (ys ++ [.int a t]) (ns ++ [a]) := by
  induction h with
  | nil => exact .cons _ _ .nil
  | cons n t h ih => exact .cons _ _ ih
theorem kinds_snoc {ys : List Value} {i : Nat} {a : Int} {t : Tok} (h : IntsAre ys (List.take i [2, 1, 2])) (e : List.take (i + 1) [2, 1, 2] = List.take i [2, 1, 2] ++ [a]) : IntsAre (ys ++ [.int a t]) (List.take (i + 1) [2, 1, 2]) := e ▸ ints_snoc h
theorem endC_intro {h₀ : Heap} {L : Addr} {m : Str → Option Value} {s₁ : Shared} {I : Addr} {oI : Obj} {C : Addr} {oC : Obj} {c : Addr} {oc : Obj} {D : Addr} {oD : Obj} {news all : List (Addr × Obj)} {rest : Value → Prop} {y : Value} {h' : Heap} {tk : Nat}
    (F : Fr h₀ L h' m) (N : News h₀ L h' all) (sub : ∀ p ∈ (I, oI) :: (C, oC) :: (c, oc) :: (D, oD) :: news, p ∈ all) (r : rest y) : EndC h₀ L m s₁ I oI C oC c oc D oD news rest y { s₁ with heap := h', toks := tk } :=
  ⟨h', tk, rfl, F, fun p hp => N p (sub p hp), r⟩
set_option maxHeartbeats 2000000 in
theorem top : PySem.Challenge.rw_ib0002_01.Holds := by
  refine Mine.hd ?_
  k_with_none
  k_with "MINE ne" => (refine neN ?_; (try dsimp only); first | exact Nat.ne_of_gt (by with_reducible assumption) | exact Nat.ne_of_lt (by with_reducible assumption) | exact Nat.ne_of_gt (And.left (by with_reducible assumption)) | exact Nat.ne_of_lt (And.left (by with_reducible assumption)) | exact Nat.ne_of_gt (And.left (And.right (by with_reducible assumption))) | exact Nat.ne_of_lt (And.left (And.right (by with_reducible assumption))) | exact Nat.ne_of_gt (And.left (And.right (And.right (by with_reducible assumption)))) | exact Nat.ne_of_lt (And.left (And.right (And.right (by with_reducible assumption)))) | exact Nat.ne_of_gt (And.left (And.right (And.right (And.right (by with_reducible assumption))))) | exact Nat.ne_of_lt (And.left (And.right (And.right (And.right (by with_reducible assumption))))) | exact Nat.ne_of_gt (And.left (And.right (And.right (And.right (And.right (by with_reducible assumption)))))) | exact Nat.ne_of_lt (And.left (And.right (And.right (And.right (And.right (by with_reducible assumption)))))) | exact Nat.ne_of_gt (And.left (And.right (And.right (And.right (And.right (And.right (by with_reducible assumption))))))) | exact Nat.ne_of_lt (And.left (And.right (And.right (And.right (And.right (And.right (by with_reducible assumption))))))) | exact Nat.ne_of_gt (And.left (And.right (And.right (And.right (And.right (And.right (And.right (by with_reducible assumption)))))))) | exact Nat.ne_of_lt (And.left (And.right (And.right (And.right (And.right (And.right (And.right (by with_reducible assumption)))))))) | exact Nat.ne_of_gt (And.left (And.right (And.right (And.right (And.right (And.right (And.right (And.right (by with_reducible assumption))))))))) | exact Nat.ne_of_lt (And.left (And.right (And.right (And.right (And.right (And.right (And.right (And.right (by with_reducible assumption))))))))) | exact Nat.ne_of_gt (And.left (And.right (And.right (And.right (And.right (And.right (And.right (And.right (And.right (by with_reducible assumption)))))))))) | exact Nat.ne_of_lt (And.left (And.right (And.right (And.right (And.right (And.right (And.right (And.right (And.right (by with_reducible assumption)))))))))) | exact Nat.ne_of_gt (And.right (by with_reducible assumption)) | exact Nat.ne_of_lt (And.right (by with_reducible assumption)) | exact Nat.ne_of_gt (And.right (And.right (by with_reducible assumption))) | exact Nat.ne_of_lt (And.right (And.right (by with_reducible assumption))) | exact Nat.ne_of_gt (And.right (And.right (And.right (by with_reducible assumption)))) | exact Nat.ne_of_lt (And.right (And.right (And.right (by with_reducible assumption)))) | exact Nat.ne_of_gt (And.right (And.right (And.right (And.right (by with_reducible assumption))))) | exact Nat.ne_of_lt (And.right (And.right (And.right (And.right (by with_reducible assumption))))) | exact Nat.ne_of_gt (And.right (And.right (And.right (And.right (And.right (by with_reducible assumption)))))) | exact Nat.ne_of_lt (And.right (And.right (And.right (And.right (And.right (by with_reducible assumption)))))) | exact Nat.ne_of_gt (And.right (And.right (And.right (And.right (And.right (And.right (by with_reducible assumption))))))) | exact Nat.ne_of_lt (And.right (And.right (And.right (And.right (And.right (And.right (by with_reducible assumption))))))) | exact Nat.ne_of_gt (And.right (And.right (And.right (And.right (And.right (And.right (And.right (by with_reducible assumption)))))))) | exact Nat.ne_of_lt (And.right (And.right (And.right (And.right (And.right (And.right (And.right (by with_reducible assumption)))))))) | exact Nat.ne_of_gt (And.right (And.right (And.right (And.right (And.right (And.right (And.right (And.right (by with_reducible assumption))))))))) | exact Nat.ne_of_lt (And.right (And.right (And.right (And.right (And.right (And.right (And.right (And.right (by with_reducible assumption))))))))) | exact (And.left (And.left (by with_reducible assumption))) | exact (And.left (And.right (And.left (by with_reducible assumption)))) | exact (And.right (And.right (And.left (by with_reducible assumption)))) | exact (And.left (And.left (And.right (by with_reducible assumption)))) | exact (And.left (And.right (And.left (And.right (by with_reducible assumption))))) | exact (And.right (And.right (And.left (And.right (by with_reducible assumption))))) | exact (And.left (And.right (by with_reducible assumption))) | exact (And.left (And.right (And.right (by with_reducible assumption)))) | exact (And.right (And.right (And.right (by with_reducible assumption)))) | exact (And.left (And.left (And.right (And.right (by with_reducible assumption))))) | exact (And.left (And.right (And.left (And.right (And.right (by with_reducible assumption)))))) | exact (And.right (And.right (And.left (And.right (And.right (by with_reducible assumption)))))) | exact (And.left (And.right (And.right (by with_reducible assumption)))) | exact (And.left (And.right (And.right (And.right (by with_reducible assumption))))) | exact (And.right (And.right (And.right (And.right (by with_reducible assumption))))) | exact (And.left (And.left (And.right (And.right (And.right (by with_reducible assumption)))))) | exact (And.left (And.right (And.left (And.right (And.right (And.right (by with_reducible assumption))))))) | exact (And.right (And.right (And.left (And.right (And.right (And.right (by with_reducible assumption))))))) | exact (And.left (And.right (And.right (And.right (by with_reducible assumption))))) | exact (And.left (And.right (And.right (And.right (And.right (by with_reducible assumption)))))) | exact (And.right (And.right (And.right (And.right (And.right (by with_reducible assumption)))))) | exact (And.left (And.left (And.right (And.right (And.right (And.right (by with_reducible assumption))))))) | exact (And.left (And.right (And.left (And.right (And.right (And.right (And.right (by with_reducible assumption)))))))) | exact (And.right (And.right (And.left (And.right (And.right (And.right (And.right (by with_reducible assumption)))))))) | exact (And.left (And.right (And.right (And.right (And.right (by with_reducible assumption)))))) | exact (And.left (And.right (And.right (And.right (And.right (And.right (by with_reducible assumption))))))) | exact (And.right (And.right (And.right (And.right (And.right (And.right (by with_reducible assumption))))))) | exact (And.left (And.left (And.right (And.right (And.right (And.right (And.right (by with_reducible assumption)))))))) | exact (And.left (And.right (And.left (And.right (And.right (And.right (And.right (And.right (by with_reducible assumption))))))))) | exact (And.right (And.right (And.left (And.right (And.right (And.right (And.right (And.right (by with_reducible assumption))))))))) | exact (And.left (And.right (And.right (And.right (And.right (And.right (by with_reducible assumption))))))) | exact (And.left (And.right (And.right (And.right (And.right (And.right (And.right (by with_reducible assumption)))))))) | exact (And.right (And.right (And.right (And.right (And.right (And.right (And.right (by with_reducible assumption)))))))) | exact (And.left (And.left (And.right (And.right (And.right (And.right (And.right (And.right (by with_reducible assumption))))))))) | exact (And.left (And.right (And.left (And.right (And.right (And.right (And.right (And.right (And.right (by with_reducible assumption)))))))))) | exact (And.right (And.right (And.left (And.right (And.right (And.right (And.right (And.right (And.right (by with_reducible assumption)))))))))) | exact (And.left (And.right (And.right (And.right (And.right (And.right (And.right (by with_reducible assumption)))))))) | exact (And.left (And.right (And.right (And.right (And.right (And.right (And.right (And.right (by with_reducible assumption))))))))) | exact (And.right (And.right (And.right (And.right (And.right (And.right (And.right (And.right (by with_reducible assumption))))))))) | exact (And.left (And.left (And.right (And.right (And.right (And.right (And.right (And.right (And.right (by with_reducible assumption)))))))))) | exact (And.left (And.right (And.left (And.right (And.right (And.right (And.right (And.right (And.right (And.right (by with_reducible assumption))))))))))) | exact (And.right (And.right (And.left (And.right (And.right (And.right (And.right (And.right (And.right (And.right (by with_reducible assumption))))))))))) | exact (And.left (And.right (And.right (And.right (And.right (And.right (And.right (And.right (by with_reducible assumption))))))))) | exact (And.left (And.right (And.right (And.right (And.right (And.right (And.right (And.right (And.right (by with_reducible assumption)))))))))) | exact (And.right (And.right (And.right (And.right (And.right (And.right (And.right (And.right (And.right (by with_reducible assumption)))))))))))
  k_with "MINE off" => (first
  | exact trivial
  | (refine And.intro (And.intro (by first | k_ne | omega) (by first | k_ne | omega)) ?_; walk_at "MINE off"))
  k_with "call ref" => (
  k_here
  k_dflt (refine use_alone (pre := [_, _, _, _]) alone_is (by first | with_reducible (k_asm) | (k_asm)) (by first | with_reducible (k_asm) | (k_asm)) (by first | with_reducible (k_asm) | (k_asm)) (by first | with_reducible (assumption) | (assumption)) (by first | with_reducible (k_asm) | (k_asm)) (by first | with_reducible (first | exact rfl | assumption) | (first | exact rfl | assumption)) (by k_dflt (kn_code)) (by k_dflt (kn_code)) (by k_dflt (first | decide | ktr_room)) (by k_dflt (first | decide | ktr_units)) (by k_dflt (walk_at "MINE off")) ?_)
  k_whole
  intro zl' zn' zt1' zt2' zt3' zt4' zt5' zc1' zc2' zo1' zo2' zh' ztk' zF' zN' zl1 zl2 zl3 zht1' zht2' zho1' zho2'
  (try simp only [List.cons_append, List.nil_append] at zN' zl1 zl2 zl3)
  (try k_lt zl1)
  (try k_lt zl2)
  (try k_lt zl3)
  (try dsimp only)
  (try k_fold))
  k_with "eval ListComp" => (
  k_here
  k_dflt (refine listComp_cell (F₀ := by k_asm) (by with_unfolding_all rfl) (by rfl) (by decide) (fun _ => rfl) (fun _ => rfl) (fun _ _ => rfl) (fun _ => rfl) ?_))
  k_with "SrcC" => (
  k_here
  (with_reducible show SrcC _ _ _ _ _ _ _ _ [] _ _ _ _ _ _)
  k_dflt (refine SrcC.range (n := 3) (fun zi zys => IntsAre zys (List.take zi [2, 1, 2])) (by assumption) (by rfl) (by k_asm) (by k_asm) (by decide) (by decide) (by exact Nat.le_of_ble_eq_true rfl) .nil ?_ ?_)
  (k_dflt (all_goals first
    | (intro zg' zi' zys' zt' zI' zoI' zC' zoC' zc' zoc' zD' zh' ztk' zE' zhi' zhJ' zhd' zF' zN' zne' zl1 zl2 zl3 zl4
       (k_lt zl1)
       (k_lt zl2)
       (k_lt zl3)
       (k_lt zl4)
       (simp only [tests])
       (refine wpAny_tests_nil ?_)
       (simp only [if_true])
       (have zhc' : zi' = 0 ∨ zi' = 1 ∨ zi' = 2 := by omega)
       (rcases zhc' with ze' | ze' | ze' <;> subst ze')
       (all_goals first
         | (have zhd9' : PySem.Obj.data zoc' = Data.cell (some (Value.int 2 zt')) := zhd'; clear zhd')
         | (have zhd9' : PySem.Obj.data zoc' = Data.cell (some (Value.int 3 zt')) := zhd'; clear zhd')
         | (have zhd9' : PySem.Obj.data zoc' = Data.cell (some (Value.int 4 zt')) := zhd'; clear zhd')))
    | (intro zD' zh' ztk' zys' zhJ' zF' zN' zl1
       (k_lt zl1)
       (have ze9 := ints_inv3 (zhJ' : IntsAre _ [2, 1, 2]); obtain ⟨zt1', zt2', zt3', ze9⟩ := ze9; subst ze9)
       (clear zhJ')))))
  k_with "SrcC" => (
  k_here
  (with_reducible show SrcC _ _ _ _ _ _ _ _ [_] _ _ _ _ _ _)
  k_dflt (refine SrcC.range (n := 3) (fun _ zys => zys = []) (by assumption) (by rfl) (by k_asm) (by k_asm) (by decide) (by decide) (by exact Nat.le_of_ble_eq_true rfl) rfl ?_ ?_)
  (k_dflt (all_goals first
    | (intro zg' zi' zys' zt' zI' zoI' zC' zoC' zc' zoc' zD' zh' ztk' zE' zhi' zhJ' zhd' zF' zN' zne' zl1 zl2 zl3 zl4
       (k_lt zl1)
       (k_lt zl2)
       (k_lt zl3)
       (k_lt zl4)
       (simp only [tests])
       (refine wpAny_tests_one ?_)
       (have zhc' : zi' = 0 ∨ zi' = 1 ∨ zi' = 2 := by omega)
       (rcases zhc' with ze' | ze' | ze' <;> subst ze')
       (all_goals first
         | (have zhd9' : PySem.Obj.data zoc' = Data.cell (some (Value.int 1 zt')) := zhd'; clear zhd')
         | (have zhd9' : PySem.Obj.data zoc' = Data.cell (some (Value.int 2 zt')) := zhd'; clear zhd')
         | (have zhd9' : PySem.Obj.data zoc' = Data.cell (some (Value.int 3 zt')) := zhd'; clear zhd')))
    | (intro zD' zh' ztk' zys' zhJ' zF' zN' zl1
       (k_lt zl1)
       (have ze9 : zys' = [] := zhJ'; subst ze9)
       (clear zhJ')
))))
  k_with "EndC" => (
  k_dflt (refine endC_intro (by k_asm) (by k_asm) (by kcf_all) ?_)
  k_dflt (first
    | exact kinds_snoc (by assumption) rfl
    | assumption))
  k_with "CompSrcT" => (
  k_here
  k_dflt (first
    | refine LCt.CompSrcT.range (n := 1) (by rfl) (by k_asm) (by k_asm) (by assumption) (by decide) (by decide) (by exact Nat.le_of_ble_eq_true rfl) ?_
    | refine LCt.CompSrcT.range (n := 2) (by rfl) (by k_asm) (by k_asm) (by assumption) (by decide) (by decide) (by exact Nat.le_of_ble_eq_true rfl) ?_
    | refine LCt.CompSrcT.range (n := 3) (by rfl) (by k_asm) (by k_asm) (by assumption) (by decide) (by decide) (by exact Nat.le_of_ble_eq_true rfl) ?_)
  intro zg')
  k_with "CompSrcT" => (
  k_here
  k_dflt (refine LCt.CompSrcT.ledger (by rfl) (by k_asm) (by k_asm) (by k_mem) (by exact Nat.le_of_ble_eq_true rfl) ?_)
  intro zg'
  k_dflt (show LCt.CompRestT _ _ _ _ _ _ _ _ _ _ _ _ _ _ _ _ 5 0 [] _))
  k_with "eval ListComp" => (
  k_here
  (with_reducible show wpAny _ _ (eval (PySem.Expr.ListComp _ _ _ _) (compEnvC _ _ _ _)) _ _ _)
  lct_look
  k_dflt (refine LCt.ListComp_T (F₀ := by k_asm) (by with_unfolding_all rfl) (by decide) (by rfl) (by decide) (by rfl) ?_))
  k_with "binaryOp Pow int int" => (
  k_here
  k_dflt (refine pow_int_small (by decide) (by decide) (by decide) ?_))
  k_with "ite" => (k_closed; k_dflt (first | refine ite_pos (by decide) ?_ | refine ite_neg (by decide) ?_))
  k_with "CompRestT" => (with_unfolding_all first
  | (refine LCt.CompRestT.succ ?_; intro zv' zI' zoI' zC' zoC' zD' zm' zh' ztk' zE' zhv' zhC' zhx' zF' zN' zoff' zne'; (first | lcg_open zhv' | (obtain ⟨zt9', zhv9'⟩ := zhv'; subst zhv9')))
  | refine LCt.CompRestT.zero ?_)
  k_with "CompEnd" => (
  k_dflt (refine LCg.CompEnd.intro (by first | with_reducible (k_asm) | (k_asm)) (by first | with_reducible (k_asm) | (k_asm)) _ (by first | with_reducible (kcf_all) | (kcf_all)) (by first | with_reducible (assumption) | (assumption)) (by k_dflt (lcg_src)) ?_)
  k_whole)
  k_with "FinE" => ((unfold LCg.FinE); intro zD' zh' ztk' zF' zN' zo1'; (try simp only [List.nil_append, List.cons_append] at zN'); (try dsimp only))
  w_strict (
    k_go0
    (try k_fold)
    repeat' ((fail_if_success (with_reducible show wpAny _ _ (execs (Stmt.Assign [Expr.Name (Str.ofString "both") _] _ _ :: _) _) _ _ _)); (first | (k_unfold; (try dsimp only)) | (k_end; wrow_close) | walk1 | (dsimp only; walk1) | (leave1; walk_say "STEP leave1"; try dsimp only) | fail "no step"))
    (try dsimp only)
    (refine wpAny_noRaise ?_)
    k_dflt (refine' tail1 i2d_ok put_is div_is times_is parts_is ?hx0 ?hx1 ?hy0 ?hy1 ?tB ?tF ?tX ?tT ?tm0 ?tm1 ?tN ?q1 ?q2 ?dO ?dP ?dK ?dA ?l0 ?l1 ?tr ?tb ?ts)
    k_dflt (case tF => k_asm)
    (case tm0 => with_unfolding_all rfl)
    (case tm1 => with_unfolding_all rfl)
    k_dflt (case tB => k_asm)
    k_dflt (case tX => k_asm)
    k_dflt (case tT => k_asm)
    (case hx0 => exact fig_lo _)
    (case hx1 => exact fig_hi _)
    (case hy0 => exact fig_lo _)
    (case hy1 => exact fig_hi _)
    (case tb => dsimp only [lawDef, first0, defBody, defScope, defParams, prog0, PySem.Challenge.pw_ib0002_01, List.drop])
    (case ts => dsimp only [lawDef, first0, defBody, defScope, defParams, prog0, PySem.Challenge.pw_ib0002_01, List.drop])
    (case q1 => with_reducible assumption)
    (case q2 => with_reducible assumption)
    (case tN => with_unfolding_all (refine kst_newsOf (by k_asm) ?_; unfold tailN; kst_inAny))
    (case dO => with_reducible assumption)
    (case dP => with_reducible assumption)
    (case dK => with_reducible assumption)
    (case dA => with_reducible assumption)
    (case l0 => with_reducible assumption)
    (case l1 => exact ⟨And.left (by with_reducible assumption), And.left (by with_reducible assumption), And.left (by with_reducible assumption)⟩)
    (case tr =>
      (intro h' tk' m' news F' N')
      (try dsimp only)
      k_steps))
end Mine
end -- LawTop

set_option maxRecDepth 100000 in
set_option maxHeartbeats 8000000 in
theorem PySem.Challenge.cw_ib0002_01_holds : PySem.Challenge.rw_ib0002_01.Holds := by
  exact Mine.top
