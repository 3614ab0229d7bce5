import PyProof.Rows.All
import Wide.All
import OpenK.AllK
import Wide.FinOn
import PySem.Challenge.RW_gp5032_01
set_option Elab.async false
section
open PySem PySem.W PyProof.Rows
namespace Mine
set_option maxRecDepth 100000 in
set_option maxHeartbeats 8000000 in
open_top hd for PySem.Challenge.rw_gp5032_01
end Mine
end

section
set_option maxRecDepth 100000
set_option linter.unusedVariables false
namespace Mine

section
-- G0
open PySem PySem.W PySem.Calls PyProof.Rows
set_option Elab.async false
set_option maxRecDepth 100000
noncomputable abbrev PR : Program := RowW.prog (OpenRow.toRowW (OpenLaw.row PySem.Challenge.rw_gp5032_01))
noncomputable abbrev LOOSE : List Str := looseW hd.view_39 [Str.ofString "SparseMerkleProof", Str.ofString "SparseMerkleTree"] ++
  List.map (fun x => DefRec.name x) (recsOf hd.view_39) ++ List.map (fun x => Prod.fst x) (litsOf hd.view_39) ++
  List.map (fun x => ClsRec.name x) (clssOf hd.view_39 (looseW hd.view_39 [Str.ofString "SparseMerkleProof", Str.ofString "SparseMerkleTree"]))

/-- what stands still around a call: the frames below, the written part, the top -/
structure Ctx (w : World) (A : Around) (base : Heap) (fr : List Env) (g : Heap) (mean : ExcName → Option Value) (mg mb : Str → Option Value) : Prop where
  B : Below A base fr g
  X : (hd.heap_39 w.params).In g
  T : Top topProg LOOSE mean mg mb g

/-- the frozen part g and the owned objects FP within h -/
structure Own (g h : Heap) (FP : List (Addr × Obj)) : Prop where
  stays : ∀ b o, g.get? b = some o → h.get? b = some o
  size : g.objs.size ≤ h.objs.size
  own : ∀ p ∈ FP, h.get? p.1 = some p.2 ∧ g.get? p.1 = none

theorem Own.sub {g h : Heap} {FP FP' : List (Addr × Obj)} (O : Own g h FP) (hs : ∀ p ∈ FP', p ∈ FP) : Own g h FP' := ⟨O.stays, O.size, fun p hp => O.own p (hs p hp)⟩

/-- a def's end: the walk stops here -/
def Back (R : Result → Shared → Prop) (v : Value) (s' : Shared) : Prop := R (.ok (.ret v)) s'

theorem own_of {g h : Heap} {L : Addr} {m : Str → Option Value} {FP : List (Addr × Obj)} (F : Fr g L h m) (N : News g L h FP) : Own g h FP :=
  ⟨F.keep, Nat.le_of_lt (Nat.lt_of_le_of_lt F.above F.ns.lt), fun p hp => ⟨(N p hp).1, (N p hp).2.2⟩⟩

section
variable {w : World} {A : Around} {base g : Heap} {fr : List Env} {mean : ExcName → Option Value} {mg mb : Str → Option Value} {s : Shared} {FP : List (Addr × Obj)}
  {R : Result → Shared → Prop} {name qual : Str} {params : Arguments} {body : List Stmt} {scope : Scope} {cl : List (Str × Addr)} {dV kV doc pm cdv ct oc : Value} {an od : Option Addr} {osl : Array (Option Value)} {fo : Obj} {f : Addr} {args : Args} {binds : List (Str × Value)}

theorem enterX (C : Ctx w A base fr g mean mg mb) (O : Own g s.heap FP)
    (ho : s.heap.get? f = some fo) (hd : fo.data = .func (fnX name qual params body scope cl dV kV doc pm an cdv ct)) (hcd : s.heap.CodeRec cdv qual) (hroom : A.depth < recursionLimit)
    (hbind : BindsTo s (fnX name qual params body scope cl dV kV doc pm an cdv ct) args binds) (hloc : ∀ y ∈ binds, scope.names.lookup y.1 = some .local)
    (hcell : ∀ x ∈ scope.names, x.2 ≠ .cell) (hco : scope.isCoroutine = false) (hgen : scope.isGenerator = false) (hk : scope.kind = .function)
    (h : ∀ L' h₁, Fr g L' h₁ (fun y => binds.reverse.lookup y) → News g L' h₁ FP → (∀ p ∈ FP, p.1 < L') →
      wpAny (model PR w) (A.deeper (envX qual scope L' f cdv cl)) (execs body (envX qual scope L' f cdv cl))
        (fun fl s' => Back R (match fl with | .ret v => v | _ => .none) s')
        (fun e s' => wpAny (model PR w) (A.deeper (envX qual scope L' f cdv cl)) (leaving (envX qual scope L' f cdv cl) e) (fun _ s'' => R (.error e) s'') (fun e' s'' => R (.error e') s'') s')
        { s with heap := h₁, toks := s.toks + binds.length }) :
    codeAny (model PR w) A (.call (.ref f) args) R s := by
  refine codeAny_call_def (fd := fnX name qual params body scope cl dV kV doc pm an cdv ct) (body := body) (binds := binds) hroom ho hd (C.T.nolimit.keeps O.stays) hcd rfl hbind hcell hloc (fun h₁ hns hk₁ => ?_) hco hgen hk
  exact h s.heap.objs.size h₁ ⟨hns, fun b o e => hk₁ b o (O.stays b o e), O.size⟩ (fun p hp => ⟨hk₁ _ _ (O.own p hp).1, Nat.ne_of_lt (Heap.lt_size (O.own p hp).1), (O.own p hp).2⟩) (fun p hp => Heap.lt_size (O.own p hp).1)

/-- a def of the text's top -/
theorem enter (C : Ctx w A base fr g mean mg mb) (O : Own g s.heap FP)
    (ho : (hd.heap_39 w.params).lookup f = some ⟨oc, od, .func (fnOf name qual params body scope dV kV doc pm an cdv ct), osl⟩) (hcd : codeIn (hd.heap_39 w.params) cdv qual = true) (hroom : A.depth < recursionLimit)
    (hbind : BindsTo s (fnOf name qual params body scope dV kV doc pm an cdv ct) args binds) (hloc : ∀ y ∈ binds, scope.names.lookup y.1 = some .local)
    (hcell : ∀ x ∈ scope.names, x.2 ≠ .cell) (hco : scope.isCoroutine = false) (hgen : scope.isGenerator = false) (hk : scope.kind = .function)
    (h : ∀ L' h₁, Fr g L' h₁ (fun y => binds.reverse.lookup y) → News g L' h₁ FP → (∀ p ∈ FP, p.1 < L') →
      wpAny (model PR w) (A.deeper (envOf qual scope L' f cdv)) (execs body (envOf qual scope L' f cdv))
        (fun fl s' => Back R (match fl with | .ret v => v | _ => .none) s')
        (fun e s' => wpAny (model PR w) (A.deeper (envOf qual scope L' f cdv)) (leaving (envOf qual scope L' f cdv) e) (fun _ s'' => R (.error e) s'') (fun e' s'' => R (.error e') s'') s')
        { s with heap := h₁, toks := s.toks + binds.length }) :
    codeAny (model PR w) A (.call (.ref f) args) R s :=
  enterX (cl := []) C O ((C.X.keeps O.stays) _ _ ho) rfl (codeRec_of (C.X.keeps O.stays) hcd) hroom hbind hloc hcell hco hgen hk h

/-- at a call within a frame: hide what the callee owns -/
theorem at_call {A₀ : Around} {h₀ : Heap} {outer : List Env} {env : Env} {L : Addr} {m : Str → Option Value} {news : List (Addr × Obj)} {c : Code}
    (B : Below A₀ base outer h₀) (F : Fr h₀ L s.heap m) (X : (hd.heap_39 w.params).In h₀) (T : Top topProg LOOSE mean mg mb h₀) (N : News h₀ L s.heap news) (FP : List (Addr × Obj)) (hsub : ∀ p ∈ FP, p ∈ news)
    (hf : env.frame = some L) (hke : env.scope.kind = .function) (hA : A.frames = some (env :: outer))
    (k : ∀ g, Ctx w A base (env :: outer) g mean mg mb → Own g s.heap FP →
      (∀ h' FP', Own g h' FP' → Fr h₀ L h' m ∧ ∀ news', (∀ p ∈ news', p ∈ FP' ∨ (p ∈ news ∧ ∀ q ∈ FP, q.1 ≠ p.1)) → News h₀ L h' news') →
      (∀ p ∈ news, (∀ q ∈ FP, q.1 ≠ p.1) → g.get? p.1 = some p.2) →
      codeAny (model PR w) A c R s) :
    codeAny (model PR w) A c R s := by
  have NF : News h₀ L s.heap FP := fun p hp => N p (hsub p hp)
  obtain ⟨FG, BG, st, _⟩ := groundX (A := A) (R := R) B F NF hA hf hke
  refine k (hideAll s.heap (FP.map (·.1))) ⟨BG, X.keeps fun b o e => st b o e, T.keeps fun b o e => st b o e⟩ ⟨fun b o e => of_hideAll _ e, Nat.le_of_eq (hideAll_size _ _), fun p hp => ⟨(NF p hp).1, hideAll_none _ (List.mem_map_of_mem hp)⟩⟩ (fun h' FP' O' => ?_) fun p hp hne => hideAll_get _ (N p hp).1 fun q => by
    obtain ⟨q', hq, e⟩ := List.mem_map.mp q
    exact hne q' hq e
  obtain ⟨oL, es, ep, hL, hLd, hLk, hLf⟩ := FG.ns
  refine ⟨⟨⟨oL, es, ep, O'.stays _ _ hL, hLd, hLk, hLf⟩, fun b o e => O'.stays _ _ (st _ _ e), F.above⟩, fun news' hn p hp => ?_⟩
  rcases hn p hp with h1 | ⟨h1, h2⟩
  · refine ⟨(O'.own p h1).1, fun q => ?_, ?_⟩
    · have := (O'.own p h1).2; rw [q, hL] at this; cases this
    · cases q : h₀.get? p.1 with
      | none => rfl
      | some o => have := (O'.own p h1).2; rw [st _ _ q] at this; cases this
  · refine ⟨O'.stays _ _ (hideAll_get _ (N p h1).1 fun q => ?_), (N p h1).2⟩
    obtain ⟨q', hq, e⟩ := List.mem_map.mp q
    exact h2 q' hq e
end
end

section
-- G1
open PySem PySem.W PySem.Calls PyProof.Rows
set_option Elab.async false
set_option maxRecDepth 100000
open PySem.Builtin.Int (intBits)

/-- big-endian octets of a number, and back -/
def bts (k : Nat) (n : Int) : List UInt8 := (KTBy.low n k).reverse
def dec (b : List UInt8) : Nat := b.foldl (fun (acc : Nat) (b : UInt8) => acc * 256 + b.toNat) 0
theorem bts_len (k : Nat) (n : Int) : (bts k n).length = k := by rw [bts, List.length_reverse, KTBy.low_length]
theorem fold_app (l : List Int) (x a : Int) : (l ++ [x]).foldl (fun a k => a * 256 + k) a = l.foldl (fun a k => a * 256 + k) a * 256 + x := by
  rw [List.foldl_append]; rfl
theorem value_little : ∀ (k : Nat) (x : Int), 0 ≤ x → x < 256 ^ k → KFB.value (KTBy.little k x).reverse = x
  | 0, x, h0, h1 => by
    have : x = 0 := by simp at h1; omega
    subst this; rfl
  | k + 1, x, h0, h1 => by
    have h2 : x / 256 < 256 ^ k := by
      rw [Int.pow_succ] at h1
      exact Int.ediv_lt_of_lt_mul (by decide) h1
    have ih := value_little k (x / 256) (Int.ediv_nonneg h0 (by decide)) h2
    show KFB.value ((x % 256 :: KTBy.little k (x / 256)).reverse) = x
    rw [List.reverse_cons]
    unfold KFB.value at ih ⊢
    rw [fold_app, ih]
    omega
theorem dec_bts {k : Nat} {n : Int} (h0 : 0 ≤ n) (h1 : n < 256 ^ k) : ((dec (bts k n) : Nat) : Int) = n := by
  have e := KFB.fold_cast (bts k n) 0
  have e2 : (bts k n).map (fun c => ((c.toNat : Nat) : Int)) = (KTBy.little k n).reverse := by
    rw [bts, List.map_reverse, KTBy.low_ints h0 h1, ← KTBy.little_eq]
  rw [e2] at e
  show ((List.foldl _ 0 (bts k n) : Nat) : Int) = n
  rw [e]
  exact value_little k n h0 h1
theorem bts_inj {k : Nat} {n m : Int} (h0 : 0 ≤ n) (h1 : n < 256 ^ k) (h2 : 0 ≤ m) (h3 : m < 256 ^ k) (e : bts k n = bts k m) : n = m := by
  rw [← dec_bts h0 h1, ← dec_bts h2 h3, e]

section
variable {prog : Program} {w : World} {M : Model} {A : Around} {E : Value → Shared → Prop} {s : Shared} {x : Int} {k : Nat} {t u v : Tok}

theorem to_big {Q : Value → Shared → Prop} (hk : k ≤ 64) (h0 : 0 ≤ x) (h1 : x < 256 ^ k) (h : ∀ t' k', Q (.bytes (bts k x).toArray t') { s with toks := k' }) :
    wpAny (model prog w) A (call (.builtin "int.to_bytes") [.int x t, .int (k : Int) u, .str (PySem.Str.ofString "big") v]) Q E s := by
  refine wpAny_call_entry KTBy.slot (typeIs_int s x t) KTBy.entry ?_ (KTBy.args _ _ _)
  have hb := KTBy.bits_le (x := x) (k := k) rfl h0 h1
  show wpAny _ _ (Builtin.Int.intOfSelf (.int x t) >>= fun y => _) _ _ s
  refine wpAny_bind (wpAny_of_eq (a := x) rfl ?_)
  show wpAny _ _ (Builtin.Int.intBindNamed "to_bytes" ["length", "byteorder", "signed"] 0 2 [.int (k : Int) u, .str (PySem.Str.ofString "big") v] [] >>= fun l => _) _ _ s
  refine wpAny_bind (wpAny_of_eq (a := [some (.int (k : Int) u), some (.str (PySem.Str.ofString "big") v), none]) (by kernel_rfl) ?_)
  show wpAny _ _ (Builtin.Int.intIndex "int.to_bytes" (.int (k : Int) u) >>= fun n => _) _ _ s
  refine wpAny_bind (wpAny_of_eq (a := (k : Int)) rfl ?_)
  refine KTBy.if_not (by show (decide ((k : Int) < -(2 ^ 63 : Int)) || decide ((k : Int) ≥ 2 ^ 63)) = false; rw [decide_eq_false (show ¬ ((k : Int) < -(2 ^ 63 : Int)) by omega), decide_eq_false (show ¬ ((k : Int) ≥ 2 ^ 63) by omega)]; rfl) ?_
  refine wpAny_bind (wpAny_of_eq (a := PySem.Str.ofString "big") (by kernel_rfl) ?_)
  refine wpAny_bind (wpAny_of_eq (a := false) rfl ?_)
  refine wpAny_bind (wpAny_of_eq (a := false) (by kernel_rfl) ?_)
  refine wpAny_ite_false (decide_eq_false (show ¬ ((k : Int) < 0) by omega)) ?_
  refine wpAny_ite_false (decide_eq_false (show ¬ ((k : Int) > 2 ^ 63 - 1 - 33) by omega)) ?_
  refine wpAny_ite_false (decide_eq_false (show ¬ ((k : Int) > (sizeLine : Int)) by rw [sizeLine_eq]; omega)) ?_
  refine KTBy.if_not (by show (decide (x < 0) && !false) = false; rw [decide_eq_false (show ¬ x < 0 by omega)]; rfl) ?_
  refine KTBy.if_not (by show (_ && decide ((intBits x : Int) > 8 * (k : Int))) = false; rw [decide_eq_false (show ¬ ((intBits x : Int) > 8 * (k : Int)) by omega), Bool.and_false]) ?_
  refine wpAny_bind (wpAny_mkBytes (wpAny_pure ⟨_, rfl, ?_⟩) (by show (List.reverse (KTBy.low x (Int.toNat (k : Int)))).length ≤ sizeLine; rw [List.length_reverse, KTBy.low_length, Int.toNat_natCast, sizeLine_eq]; omega))
  show Q (.bytes (List.reverse (KTBy.low x (Int.toNat (k : Int)))).toArray _) _
  rw [Int.toNat_natCast]
  exact h _ _

theorem grown' {n : Nat} {Q : Value → Shared → Prop} (hn : n < 2 ^ 512) (h : Q (.int (n : Int) s.toks) { s with toks := s.toks + 1 }) : wpAny M A (mkIntGrown (n : Int)) Q E s := by
  unfold mkIntGrown
  have hl : ¬ ((n : Int).natAbs.log2 ≥ bitsLine) := by
    rw [Int.natAbs_natCast]
    have hb : bitsLine = 134217728 := by first | rfl | decide
    by_cases hz : n = 0
    · subst hz
      rw [hb]
      decide
    · have h1 := (Nat.log2_lt hz).mpr hn
      omega
  rw [if_neg hl]
  exact wpAny_mkInt h
theorem tree_big {b : List UInt8} {t u : Tok} {P : Fin → Shared → Prop} (hl : b.length ≤ 64) (h : P (.done (.ret (.int (dec b : Nat) s.toks))) { s with toks := s.toks + 1 }) :
    wpAny M A (Builtin.«int.from_bytes» ⟨[.type "int", .bytes b.toArray t, .str (PySem.Str.ofString "big") u], []⟩) P E s := by
  have hn : b.foldl (fun (acc : Nat) (b : UInt8) => acc * 256 + b.toNat) 0 < 2 ^ 512 := by
    have h1 := KFB.fold_lt b 0
    rw [Nat.zero_add, Nat.one_mul] at h1
    have h2 : 256 ^ b.length ≤ 256 ^ 64 := Nat.pow_le_pow_right (by decide) hl
    have h3 : (256 : Nat) ^ 64 = 2 ^ 512 := by decide
    omega
  unfold Builtin.«int.from_bytes»
  refine wpAny_bind (wpAny_of_eq (a := true) KFB.type_int ?_)
  refine KFB.if_not rfl ?_
  refine wpAny_bind (wpAny_of_eq (a := true) F.conv_sub_int ?_)
  refine KFB.if_not rfl ?_
  refine wpAny_bind (wpAny_of_eq (a := [some (.bytes b.toArray t), some (.str (PySem.Str.ofString "big") u), none]) (by kernel_rfl) ?_)
  refine wpAny_bind (wpAny_of_eq (a := PySem.Str.ofString "big") (by kernel_rfl) ?_)
  refine wpAny_bind (wpAny_of_eq (a := false) rfl ?_)
  refine wpAny_bind (wpAny_of_eq (a := false) (by kernel_rfl) ?_)
  refine wpAny_bind (wpAny_of_eq (a := b.toArray) rfl ?_)
  show wpAny _ _ (mkIntGrown (b.foldl (fun (acc : Int) (b : UInt8) => acc * 256 + (b.toNat : Int)) ((0 : Nat) : Int)) >>= fun v => _) _ _ _
  rw [KFB.foldI_eq]
  refine wpAny_bind (grown' hn ?_)
  refine KFB.if_so (by decide +kernel) ?_
  exact wpAny_bind (wpAny_pure (wpAny_pure h))
theorem from_big {h₀ : Heap} {L : Addr} {news : List (Addr × Obj)} {x : Addr} {b : List UInt8} {t u : Tok} {Q : Value → Shared → Prop} (N : News h₀ L s.heap news) (hm : (x, KFB.bound) ∈ news) (hl : b.length ≤ 64)
    (h : ∀ t' k, Q (.int (dec b : Nat) t') { s with toks := k }) : wpAny (model prog w) A (call (.ref x) [.bytes b.toArray t, .str (PySem.Str.ofString "big") u]) Q E s :=
  KFB.call_of (KFB.at_of N hm) (fun z => tree_big hl z) (h _ _)
end
end

section
-- G2
open PySem PySem.W PySem.Calls PyProof.Rows
set_option Elab.async false
set_option maxRecDepth 100000
set_option linter.unusedVariables false

/-- the inner def of _law_hash, read off the program -/
noncomputable def hashDef : Arguments × List Stmt × Scope := match PySem.Challenge.pw_gp5032_01.main.body with
  | _ :: _ :: _ :: _ :: _ :: _ :: _ :: _ :: _ :: _ :: _ :: _ :: _ :: _ :: _ :: _ :: _ :: _ :: .FunctionDef _ _ (.FunctionDef _ a b _ _ _ sc _ _ _ :: _) _ _ _ _ _ _ _ :: _ => (a, b, sc)
  | _ => ({ posonlyargs := [], args := [], vararg := none, kwonlyargs := [], kw_defaults := [], kwarg := none, defaults := [] }, [], { kind := .function, names := [], isGenerator := false, isCoroutine := false, more := [] })

/-- f is the closure hash_of over the cell ce, which holds the dict d -/
def IsHash (f c ce d : Addr) (fo oc oe : Obj) : Prop :=
  (∃ ql doc pm ct vs t, fo = fnMade (Str.ofString "hash_of") ql hashDef.1 hashDef.2.1 hashDef.2.2 [(Str.ofString "book", ce)] doc pm c ct ∧
    oc.data = .fields vs ∧ vs[1]? = some (.str ql t) ∧ oe.data = .cell (some (.ref d)) ∧ (d == sysModules) = false) ∧ @Ne Nat d f ∧ @Ne Nat d c ∧ @Ne Nat d ce

/-- text x has the number y in the book B -/
def Hs (B : List (List UInt8)) (x y : List UInt8) : Prop := ∃ i : Nat, B[i]? = some x ∧ y = bts 32 ((i : Int) + 1)
/-- the book's pairs: each text with its number -/
def IsBook (w : World) (o : Obj) (B : List (List UInt8)) : Prop :=
  ∃ kvs : List (List UInt8 × Value), o.IsDictOf (bytesKind PR w) kvs ∧ kvs.map (·.1) = B ∧ ∀ (i : Nat) (p : List UInt8 × Value), kvs[i]? = some p → ∃ t, p.2 = .bytes (bts 32 ((i : Int) + 1)).toArray t
/-- the book grows -/
def Ext (n : Nat) (B B' : List (List UInt8)) : Prop := B <+: B' ∧ B'.length ≤ B.length + n
theorem Ext.refl (B : List (List UInt8)) (n : Nat) : Ext n B B := ⟨List.prefix_rfl, by omega⟩
theorem Ext.trans {n k : Nat} {B B' B'' : List (List UInt8)} (h : Ext n B B') (h' : Ext k B' B'') : Ext (n + k) B B'' := ⟨h.1.trans h'.1, by have := h.2; have := h'.2; omega⟩
theorem Ext.le {n k : Nat} {B B' : List (List UInt8)} (h : Ext n B B') (hk : n ≤ k) : Ext k B B' := ⟨h.1, by have := h.2; omega⟩
theorem Hs.mono {B B' : List (List UInt8)} {x y : List UInt8} (h : Hs B x y) (e : B <+: B') : Hs B' x y := by
  obtain ⟨i, h1, h2⟩ := h
  obtain ⟨l, rfl⟩ := e
  refine ⟨i, ?_, h2⟩
  have := List.getElem?_eq_some_iff.mp h1
  rw [List.getElem?_append_left this.1]; exact h1
theorem Hs.len {B : List (List UInt8)} {x y : List UInt8} (h : Hs B x y) : y.length = 32 := by
  obtain ⟨i, h1, rfl⟩ := h; exact bts_len _ _
theorem IsBook.nodup {w : World} {o : Obj} {B : List (List UInt8)} (h : IsBook w o B) : B.Nodup := by
  obtain ⟨kvs, ⟨_, _, _, _, _, _, hn⟩, hK, _⟩ := h
  rw [← hK]; exact hn
theorem Hs.fn {B : List (List UInt8)} {x y y' : List UInt8} (hn : B.Nodup) (h : Hs B x y) (h' : Hs B x y') : y = y' := by
  obtain ⟨i, h1, rfl⟩ := h
  obtain ⟨j, h2, rfl⟩ := h'
  have hi := (List.getElem?_eq_some_iff.mp h1).1
  have e : i = j := (List.getElem?_inj hi hn).mp (h1.trans h2.symm)
  rw [e]
theorem small_lt {i : Nat} (h : i < 10000000) : ((i : Int) + 1) < 256 ^ 32 := by
  have : (256 : Int) ^ 32 = 115792089237316195423570985008687907853269984665640564039457584007913129639936 := by decide
  omega
theorem Hs.inj {B : List (List UInt8)} {x x' y : List UInt8} (hb : B.length < 1000000) (h : Hs B x y) (h' : Hs B x' y) : x = x' := by
  obtain ⟨i, h1, e1⟩ := h
  obtain ⟨j, h2, e2⟩ := h'
  have hi := (List.getElem?_eq_some_iff.mp h1).1
  have hj := (List.getElem?_eq_some_iff.mp h2).1
  have e := bts_inj (k := 32) (by omega) (small_lt (by omega)) (by omega) (small_lt (by omega)) (e1.symm.trans e2)
  have : i = j := by omega
  subst this
  exact Option.some.inj (h1.symm.trans h2)

theorem warm2 : PySem.Challenge.rw_gp5032_01 = PySem.Challenge.rw_gp5032_01 ∧ hd.heap_39 = hd.heap_39 := by
  w_on
  k_fill
  exact ⟨rfl, rfl⟩
theorem isSome_of {K : Type} [DecidableEq K] {kvs : List (K × Value)} {k : K} {v : Value} (h : valueAt kvs k = some v) : (valueAt kvs k).isSome = true := by rw [h]; rfl
theorem isNone_of {K : Type} [DecidableEq K] {kvs : List (K × Value)} {k : K} (h : valueAt kvs k = none) : (valueAt kvs k).isSome = false := by rw [h]; rfl
theorem at_new {K : Type} [DecidableEq K] {kvs : List (K × Value)} {k : K} {v : Value} (h : valueAt kvs k = none) : valueAt (stored kvs k v) k = some v := by
  have h0 : ¬ kvs.any (fun kv => kv.1 = k) = true := by
    intro hh
    obtain ⟨x, hx, he⟩ := List.any_eq_true.mp hh
    unfold valueAt at h
    rw [Option.map_eq_none_iff, List.find?_eq_none] at h
    exact h x hx he
  unfold valueAt at h ⊢
  rw [Option.map_eq_none_iff] at h
  unfold stored
  rw [if_neg h0, List.find?_append, h]
  simp
section
local macro_rules | `(tactic| k_room) => `(tactic| ((try simp only [depth_under_make, depth_under_kw, depth_in1, depth_deeper, depth_caller]); omega))
local macro_rules | `(tactic| walk_at "eval Name") => `(tactic| (k_here; k_dflt (refine' nameX_F ?N ?c ?m ?d ?_ ?a ?b; (case a => rfl); (case b => rfl); (case N => k_asm); (case c => rfl); (case m => k_mem); (case d => k_asm); k_whole)))
local macro_rules | `(tactic| walk_at "compareOp NotIn bytes ref") => `(tactic| (k_here; k_dflt (refine kdg_notin (knd := bytesKind _ _) (by k_asm) (by k_mem) (by k_asm) (by k_asm) (bytesKind_is _ _ _ _) _ (by first | exact isSome_of (by assumption) | exact isNone_of (by assumption)) ?_)))
local macro_rules | `(tactic| walk_at "call builtin:len") => `(tactic| (k_here; (with_reducible show wpAny _ _ (call (Value.builtin "len") [Value.ref _]) _ _ _); k_dflt (refine kda_len (knd := bytesKind _ _) (by k_asm) (by k_mem) (by k_asm) (by k_asm) (by omega) ?_)))
local macro_rules | `(tactic| walk_at "call builtin:int.to_bytes") => `(tactic| (k_here; k_dflt (refine to_big (k := 32) (by decide) (by omega) (by omega) ?_; intro t' k')))
local macro_rules | `(tactic| walk_at "setItem ref bytes") => `(tactic| (k_here; k_dflt (refine' kda_set (knd := bytesKind _ _) ?F ?N ?U ?d (bytesKind_is _ _ _ _) ?z ?_; (case F => k_asm); (case N => k_asm); (case U => k_updF); (case d => k_asm); (case z => rw [sizeLine_eq]; omega)); intro h' o' F' N' hd'; (try dsimp only at N')))
local macro_rules | `(tactic| walk_at "subscriptTail") => `(tactic| (k_here; (with_reducible show wpAny _ _ (subscriptTail _ _ (Value.ref _) (Value.bytes _ _)) _ _ _); k_dflt (refine kda_item (knd := bytesKind _ _) (by k_asm) (by k_mem) (by k_asm) (bytesKind_is _ _ _ _) (by first | assumption | exact at_new (by assumption)) ?_)))
theorem idx_valueAt {K : Type} [DecidableEq K] : ∀ {kvs : List (K × Value)} {k : K} {v : Value}, valueAt kvs k = some v → ∃ i : Nat, kvs[i]? = some (k, v)
  | (k', v') :: r, k, v, h => by
    by_cases e : k' = k
    · refine ⟨0, ?_⟩
      unfold valueAt at h
      rw [List.find?_cons_of_pos (by simpa using e)] at h
      simp at h
      simp [e, h]
    · unfold valueAt at h
      rw [List.find?_cons_of_neg (by simpa using e)] at h
      obtain ⟨i, hi⟩ := idx_valueAt (kvs := r) (k := k) (v := v) h
      exact ⟨i + 1, by simpa using hi⟩
theorem stored_new {K : Type} [DecidableEq K] {kvs : List (K × Value)} {k : K} {v : Value} (h : valueAt kvs k = none) : stored kvs k v = kvs ++ [(k, v)] := by
  have h0 : ¬ kvs.any (fun kv => kv.1 = k) = true := by
    intro hh
    obtain ⟨x, hx, he⟩ := List.any_eq_true.mp hh
    unfold valueAt at h
    rw [Option.map_eq_none_iff, List.find?_eq_none] at h
    exact h x hx he
  unfold stored
  rw [if_neg h0]

set_option maxHeartbeats 4000000 in
theorem hash_spec {w : World} {A : Around} {base g : Heap} {fr : List Env} {mean : ExcName → Option Value} {mg mb : Str → Option Value} {s : Shared} {R : Result → Shared → Prop}
    {f c ce d : Addr} {fo oc oe od : Obj} {B : List (List UInt8)} {x : List UInt8} {tx : Tok}
    (C : Ctx w A base fr g mean mg mb) (O : Own g s.heap [(f, fo), (c, oc), (ce, oe), (d, od)]) (H : IsHash f c ce d fo oc oe) (hB : IsBook w od B)
    (hroom : A.depth + 5 < recursionLimit) (hlen : B.length < 1000000)
    (hQ : ∀ h' tk tv od' B' y, Own g h' [(f, fo), (c, oc), (ce, oe), (d, od')] → IsBook w od' B' → Ext 1 B B' → Hs B' x y → R (.ok (.ret (.bytes y.toArray tv))) { s with heap := h', toks := tk }) :
    codeAny (model PR w) A (.call (.ref f) ⟨[.bytes x.toArray tx], []⟩) R s := by
  obtain ⟨⟨ql, doc, pm, ct, vs, t, rfl, hoc, hvs, hoe, hlo⟩, n1, n2, n3⟩ := H
  have hB0 := hB
  obtain ⟨kvs, hD, hK, hV⟩ := hB
  have hlk : kvs.length < 1000000 := by rw [← hK, List.length_map] at hlen; exact hlen
  have hlk2 := small_lt (i := kvs.length) (by omega)
  rw [show hashDef = (_, _, _) from rfl] at O hQ
  dsimp only at O hQ
  refine enterX (binds := [(Str.ofString "text", .bytes x.toArray tx)]) C O (O.own _ (List.mem_cons_self)).1 rfl ⟨c, oc, vs, t, rfl, (O.own (c, oc) (by simp)).1, hoc, hvs⟩ (by omega) (BindsTo.of_eq rfl) (locs rfl) (by decide) rfl rfl rfl ?_
  intro L' h₁ F' N' lt'
  have X' := C.X
  have T' := C.T
  have B' := C.B
  w_on
  (try k_fold)
  rcases hx : valueAt kvs x with _ | v
  all_goals k_steps
  all_goals (dsimp only; unfold Back)
  · rename_i hd'
    rename Fr _ _ _ _ => F''
    rename News _ _ _ _ => N''
    refine hQ _ _ _ _ (B ++ [x]) _ (own_of F'' N'') ⟨_, hd', ?_, ?_⟩ ⟨List.prefix_append _ _, by simp⟩ ⟨kvs.length, ?_, rfl⟩
    · rw [stored_new hx, List.map_append, hK]; rfl
    · intro i p hp
      rw [stored_new hx] at hp
      rcases Nat.lt_or_ge i kvs.length with h1 | h1
      · rw [List.getElem?_append_left h1] at hp
        exact hV i p hp
      · rw [List.getElem?_append_right h1] at hp
        have hi : i - kvs.length = 0 := by
          by_cases h0 : i - kvs.length = 0
          · exact h0
          · have hp' := List.getElem?_eq_some_iff.mp hp
            have := hp'.1
            simp only [List.length_cons, List.length_nil] at this
            omega
        rw [hi] at hp
        simp at hp
        have : i = kvs.length := by omega
        subst this
        exact ⟨_, by rw [← hp]⟩
    · rw [← hK, List.getElem?_append_right (by simp)]
      simp
  · obtain ⟨i, hi⟩ := idx_valueAt hx
    obtain ⟨tv, hv⟩ := hV i _ hi
    dsimp only at hv
    subst hv
    refine hQ _ _ _ _ B _ (own_of F' N') hB0 (Ext.refl _ _) ⟨i, ?_, rfl⟩
    rw [← hK, List.getElem?_map, hi]; rfl

theorem hash_at {w : World} {A A₀ : Around} {base h₀ : Heap} {outer : List Env} {env : Env} {L : Addr} {m : Str → Option Value} {mean : ExcName → Option Value} {mg mb : Str → Option Value} {s : Shared} {news : List (Addr × Obj)} {gl : Obj → List (Addr × Obj)}
    {f c ce d : Addr} {fo oc oe od : Obj} {Bk : List (List UInt8)} {x : List UInt8} {tx : Tok} {Q : Value → Shared → Prop} {E : Value → Shared → Prop}
    (B : Below A₀ base outer h₀) (F : Fr h₀ L s.heap m) (X : (hd.heap_39 w.params).In h₀) (T : Top topProg LOOSE mean mg mb h₀) (N : News h₀ L s.heap news)
    (H : IsHash f c ce d fo oc oe) (m1 : (f, fo) ∈ news) (m2 : (c, oc) ∈ news) (m3 : (ce, oe) ∈ news) (U : UpdF d od news gl) (hB : IsBook w od Bk)
    (hA : A.frames = some (env :: outer)) (hf : env.frame = some L) (hke : env.scope.kind = .function) (hroom : A.depth + 5 < recursionLimit) (hlen : Bk.length < 1000000)
    (h : ∀ h' tk tv od' B' y, Fr h₀ L h' m → News h₀ L h' (gl od') → IsBook w od' B' → Ext 1 Bk B' → Hs B' x y → Q (.bytes y.toArray tv) { s with heap := h', toks := tk }) :
    wpAny (model PR w) A (call (.ref f) [.bytes x.toArray tx]) Q E s := by
  obtain ⟨pre, post, hN, hg, a1, a2⟩ := U.split
  have m4 : (d, od) ∈ news := by rw [hN]; simp
  refine wpAny_call (at_call B F X T N [(f, fo), (c, oc), (ce, oe), (d, od)] ?_ hf hke hA fun g C O back fz => ?_)
  · intro p hp
    simp only [List.mem_cons, List.not_mem_nil, or_false] at hp
    rcases hp with rfl | rfl | rfl | rfl <;> assumption
  · refine hash_spec C O H hB hroom hlen fun h' tk tv od' B' y O' b e hs => ?_
    obtain ⟨F', N'⟩ := back h' _ O'
    refine h h' tk tv od' B' y F' (N' _ fun p hp => ?_) b e hs
    rw [hg] at hp
    have other : ∀ p ∈ news, p.1 ≠ d → p ∈ [(f, fo), (c, oc), (ce, oe), (d, od')] ∨ (p ∈ news ∧ ∀ q ∈ [(f, fo), (c, oc), (ce, oe), (d, od)], q.1 ≠ p.1) := by
      intro p hp hne
      have fn : ∀ a o, (a, o) ∈ news → a = p.1 → p = (a, o) := fun a o hm e => by
        have h1 := (N _ hm).1
        have h2 := (N _ hp).1
        dsimp only at h1
        rw [e, h2] at h1
        exact Prod.ext e.symm (Option.some.inj h1)
      by_cases e1 : f = p.1
      · left; rw [fn f fo m1 e1]; simp
      by_cases e2 : c = p.1
      · left; rw [fn c oc m2 e2]; simp
      by_cases e3 : ce = p.1
      · left; rw [fn ce oe m3 e3]; simp
      · right
        refine ⟨hp, fun q hq => ?_⟩
        simp only [List.mem_cons, List.not_mem_nil, or_false] at hq
        rcases hq with rfl | rfl | rfl | rfl
        · exact e1
        · exact e2
        · exact e3
        · exact fun e => hne e.symm
    rcases List.mem_append.mp hp with h1 | h1
    · exact other p (by rw [hN]; simp [h1]) (a1 p h1)
    · rcases List.mem_cons.mp h1 with rfl | h1
      · left; simp
      · exact other p (by rw [hN]; simp [h1]) (a2 p h1)
theorem hash_fn {f c ce d L : Addr} {fo oc oe : Obj} {h₀ h : Heap} {news : List (Addr × Obj)} (H : IsHash f c ce d fo oc oe) (N : News h₀ L h news) (m1 : (f, fo) ∈ news) : FnAt f h := by
  obtain ⟨⟨ql, doc, pm, ct, vs, t, rfl, _⟩, _⟩ := H
  exact FnAt.of N m1
end
end
open PySem PySem.W PySem.Calls PyProof.Rows in
local macro_rules | `(tactic| k_room) => `(tactic| ((try simp only [depth_under_make, depth_under_kw, depth_in1, depth_deeper, depth_caller]); omega))
open PySem PySem.W PySem.Calls PyProof.Rows in
local macro_rules | `(tactic| walk_at "callWith ref") => `(tactic| (k_here; k_dflt (refine' callWith_F ?k1 ?_; (case k1 => exact hash_fn (by k_asm) (by k_asm) (by k_mem)); k_whole)))
open PySem PySem.W PySem.Calls PyProof.Rows in
local macro_rules | `(tactic| walk_at "And") => `(tactic| ((with_reducible show FnAt _ _ ∧ _); k_dflt (refine ⟨hash_fn (by k_asm) (by k_asm) (by k_mem), ?_⟩); try dsimp only [List.nil_append, List.cons_append]))
open PySem PySem.W PySem.Calls PyProof.Rows in
set_option hygiene false in
local macro_rules | `(tactic| walk_at "call ref") => `(tactic| (k_here; (with_reducible show wpAny _ _ (call (Value.ref _) [Value.bytes (List.toArray _) _]) _ _ _); k_dflt (refine' hash_at ?B ?F ?X ?T ?N ?H ?m1 ?m2 ?m3 ?U ?hB ?hA ?hf ?hke ?room ?len ?_; (case H => k_asm); (case F => k_asm); (case B => k_asm); (case X => k_asm); (case T => k_asm); (case N => k_asm); (case m1 => k_mem); (case m2 => k_mem); (case m3 => k_mem); (case U => k_updF); (case hB => k_asm); (case hA => exact Around.frames_deeper (Below.stack (by k_asm))); (case hf => exact rfl); (case hke => exact rfl); (case room => k_room); (case len => omega)); intro h' tk' tv' od' Bk' y' F' N' hB' hE' hH'; (have hL' := Hs.len hH'); (have hE2' := And.right hE'); (try dsimp only at N')))
open PySem PySem.W PySem.Calls PyProof.Rows in
set_option hygiene false in
local macro_rules | `(tactic| walk_at "binaryOp Add bytes bytes") => `(tactic| (k_here; (with_reducible show wpAny _ _ (binaryOp Operator.Add (Value.bytes (List.toArray _) _) (Value.bytes (List.toArray _) _)) _ _ _); k_dflt (refine' bytes_add_K ?z rfl ?_; (case z => (simp only [List.size_toArray]; omega))); intro tA kA))
open PySem PySem.W PySem.Calls PyProof.Rows in
local macro_rules | `(tactic| walk_at "call builtin:list.append") => `(tactic| (k_here; (show wpAny _ _ (call (Value.builtin _) [Value.ref _, _]) _ _ _); k_dflt (refine' append_K ?k1 ?k2 ?k3 ?_ ?z; (case k1 => k_asm); (case k2 => k_asm); (case k3 => k_upd); (case z => (simp only [List.size_toArray, sizeLine_eq]; omega)); k_whole); intro h' F' N'; (try k_sweep)))
open PySem PySem.W PySem.Calls PyProof.Rows in
local macro_rules | `(tactic| k_enter) => `(tactic| (refine' code_def ?k1 ?k2 ?k3 ?k4 ?k5 ?kA ?kF ?kK ?k6 ?k7 ?k8 ?k9 ?kB ?_ ?c2 ?c3 ?c4 ?c5; (case k2 => k_asm); (case k1 => k_asm); (case k3 => k_asm); (case k4 => k_asm); (case k5 => k_asm); (case kA => exact Around.frames_deeper (Below.stack (by k_asm))); (case kF => exact rfl); (case kK => exact rfl); (case k6 => k_is); (case k7 => k_is); (case k8 => k_room); (case k9 => first | exact BindsTo.of_eq rfl | exact binds_K (by k_in) rfl (by k_is) rfl rfl rfl | fail "k_enter: no rule for these arguments"); (case c5 => decide); (case kB => exact locs rfl); (case c2 => exact rfl); (case c3 => exact rfl); (case c4 => exact rfl); k_whole; intro g' L' h' FG' F' N' B' X' T'; (try dsimp only); (try k_lift B'); (try k_fold)))
open PySem PySem.W PySem.Calls PyProof.Rows in
set_option hygiene false in
local macro_rules | `(tactic| walk_at "setItem ref bytes") => `(tactic| (k_here; k_dflt (refine' kda_set (knd := bytesKind _ _) ?F ?N ?U ?d (bytesKind_is _ _ _ _) ?z ?_; (case F => k_asm); (case N => k_asm); (case U => k_updF); (case d => k_asm); (case z => rw [sizeLine_eq]; omega)); intro hS oS FS NS hdS; (try dsimp only at NS hdS); (try k_sweep)))
open PySem PySem.W PySem.Calls PyProof.Rows in
set_option hygiene false in
local macro_rules | `(tactic| walk_at "eval Dict nil nil") => `(tactic| (k_here; k_dflt (refine' newDict_K ?k1 ?k2 (TopRead.nolimit (by k_asm)) ?_; (case k1 => k_asm); (case k2 => k_asm); k_whole); intro dN hN oN FN NN lN loN hsN fsN hiN fiN; (try k_lt lN); (try k_sweep)))
open PySem PySem.W PySem.Calls PyProof.Rows in
local macro_rules | `(tactic| walk_at "call ref") => `(tactic| (k_here; (with_reducible show wpAny _ _ (call (Value.ref _) [Value.bytes (List.toArray _) _, Value.str _ _]) _ _ _); k_dflt (refine from_big (by k_asm) (by k_mem) (by omega) ?_); intro t' k'))
open PySem PySem.W PySem.Calls PyProof.Rows in
local macro_rules | `(tactic| walk_at "binaryOp LShift int int") => `(tactic| (k_here; k_dflt (refine lshift_int_small (by omega) (by omega) (by omega) ?_)))
open PySem PySem.W PySem.Calls PyProof.Rows in
local macro_rules | `(tactic| walk_at "subscriptTail") => `(tactic| (k_here; (with_reducible show wpAny _ _ (subscriptTail _ _ (Value.ref _) (Value.bytes _ _)) _ _ _); k_dflt (refine kda_item (knd := bytesKind _ _) (by k_asm) (by k_mem) (by k_asm) (bytesKind_is _ _ _ _) (by assumption) ?_)))
open PySem PySem.W PySem.Calls PyProof.Rows in
local macro_rules | `(tactic| walk_at "getItem ref bytes") => `(tactic| (k_here; k_dflt (refine kdt_getItem (knd := bytesKind _ _) (by k_asm) (by k_mem) (by k_asm) (bytesKind_is _ _ _ _) (by assumption) ?_)))
open PySem PySem.W PySem.Calls PyProof.Rows in
set_option hygiene false in
local macro_rules | `(tactic| walk_at "newList") => `(tactic| (k_here; k_dflt (refine' newList_K ?k1 ?k2 ?_; (case k1 => k_asm); (case k2 => k_asm); k_whole); intro lL hL FL NL ltL; (try k_lt ltL); (try k_sweep)))
open PySem PySem.W PySem.Calls PyProof.Rows in
local macro_rules | `(tactic| walk_at "ite") => `(tactic| (k_here; k_openite; first
  | (refine ite_pos (by assumption) ?_)
  | (refine ite_neg (by assumption) ?_)
  | (refine ite_pos (by (simp only [List.size_toArray, decide_eq_true_eq, decide_eq_false_iff_not, Bool.not_eq_true', Bool.not_eq_true, bne_iff_ne, ne_eq, beq_iff_eq]); omega) ?_)
  | (refine ite_neg (by (simp only [List.size_toArray, decide_eq_true_eq, decide_eq_false_iff_not, Bool.not_eq_true', Bool.not_eq_true, bne_iff_ne, ne_eq, beq_iff_eq]); omega) ?_)))
open PySem PySem.W PySem.Calls PyProof.Rows in
local macro_rules | `(tactic| walk_at "unpackItems ref") => `(tactic| (k_here; k_dflt (refine' unpackItemsN_ ?k1 ?k2 ?k3 ?k4 ?k5 ?_; (case k1 => k_asm); (case k2 => k_asm); (case k3 => exact News.isTup (by k_asm) (by k_mem)); (case k4 => k_asm); (case k5 => exact rfl); k_whole); intro h' F' N'; (try k_sweep)))
open PySem PySem.W PySem.Calls PyProof.Rows in
set_option hygiene false in
local macro_rules | `(tactic| walk_at "call type:tuple") => `(tactic| (k_here; (with_reducible show wpAny _ _ (call (Value.type _) [Value.ref _]) _ _ _); k_dflt (refine' kde_tupleOf ?k1 ?k2 ?k3 ?k4 ?k5 ?_; (case k1 => k_asm); (case k2 => k_asm); (case k3 => exact News.isList (by k_asm) (by k_mem)); (case k4 => (simp only [List.size_toArray]; omega)); (case k5 => exact rfl)); intro tD tH FT NT ltT; (try k_lt ltT); (try k_sweep)))
open PySem PySem.W PySem.Calls PyProof.Rows in
local macro_rules | `(tactic| walk_at "inplaceOp LShift int int") => `(tactic| (k_here; k_dflt (refine ilshift_int (by omega) (by assumption) ?_)))
open PySem PySem.W PySem.Calls PyProof.Rows in
local macro_rules | `(tactic| walk_at "assign Tuple") => `(tactic| (k_here; (with_reducible show wpAny _ _ (assign (Expr.Tuple _ _ _) _ (Value.ref _)) _ _ _); k_dflt (refine' unpackN_ ?k1 ?k2 ?k3 ?k4 ?k5 ?k6 ?_; (case k1 => k_asm); (case k2 => k_asm); (case k3 => exact News.isTup (by k_asm) (by k_mem)); (case k4 => first | exact rfl | k_asm); (case k5 => first | exact rfl | k_asm); (case k6 => first | exact rfl | k_asm); k_whole); intro h' F' N'; (try k_sweep)))
open PySem PySem.W PySem.Calls PyProof.Rows in
local macro_rules | `(tactic| walk_at "call builtin:len") => `(tactic| (k_here; (with_reducible show wpAny _ _ (call (Value.builtin "len") [Value.ref _]) _ _ _); k_dflt (refine' len_tuple ?t ?z ?_; (case t => first | exact News.isTup (by k_asm) (by k_mem) | exact IsTup.keeps (by assumption) (Fr.keep (by assumption)) | exact IsTup.keeps (IsTup.keeps (by assumption) (Fr.keep (by assumption))) (Fr.keep (by assumption))); (case z => (simp only [List.size_toArray]; omega)))))
open PySem PySem.W PySem.Calls PyProof.Rows in
local macro_rules | `(tactic| walk_at "subscriptTail") => `(tactic| (k_here; (with_reducible show wpAny _ _ (subscriptTail _ _ (Value.ref _) (Value.int _ _)) _ _ _); k_dflt (refine kda_item (knd := intKind _ _) (by k_asm) (by k_mem) (by k_asm) (intKind_is _ _ _ _) (by assumption) ?_)))
open PySem PySem.W PySem.Calls PyProof.Rows in
local macro_rules | `(tactic| walk_at "getItem ref int") => `(tactic| (k_here; k_dflt (refine kdt_getItem (knd := intKind _ _) (by k_asm) (by k_mem) (by k_asm) (intKind_is _ _ _ _) (by assumption) ?_)))
open PySem PySem.W PySem.Calls PyProof.Rows in
local macro_rules | `(tactic| walk_at "getMethod ref") => `(tactic| (k_here; (with_reducible show wpAny _ _ (getMethod (Value.ref _) (Str.ofString "get") _) _ _ _); k_dflt (refine kdg_method (knd := intKind _ _) (by k_asm) (by k_mem) (by k_asm) ?_)))
open PySem PySem.W PySem.Calls PyProof.Rows in
set_option hygiene false in
local macro_rules | `(tactic| walk_at "setItem ref int") => `(tactic| (k_here; k_dflt (refine' kda_set (knd := intKind _ _) ?F ?N ?U ?d (intKind_is _ _ _ _) ?z ?_; (case F => k_asm); (case N => k_asm); (case U => k_updF); (case d => k_asm); (case z => rw [sizeLine_eq]; omega)); intro hS oS FS NS hdS; (try dsimp only at NS hdS); (try k_sweep)))
open PySem PySem.W PySem.Calls PyProof.Rows in
local macro_rules | `(tactic| walk_at "exec For Name Name cons nil") => `(tactic| (k_here; (rename Fr _ _ _ _ => lF'); (with_unfolding_all refine' For_invVF lF' ?k1 ?k2 ?_; (case k1 => exact rfl); (case k2 => exact rfl); k_whole)))
open PySem PySem.W PySem.Calls PyProof.Rows in
local macro_rules | `(tactic| k_mem) => `(tactic| assumption)
open PySem PySem.W PySem.Calls PyProof.Rows in
local macro_rules | `(tactic| walk_at "call builtin:len") => `(tactic| (k_here; (with_reducible show wpAny _ _ (call (Value.builtin "len") [Value.ref _]) _ _ _); k_dflt (refine' Calls.call_len_list ?l ?z ?_; (case l => exact News.isList (by k_asm) (by k_mem)); (case z => (simp only [List.size_toArray]; omega)))))

section
-- G3
open PySem PySem.W PySem.Calls PyProof.Rows
set_option Elab.async false
set_option maxRecDepth 100000
set_option linter.unusedVariables false
abbrev Bs := List UInt8

/-- the node of an empty tree at a height -/
def Em (dflt : Bs) (B : List Bs) : Nat → Bs → Prop
  | 0, e => Hs B dflt e
  | h + 1, e => ∃ x, Em dflt B h x ∧ Hs B (x ++ x) e
/-- the node at height h, place n, of the tree over the leaves v -/
def Nd (B : List Bs) (v : Nat → Bs) : Nat → Nat → Bs → Prop
  | 0, n, e => Hs B (v n) e
  | h + 1, n, e => ∃ l r, Nd B v h (2 * n) l ∧ Nd B v h (2 * n + 1) r ∧ Hs B (l ++ r) e
theorem Em.mono {dflt : Bs} {B B' : List Bs} (p : B <+: B') : ∀ {h : Nat} {e : Bs}, Em dflt B h e → Em dflt B' h e
  | 0, _, x => Hs.mono x p
  | _ + 1, _, ⟨y, a, b⟩ => ⟨y, Em.mono p a, b.mono p⟩
theorem Em.len {dflt : Bs} {B : List Bs} : ∀ {h : Nat} {e : Bs}, Em dflt B h e → e.length = 32
  | 0, _, x => Hs.len x
  | _ + 1, _, ⟨_, _, b⟩ => b.len
theorem Em.fn {dflt : Bs} {B : List Bs} (hn : B.Nodup) : ∀ {h : Nat} {e e' : Bs}, Em dflt B h e → Em dflt B h e' → e = e'
  | 0, _, _, x, y => Hs.fn hn x y
  | _ + 1, _, _, ⟨_, a, b⟩, ⟨_, a', b'⟩ => by
    have := Em.fn hn a a'
    subst this
    exact b.fn hn b'
theorem Nd.mono {B B' : List Bs} {v : Nat → Bs} (p : B <+: B') : ∀ {h n : Nat} {e : Bs}, Nd B v h n e → Nd B' v h n e
  | 0, _, _, x => Hs.mono x p
  | _ + 1, _, _, ⟨l, r, a, b, c⟩ => ⟨l, r, Nd.mono p a, Nd.mono p b, c.mono p⟩
theorem Nd.len {B : List Bs} {v : Nat → Bs} : ∀ {h n : Nat} {e : Bs}, Nd B v h n e → e.length = 32
  | 0, _, _, x => Hs.len x
  | _ + 1, _, _, ⟨_, _, _, _, c⟩ => c.len
theorem Nd.fn {B : List Bs} {v : Nat → Bs} (hn : B.Nodup) : ∀ {h n : Nat} {e e' : Bs}, Nd B v h n e → Nd B v h n e' → e = e'
  | 0, _, _, _, x, y => Hs.fn hn x y
  | _ + 1, _, _, _, ⟨l, r, a, b, c⟩, ⟨l', r', a', b', c'⟩ => by
    have e1 := Nd.fn hn a a'
    have e2 := Nd.fn hn b b'
    subst e1 e2
    exact c.fn hn c'
theorem half_of {h i n : Nat} (e : i / 2 ^ h = 2 * n ∨ i / 2 ^ h = 2 * n + 1) : i / 2 ^ (h + 1) = n := by
  rw [Nat.pow_succ, ← Nat.div_div_eq_div_mul]
  omega
theorem Nd.congr {B : List Bs} {v v' : Nat → Bs} : ∀ {h n : Nat} {e : Bs}, (∀ i, i / 2 ^ h = n → v i = v' i) → Nd B v h n e → Nd B v' h n e
  | 0, n, _, hv, x => by
    have := hv n (by simp)
    unfold Nd at x ⊢
    rw [← this]; exact x
  | h + 1, n, _, hv, ⟨l, r, a, b, c⟩ => ⟨l, r, Nd.congr (fun i hi => hv i (half_of (.inl hi))) a, Nd.congr (fun i hi => hv i (half_of (.inr hi))) b, c⟩
theorem Nd.of_em {dflt : Bs} {B : List Bs} {v : Nat → Bs} : ∀ {h n : Nat} {e : Bs}, (∀ i, i / 2 ^ h = n → v i = dflt) → Em dflt B h e → Nd B v h n e
  | 0, n, _, hv, x => by
    have := hv n (by simp)
    unfold Nd
    rw [this]; exact x
  | h + 1, n, _, hv, ⟨x, a, b⟩ => ⟨x, x, Nd.of_em (fun i hi => hv i (half_of (.inl hi))) a, Nd.of_em (fun i hi => hv i (half_of (.inr hi))) a, b⟩

/-- values that are these octets -/
inductive BsAre : List Value → List Bs → Prop
  | nil : BsAre [] []
  | cons {e : Bs} {t : Tok} {vs : List Value} {es : List Bs} : BsAre vs es → BsAre (.bytes e.toArray t :: vs) (e :: es)
theorem BsAre.length : ∀ {vs : List Value} {es : List Bs}, BsAre vs es → vs.length = es.length
  | _, _, .nil => rfl
  | _, _, .cons h => by simp [h.length]
theorem BsAre.get : ∀ {vs : List Value} {es : List Bs}, BsAre vs es → ∀ {i : Nat} {e : Bs}, es[i]? = some e → ∃ t, vs[i]? = some (.bytes e.toArray t)
  | _, _, .nil, i, e, h => by simp at h
  | _, _, .cons (t := t) r, 0, e, h => ⟨t, by simp at h ⊢; exact h⟩
  | _, _, .cons r, i + 1, e, h => by
    obtain ⟨t, ht⟩ := r.get (i := i) (e := e) (by simpa using h)
    exact ⟨t, by simpa using ht⟩
theorem BsAre.append : ∀ {vs vs' : List Value} {es es' : List Bs}, BsAre vs es → BsAre vs' es' → BsAre (vs ++ vs') (es ++ es')
  | _, _, _, _, .nil, h => h
  | _, _, _, _, .cons r, h => .cons (r.append h)
theorem BsAre.reverse : ∀ {vs : List Value} {es : List Bs}, BsAre vs es → BsAre vs.reverse es.reverse
  | _, _, .nil => .nil
  | _, _, .cons r => by rw [List.reverse_cons, List.reverse_cons]; exact r.reverse.append (.cons .nil)

/-- the walk stops here -/
def Hold (P : Prop) : Prop := P
theorem Hold.mk {P : Prop} (h : Hold P) : P := h

theorem item_list {prog : Program} {w : World} {A : Around} {E : Value → Shared → Prop} {s : Shared} {value slice : PySem.Expr} {h₀ : Heap} {L l : Addr} {news : List (Addr × Obj)} {vs : List Value} {cnt : Nat} {k : Int} {u : Tok} {v : Value} {Q : Value → Shared → Prop}
    (N : News h₀ L s.heap news) (hm : (l, listOf vs.toArray cnt) ∈ news) (h0 : 0 ≤ k) (hhi : k < 2 ^ 63) (hx : vs[k.toNat]? = some v) (h : Q v s)
    (hs : subscripted slice false (.ref l) (.int k u) = operate [.ref l, .int k u] (getItem (.ref l) (.int k u)) := by with_unfolding_all rfl) :
    wpAny (model prog w) A (subscriptTail value slice (.ref l) (.int k u)) Q E s :=
  have hl : s.heap.IsList l vs.toArray := ⟨_, (N _ hm).1, rfl, cnt, rfl⟩
  tail_any hl.typeIs slot_list_getitem.lookup (wpAny_getItem_list hl h0 hhi (by simpa using hx) h) hs

theorem rsize (n : Nat) : Builtin.Range.rangeSize 0 (n : Int) 1 = (n : Int) := by
  unfold Builtin.Range.rangeSize
  simp
  omega
theorem rsmall {n : Nat} (h : n ≤ 100000) : Builtin.Range.small 0 (n : Int) 1 = true := small_one (by omega) (by omega) (by omega) (by omega)


section
local macro_rules | `(tactic| walk_at "pyIter ref") => `(tactic| (k_here; (with_reducible show wpAny _ _ (pyIter (Value.ref _)) (fun it s₂ => LoopAtV _ _ _ _ _ _ _ _ _ it s₂) _ _); (with_reducible refine Hold.mk ?_)))
local macro_rules | `(tactic| walk_at "subscriptTail") => `(tactic| (k_here; (with_reducible show wpAny _ _ (subscriptTail _ _ (Value.ref _) (Value.int _ _)) _ _ _); k_dflt (refine' item_list ?N ?m ?h0 ?h1 ?hx ?_; (case N => k_asm); (case m => k_mem); (case hx => assumption); (case h0 => omega); (case h1 => omega))))
local macro_rules | `(tactic| walk_at "InvEndN") => `(tactic| (with_reducible refine Hold.mk ?_))
local macro_rules | `(tactic| walk_at "CompEnd") => `(tactic| (with_reducible refine Hold.mk ?_))
structure EmS where
  od : Obj
  B : List Bs
  vs : List Value
  es : List Bs
  cnt : Nat

set_option maxHeartbeats 4000000 in
theorem empties_spec {w : World} {A : Around} {base g : Heap} {fr : List Env} {mean : ExcName → Option Value} {mg mb : Str → Option Value} {s : Shared} {R : Result → Shared → Prop}
    {f c ce d : Addr} {fo oc oe od : Obj} {B : List Bs} {x : Bs} {tx tn : Tok} {n : Nat}
    (C : Ctx w A base fr g mean mg mb) (O : Own g s.heap [(f, fo), (c, oc), (ce, oe), (d, od)]) (H : IsHash f c ce d fo oc oe) (hB : IsBook w od B)
    (hroom : A.depth + 10 < recursionLimit) (hh : A.handled = none) (hlen : B.length < 100000) (hn : n ≤ 256)
    (hQ : ∀ h' tk l vs es cnt od' B', Own g h' [(l, listOf vs.toArray cnt), (f, fo), (c, oc), (ce, oe), (d, od')] → IsBook w od' B' → Ext (n + 1) B B' → BsAre vs es → es.length = n + 1 →
      (∀ i e, es[i]? = some e → Em x B' i e) → @LT.lt Nat _ f l → @LT.lt Nat _ c l → @LT.lt Nat _ ce l → @LT.lt Nat _ d l → R (.ok (.ret (.ref l))) { s with heap := h', toks := tk }) :
    codeAny (model PR w) A (.call (.ref 267) ⟨[.bytes x.toArray tx, .int (n : Int) tn, .ref f], []⟩) R s := by
  obtain ⟨nH1, nH2, nH3⟩ := H.2
  obtain ⟨X', T', B'⟩ : (hd.heap_39 w.params).In g ∧ Top topProg LOOSE mean mg mb g ∧ Below A base fr g := ⟨C.X, C.T, C.B⟩
  w_on
  refine' enter (binds := [(Str.ofString "default", .bytes x.toArray tx), (Str.ofString "depth", .int (n : Int) tn), (Str.ofString "hash_of", .ref f)]) C O ?k6 ?k7 ?k8 ?k9 ?kB ?c5 ?c2 ?c3 ?c4 ?_
  (case k6 => k_is)
  (case k7 => k_is)
  (case k8 => k_room)
  (case k9 => exact BindsTo.of_eq rfl)
  (case kB => exact locs rfl)
  (case c5 => decide)
  (case c2 => exact rfl)
  (case c3 => exact rfl)
  (case c4 => exact rfl)
  intro L' h₁ F' N' lt'
  (try k_fold)
  k_steps
  rename Fr _ _ _ _ => F2
  rename News _ _ _ _ => N2
  rename IsRange _ _ _ _ _ _ _ _ => hr
  unfold Hold
  refine kst_range (σ := EmS) (fun c' => [(_, listOf c'.vs.toArray c'.cnt), (f, fo), (c, oc), (ce, oe), (d, c'.od)]) (fun _ => []) (fun c' => IsBook w c'.od c'.B ∧ BsAre c'.vs c'.es ∧ ∀ i e, c'.es[i]? = some e → Em x c'.B i e) []
    (fun pre c' => Ext (pre.length + 1) B c'.B ∧ c'.es.length = pre.length + 1) ⟨od', Bk', [.bytes y'.toArray tv'], [y'], 0⟩ hh hr (rsmall (by omega)) (rsize n) F2 N2 ?_ ?_ ?_ ?_ ?_
  · exact ⟨hB', .cons .nil, fun i e h => by
      cases i with
      | zero => simp at h; subst h; exact hH'
      | succ i => simp at h⟩
  · intro p hp; cases hp
  · exact ⟨hE', rfl⟩
  · intro c' pre k t u h tk own hk hlt hoff ⟨fB, fV, fE⟩ ⟨pE, pL⟩ F3 N3
    obtain ⟨od2, B2, vs2, es2, cnt2⟩ := c'
    dsimp only at fB fV fE pE pL
    replace F3 : Fr g L' h _ := F3
    replace N3 : News g L' h _ := N3
    simp only [List.cons_append, List.nil_append, List.map_cons, List.map_nil] at N3 hoff
    obtain ⟨e, he⟩ : ∃ e, es2[pre.length]? = some e := ⟨_, List.getElem?_eq_getElem (by omega)⟩
    obtain ⟨te, hx⟩ := fV.get he
    have hEm := fE _ _ he
    have hel := hEm.len
    have hkn : k.toNat = pre.length := by omega
    rw [← hkn] at hx
    have hvl := fV.length
    have hB2l := pE.2
    (try k_fold)
    k_steps
    rename Fr _ _ _ _ => F4
    rename News _ _ _ _ => N4
    simp only [List.push_toArray] at N4
    unfold Hold
    refine kst_end ⟨od', Bk', vs2 ++ [.bytes y'.toArray tv'], es2 ++ [y'], cnt2 + 1⟩ F4 N4 (by k_allIn) (fun p hp => by k_ownIn) rfl ⟨hB', fV.append (.cons .nil), fun i e' h => ?_⟩ (fun p hp => nomatch hp) (fun z h1 _ _ => by simp [h1, kstB]) ⟨(pE.trans hE').le (by simp), by simp; omega⟩
    rcases Nat.lt_or_ge i es2.length with h1 | h1
    · rw [List.getElem?_append_left h1] at h
      exact (fE i e' h).mono hE'.1
    · rw [List.getElem?_append_right h1] at h
      have hi : i = pre.length + 1 := by
        have := (List.getElem?_eq_some_iff.mp h).1
        simp at this
        omega
      subst hi
      rw [show pre.length + 1 - es2.length = 0 by omega] at h
      simp at h
      subst h
      exact ⟨e, hEm.mono hE'.1, hH'⟩
  · intro c' u h tk ⟨fB, fV, fE⟩ ⟨pE, pL⟩ F3 N3
    obtain ⟨od2, B2, vs2, es2, cnt2⟩ := c'
    dsimp only at fB fV fE pE pL
    rw [rangeKs_length] at pE pL
    replace F3 : Fr g L' h _ := F3
    replace N3 : News g L' h _ := N3
    dsimp only
    (try k_fold)
    k_steps
    rename (_ ∧ _ ∧ _ ∧ _) => l1
    show R (.ok (.ret (.ref _))) _
    exact hQ _ _ _ vs2 es2 cnt2 od2 B2 (own_of F3 N3) fB pE fV pL fE l1.1 l1.2.1 l1.2.2.1 l1.2.2.2
end
end
open PySem PySem.W PySem.Calls PyProof.Rows in
local macro_rules | `(tactic| walk_at "pyIter ref") => `(tactic| (k_here; (with_reducible show wpAny _ _ (pyIter (Value.ref _)) (fun it s₂ => LoopAtV _ _ _ _ _ _ _ _ _ it s₂) _ _); (with_reducible refine Hold.mk ?_)))
open PySem PySem.W PySem.Calls PyProof.Rows in
local macro_rules | `(tactic| walk_at "subscriptTail") => `(tactic| (k_here; (with_reducible show wpAny _ _ (subscriptTail _ _ (Value.ref _) (Value.int _ _)) _ _ _); k_dflt (refine' item_list ?N ?m ?h0 ?h1 ?hx ?_; (case N => k_asm); (case m => k_mem); (case hx => assumption); (case h0 => omega); (case h1 => omega))))
open PySem PySem.W PySem.Calls PyProof.Rows in
local macro_rules | `(tactic| walk_at "InvEndN") => `(tactic| (with_reducible refine Hold.mk ?_))
open PySem PySem.W PySem.Calls PyProof.Rows in
local macro_rules | `(tactic| walk_at "CompEnd") => `(tactic| (with_reducible refine Hold.mk ?_))

section
-- G4
local macro_rules | `(tactic| walk_at "no such key") => `(tactic| fail)
open PySem PySem.W PySem.Calls PyProof.Rows
set_option Elab.async false
set_option maxRecDepth 100000
set_option linter.unusedVariables false

theorem Em_text {x : Bs} {B : List Bs} : ∀ {i : Nat} {e : Bs}, Em x B i e ↔ ∃ t, (match i with | 0 => t = x | j + 1 => ∃ y, Em x B j y ∧ t = y ++ y) ∧ Hs B t e
  | 0, e => ⟨fun h => ⟨x, rfl, h⟩, fun ⟨t, h1, h2⟩ => by dsimp only at h1; subst h1; exact h2⟩
  | i + 1, e => ⟨fun ⟨y, a, b⟩ => ⟨_, ⟨y, a, rfl⟩, b⟩, fun ⟨t, ⟨y, a, e1⟩, b⟩ => ⟨y, a, by rw [← e1]; exact b⟩⟩
/-- the text whose number is the empty node at a height -/
def EmT (x : Bs) (B : List Bs) : Nat → Bs → Prop
  | 0, t => t = x
  | j + 1, t => ∃ y, Em x B j y ∧ t = y ++ y
theorem EmT.em {x : Bs} {B : List Bs} {i : Nat} {t e : Bs} (h : EmT x B i t) (hs : Hs B t e) : Em x B i e := by
  cases i with
  | zero => unfold EmT at h; subst h; exact hs
  | succ i => obtain ⟨y, a, rfl⟩ := h; exact ⟨y, a, hs⟩
theorem EmT.mono {x : Bs} {B B' : List Bs} (p : B <+: B') {i : Nat} {t : Bs} (h : EmT x B i t) : EmT x B' i t := by
  cases i with
  | zero => exact h
  | succ i => obtain ⟨y, a, rfl⟩ := h; exact ⟨y, a.mono p, rfl⟩

theorem dict_nil {prog : Program} {w : World} {K K' : Type} [DecidableEq K] [DecidableEq K'] {knd : KeyKind prog w K} (knd' : KeyKind prog w K') {o : Obj} (h : o.IsDictOf knd []) : o.IsDictOf knd' [] := by
  obtain ⟨es, ep, h1, h2, h3, h4, h5⟩ := h
  have : es.toList = [] := by
    have := h4.length
    simpa using this
  have e : es = #[] := by simpa using this
  subst e
  exact ⟨#[], ep, h1, h2, fun _ he => by simp at he, .nil, .nil⟩

/-- the values of a store of nodes: each key is its text's number -/
def DbV (B : List Bs) (kvs : List (Bs × Value)) : Prop := ∀ p ∈ kvs, ∃ t tk, p.2 = .bytes t.toArray tk ∧ Hs B t p.1
theorem DbV.mono {B B' : List Bs} {kvs : List (Bs × Value)} (h : DbV B kvs) (p : B <+: B') : DbV B' kvs := fun q hq => let ⟨t, tk, a, b⟩ := h q hq; ⟨t, tk, a, b.mono p⟩
theorem mem_stored {K : Type} [DecidableEq K] {kvs : List (K × Value)} {k : K} {v : Value} {p : K × Value} (h : p ∈ stored kvs k v) : p ∈ kvs ∨ p = (k, v) := by
  unfold stored at h
  split at h
  · obtain ⟨q, hq, e⟩ := List.mem_map.mp h
    split at e
    · right; rename_i hk; rw [← e, hk]
    · left; rw [← e]; exact hq
  · rcases List.mem_append.mp h with h | h
    · exact .inl h
    · right; simpa using h
theorem DbV.put {B : List Bs} {kvs : List (Bs × Value)} {k t : Bs} {tk : Tok} (h : DbV B kvs) (hs : Hs B t k) : DbV B (stored kvs k (.bytes t.toArray tk)) := fun p hp => by
  rcases mem_stored hp with h1 | h1
  · exact h p h1
  · subst h1; exact ⟨t, tk, rfl, hs⟩
theorem keys_stored {K : Type} [DecidableEq K] {kvs : List (K × Value)} {k : K} {v : Value} : k ∈ (stored kvs k v).map (·.1) ∧ ∀ j ∈ kvs.map (·.1), j ∈ (stored kvs k v).map (·.1) := by
  unfold stored
  split
  · rename_i h
    obtain ⟨q, hq, e⟩ := List.any_eq_true.mp h
    have e' : q.1 = k := by simpa using e
    have hm : ∀ q ∈ kvs, q.1 ∈ (kvs.map fun kv => if kv.1 = k then (kv.1, v) else kv).map (·.1) := fun q hq => by
      refine List.mem_map.mpr ⟨_, List.mem_map.mpr ⟨q, hq, rfl⟩, ?_⟩
      split <;> rfl
    refine ⟨e' ▸ hm q hq, fun j hj => ?_⟩
    obtain ⟨q', hq', e2⟩ := List.mem_map.mp hj
    rw [← e2]
    exact hm q' hq'
  · refine ⟨by simp, fun j hj => by rw [List.map_append]; exact List.mem_append_left _ hj⟩
theorem DbV.get {B : List Bs} {kvs : List (Bs × Value)} {k : Bs} (h : DbV B kvs) (hk : k ∈ kvs.map (·.1)) : ∃ t tk, valueAt kvs k = some (.bytes t.toArray tk) ∧ Hs B t k := by
  obtain ⟨q, hq, e⟩ := List.mem_map.mp hk
  cases hv : valueAt kvs k with
  | none =>
    unfold valueAt at hv
    rw [Option.map_eq_none_iff, List.find?_eq_none] at hv
    exact absurd e (by simpa using hv q hq)
  | some v =>
    obtain ⟨i, hi⟩ := idx_valueAt hv
    obtain ⟨t, tk, e1, e2⟩ := h _ (List.mem_of_getElem? hi)
    exact ⟨t, tk, by dsimp only at e1; rw [e1], e2⟩

/-- an entry of an object's dict -/
abbrev kE (w : World) (x : String) (t : Tok) (v : Value) : DictEntry := ⟨PyData.keyHash w.params (Str.ofString x), .str (Str.ofString x) t, v⟩
/-- a tree's attributes -/
abbrev treeD (w : World) (t1 t2 t3 t4 t5 t6 tn td tx tr : Tok) (n : Nat) (x : Bs) (f db : Addr) (root : Bs) : Obj :=
  dictOf [kE w "_key_size" t1 (.int (n : Int) tn), kE w "depth" t2 (.int ((n : Int) * 8) td), kE w "_default" t3 (.bytes x.toArray tx), kE w "hash_of" t4 (.ref f), kE w "db" t5 (.ref db), kE w "root_hash" t6 (.bytes root.toArray tr)] 6


structure InS where
  od : Obj
  odb : Obj
  B : List Bs
  kvs : List (Bs × Value)
  nt : Bs
  ntt : Tok
section
set_option maxHeartbeats 4000000 in
theorem init_spec {w : World} {A : Around} {base g : Heap} {fr : List Env} {mean : ExcName → Option Value} {mg mb : Str → Option Value} {s : Shared} {R : Result → Shared → Prop}
    {f c ce d tr dd : Addr} {fo oc oe od : Obj} {B : List Bs} {x : Bs} {tx tn : Tok} {n : Nat} {args : Args}
    (C : Ctx w A base fr g mean mg mb) (O : Own g s.heap [(tr, instObj 235 dd), (dd, dictOf [] 0), (f, fo), (c, oc), (ce, oe), (d, od)]) (H : IsHash f c ce d fo oc oe) (hB : IsBook w od B)
    (hroom : A.depth + 10 < recursionLimit) (hh : A.handled = none) (hlen : B.length < 100000) (hn : n ≤ 32) (hn1 : 1 ≤ n)
    (na : @LT.lt Nat _ f tr ∧ @LT.lt Nat _ c tr ∧ @LT.lt Nat _ ce tr ∧ @LT.lt Nat _ d tr) (nb : @LT.lt Nat _ f dd ∧ @LT.lt Nat _ c dd ∧ @LT.lt Nat _ ce dd ∧ @LT.lt Nat _ d dd) (nc : @LT.lt Nat _ dd tr)
    (hbind : ∀ oc od fd osl, (hd.heap_39 w.params).lookup 151 = some ⟨oc, od, .func fd, osl⟩ → BindsTo s fd args [(Str.ofString "self", .ref tr), (Str.ofString "hash_of", .ref f), (Str.ofString "key_size", .int (n : Int) tn), (Str.ofString "default", .bytes x.toArray tx)])
    (hQ : ∀ h' tk t1 t2 t3 t4 t5 t6 td trt db odb od' B' kvs root, Own g h' [(db, odb), (tr, instObj 235 dd), (dd, treeD w t1 t2 t3 t4 t5 t6 tn td tx trt n x f db root), (f, fo), (c, oc), (ce, oe), (d, od')] →
      IsBook w od' B' → Ext (8 * n + 1) B B' → odb.IsDictOf (bytesKind PR w) kvs → DbV B' kvs → kvs.length ≤ 8 * n + 1 → Em x B' (8 * n) root → (∀ i, i ≤ 8 * n → ∃ e, Em x B' i e ∧ e ∈ kvs.map (·.1)) → (db == sysModules) = false →
      (@LT.lt Nat _ tr db ∧ @LT.lt Nat _ dd db ∧ @LT.lt Nat _ f db ∧ @LT.lt Nat _ c db ∧ @LT.lt Nat _ ce db ∧ @LT.lt Nat _ d db) → R (.ok (.ret .none)) { s with heap := h', toks := tk }) :
    codeAny (model PR w) A (.call (.ref 151) args) R s := by
  obtain ⟨nH1, nH2, nH3⟩ := H.2
  obtain ⟨X', T', B'⟩ : (hd.heap_39 w.params).In g ∧ Top topProg LOOSE mean mg mb g ∧ Below A base fr g := ⟨C.X, C.T, C.B⟩
  w_on
  refine' enter (binds := [(Str.ofString "self", .ref tr), (Str.ofString "hash_of", .ref f), (Str.ofString "key_size", .int (n : Int) tn), (Str.ofString "default", .bytes x.toArray tx)]) C O ?k6 ?k7 ?k8 ?k9 ?kB ?c5 ?c2 ?c3 ?c4 ?_
  (case k6 => k_is)
  (case k7 => k_is)
  (case k8 => k_room)
  (case k9 => exact hbind _ _ _ _ (by k_is))
  (case kB => exact locs rfl)
  (case c5 => decide)
  (case c2 => exact rfl)
  (case c3 => exact rfl)
  (case c4 => exact rfl)
  intro L' h₁ F' N' lt'
  (try k_fold)
  k_steps
  rename Fr _ _ _ _ => F2
  rename News _ _ _ _ => N2
  rename IsRange _ _ _ _ _ _ _ _ => hr
  dsimp only at F2 N2 hr
  have hnn : ((n : Int) * 8) = ((8 * n : Nat) : Int) := by omega
  rw [hnn] at hr
  generalize hoT : dictOf _ _ = oT at N2
  have hDb := dict_nil (bytesKind PR w) hsN
  unfold Hold
  refine kst_range (σ := InS) (fun c' => [(dN, c'.odb), (tr, instObj 235 dd), (dd, oT), (f, fo), (c, oc), (ce, oe), (d, c'.od)]) (fun c' => [(Str.ofString "node", .bytes c'.nt.toArray c'.ntt)])
    (fun c' => IsBook w c'.od c'.B ∧ c'.odb.IsDictOf (bytesKind PR w) c'.kvs ∧ DbV c'.B c'.kvs) [Str.ofString "node_hash"]
    (fun pre c' => Ext pre.length B c'.B ∧ c'.kvs.length ≤ pre.length ∧ EmT x c'.B pre.length c'.nt ∧ ∀ j, j < pre.length → ∃ e, Em x c'.B j e ∧ e ∈ c'.kvs.map (·.1))
    ⟨od, oN, B, [], x, tx⟩ hh hr (rsmall (by omega)) (rsize _) F2 N2 ?_ ?_ ?_ ?_ ?_
  · exact ⟨hB, hDb, fun p hp => nomatch hp⟩
  · intro p hp
    simp only [List.mem_cons, List.not_mem_nil, or_false] at hp
    subst hp
    rfl
  · exact ⟨Ext.refl _ _, Nat.le_refl _, rfl, fun j hj => nomatch hj⟩
  · intro c' pre k t u h tk own hk hlt hoff ⟨fB, fD, fV⟩ ⟨pE, pL, pT, pA⟩ F3 N3
    obtain ⟨od2, odb2, B2, kvs2, nt2, ntt2⟩ := c'
    dsimp only at fB fD fV pE pL pT pA
    replace F3 : Fr g L' h _ := F3
    replace N3 : News g L' h _ := N3
    simp only [List.cons_append, List.nil_append, List.map_cons, List.map_nil] at N3 hoff
    subst hoT
    have hB2l := pE.2
    (try k_fold)
    k_steps
    rename Fr _ _ _ _ => F4
    rename News _ _ _ _ => N4
    unfold Hold
    refine kst_end ⟨od', oS, Bk', stored kvs2 y' (.bytes nt2.toArray ntt2), y' ++ y', tA⟩ F4 N4 (by k_allIn) (fun p hp => by k_ownIn) rfl ⟨hB', hdS, (fV.mono hE'.1).put hH'⟩ ?_ (fun z h1 h2 h3 => ?_) ⟨(pE.trans hE').le (by simp), ?_, ?_, ?_⟩
    · intro p hp
      simp only [List.mem_cons, List.not_mem_nil, or_false] at hp
      subst hp
      rfl
    · have h2' : z ≠ Str.ofString "node" := h2 _ (List.mem_cons_self ..)
      have h3' : z ≠ Str.ofString "node_hash" := fun e => by rw [e] at h3; exact absurd h3 (by decide)
      simp [h1, h2', h3', kstB]
    · have := stored_length_le kvs2 y' (.bytes nt2.toArray ntt2)
      simp only [List.length_append, List.length_cons, List.length_nil]
      omega
    · simp only [List.length_append, List.length_cons, List.length_nil]
      exact ⟨y', (pT.mono hE'.1).em hH', rfl⟩
    · intro j hj
      simp only [List.length_append, List.length_cons, List.length_nil] at hj
      by_cases hj' : j < pre.length
      · obtain ⟨e, e1, e2⟩ := pA j hj'
        exact ⟨e, e1.mono hE'.1, keys_stored.2 e e2⟩
      · have : j = pre.length := by omega
        subst this
        exact ⟨y', (pT.mono hE'.1).em hH', keys_stored.1⟩
  · intro c' u h tk ⟨fB, fD, fV⟩ ⟨pE, pL, pT, pA⟩ F3 N3
    obtain ⟨od2, odb2, B2, kvs2, nt2, ntt2⟩ := c'
    dsimp only at fB fD fV pE pL pT pA
    rw [rangeKs_length] at pE pL pT pA
    replace F3 : Fr g L' h _ := F3
    replace N3 : News g L' h _ := N3
    subst hoT
    have hB2l := pE.2
    dsimp only
    (try k_fold)
    k_steps
    unfold Back
    refine hQ _ _ _ _ _ _ _ _ _ _ dN oS od' Bk' _ y' (own_of FS NS) hB' ((pE.trans hE').le (by omega)) hdS ((fV.mono hE'.1).put hH') ?_ ((pT.mono hE'.1).em hH') ?_ loN lN
    · have := stored_length_le kvs2 y' (.bytes nt2.toArray ntt2)
      omega
    · intro j hj
      by_cases hj' : j < 8 * n
      · obtain ⟨e, e1, e2⟩ := pA j hj'
        exact ⟨e, e1.mono hE'.1, keys_stored.2 e e2⟩
      · have : j = 8 * n := by omega
        subst this
        exact ⟨y', (pT.mono hE'.1).em hH', keys_stored.1⟩
end
end

section
-- G5
local macro_rules | `(tactic| walk_at "no such key") => `(tactic| fail)
local macro_rules | `(tactic| walk_at "no such key") => `(tactic| fail)
open PySem PySem.W PySem.Calls PyProof.Rows
set_option Elab.async false
set_option maxRecDepth 100000
set_option linter.unusedVariables false
section
variable {prog : Program} {w : World} {A : Around} {E : Value → Shared → Prop} {s : Shared} {value slice : PySem.Expr} {x dx : List UInt8} {t : Tok} {h₀ : Heap} {L : Addr} {m : PySem.Str → Option Value} {news : List (Addr × Obj)} {l u : Value} {lo hi : Option Int} {Q : Value → Shared → Prop}
theorem slice_B (hF : Fr h₀ L s.heap m) (hN : News h₀ L s.heap news) (hl : IsPart l lo) (hu : IsPart u hi) (hz : x.length ≤ 16777216)
    (hd : (x.drop (lo.elim 0 (clipAt x.length))).take (hi.elim x.length (clipAt x.length) - lo.elim 0 (clipAt x.length)) = dx)
    (h : ∀ h' t' k, Fr h₀ L h' m → News h₀ L h' news → Q (.bytes dx.toArray t') { s with heap := h', toks := k })
    (hs : subscripted slice false (.bytes x.toArray t) (.ref s.heap.objs.size) = operate [.ref s.heap.objs.size, .bytes x.toArray t] (getItem (.bytes x.toArray t) (.ref s.heap.objs.size)) := by with_unfolding_all rfl)
    (ht : ∀ r, letTemporaryGo value (.bytes x.toArray t) r = pure () := by intro _; with_unfolding_all rfl) :
    wpAny (model prog w) A (subscriptTail value slice (.bytes x.toArray t) (.ref s.heap.objs.size)) Q E { s with heap := s.heap.push { cls := .type "slice", data := .fields #[l, u, .none] } } :=
  KBc.slice_K hF hN rfl hl hu (by rw [KBw.ints_length, List.size_toArray]; exact hz) (fun h' t' k F N _ => by
    have e := KBc.picked_eq x.toArray lo hi
    rw [List.size_toArray] at e
    rw [e, show ((x.toArray).toList) = x from rfl, hd]
    exact h h' t' k F N) hs ht
theorem cutL {l r : List UInt8} (h : l.length = 32) : ((l ++ r).drop 0).take (clipAt (l ++ r).length 32 - 0) = l := by
  have e : clipAt (l ++ r).length 32 = 32 := by rw [show (32 : Int) = ((32 : Nat) : Int) from rfl, clipAt_nat]; simp; omega
  rw [e, List.drop_zero, Nat.sub_zero, List.take_append_of_le_length (by omega), List.take_of_length_le (by omega)]
theorem cutR {l r : List UInt8} (h : l.length = 32) : ((l ++ r).drop (clipAt (l ++ r).length 32)).take ((l ++ r).length - clipAt (l ++ r).length 32) = r := by
  have e : clipAt (l ++ r).length 32 = 32 := by rw [show (32 : Int) = ((32 : Nat) : Int) from rfl, clipAt_nat]; simp; omega
  rw [e, List.drop_append_of_le_length (by omega), List.drop_of_length_le (by omega), List.nil_append, List.take_of_length_le (by simp; omega)]
end
/-- the other child's place -/
def sib (p h : Nat) : Nat := if p / 2 ^ h % 2 = 0 then p / 2 ^ h + 1 else p / 2 ^ h - 1
/-- every node of the tree stands in the store -/
def Full (B : List Bs) (v : Nat → Bs) (D : Nat) (kvs : List (Bs × Value)) : Prop := ∀ h n, h ≤ D → n < 2 ^ (D - h) → ∃ e, Nd B v h n e ∧ e ∈ kvs.map (·.1)

abbrev tupOf (vs : List Value) : Obj := { cls := .type "tuple", data := .seq vs.toArray }

theorem dec_lt (b : Bs) : dec b < 2 ^ (8 * b.length) := by
  have h1 := KFB.fold_lt b 0
  rw [Nat.zero_add, Nat.one_mul] at h1
  have : (256 : Nat) ^ b.length = 2 ^ (8 * b.length) := by rw [Nat.pow_mul]
  rw [← this]
  exact h1

theorem bit_one (p h : Nat) (e : p / 2 ^ h % 2 = 1) : Builtin.bitAnd (p : Int) (2 ^ h) ≠ 0 := by
  rw [kbt_bit, show ((p : Int) / 2 ^ h % 2) = ((p / 2 ^ h % 2 : Nat) : Int) by push_cast; rfl, e]
  have := kbt_pos h
  omega
theorem bit_zero (p h : Nat) (e : p / 2 ^ h % 2 = 0) : Builtin.bitAnd (p : Int) (2 ^ h) = 0 := by
  rw [kbt_bit, show ((p : Int) / 2 ^ h % 2) = ((p / 2 ^ h % 2 : Nat) : Int) by push_cast; rfl, e]
  simp
theorem step_down (p h : Nat) : p / 2 ^ h = 2 * (p / 2 ^ (h + 1)) + p / 2 ^ h % 2 := by
  rw [Nat.pow_succ, ← Nat.div_div_eq_div_mul]
  omega

theorem off_stored {stored : List Str} {z : Str} (h : stored.contains z = false) : ∀ y ∈ stored, z ≠ y := fun y hy e => by
  rw [e, List.contains_iff_mem.mpr hy] at h
  cases h
theorem es_snoc {P : Nat → Bs → Prop} {es : List Bs} {e : Bs} {i : Nat} (hl : es.length = i) (h : ∀ j x, es[j]? = some x → P j x) (he : P i e) : ∀ j x, (es ++ [e])[j]? = some x → P j x := fun j x hj => by
  rcases Nat.lt_or_ge j es.length with h1 | h1
  · rw [List.getElem?_append_left h1] at hj
    exact h j x hj
  · rw [List.getElem?_append_right h1] at hj
    have hj1 := (List.getElem?_eq_some_iff.mp hj).1
    simp only [List.length_cons, List.length_nil] at hj1
    have e0 : j - es.length = 0 := by omega
    rw [e0] at hj
    simp only [List.getElem?_cons_zero, Option.some.injEq] at hj
    rw [← hj, show j = i by omega]
    exact he
theorem half_pow {h : Nat} (h0 : 0 < h) : Int.fdiv (2 ^ h) (2 ^ Int.toNat 1) = 2 ^ (h - 1) := by
  obtain ⟨k, rfl⟩ : ∃ k, h = k + 1 := ⟨h - 1, by omega⟩
  rw [show Int.toNat 1 = 1 from rfl, Int.pow_succ, Nat.add_sub_cancel, show ((2 : Int) ^ 1) = 2 from rfl, Int.fdiv_eq_ediv_of_nonneg _ (by decide), Int.mul_ediv_cancel _ (by decide)]


structure GeS where
  vs : List Value
  es : List Bs
  cnt : Nat
  nh : Bs
  nht : Tok
  tb : Int
  tbt : Tok
section
local macro_rules | `(tactic| walk_at "subscriptTail") => `(tactic| (k_here; (with_reducible show wpAny _ _ (subscriptTail _ (Expr.Slice _ _ none _) (Value.bytes (List.toArray _) _) (Value.ref _)) _ _ _); (with_reducible rename Fr _ _ _ _ => F'); (with_reducible rename News _ _ _ _ => N'); k_dflt (refine slice_B (s := ⟨_, _, _, _, _⟩) F' N' (by constructor) (by constructor) (by (try simp only [List.length_append]); omega) (by first | exact cutL (by assumption) | exact cutR (by assumption)) ?_); intro h' t' k' F' N'; (try k_sweep)))
set_option maxHeartbeats 4000000 in
theorem get_spec {w : World} {A : Around} {base g : Heap} {fr : List Env} {mean : ExcName → Option Value} {mg mb : Str → Option Value} {s : Shared} {R : Result → Shared → Prop}
    {f tr dd db : Addr} {odb : Obj} {B : List Bs} {x root key : Bs} {kvs : List (Bs × Value)} {v : Nat → Bs} {t1 t2 t3 t4 t5 t6 tn td tx trt tkey : Tok} {n : Nat}
    (C : Ctx w A base fr g mean mg mb) (O : Own g s.heap [(tr, instObj 235 dd), (dd, treeD w t1 t2 t3 t4 t5 t6 tn td tx trt n x f db root), (db, odb)])
    (hroom : A.depth + 10 < recursionLimit) (hh : A.handled = none) (hlen : B.length < 1000000) (hBn : B.Nodup) (hn : n ≤ 32) (hn1 : 1 ≤ n)
    (hD : odb.IsDictOf (bytesKind PR w) kvs) (hV : DbV B kvs) (hF : Full B v (8 * n) kvs) (hR : Nd B v (8 * n) 0 root) (hk : key.length = n)
    (hQ : ∀ h' tk br rt vs es tv, Own g h' [(rt, tupOf [.bytes (v (dec key)).toArray tv, .ref br]), (br, tupOf vs), (tr, instObj 235 dd), (dd, treeD w t1 t2 t3 t4 t5 t6 tn td tx trt n x f db root), (db, odb)] → BsAre vs es → es.length = 8 * n →
      (∀ j e, es[j]? = some e → Nd B v (8 * n - 1 - j) (sib (dec key) (8 * n - 1 - j)) e) → (@LT.lt Nat _ br rt ∧ @LT.lt Nat _ tr br ∧ @LT.lt Nat _ dd br ∧ @LT.lt Nat _ db br) → R (.ok (.ret (.ref rt))) { s with heap := h', toks := tk }) :
    codeAny (model PR w) A (.call (.ref 183) ⟨[.ref tr, .bytes key.toArray tkey], []⟩) R s := by
  obtain ⟨X', T', B'⟩ : (hd.heap_39 w.params).In g ∧ Top topProg LOOSE mean mg mb g ∧ Below A base fr g := ⟨C.X, C.T, C.B⟩
  w_on
  refine' enter (binds := [(Str.ofString "self", .ref tr), (Str.ofString "key", .bytes key.toArray tkey)]) C O ?k6 ?k7 ?k8 ?k9 ?kB ?c5 ?c2 ?c3 ?c4 ?_
  (case k6 => k_is)
  (case k7 => k_is)
  (case k8 => k_room)
  (case k9 => exact BindsTo.of_eq rfl)
  (case kB => exact locs rfl)
  (case c5 => decide)
  (case c2 => exact rfl)
  (case c3 => exact rfl)
  (case c4 => exact rfl)
  intro L' h₁ F' N' lt'
  (try k_fold)
  have hk' : key.toArray.size = n := by rw [List.size_toArray]; exact hk
  k_steps
  rename Fr _ _ _ _ => F2
  rename News _ _ _ _ => N2
  rename IsRange _ _ _ _ _ _ _ _ => hr
  dsimp only at F2 N2 hr
  have hnn : ((n : Int) * 8) = ((8 * n : Nat) : Int) := by omega
  rw [hnn] at hr
  replace N2 := kst_newsOf N2 (l' := [(lL, listOf #[] 0), (tr, instObj 235 dd), (dd, treeD w t1 t2 t3 t4 t5 t6 tn td tx trt n x f db root), (db, odb)]) (by k_allIn)
  have hp : dec key < 2 ^ (8 * n) := by rw [← hk]; exact dec_lt key
  unfold Hold
  refine' kst_range (σ := GeS) (fun c' => [(lL, listOf c'.vs.toArray c'.cnt), (tr, instObj 235 dd), (dd, treeD w t1 t2 t3 t4 t5 t6 tn td tx trt n x f db root), (db, odb)]) (fun c' => [(Str.ofString "node_hash", .bytes c'.nh.toArray c'.nht), (Str.ofString "target_bit", .int c'.tb c'.tbt)])
    (fun c' => BsAre c'.vs c'.es) [Str.ofString "node", Str.ofString "left", Str.ofString "right"]
    (fun pre c' => pre.length ≤ 8 * n ∧ Nd B v (8 * n - pre.length) (dec key / 2 ^ (8 * n - pre.length)) c'.nh ∧ c'.es.length = pre.length ∧ (∀ j e, c'.es[j]? = some e → Nd B v (8 * n - 1 - j) (sib (dec key) (8 * n - 1 - j)) e) ∧
      (pre.length < 8 * n → c'.tb = 2 ^ (8 * n - 1 - pre.length)))
    ⟨[], [], 0, root, trt, _, _⟩ hh hr (rsmall (by omega)) (rsize _) F2 N2 ?_ ?_ ?_ ?_ ?_
  rotate_left 2
  · exact .nil
  · intro p hp
    simp only [List.mem_cons, List.not_mem_nil, or_false] at hp
    rcases hp with rfl | rfl
    · rfl
    · rfl
  · refine ⟨Nat.zero_le _, ?_, rfl, fun j e h => by simp at h, fun _ => ?_⟩
    · simp only [List.length_nil, Nat.sub_zero]
      rw [Nat.div_eq_of_lt hp]; exact hR
    · dsimp only
      rw [Int.one_mul]
      congr 1
      simp only [List.length_nil]
      omega
  · intro c' pre k2 t u h tk own hk2 hlt hoff fV ⟨pL, pN, pS, pB, pT⟩ F3 N3
    obtain ⟨vs2, es2, cnt2, nh2, nht2, tb2, tbt2⟩ := c'
    dsimp only at fV pN pS pB pT
    replace F3 : Fr g L' h _ := F3
    replace N3 : News g L' h _ := N3
    simp only [List.cons_append, List.nil_append, List.map_cons, List.map_nil] at N3 hoff
    dsimp only at F3 N3
    obtain ⟨hi, hhe⟩ : ∃ hi, 8 * n - pre.length = hi + 1 := ⟨8 * n - pre.length - 1, by omega⟩
    have hhe2 : 8 * n - 1 - pre.length = hi := by omega
    rw [hhe] at pN
    rw [hhe2] at pT
    have pT' := pT hlt
    subst pT'
    have hq : dec key / 2 ^ (hi + 1) < 2 ^ (8 * n - (hi + 1)) := by
      rw [Nat.div_lt_iff_lt_mul (Nat.pow_pos (by decide)), ← Nat.pow_add, show 8 * n - (hi + 1) + (hi + 1) = 8 * n by omega]
      exact hp
    obtain ⟨e0, hN0, hk0⟩ := hF (hi + 1) _ (by omega) hq
    have e0e := Nd.fn hBn hN0 pN
    subst e0e
    obtain ⟨tx0, tk0, hx, hs0⟩ := hV.get hk0
    have hsd := step_down (dec key) hi
    obtain ⟨lc, rc, hl, hr', hs⟩ := pN
    have et := Hs.inj hlen hs0 hs
    subst et
    have hll := hl.len
    have hrl := hr'.len
    have hvl := fV.length
    rcases Nat.mod_two_eq_zero_or_one (dec key / 2 ^ hi) with hm | hm
    · have hbit := bit_zero _ _ hm
      (try k_fold)
      k_steps
      rename Fr _ _ _ _ => F4
      rename News _ _ _ _ => N4
      simp only [List.push_toArray] at N4
      unfold Hold
      refine' kst_end ⟨vs2 ++ [.bytes rc.toArray _], es2 ++ [rc], cnt2 + 1, lc, _, _, _⟩ F4 N4 ?hn ?ho ?ha ?hf ?hk ?hr ?hp
      case hn => k_allIn
      case hk => 
        refine List.forall_mem_cons.mpr ⟨?_, List.forall_mem_cons.mpr ⟨?_, fun _ h => nomatch h⟩⟩
        · dsimp only; simp only [if_true, reduceIte, kstB]; with_unfolding_all rfl
        · dsimp only; simp only [if_true, reduceIte, kstB]; with_unfolding_all rfl
      case ho => exact fun p hp => by k_ownIn
      case ha => rfl
      case hf => exact fV.append (.cons .nil)
      case hr =>
        intro z h1 h2 h3
        have b := off_stored h3
        simp only [List.forall_mem_cons] at b h2
        simp [h1, h2, b, kstB]
      case hp =>
        simp only [List.length_append, List.length_cons, List.length_nil]
        have e1 : 8 * n - (pre.length + 1) = hi := by omega
        refine ⟨by omega, ?_, by omega, es_snoc pS pB ?_, fun hlt2 => ?_⟩
        · rw [Nat.zero_add, e1, hsd, hm, Nat.add_zero]; exact hl
        · rw [hhe2]; unfold sib; rw [if_pos hm, hsd, hm, Nat.add_zero]; exact hr'
        · rw [half_pow (by omega), show hi - 1 = 8 * n - 1 - (pre.length + (0 + 1)) by omega]
    · have hbit := bit_one _ _ hm
      (try k_fold)
      k_steps
      rename Fr _ _ _ _ => F4
      rename News _ _ _ _ => N4
      simp only [List.push_toArray] at N4
      unfold Hold
      refine' kst_end ⟨vs2 ++ [.bytes lc.toArray _], es2 ++ [lc], cnt2 + 1, rc, _, _, _⟩ F4 N4 ?hn ?ho ?ha ?hf ?hk ?hr ?hp
      case hn => k_allIn
      case hk => 
        refine List.forall_mem_cons.mpr ⟨?_, List.forall_mem_cons.mpr ⟨?_, fun _ h => nomatch h⟩⟩
        · dsimp only; simp only [if_true, reduceIte, kstB]; with_unfolding_all rfl
        · dsimp only; simp only [if_true, reduceIte, kstB]; with_unfolding_all rfl
      case ho => exact fun p hp => by k_ownIn
      case ha => rfl
      case hf => exact fV.append (.cons .nil)
      case hr =>
        intro z h1 h2 h3
        have b := off_stored h3
        simp only [List.forall_mem_cons] at b h2
        simp [h1, h2, b, kstB]
      case hp =>
        simp only [List.length_append, List.length_cons, List.length_nil]
        have e1 : 8 * n - (pre.length + 1) = hi := by omega
        refine ⟨by omega, ?_, by omega, es_snoc pS pB ?_, fun hlt2 => ?_⟩
        · rw [Nat.zero_add, e1, hsd, hm]; exact hr'
        · rw [hhe2]; unfold sib; rw [if_neg (by omega), hsd, hm, Nat.add_sub_cancel]; exact hl
        · rw [half_pow (by omega), show hi - 1 = 8 * n - 1 - (pre.length + (0 + 1)) by omega]
  · intro c' u h tk fV ⟨pL, pN, pS, pB, pT⟩ F3 N3
    obtain ⟨vs2, es2, cnt2, nh2, nht2, tb2, tbt2⟩ := c'
    dsimp only at fV pN pS pB pT
    rw [rangeKs_length] at pN pS
    replace F3 : Fr g L' h _ := F3
    replace N3 : News g L' h _ := N3
    dsimp only at F3 N3 ⊢
    simp only [Nat.sub_self, Nat.pow_zero, Nat.div_one] at pN
    obtain ⟨e0, hN0, hk0⟩ := hF 0 (dec key) (by omega) (by rw [Nat.sub_zero]; exact hp)
    have e0e := Nd.fn hBn hN0 pN
    subst e0e
    obtain ⟨tx0, tk0, hx, hs0⟩ := hV.get hk0
    have et := Hs.inj hlen hs0 pN
    subst et
    have hvl := fV.length
    (try k_fold)
    k_steps
    rename Fr _ _ _ _ => F4
    rename News _ _ _ _ => N4
    rename (_ ∧ _ ∧ _ ∧ _ ∧ _) => l4
    show R (.ok (.ret (.ref _))) _
    exact hQ _ _ _ _ vs2 es2 _ (own_of F4 (kst_newsOf N4 (by k_allIn))) fV pS pB ⟨l4.1, ltT.2.1, ltT.2.2.1, ltT.2.2.2⟩
end
end

section
-- GR
open PySem PySem.W PySem.Calls PyProof.Rows
set_option Elab.async false
set_option maxRecDepth 100000
set_option linter.unusedVariables false
namespace RT
theorem slot_init : Slot "reversed" "__init__" "object.__init__" :=
  .of (owner := "object") (n := "__init__") (by rw [typeLookup_type, builtinLookup_eq_fast]; kernel_rfl) (by decide +kernel) (by decide +kernel) (by decide +kernel)
    (by first | exact .inl (by decide +kernel) | exact .inr (by decide +kernel)) (by rw [isSubtype_type]; kernel_rfl)
theorem called : TypeCalled "reversed" "reversed.__new__" "object.__init__" :=
  ⟨by decide +kernel, F.create_reversed, ⟨_, _, F.mro_reversed⟩, F.made_reversed, F.plain_reversed_new, F.sub_reversed_self, slot_init⟩
theorem tuple_norev : typeLookup (.type "tuple") "__reversed__" = pure none := by rw [typeLookup_type, builtinLookup_eq_fast]; kernel_rfl
theorem tuple_nodict : isSubtype (.type "tuple") (.type "dict") = pure false := by rw [isSubtype_type]; kernel_rfl
theorem slot_next : Slot "reversed" "__next__" "reversed.__next__" :=
  .of (owner := "reversed") (n := "__next__") (by rw [typeLookup_type, builtinLookup_eq_fast]; kernel_rfl) (by decide +kernel) (by decide +kernel) (by decide +kernel)
    (by first | exact .inl (by decide +kernel) | exact .inr (by decide +kernel)) (by rw [isSubtype_type]; kernel_rfl)
theorem slot_iter : Slot "reversed" "__iter__" "reversed.__iter__" :=
  .of (owner := "reversed") (n := "__iter__") (by rw [typeLookup_type, builtinLookup_eq_fast]; kernel_rfl) (by decide +kernel) (by decide +kernel) (by decide +kernel)
    (by first | exact .inl (by decide +kernel) | exact .inr (by decide +kernel)) (by rw [isSubtype_type]; kernel_rfl)
theorem entry_next : entryFor table "reversed.__next__" = some Builtin.«reversed.__next__» := entryFor_of_tree (by kernel_rfl)
theorem entry_iter : entryFor table "reversed.__iter__" = some Builtin.«dict_keyiterator.__iter__» :=
  entryFor_alias (id' := "dict_keyiterator.__iter__") (by kernel_rfl) (by first | rfl | decide +kernel | (unfold String.splitOn; simp +decide [String.splitOnAux])) (by decide +kernel) (by kernel_rfl)
theorem args_next (a : Value) : argsOk "reversed.__next__" ⟨[a], []⟩ := by unfold argsOk; kernel_rfl
theorem args_iter (a : Value) : argsOk "reversed.__iter__" ⟨[a], []⟩ := by unfold argsOk; kernel_rfl

def obj (t : Addr) (i : Int) : Obj := { cls := .type "reversed", data := .fields #[.ref t, rawInt i] }
def At (h : Heap) (a t : Addr) (i : Int) : Prop := ∃ o, h.get? a = some o ∧ o.cls = .type "reversed" ∧ o.data = .fields #[.ref t, rawInt i]
theorem At.typeIs {s : Shared} {a t : Addr} {i : Int} (x : At s.heap a t i) : s.TypeIs (.ref a) "reversed" := let ⟨o, ho, hc, _⟩ := x; ⟨o, ho, hc⟩
theorem At.at {h h' : Heap} {a t : Addr} {i : Int} (x : At h a t i) (e : ∀ o, h.get? a = some o → h'.get? a = some o) : At h' a t i := let ⟨o, ho, r⟩ := x; ⟨o, e _ ho, r⟩
section
variable {prog : Program} {w : World} {A : Around} {E : Value → Shared → Prop} {s : Shared}
theorem code_new {l : Addr} {items : Array Value} {Q₁ : Value → Shared → Prop} (hl : IsTup s.heap l items) (hfit : (items.size : Int) < 2 ^ 63)
    (h : ∀ tk, Q₁ (.ref s.heap.objs.size) { s with heap := s.heap.push (obj l ((items.size : Int) - 1)), toks := tk }) :
    codeAny (model prog w) A (.call (.builtin "reversed.__new__") ⟨[.type "reversed", .ref l], []⟩) (wants Q₁ E) s := by
  have hT : s.TypeIs (.ref l) "tuple" := let ⟨o, ho, hc, _⟩ := hl; ⟨o, ho, hc⟩
  refine codeAny_of_tree ?_
  show wpAny _ A.in1 (do checkBuiltinCall "reversed.__new__" ⟨[.type "reversed", .ref l], []⟩; again (.builtin "reversed.__new__" ⟨[.type "reversed", .ref l], []⟩)) _ _ s
  refine wpAny_bind (wpAny_of_eq (F.newCall_reversed_1 _) (wpAny_pure ⟨plainId_quiet F.plain_reversed_new _, codeAny_builtin F.entry_reversed_new ?_⟩))
  rw [Around.under_plainId F.plain_reversed_new _]
  unfold Builtin.«reversed.__new__»
  refine wpAny_bind (wpAny_of_eq (newClass_reversed _) ?_)
  try dsimp only
  refine wpAny_bind (wpAny_of_eq (a := ()) (by first | rfl | kernel_rfl) ?_)
  refine wpAny_bind (wpAny_of_eq (a := ()) (by first | rfl | kernel_rfl) ?_)
  try dsimp only
  refine wpAny_bind (wpAny_specialOf hT tuple_norev ?_)
  try dsimp only
  refine wpAny_bind (wpAny_bind (wpAny_isInstance hT tuple_nodict ?_))
  refine bm_if_false rfl ?_
  refine wpAny_bind (wpAny_specialOf hT slot_tuple_getitem.lookup ?_)
  dsimp only
  refine bm_if_true (by decide) ?_
  refine wpAny_pure ?_
  refine bm_if_false rfl ?_
  refine wpAny_bind (len_tuple hl hfit ?_)
  refine wpAny_bind (wpAny_of_eq (a := some (items.size : Int)) rfl ?_)
  dsimp only
  refine wpAny_bind ?_
  unfold Builtin.SmallTypes.newRecord
  refine wpAny_newObj_type ?_ (by size_fits)
  refine wpAny_pure ?_
  exact h _

theorem call_rev {l : Addr} {items : Array Value} {Q : Value → Shared → Prop} (hl : IsTup s.heap l items) (hfit : (items.size : Int) < 2 ^ 63)
    (h : ∀ tk, Q (.ref s.heap.objs.size) { s with heap := s.heap.push (obj l ((items.size : Int) - 1)), toks := tk }) : wpAny (model prog w) A (call (.type "reversed") [.ref l]) Q E s := by
  refine callType_codes (Q₁ := fun o s₁ => s₁.TypeIs o "reversed" ∧ Q o s₁) called (F.typeCall_reversed_1 _) F.entry_object_init
    (code_new hl hfit fun tk => ⟨⟨_, Heap.get?_push_size _ rfl, rfl⟩, h tk⟩) fun o s₁ h₁ => ?_
  exact ⟨h₁.1, F.args_object_init_2 o _, object_init_meets called.init.lookup called.made (by decide) prog w A.in1 _ s₁ ⟨h₁.1, rfl, h₁.2⟩⟩

theorem next_item {it l : Addr} {i : Nat} {items : Array Value} {x : Value} {Q : Option Value → Shared → Prop} (hit : At s.heap it l (i : Int)) (hl : IsTup s.heap l items) (hi : (i : Int) < 2 ^ 63) (hx : items[i]? = some x)
    (hQ : ∀ h' tk, At h' it l ((i : Int) - 1) → Heap.SameBut it s.heap h' → Q (some x) { s with heap := h', toks := tk }) : wpAny (model prog w) A (pyNext (.ref it)) Q E s := by
  have hT : s.TypeIs (.ref l) "tuple" := let ⟨o, ho, hc, _⟩ := hl; ⟨o, ho, hc⟩
  obtain ⟨o, ho, hc, hd⟩ := id hit
  unfold pyNext
  refine wpAny_bind (wpAny_attempt (wpAny_callSpecial?_slot (name := Str.ofString "__next__") hit.typeIs slot_next
    (wpAny_call_entry slot_next hit.typeIs entry_next ?_ (args_next _))))
  unfold Builtin.«reversed.__next__»
  refine wpAny_bind (wpAny_of_eq (a := (Value.ref it, [])) rfl ?_)
  try dsimp only
  refine wpAny_bind (wpAny_field ho hd (x := .ref l) rfl ?_)
  refine wpAny_bind (wpAny_field ho hd (x := rawInt (i : Int)) rfl ?_)
  show wpAny _ _ (if (i : Int) < 0 then _ else _) _ _ s
  rw [if_neg (by omega)]
  refine wpAny_bind (wpAny_specialOf hT slot_tuple_getitem.lookup ?_)
  refine bm_if_false rfl ?_
  refine wpAny_bind (wpAny_mkInt ?_)
  have hlt : i < items.size := by
    rcases Nat.lt_or_ge i items.size with h | h
    · exact h
    · rw [Array.getElem?_eq_none h] at hx; cases hx
  have hsi : seqIndex? (i : Int) items.size = some i := by simp [seqIndex?, hlt]; omega
  refine wpAny_bind (wpAny_attempt (PyProof.Rows.getItem_tuple (s := { s with toks := s.toks + 1 }) hl (by omega) hi hsi hx ?_))
  dsimp only
  refine wpAny_bind (wpAny_field (s := { s with toks := s.toks + 1 }) ho hd (x := rawInt (i : Int)) rfl ?_)
  refine wpAny_bind (wpAny_setField (s := { s with toks := s.toks + 1 }) ho hd (by simp) ?_)
  refine wpAny_pure ⟨x, rfl, wpAny_pure (hQ _ _ ?_ (Heap.SameBut.update ..))⟩
  exact ⟨_, Heap.get?_update_self _ ho (Obj.isFreed_of_fields (Obj.data_mapFields hd _)), (Obj.cls_mapFields ..).trans hc, by
    rw [Obj.data_mapFields hd]; simp⟩

theorem next_end {it l : Addr} {Q : Option Value → Shared → Prop} (hh : A.handled = none) (hit : At s.heap it l (-1))
    (hQ : ∀ h', Heap.ExtBut it s.heap h' → Q none { s with heap := h' }) : wpAny (model prog w) A (pyNext (.ref it)) Q E s := by
  obtain ⟨o, ho, hc, hd⟩ := id hit
  unfold pyNext
  refine wpAny_bind (wpAny_attempt (wpAny_callSpecial?_slot (name := Str.ofString "__next__") hit.typeIs slot_next
    (wpAny_call_entry slot_next hit.typeIs entry_next ?_ (args_next _))))
  unfold Builtin.«reversed.__next__»
  refine wpAny_bind (wpAny_of_eq (a := (Value.ref it, [])) rfl ?_)
  try dsimp only
  refine wpAny_bind (wpAny_field ho hd (x := .ref l) rfl ?_)
  refine wpAny_bind (wpAny_field ho hd (x := rawInt (-1)) rfl ?_)
  show wpAny _ _ (if (-1 : Int) < 0 then _ else _) _ _ s
  rw [if_pos (by decide)]
  refine wpAny_bind (wpAny_rule ?_)
  refine wpAny_bind (wpAny_bind (wpAny_setField ho hd (by simp) ?_))
  have hd1 := Obj.data_mapFields hd (fun x => x.setIfInBounds 1 (rawInt (-1)))
  have ho1 := Heap.get?_update_self (Obj.mapFields fun x => x.setIfInBounds 1 (rawInt (-1))) ho (Obj.isFreed_of_fields hd1)
  refine wpAny_setField (s := { s with heap := _ }) ho1 hd1 (by simp) ?_
  refine wpAny_bind ?_
  unfold Builtin.SmallTypes.stopIteration
  refine wpAny_bind ?_
  simp only [newExc, newTuple]
  refine wpAny_bind (wpAny_newObj_type ?_ (by size_fits))
  refine wpAny_bind (m := firstArgMember _ _) (wpAny_of_eq (a := Value.none) (by first | rfl | (simp only [firstArgMember]; rfl)) ?_)
  refine wpAny_newObj_type ?_ (by size_fits)
  simp only [raiseNew]
  refine wpAny_bind (wpAny_handled ?_)
  first | rw [show A.in1.handled = none from hh] | rw [hh]
  refine wpAny_bind (wpAny_pure (wpAny_throw ?_))
  refine wpAny_bind (wpAny_isInstance (T := "StopIteration") (b := true) ⟨_, Heap.get?_push_size _ rfl, rfl⟩ isSubtype_stop ?_)
  refine wpAny_pure (hQ _ ?_)
  refine Heap.ExtBut.push (Heap.ExtBut.push ?_ _) _
  exact (Heap.SameBut.extBut (Heap.SameBut.update ..)).trans (Heap.SameBut.extBut (Heap.SameBut.update ..))

theorem iter_self {it l : Addr} {i : Int} {Q : Value → Shared → Prop} (hit : At s.heap it l i) (h : Q (.ref it) s) : wpAny (model prog w) A (pyIter (.ref it)) Q E s := by
  refine wpAny_pyIter_slot hit.typeIs slot_iter (wpAny_call_entry slot_iter hit.typeIs entry_iter ?_ (args_iter _))
  show wpAny _ _ (ret (.ref it)) _ _ s
  exact wpAny_pure ⟨_, rfl, "reversed", _, hit.typeIs, slot_next.lookup, h⟩
end

theorem walks {prog : Program} {w : World} {A : Around} (hh : A.handled = none) (I l : Addr) (hne : l ≠ I) (items : Array Value) (hsz : items.size < 100000) :
    Walks prog w A I [I, l] [I] items.size (fun i v => items[items.size - 1 - i]? = some v) (fun i h => i ≤ items.size ∧ At h I l ((items.size : Int) - 1 - (i : Int)) ∧ IsTup h l items) where
  sub := fun b hb => by simp at hb; simp [hb]
  frame := fun _ _ _ x hk => ⟨x.1, x.2.1.at fun o e => hk I (by simp) o e, let ⟨o, ho, r⟩ := x.2.2; ⟨o, hk l (by simp) o ho, r⟩⟩
  item := fun i s Q E hi x hQ => by
    have e : (items.size : Int) - 1 - (i : Int) = ((items.size - 1 - i : Nat) : Int) := by omega
    have hit := x.2.1
    rw [e] at hit
    have hx : items[items.size - 1 - i]? = some (items[items.size - 1 - i]'(by omega)) := Array.getElem?_eq_getElem (by omega)
    refine next_item hit x.2.2 (by omega) hx fun h' tk hit' hs' => ?_
    have e2 : ((items.size - 1 - i : Nat) : Int) - 1 = (items.size : Int) - 1 - ((i + 1 : Nat) : Int) := by omega
    rw [e2] at hit'
    exact hQ _ h' tk hx ⟨hi, hit', let ⟨o, ho, r⟩ := x.2.2; ⟨o, (hs'.2 l hne).trans ho, r⟩⟩ fun b o hb eo => hs'.extBut b o (fun h => hb (by simp [h])) eo
  done := fun s Q E x hQ => by
    have e : (items.size : Int) - 1 - (items.size : Int) = -1 := by omega
    have hit := x.2.1
    rw [e] at hit
    exact next_end hh hit fun h' he' => hQ h' s.toks fun b o hb eo => he' b o (fun h => hb (by simp [h])) eo
  self := fun _ _ _ _ x hQ => iter_self x.2.1 hQ
end RT
section
variable {prog : Program} {w : World} {A : Around} {E : Value → Shared → Prop} {s : Shared} {env : Env} {h₀ : Heap} {x : Str} {body : List Stmt} {Q : Flow → Shared → Prop}
theorem ks_snoc (i : Nat) : rangeKs 0 (i + 1) = rangeKs 0 i ++ [(i : Int)] := by
  simp [rangeKs, List.range_succ]
/-- a loop over any iterator whose items are known: only the turns' number is kept -/
theorem kst_any {σ : Type} {I : Addr} {fp wr : List Addr} {n : Nat} {Pv : Nat → Value → Prop} {St : Nat → Heap → Prop} {m₀ : Str → Option Value} (Led : σ → List (Addr × Obj)) (ps : σ → List (Str × Value)) (Facts : σ → Prop) (stored : List Str) (P : List Int → σ → Prop) (c₀ : σ)
    (W : Walks prog w A I fp wr n Pv St) (hLf : env.locals ∉ fp) (hwr : ∀ b ∈ wr, h₀.get? b = none) (hnw : ∀ p ∈ Led c₀, p.1 ∉ wr) (hfp : ∀ q ∈ Led c₀, q.1 ∉ fp) (hst : St 0 s.heap)
    (F : Fr h₀ env.locals s.heap m₀) (N : News h₀ env.locals s.heap (Led c₀)) (hf : Facts c₀) (hk : ∀ p ∈ ps c₀, m₀ p.1 = some p.2) (hp : P [] c₀)
    (turn : ∀ (c : σ) (pre : List Int) (v : Value) (u : Str → Option Value) h tk own, pre.length < n → Pv pre.length v → OwnOff own ((Led c₀).map (·.1)) → Facts c → P pre c →
      Fr h₀ env.locals h (fun y => if y = x then some v else kstB (fun z => if stored.contains z then u z else m₀ z) (ps c) y) → News h₀ env.locals h (Led c ++ own) →
      wpAny (model prog w) A (execs body env) (InvPostN h₀ env.locals (KstS Led ps Facts x stored m₀ P (pre ++ [(pre.length : Int)])) own ((Led c₀).map (·.1)) { s with heap := h, toks := tk } Q) E { s with heap := h, toks := tk })
    (done : ∀ (c : σ) (u : Str → Option Value) h tk, Facts c → P (rangeKs 0 n) c → Fr h₀ env.locals h (fun y => if y = x then u y else kstB (fun z => if stored.contains z then u z else m₀ z) (ps c) y) → News h₀ env.locals h (Led c) → Q .next { s with heap := h, toks := tk }) :
    LoopAtV prog w A h₀ env x body Q E (.ref I) s := by
  refine loop_invN (fun i m nx => KstS Led ps Facts x stored m₀ P (rangeKs 0 i) m nx) W hLf hwr hnw hfp hst F N ⟨c₀, rfl, hf, hk, fun _ _ _ _ => rfl, by simpa [rangeKs] using hp⟩ ?_ ?_
  · rintro i v m₁ nx h tk own hi hv _ hoff ⟨c, rfl, hf', h1, h2, hp'⟩ F₁ N₁
    have hl : (rangeKs 0 i).length = i := rangeKs_length _ _
    have ht := turn c (rangeKs 0 i) v m₁ h tk own (by rw [hl]; exact hi) (by rw [hl]; exact hv) hoff hf' hp' (kst_fr h1 h2 F₁) N₁
    rw [hl, ← ks_snoc] at ht
    exact ht
  · rintro m₁ nx h tk ⟨c, rfl, hf', h1, h2, hp'⟩ F₁ N₁
    exact done c m₁ h tk hf' hp' (kst_frOut h1 h2 F₁) N₁

theorem kst_rev {σ : Type} {I l : Addr} {vs : List Value} {m₀ : Str → Option Value} (Led : σ → List (Addr × Obj)) (ps : σ → List (Str × Value)) (Facts : σ → Prop) (stored : List Str) (P : List Int → σ → Prop) (c₀ : σ)
    (hh : A.handled = none) (hI : s.heap.get? I = some (RT.obj l ((vs.length : Int) - 1))) (ht : IsTup s.heap l vs.toArray) (hsz : vs.length < 100000) (hne : @Ne Nat l I) (hLI : env.locals ≠ I) (hLl : env.locals ≠ l) (hI0 : h₀.get? I = none)
    (hnI : ∀ q ∈ Led c₀, @Ne Nat q.1 I ∧ @Ne Nat q.1 l) (F : Fr h₀ env.locals s.heap m₀) (N : News h₀ env.locals s.heap (Led c₀)) (hf : Facts c₀) (hk : ∀ p ∈ ps c₀, m₀ p.1 = some p.2) (hp : P [] c₀)
    (turn : ∀ (c : σ) (pre : List Int) (v : Value) (u : Str → Option Value) h tk own, pre.length < vs.length → vs[vs.length - 1 - pre.length]? = some v → OwnOff own ((Led c₀).map (·.1)) → Facts c → P pre c →
      Fr h₀ env.locals h (fun y => if y = x then some v else kstB (fun z => if stored.contains z then u z else m₀ z) (ps c) y) → News h₀ env.locals h (Led c ++ own) →
      wpAny (model prog w) A (execs body env) (InvPostN h₀ env.locals (KstS Led ps Facts x stored m₀ P (pre ++ [(pre.length : Int)])) own ((Led c₀).map (·.1)) { s with heap := h, toks := tk } Q) E { s with heap := h, toks := tk })
    (done : ∀ (c : σ) (u : Str → Option Value) h tk, Facts c → P (rangeKs 0 vs.length) c → Fr h₀ env.locals h (fun y => if y = x then u y else kstB (fun z => if stored.contains z then u z else m₀ z) (ps c) y) → News h₀ env.locals h (Led c) → Q .next { s with heap := h, toks := tk }) :
    wpAny (model prog w) A (pyIter (.ref I)) (fun it s₂ => LoopAtV prog w A h₀ env x body Q E it s₂) E s := by
  have hat : RT.At s.heap I l ((vs.length : Int) - 1) := ⟨_, hI, rfl, rfl⟩
  refine RT.iter_self hat ?_
  have W := RT.walks (prog := prog) (w := w) hh I l hne vs.toArray (by rw [List.size_toArray]; exact hsz)
  rw [List.size_toArray] at W
  refine kst_any Led ps Facts stored P c₀ W ?_ ?_ ?_ ?_ ⟨Nat.zero_le _, by simpa using hat, ht⟩ F N hf hk hp ?_ done
  · simp only [List.mem_cons, List.not_mem_nil, or_false, not_or]; exact ⟨hLI, hLl⟩
  · intro b hb
    rw [List.mem_singleton.mp hb]; exact hI0
  · intro p hp hm
    exact (hnI p hp).1 (List.mem_singleton.mp hm)
  · intro p hp hm
    simp only [List.mem_cons, List.not_mem_nil, or_false] at hm
    rcases hm with e | e
    · exact (hnI p hp).1 e
    · exact (hnI p hp).2 e
  · intro c pre v u h tk own h1 h2
    exact turn c pre v u h tk own h1 (by simpa using h2)

theorem rev_at {l : Addr} {vs : List Value} {L : Addr} {m : Str → Option Value} {news : List (Addr × Obj)} {Q : Value → Shared → Prop} (F : Fr h₀ L s.heap m) (N : News h₀ L s.heap news) (ht : IsTup s.heap l vs.toArray) (hsz : vs.length < 100000)
    (h : ∀ D h' tk, Fr h₀ L h' m → News h₀ L h' ((D, RT.obj l ((vs.length : Int) - 1)) :: news) → (∀ p ∈ news, p.1 < D) → l < D → Q (.ref D) { s with heap := h', toks := tk }) : wpAny (model prog w) A (call (.type "reversed") [.ref l]) Q E s := by
  refine RT.call_rev ht (by rw [List.size_toArray]; omega) fun tk => ?_
  rw [List.size_toArray]
  obtain ⟨o, ho, _⟩ := ht
  exact h _ _ _ (F.push _) (News.push F N _) (fun p hp => Heap.lt_size (N p hp).1) (Heap.lt_size ho)
end
end

section
-- GU
open PySem PySem.W PySem.Calls PyProof.Rows
set_option Elab.async false
set_option maxRecDepth 100000
set_option linter.unusedVariables false
namespace RL
theorem nolen : typeLookup (.type "list_reverseiterator") "__len__" = pure none := by rw [typeLookup_type, builtinLookup_eq_fast]; kernel_rfl
theorem hint : typeLookup (.type "list_reverseiterator") "__length_hint__" = pure (some (.builtin "list_reverseiterator.__length_hint__")) := by rw [typeLookup_type, builtinLookup_eq_fast]; kernel_rfl
section
variable {prog : Program} {w : World} {A : Around} {E : Value → Shared → Prop} {s : Shared} {I : Addr} {fp wr : List Addr} {G : Array GenState → Array GenState → Prop} {n : Nat} {P : Nat → Value → Prop} {St : Nat → Shared → Prop}
theorem collect_rl {Q : List Value → Shared → Prop}
    (W : WalksS prog w A.in1 I fp wr G n P St) (hT : ∀ i s, St i s → s.TypeIs (.ref I) "list_reverseiterator") (hst : St 0 s) (hfp : ∀ b ∈ fp, b < s.heap.objs.size) (hI : I ∈ fp)
    (hQ : ∀ s' acc, Moved wr G s s' → ItemsOf P acc n → Q acc.toList s') (hn : n ≤ sizeLine) : wpAny (model prog w) A (collect (.ref I)) Q E s := by
  have hSf : s.heap.objs.size ∉ fp := fun hm => Nat.lt_irrefl _ (hfp _ hm)
  have hSI : s.heap.objs.size ≠ I := fun e => hSf (e ▸ hI)
  unfold collect
  refine wpAny_bind (wpAny_runValue (codeAny_builtin F.entry_proto_collect ?_))
  rw [Around.under_plainId F.plain_proto_collect _]
  show wpAny _ A.in1 (newList [] >>= fun l => again (.builtin "list.__iadd__" ⟨[l, .ref I], []⟩)) _ _ s
  refine wpAny_bind (wpAny_newObj_type ?_)
  refine wpAny_pure ⟨plainId_quiet F.plain_list_iadd _, codeAny_builtin F.entry_list_iadd ?_⟩
  rw [Around.under_plainId F.plain_list_iadd _]
  have hst₁ := W.frame 0 s (s.heap.push { cls := .type "list", data := .seq ([] : List Value).toArray }) s.toks hst (Nat.le_refl _) fun b _ o e => Heap.get?_push_of_some _ e
  have hS₁ : (s.heap.push { cls := .type "list", data := .seq ([] : List Value).toArray }).get? s.heap.objs.size = some { cls := .type "list", data := .seq ([] : List Value).toArray } := Heap.get?_push_size _ rfl
  have h1 : Builtin.List.listSameRef (.ref s.heap.objs.size) (.ref I) = false := by simp [Builtin.List.listSameRef, hSI]
  show wpAny _ A.in1 (Builtin.List.listExtendWith (.ref s.heap.objs.size) (.ref I) (.ref s.heap.objs.size)) _ _ _
  unfold Builtin.List.listExtendWith
  refine wpAny_bind (wpAny_typeOf (hT 0 _ hst₁) ?_)
  rw [if_neg (by rw [h1]; decide)]
  refine wpAny_bind (W.self 0 _ _ _ hst₁ ?_)
  refine wpAny_bind (wpAny_holding ?_)
  unfold Builtin.List.listLengthHint
  refine wpAny_bind (wpAny_specialOf (hT 0 _ hst₁) nolen ?_)
  show wpAny _ A.in1 (specialOf (Value.ref I) (Str.ofString "__length_hint__") >>= _) _ _ _
  refine wpAny_bind (wpAny_specialOf (hT 0 _ hst₁) hint ?_)
  generalize hid : ("list_reverseiterator.__length_hint__" : String) = id0
  dsimp only
  rw [show splitId id0 = some ("list_reverseiterator", "__length_hint__") from by subst hid; decide +kernel]
  subst hid
  refine wpAny_bind (wpAny_isInstance (b := true) (hT 0 _ hst₁) (by rw [isSubtype_type]; kernel_rfl) ?_)
  refine wpAny_pure ?_
  rw [if_neg (by decide)]
  refine wpAny_pure ⟨plainId_quiet F.plain_extend_loop _, codeAny_extend_loopS W hn _ hSf _ n 0 _ _ _ rfl (Nat.zero_le _) hst₁ hS₁ (ItemsOf.nil P) fun s' acc' c' hm hS' hacc => ?_⟩
  show wpAny _ A (load s.heap.objs.size >>= _) _ _ s'
  refine wpAny_bind (wpAny_load hS' ?_)
  exact wpAny_pure (hQ s' acc' (Moved.drop_new (o := { cls := .type "list", data := .seq ([] : List Value).toArray }) (tk := s.toks) hm (Nat.le_refl _)) hacc)

theorem tuple_new {Q₁ : Value → Shared → Prop} (W : WalksS prog w A.in1.in1 I fp wr G n P St) (hT : ∀ i s, St i s → s.TypeIs (.ref I) "list_reverseiterator") (hst : St 0 s) (hfp : ∀ b ∈ fp, b < s.heap.objs.size) (hI : I ∈ fp)
    (h : ∀ s' acc, Moved wr G s s' → ItemsOf P acc n → Q₁ (.ref s'.heap.objs.size) { s' with heap := s'.heap.push { cls := .type "tuple", data := .seq acc } }) (hsz : n ≤ sizeLine) :
    codeAny (model prog w) A (.call (.builtin "tuple.__new__") ⟨[.type "tuple", .ref I], []⟩) (wants Q₁ E) s := by
  refine codeAny_of_tree ?_
  show wpAny _ A.in1 (do checkBuiltinCall "tuple.__new__" ⟨[.type "tuple", .ref I], []⟩; again (.builtin "tuple.__new__" ⟨[.type "tuple", .ref I], []⟩)) _ _ s
  refine wpAny_bind (wpAny_of_eq (F.newCall_tuple_1 _) (wpAny_pure ⟨plainId_quiet F.plain_tuple_new _, codeAny_builtin F.entry_tuple_new ?_⟩))
  rw [Around.under_plainId F.plain_tuple_new _]
  have hsub := sub_tuple_self
  have hinit := init_tuple_lookup
  have hmh := madeHere_tuple
  have hTI := hT 0 s hst
  wp_walk using wpAny_typeOf hTI, collect_rl (hn := hsz) W hT hst hfp hI
  intro s' acc hm hacc
  show wpAny _ _ (Builtin.Tuple.tupleExact acc.toList.toArray >>= fun v => ret v) _ _ _
  unfold Builtin.Tuple.tupleExact
  refine wpAny_bind (wpAny_newObj_type ?_ (by show acc.toList.toArray.size ≤ sizeLine; simp only [Array.toArray_toList]; rw [hacc.1]; exact hsz))
  refine wpAny_pure ?_
  have e : acc.toList.toArray = acc := by simp
  rw [e]
  exact h s' acc hm hacc

theorem call_tuple {Q : Value → Shared → Prop} (W : WalksS prog w A.in1.in1.in1 I fp wr G n P St) (hT : ∀ i s, St i s → s.TypeIs (.ref I) "list_reverseiterator") (hst : St 0 s) (hfp : ∀ b ∈ fp, b < s.heap.objs.size) (hI : I ∈ fp)
    (hQ : ∀ s' acc, Moved wr G s s' → ItemsOf P acc n → Q (.ref s'.heap.objs.size) { s' with heap := s'.heap.push { cls := .type "tuple", data := .seq acc } }) (hsz : n ≤ sizeLine) :
    wpAny (model prog w) A (call (.type "tuple") [.ref I]) Q E s := by
  refine callType_codes (Q₁ := fun obj s₁ => s₁.TypeIs obj "tuple" ∧ Q obj s₁) F.called_tuple (F.typeCall_tuple_1 _) F.entry_object_init
    (tuple_new (hsz := hsz) W hT hst hfp hI fun s' acc hm hacc => ⟨⟨_, Heap.get?_push_size _ rfl, rfl⟩, hQ s' acc hm hacc⟩) fun obj s₁ h₁ => ?_
  exact ⟨h₁.1, F.args_object_init_2 obj _, object_init_meets F.called_tuple.init.lookup F.called_tuple.made (by decide) prog w A.in1 _ s₁ ⟨h₁.1, rfl, h₁.2⟩⟩
end
end RL
section
variable {prog : Program} {w : World} {A : Around} {E : Value → Shared → Prop} {s : Shared} {h₀ : Heap} {L : Addr} {m : Str → Option Value}
theorem tuple_rl {I l : Addr} {vs : List Value} {cnt : Nat} {rest : List (Addr × Obj)} {Q : Value → Shared → Prop} (hh : A.handled = none) (F : Fr h₀ L s.heap m) (N : News h₀ L s.heap ((I, revObj l ((vs.length : Int) - 1)) :: rest))
    (hm : (l, listOf vs.toArray cnt) ∈ rest) (hlt : ∀ p ∈ rest, p.1 ≠ I) (hsz : vs.length < 100000)
    (h : ∀ D h' tk, Fr h₀ L h' m → News h₀ L h' ((D, ({ cls := .type "tuple", data := .seq vs.reverse.toArray } : Obj)) :: rest) → (∀ p ∈ rest, p.1 < D) → Q (.ref D) { s with heap := h', toks := tk }) :
    wpAny (model prog w) A (call (.type "tuple") [.ref I]) Q E s := by
  have hIx := N _ (List.mem_cons_self ..)
  have hl := N _ (List.mem_cons_of_mem _ hm)
  have hli : s.heap.IsList l vs.toArray := ⟨_, hl.1, rfl, cnt, rfl⟩
  have hne : l ≠ I := hlt _ hm
  have W := (Walks.listRev (prog := prog) (w := w) (A := A.in1.in1.in1) hh I l hne vs.toArray).toS
  rw [List.size_toArray] at W
  refine RL.call_tuple W (fun i s st => st.2.1.typeIs) ⟨Nat.zero_le _, ⟨_, hIx.1, rfl, by simp [revObj]⟩, hli⟩ ?_ (by simp) (fun s' acc hmv hacc => ?_) (by rw [sizeLine_eq]; omega)
  · intro b hb
    simp only [List.mem_cons, List.not_mem_nil, or_false] at hb
    rcases hb with rfl | rfl
    · exact Heap.lt_size hIx.1
    · exact Heap.lt_size hl.1
  · obtain ⟨h1, g1, d1, tk1, os1⟩ := s'
    have e1 : g1 = s.gens := hmv.gens
    have e2 : d1 = s.drawn := hmv.drawn
    have e3 : os1 = s.os := hmv.os
    subst e1 e2 e3
    have hk : ∀ b o, b ≠ I → s.heap.get? b = some o → h1.get? b = some o := fun b o hb e => hmv.heap b o (by simpa using hb) e
    have ea : acc = vs.reverse.toArray := by
      obtain ⟨a1, a2⟩ := hacc
      refine Array.ext (by simp [a1]) fun i hi1 hi2 => ?_
      have h3 := a2 i acc[i] (Array.getElem?_eq_getElem hi1)
      simp only [List.size_toArray, List.length_reverse] at hi2
      simp only [List.getElem?_toArray] at h3
      simp only [List.getElem_toArray, List.getElem_reverse]
      exact ((List.getElem?_eq_some_iff.mp h3).2).symm
    subst ea
    have F1 : Fr h₀ L h1 m := by
      obtain ⟨oL, es, ep, hL, r⟩ := F.ns
      exact ⟨⟨oL, es, ep, hk L oL (fun e => hIx.2.1 e.symm) hL, r⟩, fun b o e => hk b o (fun q => by rw [q, hIx.2.2] at e; cases e) (F.keep b o e), F.above⟩
    have N1 : News h₀ L h1 rest := fun p hp => ⟨hk _ _ (hlt p hp) (N p (List.mem_cons_of_mem _ hp)).1, (N p (List.mem_cons_of_mem _ hp)).2⟩
    exact h _ _ tk1 (F1.push _) (News.push F1 N1 _) fun p hp => Heap.lt_size (N1 p hp).1
end
end
open PySem PySem.W PySem.Calls PyProof.Rows in
local macro_rules | `(tactic| walk_at "subscriptTail") => `(tactic| (k_here; (with_reducible show wpAny _ _ (subscriptTail _ (Expr.Slice _ _ none _) (Value.bytes (List.toArray _) _) (Value.ref _)) _ _ _); (with_reducible rename Fr _ _ _ _ => F'); (with_reducible rename News _ _ _ _ => N'); k_dflt (refine slice_B (s := ⟨_, _, _, _, _⟩) F' N' (by constructor) (by constructor) (by (try simp only [List.length_append]); omega) (by first | exact cutL (by assumption) | exact cutR (by assumption)) ?_); intro h' t' k' F' N'; (try k_sweep)))
open PySem PySem.W PySem.Calls PyProof.Rows in
set_option hygiene false in
local macro_rules | `(tactic| walk_at "call type:reversed") => `(tactic| (k_here; (with_reducible show wpAny _ _ (call (Value.type _) [Value.ref _]) _ _ _); k_dflt (refine' rev_at ?F ?N ?t ?z ?_; (case F => k_asm); (case N => k_asm); (case t => exact News.isTup (by k_asm) (by k_mem)); (case z => omega)); intro rD rH rK FR NR ltR lR; (try k_lt ltR); (try k_sweep)))
open PySem PySem.W PySem.Calls PyProof.Rows in
set_option hygiene false in
local macro_rules | `(tactic| walk_at "call type:tuple") => `(tactic| (k_here; (with_reducible show wpAny _ _ (call (Value.type _) [Value.ref _]) _ _ _); k_dflt (refine' tuple_rl ?k0 ?k1 ?k2 ?k3 ?k4 ?k5 ?_; (case k2 => k_asm); (case k1 => k_asm); (case k0 => k_asm); (case k3 => k_mem); (case k4 => k_all); (case k5 => omega)); intro tD tH tK FT NT ltT; (try k_lt ltT); (try k_sweep)))
open PySem PySem.W PySem.Calls PyProof.Rows in
set_option hygiene false in
local macro_rules | `(tactic| walk_at "call type:reversed") => `(tactic| (k_here; (with_reducible show wpAny _ _ (call (Value.type _) [Value.ref _]) _ _ _); k_dflt (refine' rev_at ?F ?N ?t ?z ?_; (case F => k_asm); (case N => k_asm); (case t => exact IsTup.keeps (by assumption) (Fr.keep (by assumption))); (case z => omega)); intro rD rH rK FR NR ltR lR; (try k_lt ltR); (try k_sweep)))

section
-- G6
open PySem PySem.W PySem.Calls PyProof.Rows
set_option Elab.async false
set_option maxRecDepth 100000
set_option linter.unusedVariables false
/-- an address apart from all of the ledger's -/
def AllNe (d : Addr) : List (Addr × Obj) → Prop
  | [] => True
  | p :: r => @Ne Nat p.1 d ∧ AllNe d r
theorem allNe_of {d : Addr} : ∀ {l : List (Addr × Obj)}, (∀ p ∈ l, p.1 ≠ d) → AllNe d l
  | [], _ => trivial
  | p :: _, h => ⟨h p (.head _), allNe_of fun q hq => h q (.tail _ hq)⟩
theorem fp_split {h₀ h : Heap} {L : Addr} {news FP : List (Addr × Obj)} (N : News h₀ L h news) (hsub : ∀ p ∈ FP, p ∈ news) : ∀ p ∈ news, p ∈ FP ∨ ∀ q ∈ FP, q.1 ≠ p.1 := fun p hp => by
  by_cases h : ∃ q ∈ FP, q.1 = p.1
  · obtain ⟨q, hq, e⟩ := h
    left
    have h1 := (N _ (hsub q hq)).1
    have h2 := (N _ hp).1
    rw [e, h2] at h1
    have : p = q := Prod.ext e.symm (Option.some.inj h1)
    rw [this]; exact hq
  · right
    intro q hq e
    exact h ⟨q, hq, e⟩
/-- what is new stands apart from what was frozen -/
theorem fz_ne {g h' : Heap} {FP' : List (Addr × Obj)} {a : Addr} {o' : Obj} (O' : Own g h' FP') (ha : (a, o') ∈ FP') {p : Addr × Obj} (fz : g.get? p.1 = some p.2) : p.1 ≠ a := fun e => by
  have := (O'.own _ ha).2
  dsimp only at this
  rw [← e, fz] at this; cases this

theorem get_at {w : World} {A A₀ : Around} {base h₀ : Heap} {outer : List Env} {env : Env} {L : Addr} {m : Str → Option Value} {mean : ExcName → Option Value} {mg mb : Str → Option Value} {s : Shared} {news : List (Addr × Obj)}
    {f tr dd db : Addr} {odb : Obj} {Bk : List Bs} {x root key : Bs} {kvs : List (Bs × Value)} {v : Nat → Bs} {t1 t2 t3 t4 t5 t6 tn td tx trt tkey : Tok} {n : Nat} {Q : Value → Shared → Prop} {E : Value → Shared → Prop}
    (F : Fr h₀ L s.heap m) (B : Below A₀ base outer h₀) (X : (hd.heap_39 w.params).In h₀) (T : Top topProg LOOSE mean mg mb h₀) (N : News h₀ L s.heap news)
    (m1 : (tr, instObj 235 dd) ∈ news) (m2 : (dd, treeD w t1 t2 t3 t4 t5 t6 tn td tx trt n x f db root) ∈ news) (m3 : (db, odb) ∈ news)
    (hA : A.frames = some (env :: outer)) (hf : env.frame = some L) (hke : env.scope.kind = .function) (hroom : A.depth + 10 < recursionLimit) (hh : A.handled = none) (hBn : Bk.Nodup) (hn : n ≤ 32) (hn1 : 1 ≤ n)
    (hD : odb.IsDictOf (bytesKind PR w) kvs) (hV : DbV Bk kvs) (hF : Full Bk v (8 * n) kvs) (hR : Nd Bk v (8 * n) 0 root) (hk : key.length = n) (hlen : Bk.length < 1000000)
    (h : ∀ h' tk br rt vs es tv, Fr h₀ L h' m → News h₀ L h' ((rt, tupOf [.bytes (v (dec key)).toArray tv, .ref br]) :: (br, tupOf vs) :: news) → BsAre vs es → es.length = 8 * n →
      (∀ j e, es[j]? = some e → Nd Bk v (8 * n - 1 - j) (sib (dec key) (8 * n - 1 - j)) e) → AllNe br news → AllNe rt news → @LT.lt Nat _ br rt → Q (.ref rt) { s with heap := h', toks := tk }) :
    wpAny (model PR w) A (call (.ref 183) [.ref tr, .bytes key.toArray tkey]) Q E s := by
  have hsub : ∀ p ∈ [(tr, instObj 235 dd), (dd, treeD w t1 t2 t3 t4 t5 t6 tn td tx trt n x f db root), (db, odb)], p ∈ news := by
    intro p hp
    simp only [List.mem_cons, List.not_mem_nil, or_false] at hp
    rcases hp with rfl | rfl | rfl <;> assumption
  refine wpAny_call (at_call B F X T N _ hsub hf hke hA fun g C O back fz => ?_)
  refine get_spec C O hroom hh hlen hBn hn hn1 hD hV hF hR hk fun h' tk br rt vs es tv O' e1 e2 e3 lt => ?_
  obtain ⟨F', N'⟩ := back h' _ O'
  have ne : ∀ a o', (a, o') ∈ [(rt, tupOf [.bytes (v (dec key)).toArray tv, .ref br]), (br, tupOf vs)] → @LE.le Nat _ br a → ∀ p ∈ news, p.1 ≠ a := fun a o' ha hle p hp => by
    rcases fp_split N hsub p hp with h1 | h1
    · simp only [List.mem_cons, List.not_mem_nil, or_false] at h1
      obtain ⟨l1, l2, l3, l4⟩ := lt
      rcases h1 with rfl | rfl | rfl
      · exact Nat.ne_of_lt (Nat.lt_of_lt_of_le l2 hle)
      · exact Nat.ne_of_lt (Nat.lt_of_lt_of_le l3 hle)
      · exact Nat.ne_of_lt (Nat.lt_of_lt_of_le l4 hle)
    · exact fz_ne O' (by
        simp only [List.mem_cons, List.not_mem_nil, or_false] at ha ⊢
        rcases ha with h | h
        · exact .inl h
        · exact .inr (.inl h)) (fz p hp h1)
  refine h h' tk br rt vs es tv F' (N' _ fun p hp => ?_) e1 e2 e3 (allNe_of (ne br _ (List.mem_cons_of_mem _ (List.mem_cons_self ..)) (Nat.le_refl _))) (allNe_of (ne rt _ (List.mem_cons_self ..) (Nat.le_of_lt lt.1))) lt.1
  rcases List.mem_cons.mp hp with rfl | hp
  · exact .inl (List.mem_cons_self ..)
  rcases List.mem_cons.mp hp with rfl | hp
  · exact .inl (List.mem_cons_of_mem _ (List.mem_cons_self ..))
  rcases fp_split N hsub p hp with h1 | h1
  · left
    simp only [List.mem_cons, List.not_mem_nil, or_false] at h1 ⊢
    exact .inr (.inr h1)
  · exact .inr ⟨hp, h1⟩
/-- the text of the node at height h, place n -/
def NdT (B : List Bs) (v : Nat → Bs) : Nat → Nat → Bs → Prop
  | 0, n, t => t = v n
  | h + 1, n, t => ∃ l r, Nd B v h (2 * n) l ∧ Nd B v h (2 * n + 1) r ∧ t = l ++ r
theorem NdT.nd {B : List Bs} {v : Nat → Bs} {h n : Nat} {t e : Bs} (x : NdT B v h n t) (hs : Hs B t e) : Nd B v h n e := by
  cases h with
  | zero => unfold NdT at x; subst x; exact hs
  | succ h => obtain ⟨l, r, a, b, rfl⟩ := x; exact ⟨l, r, a, b, hs⟩
theorem NdT.mono {B B' : List Bs} {v : Nat → Bs} (p : B <+: B') {h n : Nat} {t : Bs} (x : NdT B v h n t) : NdT B' v h n t := by
  cases h with
  | zero => exact x
  | succ h => obtain ⟨l, r, a, b, rfl⟩ := x; exact ⟨l, r, a.mono p, b.mono p, rfl⟩
/-- one leaf set -/
def upd (v : Nat → Bs) (p : Nat) (y : Bs) : Nat → Bs := fun i => if i = p then y else v i
theorem upd_off {v : Nat → Bs} {p h n : Nat} {y : Bs} (hn : p / 2 ^ h ≠ n) : ∀ i, i / 2 ^ h = n → v i = upd v p y i := fun i hi => by
  unfold upd
  rw [if_neg]
  rintro rfl
  exact hn hi
theorem sib_ne (p h : Nat) : p / 2 ^ h ≠ sib p h := by
  unfold sib
  split <;> omega
theorem bits_pow (i : Nat) (hi : i ≤ 1000) : (Builtin.Int.intBits ((2 : Int) ^ i) : Int) + 1 ≤ 2 ^ 27 := by
  have : Builtin.Int.intBits ((2 : Int) ^ i) ≤ i + 1 := by
    refine intBits_le_iff.mpr ?_
    rw [show ((2 : Int) ^ i) = ((2 ^ i : Nat) : Int) by push_cast; rfl, Int.natAbs_natCast]
    exact Nat.pow_lt_pow_right (by decide) (by omega)
  omega


structure SeS where
  od : Obj
  odb : Obj
  B : List Bs
  kvs : List (Bs × Value)
  nt : Bs
  ntt : Tok
  tb : Int
  tbt : Tok
  vs : List Value
  es : List Bs
  cnt : Nat
section
set_option hygiene false in
local macro_rules | `(tactic| walk_at "call ref") => `(tactic| (k_here; (with_reducible show wpAny _ _ (call (Value.ref 183) [Value.ref _, Value.bytes (List.toArray _) _]) _ _ _); k_dflt (refine' get_at ?F ?B ?X ?T ?N ?m1 ?m2 ?m3 ?hA ?hf ?hke ?room ?hh ?hBn ?hn ?hn1 ?hD ?hV ?hFu ?hR ?hk ?len ?_; (case F => k_asm); (case B => k_asm); (case X => k_asm); (case T => k_asm); (case N => k_asm); (case m1 => k_mem); (case m2 => k_mem); (case m3 => k_mem); (case hA => exact Around.frames_deeper (Below.stack (by k_asm))); (case hf => exact rfl); (case hke => exact rfl); (case room => k_room); (case hh => k_asm); (case hV => k_asm); (case hD => k_asm); (case hFu => k_asm); (case hR => k_asm); (case hBn => k_asm); (case hk => k_asm); (case hn => omega); (case hn1 => omega); (case len => omega)); intro hG kG brG rtG vsG esG tvG FG NG eG1 eG2 eG3 neG1 neG2 ltG; (simp only [AllNe, and_true] at neG1 neG2); (have lenG := BsAre.length eG1); (try k_sweep)))
set_option maxHeartbeats 4000000 in
theorem set_spec {w : World} {A : Around} {base g : Heap} {fr : List Env} {mean : ExcName → Option Value} {mg mb : Str → Option Value} {s : Shared} {R : Result → Shared → Prop}
    {f c ce d tr dd db : Addr} {fo oc oe od odb : Obj} {B : List Bs} {x root key y : Bs} {kvs : List (Bs × Value)} {v : Nat → Bs} {t1 t2 t3 t4 t5 t6 tn td tx trt tkey ty : Tok} {n : Nat}
    (C : Ctx w A base fr g mean mg mb) (O : Own g s.heap [(tr, instObj 235 dd), (dd, treeD w t1 t2 t3 t4 t5 t6 tn td tx trt n x f db root), (db, odb), (f, fo), (c, oc), (ce, oe), (d, od)])
    (H : IsHash f c ce d fo oc oe) (hB : IsBook w od B)
    (hroom : A.depth + 20 < recursionLimit) (hh : A.handled = none) (hlen : B.length < 100000) (hn : n ≤ 32) (hn1 : 1 ≤ n) (hy : y.length ≤ 64) (hkl : kvs.length ≤ 1000000)
    (hD : odb.IsDictOf (bytesKind PR w) kvs) (hV : DbV B kvs) (hF : Full B v (8 * n) kvs) (hR : Nd B v (8 * n) 0 root) (hk : key.length = n)
    (na : (@LT.lt Nat _ f tr ∧ @LT.lt Nat _ c tr ∧ @LT.lt Nat _ ce tr ∧ @LT.lt Nat _ d tr) ∧ (@LT.lt Nat _ f dd ∧ @LT.lt Nat _ c dd ∧ @LT.lt Nat _ ce dd ∧ @LT.lt Nat _ d dd) ∧ @LT.lt Nat _ dd tr)
    (nb : @LT.lt Nat _ tr db ∧ @LT.lt Nat _ dd db ∧ @LT.lt Nat _ f db ∧ @LT.lt Nat _ c db ∧ @LT.lt Nat _ ce db ∧ @LT.lt Nat _ d db)
    (hQ : ∀ h' tk rs vs es t6' trt' root' odb' od' B' kvs', Own g h' [(rs, tupOf vs), (tr, instObj 235 dd), (dd, treeD w t1 t2 t3 t4 t5 t6' tn td tx trt' n x f db root'), (db, odb'), (f, fo), (c, oc), (ce, oe), (d, od')] →
      BsAre vs es → es.length = 8 * n → (∀ j e, es[j]? = some e → Nd B' (upd v (dec key) y) (8 * n - 1 - j) (dec key / 2 ^ (8 * n - 1 - j)) e) → IsBook w od' B' → Ext (8 * n + 1) B B' → odb'.IsDictOf (bytesKind PR w) kvs' → DbV B' kvs' →
      kvs'.length ≤ kvs.length + (8 * n + 1) → Full B' (upd v (dec key) y) (8 * n) kvs' → Nd B' (upd v (dec key) y) (8 * n) 0 root' → (@LT.lt Nat _ tr rs ∧ @LT.lt Nat _ dd rs ∧ @LT.lt Nat _ db rs ∧ @LT.lt Nat _ f rs ∧ @LT.lt Nat _ c rs ∧ @LT.lt Nat _ ce rs ∧ @LT.lt Nat _ d rs) →
      R (.ok (.ret (.ref rs))) { s with heap := h', toks := tk }) :
    codeAny (model PR w) A (.call (.ref 190) ⟨[.ref tr, .bytes key.toArray tkey, .bytes y.toArray ty], []⟩) R s := by
  obtain ⟨nH1, nH2, nH3⟩ := H.2
  obtain ⟨na1, na2, na3⟩ := na
  obtain ⟨X', T', B'⟩ : (hd.heap_39 w.params).In g ∧ Top topProg LOOSE mean mg mb g ∧ Below A base fr g := ⟨C.X, C.T, C.B⟩
  w_on
  refine' enter (binds := [(Str.ofString "self", .ref tr), (Str.ofString "key", .bytes key.toArray tkey), (Str.ofString "value", .bytes y.toArray ty)]) C O ?k6 ?k7 ?k8 ?k9 ?kB ?c5 ?c2 ?c3 ?c4 ?_
  (case k6 => k_is)
  (case k7 => k_is)
  (case k8 => k_room)
  (case k9 => exact BindsTo.of_eq rfl)
  (case kB => exact locs rfl)
  (case c5 => decide)
  (case c2 => exact rfl)
  (case c3 => exact rfl)
  (case c4 => exact rfl)
  intro L' h₁ F' N' lt'
  (try k_fold)
  have hk' : key.toArray.size = n := by rw [List.size_toArray]; exact hk
  have hBn := hB.nodup
  k_steps
  dsimp only at FR NR
  have hI := NR _ (List.mem_cons_self ..)
  have hT : IsTup rH brG vsG.toArray := News.isTup NR (by k_mem)
  have hbL := (NR (brG, tupOf vsG) (by k_mem)).2.1
  have N2 := kst_newsOf NR (l' := [(lL, listOf #[] 0), (tr, instObj 235 dd), (dd, treeD w t1 t2 t3 t4 t5 t6 tn td tx trt n x f db root), (db, odb), (f, fo), (c, oc), (ce, oe), (d, od)]) (by k_allIn)
  have hp : dec key < 2 ^ (8 * n) := by rw [← hk]; exact dec_lt key
  unfold Hold
  refine' kst_rev (σ := SeS) (fun c' => [(lL, listOf c'.vs.toArray c'.cnt), (tr, instObj 235 dd), (dd, treeD w t1 t2 t3 t4 t5 t6 tn td tx trt n x f db root), (db, c'.odb), (f, fo), (c, oc), (ce, oe), (d, c'.od)])
    (fun c' => [(Str.ofString "node", .bytes c'.nt.toArray c'.ntt), (Str.ofString "target_bit", .int c'.tb c'.tbt)])
    (fun c' => IsBook w c'.od c'.B ∧ c'.odb.IsDictOf (bytesKind PR w) c'.kvs ∧ DbV c'.B c'.kvs ∧ BsAre c'.vs c'.es) [Str.ofString "node_hash"]
    (fun pre c' => Ext pre.length B c'.B ∧ c'.kvs.length ≤ kvs.length + pre.length ∧ (∀ q ∈ kvs.map (·.1), q ∈ c'.kvs.map (·.1)) ∧ pre.length ≤ 8 * n ∧ NdT c'.B (upd v (dec key) y) pre.length (dec key / 2 ^ pre.length) c'.nt ∧ c'.es.length = pre.length ∧
      (∀ j e, c'.es[j]? = some e → Nd c'.B (upd v (dec key) y) j (dec key / 2 ^ j) e ∧ e ∈ c'.kvs.map (·.1)) ∧ c'.tb = 2 ^ pre.length)
    ⟨od, odb, B, kvs, y, ty, 1, _, [], [], 0⟩ hh hI.1 hT (by omega) (by omega) hI.2.1.symm hbL.symm hI.2.2 ?hnI FR N2 ?hf ?hk ?hp ?turn ?done
  case hnI =>
    intro q hq
    simp only [List.mem_cons, List.not_mem_nil, or_false] at hq
    rcases hq with rfl | rfl | rfl | rfl | rfl | rfl | rfl | rfl <;> refine ⟨?_, ?_⟩ <;> (dsimp only; omega)
  case hf => exact ⟨hB, hD, hV, .nil⟩
  case hk =>
    refine List.forall_mem_cons.mpr ⟨?_, List.forall_mem_cons.mpr ⟨?_, fun _ h => nomatch h⟩⟩
    · with_unfolding_all rfl
    · with_unfolding_all rfl
  case hp =>
    refine ⟨Ext.refl _ _, Nat.le_refl _, fun _ h => h, Nat.zero_le _, ?_, rfl, fun j e h => by simp at h, rfl⟩
    show y = upd v (dec key) y (dec key / 2 ^ 0)
    simp [upd]
  case turn =>
    (try clear hQ); (try clear hF); (try clear hR); (try clear hI); (try clear hT); (try clear hbL); (try clear N2); (try clear FR); (try clear NR); (try clear neG1); (try clear neG2); (try clear ltG); (try clear ltR); (try clear lR); (try clear O)
    intro c' pre it u h tk own hlt hit hoff ⟨fB, fD, fV, fS⟩ ⟨pE, pK, pM, pL, pT, pS, pN, pb⟩ F3 N3
    obtain ⟨od2, odb2, B2, kvs2, nt2, ntt2, tb2, tbt2, vs2, es2, cnt2⟩ := c'
    dsimp only at fB fD fV fS pE pK pM pT pS pN pb
    replace F3 : Fr g L' h _ := F3
    replace N3 : News g L' h _ := N3
    simp only [List.cons_append, List.nil_append, List.map_cons, List.map_nil] at N3 hoff
    dsimp only at F3 N3
    subst pb
    have hlt8 : pre.length < 8 * n := by omega
    have hidx : vsG.length - 1 - pre.length = 8 * n - 1 - pre.length := by omega
    rw [hidx] at hit
    obtain ⟨sb, hsb⟩ : ∃ e, esG[8 * n - 1 - pre.length]? = some e := ⟨_, List.getElem?_eq_getElem (by omega)⟩
    obtain ⟨tsb, hsv⟩ := eG1.get hsb
    rw [hsv] at hit
    obtain rfl := Option.some.inj hit
    have hSb := eG3 _ _ hsb
    rw [show 8 * n - 1 - (8 * n - 1 - pre.length) = pre.length by omega] at hSb
    have hsl := hSb.len
    have hvl := fS.length
    have hB2l := pE.2
    have hbits := bits_pow pre.length (by omega)
    have hsd := step_down (dec key) pre.length
    have hSb' := (hSb.mono pE.1).congr (upd_off (v := v) (p := dec key) (y := y) (sib_ne _ _))
    have hss := hSb'
    unfold sib at hss
    rcases Nat.mod_two_eq_zero_or_one (dec key / 2 ^ pre.length) with hm | hm
    · have hbit := bit_zero _ _ hm
      (try k_fold)
      k_steps
      rename Fr _ _ _ _ => F4
      rename News _ _ _ _ => N4
      simp only [List.push_toArray] at N4
      unfold Hold
      refine' kst_end ⟨od', oS, Bk', stored kvs2 y' (.bytes nt2.toArray ntt2), y' ++ sb, tA, _, _, vs2 ++ [.bytes y'.toArray tv'], es2 ++ [y'], cnt2 + 1⟩ F4 N4 ?hn ?ho ?ha ?hf ?hk ?hr ?hp
      case hn => k_allIn
      case hk =>
        refine List.forall_mem_cons.mpr ⟨?_, List.forall_mem_cons.mpr ⟨?_, fun _ h => nomatch h⟩⟩
        · dsimp only; simp only [if_true, kstB]; with_unfolding_all rfl
        · dsimp only; simp only [if_true, kstB]; with_unfolding_all rfl
      case ho => exact fun p hp => by k_ownIn
      case ha => rfl
      case hf => exact ⟨hB', hdS, (fV.mono hE'.1).put hH', fS.append (.cons .nil)⟩
      case hr =>
        intro z h1 h2 h3
        have b := off_stored h3
        simp only [List.forall_mem_cons] at b h2
        simp [h1, h2, b, kstB]
      case hp =>
        have hlen1 := stored_length_le kvs2 y' (.bytes nt2.toArray ntt2)
        have hny := (pT.mono hE'.1).nd hH'
        simp only [List.length_append, List.length_cons, List.length_nil, Nat.zero_add]
        refine ⟨pE.trans hE', by omega, fun q hq => keys_stored.2 q (pM q hq), by omega, ?_, by omega, es_snoc pS (fun j e h => ⟨(pN j e h).1.mono hE'.1, keys_stored.2 e (pN j e h).2⟩) ⟨hny, keys_stored.1⟩, ?_⟩
        · rw [if_pos hm, hsd, hm, Nat.add_zero] at hss
          rw [hsd, hm, Nat.add_zero] at hny
          exact ⟨y', sb, hny, hss.mono hE'.1, rfl⟩
        · rw [show Int.toNat 1 = 1 from rfl, ← Int.pow_add]
    · have hbit := bit_one _ _ hm
      (try k_fold)
      k_steps
      rename Fr _ _ _ _ => F4
      rename News _ _ _ _ => N4
      simp only [List.push_toArray] at N4
      unfold Hold
      refine' kst_end ⟨od', oS, Bk', stored kvs2 y' (.bytes nt2.toArray ntt2), sb ++ y', tA, _, _, vs2 ++ [.bytes y'.toArray tv'], es2 ++ [y'], cnt2 + 1⟩ F4 N4 ?hn ?ho ?ha ?hf ?hk ?hr ?hp
      case hn => k_allIn
      case hk =>
        refine List.forall_mem_cons.mpr ⟨?_, List.forall_mem_cons.mpr ⟨?_, fun _ h => nomatch h⟩⟩
        · dsimp only; simp only [if_true, kstB]; with_unfolding_all rfl
        · dsimp only; simp only [if_true, kstB]; with_unfolding_all rfl
      case ho => exact fun p hp => by k_ownIn
      case ha => rfl
      case hf => exact ⟨hB', hdS, (fV.mono hE'.1).put hH', fS.append (.cons .nil)⟩
      case hr =>
        intro z h1 h2 h3
        have b := off_stored h3
        simp only [List.forall_mem_cons] at b h2
        simp [h1, h2, b, kstB]
      case hp =>
        have hlen1 := stored_length_le kvs2 y' (.bytes nt2.toArray ntt2)
        have hny := (pT.mono hE'.1).nd hH'
        simp only [List.length_append, List.length_cons, List.length_nil, Nat.zero_add]
        refine ⟨pE.trans hE', by omega, fun q hq => keys_stored.2 q (pM q hq), by omega, ?_, by omega, es_snoc pS (fun j e h => ⟨(pN j e h).1.mono hE'.1, keys_stored.2 e (pN j e h).2⟩) ⟨hny, keys_stored.1⟩, ?_⟩
        · rw [if_neg (by omega), hsd, hm, Nat.add_sub_cancel] at hss
          rw [hsd, hm] at hny
          exact ⟨sb, y', hss.mono hE'.1, hny, rfl⟩
        · rw [show Int.toNat 1 = 1 from rfl, ← Int.pow_add]
  case done =>
    intro c' u h tk ⟨fB, fD, fV, fS⟩ ⟨pE, pK, pM, pL, pT, pS, pN, pb⟩ F3 N3
    obtain ⟨od2, odb2, B2, kvs2, nt2, ntt2, tb2, tbt2, vs2, es2, cnt2⟩ := c'
    dsimp only at fB fD fV fS pE pK pM pT pS pN pb
    rw [rangeKs_length, lenG, eG2] at pE pK pT pS
    replace F3 : Fr g L' h _ := F3
    replace N3 : News g L' h _ := N3
    dsimp only at F3 N3 ⊢
    have hvl := fS.length
    have hB2l := pE.2
    (try k_fold)
    k_steps
    rename Fr _ _ _ _ => F4
    rename News _ _ _ _ => N4
    have hp0 : dec key / 2 ^ (8 * n) = 0 := Nat.div_eq_of_lt hp
    have hroot := (pT.mono hE'.1).nd hH'
    have hlen1 := stored_length_le kvs2 y' (.bytes nt2.toArray ntt2)
    show R (.ok (.ret (.ref _))) _
    refine hQ _ _ _ vs2.reverse es2.reverse _ _ y' oS od' Bk' _ (own_of F4 (kst_newsOf N4 (by k_allIn))) fS.reverse (by rw [List.length_reverse]; exact pS) (fun j e h => ?_) hB' (pE.trans hE') hdS ((fV.mono hE'.1).put hH') (by omega) (fun hh' nn hle hlt => ?_) (hp0 ▸ hroot) ⟨ltT.2.1, ltT.2.2.1, ltT.2.2.2.1, ltT.2.2.2.2⟩
    · have hj := (List.getElem?_eq_some_iff.mp h).1
      rw [List.length_reverse] at hj
      rw [List.getElem?_reverse hj, pS] at h
      exact (pN _ _ h).1.mono hE'.1
    · by_cases hon : dec key / 2 ^ hh' = nn
      · rcases Nat.lt_or_ge hh' (8 * n) with h8 | h8
        · obtain ⟨e, he⟩ : ∃ e, es2[hh']? = some e := ⟨_, List.getElem?_eq_getElem (by omega)⟩
          have := pN _ _ he
          rw [hon] at this
          exact ⟨e, this.1.mono hE'.1, keys_stored.2 e this.2⟩
        · have : hh' = 8 * n := by omega
          subst this
          rw [hon] at hroot
          exact ⟨y', hroot, keys_stored.1⟩
      · obtain ⟨e, he, hke⟩ := hF hh' nn hle hlt
        exact ⟨e, (he.congr (upd_off hon)).mono (pE.trans hE').1, keys_stored.2 e (pM e hke)⟩
end
end
open PySem PySem.W PySem.Calls PyProof.Rows in
set_option hygiene false in
local macro_rules | `(tactic| walk_at "call ref") => `(tactic| (k_here; (with_reducible show wpAny _ _ (call (Value.ref 183) [Value.ref _, Value.bytes (List.toArray _) _]) _ _ _); k_dflt (refine' get_at ?F ?B ?X ?T ?N ?m1 ?m2 ?m3 ?hA ?hf ?hke ?room ?hh ?hBn ?hn ?hn1 ?hD ?hV ?hFu ?hR ?hk ?len ?_; (case F => k_asm); (case B => k_asm); (case X => k_asm); (case T => k_asm); (case N => k_asm); (case m1 => k_mem); (case m2 => k_mem); (case m3 => k_mem); (case hA => exact Around.frames_deeper (Below.stack (by k_asm))); (case hf => exact rfl); (case hke => exact rfl); (case room => k_room); (case hh => k_asm); (case hV => k_asm); (case hD => k_asm); (case hFu => k_asm); (case hR => k_asm); (case hBn => k_asm); (case hk => k_asm); (case hn => omega); (case hn1 => omega); (case len => omega)); intro hG kG brG rtG vsG esG tvG FG NG eG1 eG2 eG3 neG1 neG2 ltG; (simp only [AllNe, and_true] at neG1 neG2); (have lenG := BsAre.length eG1); (try k_sweep)))

section
-- G7
local macro_rules | `(tactic| walk_at "no such key") => `(tactic| fail)
open PySem PySem.W PySem.Calls PyProof.Rows
set_option Elab.async false
set_option maxRecDepth 100000
set_option linter.unusedVariables false
/-- the chain of hashes from a value up along a branch (root first) -/
def Ch (B : List Bs) (p : Nat) (y : Bs) (es : List Bs) : Nat → Bs → Prop
  | 0, e => Hs B y e
  | i + 1, e => ∃ x sb, Ch B p y es i x ∧ es[es.length - 1 - i]? = some sb ∧ Hs B (if p / 2 ^ i % 2 = 0 then x ++ sb else sb ++ x) e
theorem Ch.mono {B B' : List Bs} {p : Nat} {y : Bs} {es : List Bs} (q : B <+: B') : ∀ {i : Nat} {e : Bs}, Ch B p y es i e → Ch B' p y es i e
  | 0, _, h => Hs.mono h q
  | _ + 1, _, ⟨x, sb, a, b, c⟩ => ⟨x, sb, a.mono q, b, c.mono q⟩
theorem Ch.len {B : List Bs} {p : Nat} {y : Bs} {es : List Bs} : ∀ {i : Nat} {e : Bs}, Ch B p y es i e → e.length = 32
  | 0, _, h => Hs.len h
  | _ + 1, _, ⟨_, _, _, _, c⟩ => c.len


structure CaS where
  od : Obj
  B : List Bs
  nh : Bs
  nht : Tok
  tb : Int
  tbt : Tok
section
set_option maxHeartbeats 4000000 in
theorem calc_spec {w : World} {A : Around} {base g : Heap} {fr : List Env} {mean : ExcName → Option Value} {mg mb : Str → Option Value} {s : Shared} {R : Result → Shared → Prop}
    {f c ce d br : Addr} {fo oc oe od : Obj} {B : List Bs} {key y : Bs} {vs : List Value} {es : List Bs} {tkey ty : Tok} {n : Nat}
    (C : Ctx w A base fr g mean mg mb) (O : Own g s.heap [(f, fo), (c, oc), (ce, oe), (d, od)])
    (H : IsHash f c ce d fo oc oe) (hB : IsBook w od B) (hbr : g.get? br = some (tupOf vs)) (hvs : BsAre vs es) (hes : es.length = 8 * n) (he32 : ∀ e ∈ es, e.length = 32)
    (hroom : A.depth + 20 < recursionLimit) (hh : A.handled = none) (hlen : B.length < 100000) (hn : n ≤ 32) (hn1 : 1 ≤ n) (hk : key.length = n)
    (hQ : ∀ h' tk e te od' B', Own g h' [(f, fo), (c, oc), (ce, oe), (d, od')] → IsBook w od' B' → Ext (8 * n + 1) B B' → Ch B' (dec key) y es (8 * n) e → R (.ok (.ret (.bytes e.toArray te))) { s with heap := h', toks := tk }) :
    codeAny (model PR w) A (.call (.ref 76) ⟨[.bytes key.toArray tkey, .bytes y.toArray ty, .ref br, .ref f], []⟩) R s := by
  obtain ⟨nH1, nH2, nH3⟩ := H.2
  obtain ⟨X', T', B'⟩ : (hd.heap_39 w.params).In g ∧ Top topProg LOOSE mean mg mb g ∧ Below A base fr g := ⟨C.X, C.T, C.B⟩
  w_on
  refine' enter (binds := [(Str.ofString "key", .bytes key.toArray tkey), (Str.ofString "value", .bytes y.toArray ty), (Str.ofString "branch", .ref br), (Str.ofString "hash_of", .ref f)]) C O ?k6 ?k7 ?k8 ?k9 ?kB ?c5 ?c2 ?c3 ?c4 ?_
  (case k6 => k_is)
  (case k7 => k_is)
  (case k8 => k_room)
  (case k9 => exact BindsTo.of_eq rfl)
  (case kB => exact locs rfl)
  (case c5 => decide)
  (case c2 => exact rfl)
  (case c3 => exact rfl)
  (case c4 => exact rfl)
  intro L' h₁ F' N' lt'
  (try k_fold)
  have hk' : key.toArray.size = n := by rw [List.size_toArray]; exact hk
  have hvl := hvs.length
  have ht0 : IsTup g br vs.toArray := ⟨_, hbr, rfl, 0, rfl⟩
  k_steps
  dsimp only at FR NR
  have hI := NR _ (List.mem_cons_self ..)
  have hT : IsTup rH br vs.toArray := IsTup.keeps ht0 (Fr.keep FR)
  have hbl : @LT.lt Nat _ br g.objs.size := Heap.lt_size hbr
  have hLb : @Ne Nat L' br := by have := FR.above; omega
  have nbr : ∀ q ∈ [(f, fo), (c, oc), (ce, oe), (d, od)], q.1 ≠ br := fun q hq e => by
    have := (O.own q hq).2
    rw [e, hbr] at this; cases this
  simp only [List.forall_mem_cons] at nbr
  obtain ⟨nb1, nb2, nb3, nb4, _⟩ := nbr
  have N2 := kst_newsOf NR (l' := [(f, fo), (c, oc), (ce, oe), (d, od')]) (by k_allIn)
  unfold Hold
  refine' kst_rev (σ := CaS) (fun c' => [(f, fo), (c, oc), (ce, oe), (d, c'.od)])
    (fun c' => [(Str.ofString "node_hash", .bytes c'.nh.toArray c'.nht), (Str.ofString "target_bit", .int c'.tb c'.tbt)])
    (fun c' => IsBook w c'.od c'.B) []
    (fun pre c' => Ext (pre.length + 1) B c'.B ∧ pre.length ≤ 8 * n ∧ Ch c'.B (dec key) y es pre.length c'.nh ∧ c'.tb = 2 ^ pre.length)
    ⟨od', Bk', y', tv', 1, _⟩ hh hI.1 hT (by omega) (Nat.ne_of_lt lR) hI.2.1.symm hLb hI.2.2 ?hnI FR N2 ?hf ?hk ?hp ?turn ?done
  case hnI =>
    intro q hq
    simp only [List.mem_cons, List.not_mem_nil, or_false] at hq
    rcases hq with rfl | rfl | rfl | rfl <;> refine ⟨?_, ?_⟩ <;> (dsimp only; first | assumption | omega)
  case hf => exact hB'
  case hk =>
    refine List.forall_mem_cons.mpr ⟨?_, List.forall_mem_cons.mpr ⟨?_, fun _ h => nomatch h⟩⟩
    · with_unfolding_all rfl
    · with_unfolding_all rfl
  case hp => exact ⟨hE', Nat.zero_le _, hH', rfl⟩
  case turn =>
    intro c' pre it u h tk own hlt hit hoff fB ⟨pE, pL, pC, pb⟩ F3 N3
    obtain ⟨od2, B2, nh2, nht2, tb2, tbt2⟩ := c'
    dsimp only at fB pE pC pb
    replace F3 : Fr g L' h _ := F3
    replace N3 : News g L' h _ := N3
    simp only [List.cons_append, List.nil_append, List.map_cons, List.map_nil] at N3 hoff
    dsimp only at F3 N3
    subst pb
    have hlt8 : pre.length < 8 * n := by omega
    rw [hvl] at hit
    obtain ⟨sb, hsb⟩ : ∃ e, es[es.length - 1 - pre.length]? = some e := ⟨_, List.getElem?_eq_getElem (by omega)⟩
    obtain ⟨tsb, hsv⟩ := hvs.get hsb
    rw [hsv] at hit
    obtain rfl := Option.some.inj hit
    have hsl := he32 _ (List.mem_of_getElem? hsb)
    have hcl := pC.len
    have hB2l := pE.2
    have hbits := bits_pow pre.length (by omega)
    rcases Nat.mod_two_eq_zero_or_one (dec key / 2 ^ pre.length) with hm | hm
    · have hbit := bit_zero _ _ hm
      (try k_fold)
      k_steps
      rename Fr _ _ _ _ => F4
      rename News _ _ _ _ => N4
      unfold Hold
      refine' kst_end ⟨od', Bk', y', tv', _, _⟩ F4 N4 ?hn ?ho ?ha ?hf ?hk ?hr ?hp
      case hn => k_allIn
      case hk =>
        refine List.forall_mem_cons.mpr ⟨?_, List.forall_mem_cons.mpr ⟨?_, fun _ h => nomatch h⟩⟩
        · dsimp only; simp only [if_true, kstB]; with_unfolding_all rfl
        · dsimp only; simp only [if_true, kstB]; with_unfolding_all rfl
      case ho => exact fun p hp => by k_ownIn
      case ha => rfl
      case hf => exact hB'
      case hr =>
        intro z h1 h2 h3
        simp only [List.forall_mem_cons] at h2
        simp [h1, h2, kstB]
      case hp =>
        simp only [List.length_append, List.length_cons, List.length_nil, Nat.zero_add]
        refine ⟨(pE.trans hE').le (by omega), by omega, ⟨nh2, sb, pC.mono hE'.1, hsb, ?_⟩, ?_⟩
        · rw [if_pos hm]; exact hH'
        · rw [show Int.toNat 1 = 1 from rfl, ← Int.pow_add]
    · have hbit := bit_one _ _ hm
      (try k_fold)
      k_steps
      rename Fr _ _ _ _ => F4
      rename News _ _ _ _ => N4
      unfold Hold
      refine' kst_end ⟨od', Bk', y', tv', _, _⟩ F4 N4 ?hn ?ho ?ha ?hf ?hk ?hr ?hp
      case hn => k_allIn
      case hk =>
        refine List.forall_mem_cons.mpr ⟨?_, List.forall_mem_cons.mpr ⟨?_, fun _ h => nomatch h⟩⟩
        · dsimp only; simp only [if_true, kstB]; with_unfolding_all rfl
        · dsimp only; simp only [if_true, kstB]; with_unfolding_all rfl
      case ho => exact fun p hp => by k_ownIn
      case ha => rfl
      case hf => exact hB'
      case hr =>
        intro z h1 h2 h3
        simp only [List.forall_mem_cons] at h2
        simp [h1, h2, kstB]
      case hp =>
        simp only [List.length_append, List.length_cons, List.length_nil, Nat.zero_add]
        refine ⟨(pE.trans hE').le (by omega), by omega, ⟨nh2, sb, pC.mono hE'.1, hsb, ?_⟩, ?_⟩
        · rw [if_neg (by omega)]; exact hH'
        · rw [show Int.toNat 1 = 1 from rfl, ← Int.pow_add]
  case done =>
    intro c' u h tk fB ⟨pE, pL, pC, pb⟩ F3 N3
    obtain ⟨od2, B2, nh2, nht2, tb2, tbt2⟩ := c'
    dsimp only at fB pE pC pb
    rw [rangeKs_length, hvl, hes] at pE pC
    replace F3 : Fr g L' h _ := F3
    replace N3 : News g L' h _ := N3
    dsimp only at F3 N3 ⊢
    (try k_fold)
    k_steps
    rename Fr _ _ _ _ => F4
    rename News _ _ _ _ => N4
    show R (.ok (.ret (.bytes _ _))) _
    exact hQ _ _ nh2 _ od2 B2 (own_of F4 (kst_newsOf N4 (by k_allIn))) fB pE pC
end
end

section
-- GV
open PySem PySem.W PySem.Calls PyProof.Rows
set_option Elab.async false
set_option maxRecDepth 100000
set_option linter.unusedVariables false
section
variable {prog : Program} {w : World} {A : Around} {E : Value → Shared → Prop} {s : Shared} {env : Env} {h₀ : Heap} {x : Str} {body : List Stmt} {Q : Flow → Shared → Prop}
/-- a loop over any iterator: RO stands in the ledger and may be what is walked over; it is not changed -/
theorem kst_anyX {σ : Type} {I : Addr} {fp wr : List Addr} {n : Nat} {Pv : Nat → Value → Prop} {St : Nat → Heap → Prop} {m₀ : Str → Option Value} (RO : List (Addr × Obj)) (Led : σ → List (Addr × Obj)) (ps : σ → List (Str × Value)) (Facts : σ → Prop) (stored : List Str) (P : List Int → σ → Prop) (c₀ : σ)
    (W : Walks prog w A I fp wr n Pv St) (hLf : env.locals ∉ fp) (hwr : ∀ b ∈ wr, h₀.get? b = none) (hro : ∀ p ∈ RO, p.1 ∉ wr) (hnw : ∀ p ∈ Led c₀, p.1 ∉ wr) (hfp : ∀ q ∈ Led c₀, q.1 ∉ fp) (hst : St 0 s.heap)
    (F : Fr h₀ env.locals s.heap m₀) (N : News h₀ env.locals s.heap (RO ++ Led c₀)) (hf : Facts c₀) (hk : ∀ p ∈ ps c₀, m₀ p.1 = some p.2) (hp : P [] c₀)
    (turn : ∀ (c : σ) (pre : List Int) (v : Value) (u : Str → Option Value) h tk own, pre.length < n → Pv pre.length v → OwnOff own ((Led c₀).map (·.1)) → (Led c).map (·.1) = (Led c₀).map (·.1) → Facts c → P pre c →
      Fr h₀ env.locals h (fun y => if y = x then some v else kstB (fun z => if stored.contains z then u z else m₀ z) (ps c) y) → News h₀ env.locals h (RO ++ (Led c ++ own)) →
      wpAny (model prog w) A (execs body env) (InvPostN h₀ env.locals (KstS (fun c => RO ++ Led c) ps Facts x stored m₀ P (pre ++ [(pre.length : Int)])) own ((RO ++ Led c₀).map (·.1)) { s with heap := h, toks := tk } Q) E { s with heap := h, toks := tk })
    (done : ∀ (c : σ) (u : Str → Option Value) h tk, Facts c → P (rangeKs 0 n) c → Fr h₀ env.locals h (fun y => if y = x then u y else kstB (fun z => if stored.contains z then u z else m₀ z) (ps c) y) → News h₀ env.locals h (RO ++ Led c) → Q .next { s with heap := h, toks := tk }) :
    LoopAtV prog w A h₀ env x body Q E (.ref I) s := by
  let J' : Nat → (Str → Option Value) → List (Addr × Obj) → Prop := fun i m₁ news₁ => news₁.map (·.1) = (RO ++ Led c₀).map (·.1) ∧ KstS (fun c => RO ++ Led c) ps Facts x stored m₀ P (rangeKs 0 i) m₁ news₁
  refine ⟨I, fp, wr, n, Pv, St, m₀, RO ++ Led c₀, J', rfl, W, hLf, hwr, ?_, hst, F, N, ⟨rfl, c₀, rfl, hf, hk, fun _ _ _ _ => rfl, by simpa [rangeKs] using hp⟩, ?_, ?_⟩
  · intro p hp
    rcases List.mem_append.mp hp with h | h
    · exact hro p h
    · exact hnw p h
  · rintro i v m₁ news₁ s₁ own ⟨hh', tk', rfl⟩ hin hP ⟨hadr, c, rfl, hf', h1, h2, hp'⟩ hoff hown _ _ _ F₁ N₁
    have hl : (rangeKs 0 i).length = i := rangeKs_length _ _
    have hsep : OwnOff own ((Led c₀).map (·.1)) := by
      intro p hp b hb e
      obtain ⟨q, hq, rfl⟩ := List.mem_map.mp hb
      exact hfp q hq (e ▸ hown p hp)
    have hadr2 : (Led c).map (·.1) = (Led c₀).map (·.1) := by
      simp only [List.map_append] at hadr
      exact List.append_cancel_left hadr
    have N₂ : News h₀ env.locals hh' (RO ++ (Led c ++ own)) := fun p hp => N₁ p (by
      rcases List.mem_append.mp hp with h | h
      · exact List.mem_append.mpr (.inr (List.mem_append.mpr (.inl h)))
      · rcases List.mem_append.mp h with h | h
        · exact List.mem_append.mpr (.inr (List.mem_append.mpr (.inr h)))
        · exact List.mem_append.mpr (.inl h))
    have ht := turn c (rangeKs 0 i) v m₁ hh' tk' own (by rw [hl]; exact hin) (by rw [hl]; exact hP) hsep hadr2 hf' hp' (kst_fr h1 h2 F₁) N₂
    rw [hl, ← ks_snoc] at ht
    refine wpAny_mono ht (fun f s₂ p => ?_) fun _ _ e => e
    have fin : InvEndN h₀ env.locals (KstS (fun c => RO ++ Led c) ps Facts x stored m₀ P (rangeKs 0 (i + 1))) own ((RO ++ Led c₀).map (·.1)) { s with heap := hh', toks := tk' } s₂ → LoopStepU h₀ env.locals wr own (J' (i + 1)) { s with heap := hh', toks := tk' } .next s₂ := by
      rintro ⟨h', tk, m', news', nx, e, F', N', hn, ho, ha, hm⟩
      refine ⟨rfl, h', tk, m', nx, e, F', fun p hp => N' p ((List.mem_append.mp hp).elim (ho p) (hn p)), fun p hp hq => ?_, ha, hm⟩
      have h1 : p.1 ∈ nx.map (·.1) := List.mem_map.mpr ⟨p, hp, rfl⟩
      rw [ha] at h1
      obtain ⟨q, hq1, hq2⟩ := List.mem_map.mp h1
      rcases List.mem_append.mp hq1 with h | h
      · exact hro q h (hq2 ▸ hq)
      · exact hnw q h (hq2 ▸ hq)
    cases f with
    | ret v => exact .ret p
    | brk => exact .brk p
    | next => exact .next (fin p)
    | cont => exact .cont (fin p)
  · rintro h' tk m' news' F' N' _ ⟨_, c, rfl, hf', h1, h2, hp'⟩
    exact done c m' h' tk hf' hp' (kst_frOut h1 h2 F') N'

theorem kst_dict {σ : Type} {K : Type} [DecidableEq K] {knd : KeyKind prog w K} {dct : Addr} {odct : Obj} {kvs : List (K × Value)} {m₀ : Str → Option Value} (RO : List (Addr × Obj)) (Led : σ → List (Addr × Obj)) (ps : σ → List (Str × Value)) (Facts : σ → Prop) (stored : List Str) (P : List Int → σ → Prop) (c₀ : σ)
    (hh : A.handled = none) (hm : (dct, odct) ∈ RO) (hd : odct.IsDictOf knd kvs) (lo : (dct == sysModules) = false) (hne : ∀ q ∈ Led c₀, q.1 ≠ dct)
    (F : Fr h₀ env.locals s.heap m₀) (N : News h₀ env.locals s.heap (RO ++ Led c₀)) (hf : Facts c₀) (hk : ∀ p ∈ ps c₀, m₀ p.1 = some p.2) (hp : P [] c₀)
    (turn : ∀ (c : σ) (pre : List Int) (v : Value) (u : Str → Option Value) h tk own, pre.length < kvs.length → (∃ k y, kvs[pre.length]? = some (k, y) ∧ knd.is k v = true) → OwnOff own ((Led c₀).map (·.1)) → (Led c).map (·.1) = (Led c₀).map (·.1) → Facts c → P pre c →
      Fr h₀ env.locals h (fun y => if y = x then some v else kstB (fun z => if stored.contains z then u z else m₀ z) (ps c) y) → News h₀ env.locals h (RO ++ (Led c ++ own)) →
      wpAny (model prog w) A (execs body env) (InvPostN h₀ env.locals (KstS (fun c => RO ++ Led c) ps Facts x stored m₀ P (pre ++ [(pre.length : Int)])) own ((RO ++ Led c₀).map (·.1)) { s with heap := h, toks := tk } Q) E { s with heap := h, toks := tk })
    (done : ∀ (c : σ) (u : Str → Option Value) h tk, Facts c → P (rangeKs 0 kvs.length) c → Fr h₀ env.locals h (fun y => if y = x then u y else kstB (fun z => if stored.contains z then u z else m₀ z) (ps c) y) → News h₀ env.locals h (RO ++ Led c) → Q .next { s with heap := h, toks := tk }) :
    wpAny (model prog w) A (pyIter (.ref dct)) (fun it s₂ => LoopAtV prog w A h₀ env x body Q E it s₂) E s := by
  have hN := N _ (List.mem_append_left _ hm)
  obtain ⟨ep, ha⟩ := KdkAt.of hd
  have hda : s.heap.DictAt knd dct kvs ep := ha.dictAt hN.1
  refine wpAny_pyIter_dict lo hda ?_
  have hlt : dct < s.heap.objs.size := Heap.lt_size hN.1
  have W := Walks.dictKeys (prog := prog) (w := w) (knd := knd) hh s.heap.objs.size dct (Nat.ne_of_lt hlt) kvs ep
  have old : ∀ p ∈ RO ++ Led c₀, p.1 ≠ s.heap.objs.size := fun p hp => Nat.ne_of_lt (Heap.lt_size (N p hp).1)
  refine kst_anyX RO Led ps Facts stored P c₀ W ?_ ?_ ?_ ?_ ?_ ⟨⟨_, Heap.get?_push_size _ rfl, rfl, rfl⟩, hda.at' fun o e => Heap.get?_push_of_some _ e⟩ (F.push _) (fun p hp => ⟨Heap.get?_push_of_some _ (N p hp).1, (N p hp).2⟩) hf hk hp turn done
  · intro hmm
    rcases List.mem_cons.mp hmm with e | hmm
    · exact absurd F.ns.lt (e ▸ Nat.lt_irrefl _)
    · exact hN.2.1 (List.mem_singleton.mp hmm).symm
  · intro b hb
    rw [List.mem_singleton.mp hb]
    exact next_is_new F
  · intro p hp hI
    exact old p (List.mem_append_left _ hp) (List.mem_singleton.mp hI)
  · intro p hp hI
    exact old p (List.mem_append_right _ hp) (List.mem_singleton.mp hI)
  · intro p hp hI
    rcases List.mem_cons.mp hI with e | hI
    · exact old p (List.mem_append_right _ hp) e
    · exact hne p hp (List.mem_singleton.mp hI)

/-- a turn's end where the ledger may have grown -/
def InvEndG (h₀ : Heap) (L : Addr) (J : (Str → Option Value) → List (Addr × Obj) → Prop) (own : List (Addr × Obj)) (s₁ s₂ : Shared) : Prop :=
  ∃ h' tk m' news' nx, s₂ = { s₁ with heap := h', toks := tk } ∧ Fr h₀ L h' m' ∧ News h₀ L h' news' ∧ (∀ p ∈ nx, p ∈ news') ∧ (∀ p ∈ own, p ∈ news') ∧ OwnOff own (nx.map (·.1)) ∧ J m' nx
def InvPostG (h₀ : Heap) (L : Addr) (J : (Str → Option Value) → List (Addr × Obj) → Prop) (own : List (Addr × Obj)) (s₁ : Shared) (Q : Flow → Shared → Prop) (f : Flow) (s₂ : Shared) : Prop :=
  match f with
  | .ret v => Q (.ret v) s₂
  | .brk => Q .next s₂
  | _ => InvEndG h₀ L J own s₁ s₂
theorem kst_endG {σ : Type} {Led : σ → List (Addr × Obj)} {ps : σ → List (Str × Value)} {Facts : σ → Prop} {stored : List Str} {m₀ : Str → Option Value} {P : List Int → σ → Prop} {pre : List Int} (c : σ) {L : Addr} {m' : Str → Option Value} {own news' : List (Addr × Obj)} {s₁ : Shared} {h' : Heap} {tk : Nat}
    (F : Fr h₀ L h' m') (N : News h₀ L h' news') (hn : ∀ p ∈ Led c, p ∈ news') (ho : ∀ p ∈ own, p ∈ news') (ha : OwnOff own ((Led c).map (·.1))) (hf : Facts c) (hk : ∀ p ∈ ps c, m' p.1 = some p.2) (hr : ∀ z, z ≠ x → (∀ p ∈ ps c, z ≠ p.1) → stored.contains z = false → m' z = m₀ z) (hp : P pre c) :
    InvEndG h₀ L (KstS Led ps Facts x stored m₀ P pre) own s₁ { s₁ with heap := h', toks := tk } :=
  ⟨h', tk, m', news', Led c, rfl, F, N, hn, ho, ha, c, rfl, hf, hk, hr, hp⟩
theorem kst_rangeG {σ : Type} {r : Addr} {t₀ u₀ v₀ : Tok} {n : Nat} {m₀ : Str → Option Value} (Led : σ → List (Addr × Obj)) (ps : σ → List (Str × Value)) (Facts : σ → Prop) (stored : List Str) (P : List Int → σ → Prop) (c₀ : σ)
    (hh : A.handled = none) (hr : IsRange s.heap r 0 (n : Int) 1 t₀ u₀ v₀) (hs : n ≤ 100000) (F : Fr h₀ env.locals s.heap m₀) (N : News h₀ env.locals s.heap (Led c₀)) (hf : Facts c₀) (hk : ∀ p ∈ ps c₀, m₀ p.1 = some p.2) (hp : P [] c₀)
    (turn : ∀ (c : σ) (pre : List Int) (k : Int) t (u : Str → Option Value) h tk own, k = (pre.length : Int) → pre.length < n → OwnOff own ((Led c).map (·.1)) → Facts c → P pre c →
      Fr h₀ env.locals h (fun y => if y = x then some (.int k t) else kstB (fun z => if stored.contains z then u z else m₀ z) (ps c) y) → News h₀ env.locals h (Led c ++ own) →
      wpAny (model prog w) A (execs body env) (InvPostG h₀ env.locals (KstS Led ps Facts x stored m₀ P (pre ++ [k])) own { s with heap := h, toks := tk } Q) E { s with heap := h, toks := tk })
    (done : ∀ (c : σ) (u : Str → Option Value) h tk, Facts c → P (rangeKs 0 n) c → Fr h₀ env.locals h (fun y => if y = x then u y else kstB (fun z => if stored.contains z then u z else m₀ z) (ps c) y) → News h₀ env.locals h (Led c) → Q .next { s with heap := h, toks := tk }) :
    wpAny (model prog w) A (pyIter (.ref r)) (fun it s₂ => LoopAtV prog w A h₀ env x body Q E it s₂) E s := by
  refine wpAny_pyIter_range hr (rsmall hs) ?_
  have W : Walks prog w A s.heap.objs.size [s.heap.objs.size] [s.heap.objs.size] n (fun i v => i < n ∧ ∃ t, v = .int (0 + i * 1) t)
      (fun i h => IsRangeIter h s.heap.objs.size (0 + (i : Nat) * 1) ((n : Int) - (i : Nat)) 1) := (Walks.range hh _ 0 1 n).bound
  let J' : Nat → (Str → Option Value) → List (Addr × Obj) → Prop := fun i m₁ news₁ => KstS Led ps Facts x stored m₀ P (rangeKs 0 i) m₁ news₁
  refine ⟨s.heap.objs.size, _, _, n, _, _, m₀, Led c₀, J', rfl, W, ?_, ?_, ?_, (by show IsRangeIter _ _ _ _ _; rw [rsize]; simpa using Heap.get?_push_size _ rfl), F.push _, (fun p hp => ⟨Heap.get?_push_of_some _ (N p hp).1, (N p hp).2⟩), ⟨c₀, rfl, hf, hk, fun _ _ _ _ => rfl, by simpa [rangeKs] using hp⟩, ?_, ?_⟩
  · intro hm
    exact absurd F.ns.lt ((List.mem_singleton.mp hm) ▸ Nat.lt_irrefl _)
  · intro b hb
    rw [List.mem_singleton.mp hb]
    exact next_is_new F
  · intro p hp hI
    exact absurd (Heap.lt_size (N p hp).1) ((List.mem_singleton.mp hI) ▸ Nat.lt_irrefl _)
  · rintro i v m₁ news₁ s₁ own ⟨hh', tk', rfl⟩ hin ⟨_, t, rfl⟩ ⟨c, rfl, hf', h1, h2, hp'⟩ hoff hown _ hall hst' F₁ N₁
    have hl : (rangeKs 0 i).length = i := rangeKs_length _ _
    have hI0 : h₀.get? s.heap.objs.size = none := next_is_new F
    have hiown := hall s.heap.objs.size (List.mem_singleton.mpr rfl) hI0 _ hst'
    have hsep : OwnOff own ((Led c).map (·.1)) := by
      intro p hp b hb e
      obtain ⟨q, hq, rfl⟩ := List.mem_map.mp hb
      refine hoff q hq ?_
      rw [← e]
      exact hown p hp
    have N₂ : News h₀ env.locals hh' (Led c ++ own) := fun p hp => N₁ p ((List.mem_append.mp hp).elim (fun h => List.mem_append.mpr (.inr h)) fun h => List.mem_append.mpr (.inl h))
    have e1 : (0 : Int) + (i : Int) * 1 = (i : Int) := by omega
    rw [e1] at F₁
    have ht := turn c (rangeKs 0 i) (i : Int) t m₁ hh' tk' own (by rw [hl]) (by rw [hl]; exact hin) hsep hf' hp' (kst_fr h1 h2 F₁) N₂
    rw [← ks_snoc] at ht
    refine wpAny_mono ht (fun f s₂ p => ?_) fun _ _ e => e
    have fin : InvEndG h₀ env.locals (KstS Led ps Facts x stored m₀ P (rangeKs 0 (i + 1))) own { s with heap := hh', toks := tk' } s₂ → LoopStepU h₀ env.locals [s.heap.objs.size] own (J' (i + 1)) { s with heap := hh', toks := tk' } .next s₂ := by
      rintro ⟨h', tk, m', news', nx, e, F', N', hn, ho, ha, hm⟩
      refine ⟨rfl, h', tk, m', nx, e, F', fun p hp => N' p ((List.mem_append.mp hp).elim (ho p) (hn p)), fun p hp hq => ?_, hm⟩
      exact ha _ hiown p.1 (List.mem_map.mpr ⟨p, hp, rfl⟩) (List.mem_singleton.mp hq).symm
    cases f with
    | ret v => exact .ret p
    | brk => exact .brk p
    | next => exact .next (fin p)
    | cont => exact .cont (fin p)
  · rintro h' tk m' news' F' N' _ ⟨c, rfl, hf', h1, h2, hp'⟩
    exact done c m' h' tk hf' hp' (kst_frOut h1 h2 F') N'
end
end

section
-- GL0
open PySem PySem.W PySem.Calls PyProof.Rows
set_option Elab.async false
set_option maxRecDepth 100000
set_option linter.unusedVariables false
theorem get2_at {prog : Program} {w : World} {A : Around} {E : Value → Shared → Prop} {s : Shared} {h₀ : Heap} {L d : Addr} {news : List (Addr × Obj)} {o : Obj} {kvs : List (Int × Value)} {k : Int} {t : Tok} {dflt x : Value} {Q : Value → Shared → Prop}
    (N : News h₀ L s.heap news) (hp : (d, o) ∈ news) (hd : o.IsDictOf (intKind prog w) kvs) (lo : (d == sysModules) = false) (hx : (valueAt kvs k).getD dflt = x) (h : Q x { s with toks := s.toks + 1 }) :
    wpAny (model prog w) A (call (.builtin "dict.get") [.ref d, .int k t, dflt]) Q E s :=
  kdg_get2 (knd := intKind _ _) N hp hd lo (intKind_is _ _ _ _) (valueAt kvs k) rfl (by rw [hx]; exact h)
theorem find_map_key {K : Type} [DecidableEq K] {k : K} {v : Value} : ∀ {l : List (K × Value)}, l.any (fun kv => kv.1 = k) = true → ((l.map fun kv => if kv.1 = k then (kv.1, v) else kv).find? fun kv => kv.1 = k).map (·.2) = some v
  | p :: r, h => by
    by_cases e : p.1 = k
    · simp [e]
    · have h' : r.any (fun kv => kv.1 = k) = true := by simpa [e] using h
      rw [List.map_cons, if_neg e, List.find?_cons_of_neg (by simpa using e)]
      exact find_map_key h'
theorem find_map_other {K : Type} [DecidableEq K] {k k' : K} {v : Value} (hne : k' ≠ k) : ∀ {l : List (K × Value)}, ((l.map fun kv => if kv.1 = k then (kv.1, v) else kv).find? fun kv => kv.1 = k') = (l.find? fun kv => kv.1 = k')
  | [] => rfl
  | p :: r => by
    by_cases e : p.1 = k
    · have : p.1 ≠ k' := fun q => hne (q ▸ e)
      rw [List.map_cons, if_pos e, List.find?_cons_of_neg (by simpa using this), List.find?_cons_of_neg (by simpa using this), find_map_other hne]
    · rw [List.map_cons, if_neg e]
      by_cases e' : p.1 = k'
      · rw [List.find?_cons_of_pos (by simpa using e'), List.find?_cons_of_pos (by simpa using e')]
      · rw [List.find?_cons_of_neg (by simpa using e'), List.find?_cons_of_neg (by simpa using e'), find_map_other hne]
theorem at_stored {K : Type} [DecidableEq K] {kvs : List (K × Value)} {k k' : K} {v : Value} : valueAt (stored kvs k v) k' = if k' = k then some v else valueAt kvs k' := by
  by_cases hk : k' = k
  · subst hk
    rw [if_pos rfl]
    unfold stored valueAt
    split
    · rename_i h; exact find_map_key h
    · rename_i h
      rw [List.find?_append]
      have : kvs.find? (fun kv => kv.1 = k') = none := by
        rw [List.find?_eq_none]
        intro p hp hh
        exact h (List.any_eq_true.mpr ⟨p, hp, hh⟩)
      rw [this]; simp
  · rw [if_neg hk]
    unfold stored valueAt
    split
    · rw [find_map_other hk]
    · rw [List.find?_append]
      cases hf : kvs.find? (fun kv => kv.1 = k') with
      | some p => rfl
      | none => simp [Ne.symm hk]
theorem dict_nodup {prog : Program} {w : World} {K : Type} [DecidableEq K] {knd : KeyKind prog w K} {o : Obj} {kvs : List (K × Value)} (h : o.IsDictOf knd kvs) : (kvs.map (·.1)).Nodup := by
  obtain ⟨_, _, _, _, _, _, hn⟩ := h
  exact hn
theorem at_idx {prog : Program} {w : World} {K : Type} [DecidableEq K] {knd : KeyKind prog w K} {o : Obj} {kvs : List (K × Value)} (h : o.IsDictOf knd kvs) {i : Nat} {k : K} {v : Value} (hx : kvs[i]? = some (k, v)) : valueAt kvs k = some v :=
  valueAt_of_get (dict_nodup h) hx
/-- a symbolic tail of the ledger stands off these addresses -/
theorem allLt_mem {d : Addr} : ∀ {l : List (Addr × Obj)}, AllLt d l → ∀ p ∈ l, @LT.lt Nat _ p.1 d
  | [], _, _, hp => nomatch hp
  | q :: r, h, p, hp => by
    rcases List.mem_cons.mp hp with rfl | hp
    · exact h.1
    · exact allLt_mem h.2 p hp
theorem off_more {tl : List (Addr × Obj)} {d : Addr} {adr : List Addr} (h : OwnOff tl adr) (hd : AllLt d tl) : OwnOff tl (d :: adr) := fun p hp b hb => by
  rcases List.mem_cons.mp hb with rfl | hb
  · exact Nat.ne_of_lt (allLt_mem hd p hp)
  · exact h p hp b hb
theorem off_app {tl own : List (Addr × Obj)} {adr : List Addr} (h : OwnOff tl adr) (h' : OwnOff own adr) : OwnOff (tl ++ own) adr := fun p hp b hb => by
  rcases List.mem_append.mp hp with hp | hp
  · exact h p hp b hb
  · exact h' p hp b hb
theorem off_sub {tl : List (Addr × Obj)} {adr adr' : List Addr} (h : OwnOff tl adr) (hs : ∀ b ∈ adr', b ∈ adr) : OwnOff tl adr' := fun p hp b hb => h p hp b (hs b hb)
theorem off_cons {tl : List (Addr × Obj)} {p : Addr × Obj} {adr : List Addr} (h : OwnOff tl adr) (hp : ∀ b ∈ adr, p.1 ≠ b) : OwnOff (p :: tl) adr := fun q hq b hb => by
  rcases List.mem_cons.mp hq with rfl | hq
  · exact hp b hb
  · exact h q hq b hb

theorem off_nil {adr : List Addr} : OwnOff [] adr := fun _ hp => nomatch hp
/-- the plain dict: place to octets -/
def HeldOk (hkvs : List (Int × Value)) (x : Bs) (v : Nat → Bs) : Prop :=
  (∀ k y, valueAt hkvs k = some y → ∃ q : Nat, k = (q : Int) ∧ ∃ t, y = .bytes (v q).toArray t) ∧ ∀ q : Nat, valueAt hkvs (q : Int) = none → v q = x
/-- a level's dict: the nodes over the held places -/
def LvOk (B : List Bs) (v : Nat → Bs) (hkvs : List (Int × Value)) (h : Nat) (kvs : List (Int × Value)) : Prop :=
  (∀ k y, valueAt kvs k = some y → ∃ q : Nat, k = (q : Int) ∧ ∃ e t, y = .bytes e.toArray t ∧ Nd B v h q e) ∧ ∀ q : Nat, (valueAt hkvs (q : Int)).isSome = true → (valueAt kvs ((q / 2 ^ h : Nat) : Int)).isSome = true
theorem LvOk.mono {B B' : List Bs} (p : B <+: B') {v : Nat → Bs} {hkvs : List (Int × Value)} {h : Nat} {kvs : List (Int × Value)} (x : LvOk B v hkvs h kvs) : LvOk B' v hkvs h kvs :=
  ⟨fun k y e => let ⟨q, a, e', t, b, c⟩ := x.1 k y e; ⟨q, a, e', t, b, c.mono p⟩, x.2⟩
/-- get with the empty node as default -/
theorem LvOk.get {B : List Bs} {v : Nat → Bs} {x : Bs} {hkvs : List (Int × Value)} {h : Nat} {kvs : List (Int × Value)} (a : LvOk B v hkvs h kvs) (b : HeldOk hkvs x v) {e : Bs} {te : Tok} (he : Em x B h e) (m : Nat) :
    ∃ e' t', (valueAt kvs (m : Int)).getD (.bytes e.toArray te) = .bytes e'.toArray t' ∧ Nd B v h m e' := by
  cases hv : valueAt kvs (m : Int) with
  | some y =>
    obtain ⟨q, e1, e', t', e2, e3⟩ := a.1 _ _ hv
    have : m = q := by omega
    subst this
    exact ⟨e', t', e2, e3⟩
  | none =>
    refine ⟨e, te, rfl, Nd.of_em (fun i hi => b.2 i ?_) he⟩
    cases hh : valueAt hkvs (i : Int) with
    | none => rfl
    | some y =>
      have := a.2 i (by rw [hh]; rfl)
      rw [hi, hv] at this
      cases this
end
open PySem PySem.W PySem.Calls PyProof.Rows in
local macro_rules | `(tactic| walk_at "InvPostG") => `(tactic| (dsimp only [InvPostG]))
open PySem PySem.W PySem.Calls PyProof.Rows in
local macro_rules | `(tactic| walk_at "InvEndG") => `(tactic| (with_reducible refine Hold.mk ?_))
open PySem PySem.W PySem.Calls PyProof.Rows in
local macro_rules | `(tactic| walk_at "call builtin:dict.get") => `(tactic| (k_here; k_dflt (refine get2_at (by k_asm) (by k_mem) (by k_asm) (by k_asm) (by assumption) ?_)))

section
-- GL
open PySem PySem.W PySem.Calls PyProof.Rows
set_option Elab.async false
set_option maxRecDepth 100000
set_option linter.unusedVariables false
structure LvS where
  od : Obj
  B : List Bs
  o : Obj
  kvs : List (Int × Value)
structure LwS where
  od : Obj
  B : List Bs
  ld : Addr
  o : Obj
  kvs : List (Int × Value)
  tl : List (Addr × Obj)
  vs : List Value
  cnt : Nat
section
set_option maxHeartbeats 4000000 in
theorem levels_spec {w : World} {A : Around} {base g : Heap} {fr : List Env} {mean : ExcName → Option Value} {mg mb : Str → Option Value} {s : Shared} {R : Result → Shared → Prop}
    {f c ce d hld em : Addr} {fo oc oe od hobj : Obj} {B : List Bs} {x : Bs} {v : Nat → Bs} {hkvs : List (Int × Value)} {vsE : List Value} {esE : List Bs} {cntE : Nat} {tn : Tok} {n : Nat}
    (C : Ctx w A base fr g mean mg mb) (O : Own g s.heap [(hld, hobj), (em, listOf vsE.toArray cntE), (f, fo), (c, oc), (ce, oe), (d, od)]) (H : IsHash f c ce d fo oc oe) (hB : IsBook w od B)
    (hroom : A.depth + 10 < recursionLimit) (hh : A.handled = none) (hlen : B.length < 100000) (hn : n ≤ 256)
    (hHd : hobj.IsDictOf (intKind PR w) hkvs) (hHo : HeldOk hkvs x v) (hHl : hkvs.length ≤ 3) (hHs : (hld == sysModules) = false)
    (hE1 : BsAre vsE esE) (hE2 : esE.length = n + 1) (hE3 : ∀ i e, esE[i]? = some e → Em x B i e)
    (nH : @Ne Nat hld em ∧ @Ne Nat hld f ∧ @Ne Nat hld c ∧ @Ne Nat hld ce ∧ @Ne Nat hld d) (nE : @Ne Nat em f ∧ @Ne Nat em c ∧ @Ne Nat em ce ∧ @Ne Nat em d)
    (hQ : ∀ h' tk l (vs : List Value) cnt tl od' B', Own g h' ([(l, listOf vs.toArray cnt), (hld, hobj), (em, listOf vsE.toArray cntE), (f, fo), (c, oc), (ce, oe), (d, od')] ++ tl) → IsBook w od' B' → Ext (3 * (n + 1)) B B' → vs.length = n + 1 →
      (∀ i, i ≤ n → ∃ a o kvs, vs[i]? = some (.ref a) ∧ (a, o) ∈ tl ∧ o.IsDictOf (intKind PR w) kvs ∧ (a == sysModules) = false ∧ LvOk B' v hkvs i kvs) →
      OwnOff tl [l, hld, em, f, c, ce, d] → (@LT.lt Nat _ hld l ∧ @LT.lt Nat _ em l ∧ @LT.lt Nat _ f l ∧ @LT.lt Nat _ c l ∧ @LT.lt Nat _ ce l ∧ @LT.lt Nat _ d l) → R (.ok (.ret (.ref l))) { s with heap := h', toks := tk }) :
    codeAny (model PR w) A (.call (.ref 274) ⟨[.ref hld, .int (n : Int) tn, .ref em, .ref f], []⟩) R s := by
  obtain ⟨nH1, nH2, nH3⟩ := H.2
  obtain ⟨nh1, nh2, nh3, nh4, nh5⟩ := nH
  obtain ⟨ne1, ne2, ne3, ne4⟩ := nE
  obtain ⟨X', T', B'⟩ : (hd.heap_39 w.params).In g ∧ Top topProg LOOSE mean mg mb g ∧ Below A base fr g := ⟨C.X, C.T, C.B⟩
  w_on
  refine' enter (binds := [(Str.ofString "held", .ref hld), (Str.ofString "depth", .int (n : Int) tn), (Str.ofString "empty", .ref em), (Str.ofString "hash_of", .ref f)]) C O ?k6 ?k7 ?k8 ?k9 ?kB ?c5 ?c2 ?c3 ?c4 ?_
  (case k6 => k_is)
  (case k7 => k_is)
  (case k8 => k_room)
  (case k9 => exact BindsTo.of_eq rfl)
  (case kB => exact locs rfl)
  (case c5 => decide)
  (case c2 => exact rfl)
  (case c3 => exact rfl)
  (case c4 => exact rfl)
  intro L' h₁ F' N' lt'
  (try k_fold)
  k_steps
  rename Fr _ _ _ _ => F2
  rename News _ _ _ _ => N2

  replace N2 := kst_newsOf N2 (l' := [(hld, hobj), (dN, oN), (em, listOf vsE.toArray cntE), (f, fo), (c, oc), (ce, oe), (d, od)]) (by k_allIn)
  unfold Hold
  refine' kst_dict (σ := LvS) (knd := intKind PR w) (dct := hld) (odct := hobj) (kvs := hkvs) [(hld, hobj)] (fun c' => [(dN, c'.o), (em, listOf vsE.toArray cntE), (f, fo), (c, oc), (ce, oe), (d, c'.od)]) (fun _ => [])
    (fun c' => IsBook w c'.od c'.B ∧ c'.o.IsDictOf (intKind PR w) c'.kvs) []
    (fun pre c' => Ext pre.length B c'.B ∧ c'.kvs.length ≤ pre.length ∧ (∀ k y, valueAt c'.kvs k = some y → ∃ q : Nat, k = (q : Int) ∧ ∃ e t, y = .bytes e.toArray t ∧ Nd c'.B v 0 q e) ∧ (∀ j k y, j < pre.length → hkvs[j]? = some (k, y) → (valueAt c'.kvs k).isSome = true))
    ⟨od, B, oN, []⟩ hh (List.Mem.head _) hHd hHs ?hne F2 N2 ?hf ?hk ?hp ?turn ?done
  case hne =>
    intro q hq
    simp only [List.mem_cons, List.not_mem_nil, or_false] at hq
    rcases hq with rfl | rfl | rfl | rfl | rfl | rfl <;> (dsimp only; refine neN ?_; omega)
  case hf => exact ⟨hB, hiN⟩
  case hk => exact fun p hp => nomatch hp
  case hp =>
    refine ⟨Ext.refl _ _, Nat.le_refl _, fun k y h => ?_, fun j k y h => absurd h (Nat.not_lt_zero _)⟩
    dsimp only at h
    cases h
  case turn =>
    intro c' pre kv u h tk own hlt ⟨k, y, hkv, hk⟩ hoff _ ⟨fB, fD⟩ ⟨pE, pL, pV, pK⟩ F3 N3
    obtain ⟨od2, B2, o2, kvs2⟩ := c'
    dsimp only at fB fD pE pL pV pK
    replace F3 : Fr g L' h _ := F3
    replace N3 : News g L' h _ := N3
    simp only [List.cons_append, List.nil_append, List.map_cons, List.map_nil] at N3 hoff
    (try dsimp only at F3 N3)
    obtain ⟨tkk, rfl⟩ := Value.isInt_shape hk
    have hx := at_idx hHd hkv
    obtain ⟨q, rfl, ty, rfl⟩ := hHo.1 _ _ hx
    have hB2l := pE.2
    (try k_fold)
    k_steps
    rename Fr _ _ _ _ => F4
    rename News _ _ _ _ => N4
    unfold Hold
    refine' kst_end ⟨od', Bk', oS, stored kvs2 (q : Int) (.bytes y'.toArray tv')⟩ F4 N4 ?hn ?ho ?ha ?hf ?hk ?hr ?hp
    case hn =>
      simp only [List.cons_append, List.nil_append]
      k_allIn
    case ho => exact fun p hp => by k_ownIn
    case ha => rfl
    case hf => exact ⟨hB', hdS⟩
    case hk => exact fun p hp => nomatch hp
    case hr =>
      intro z h1 h2 h3
      simp [h1, kstB]
    case hp =>
      have hlen1 := stored_length_le kvs2 (q : Int) (.bytes y'.toArray tv')
      simp only [List.length_append, List.length_cons, List.length_nil, Nat.zero_add]
      refine ⟨pE.trans hE', by omega, fun k' y2 he => ?_, fun j k' y2 hj he => ?_⟩
      · rw [at_stored] at he
        split at he
        · rename_i e; subst e
          cases he
          exact ⟨q, rfl, y', _, rfl, hH'⟩
        · obtain ⟨q2, a1, e2, t2, a2, a3⟩ := pV k' y2 he
          exact ⟨q2, a1, e2, t2, a2, a3.mono hE'.1⟩
      · rw [at_stored]
        split
        · rfl
        · rename_i e
          refine pK j k' y2 ?_ he
          by_cases hjj : j = pre.length
          · subst hjj
            rw [hkv] at he
            cases he
            exact absurd rfl e
          · omega
  case done =>
    intro c' u h tk ⟨fB, fD⟩ ⟨pE, pL, pV, pK⟩ F3 N3
    obtain ⟨od2, B2, o2, kvs2⟩ := c'
    dsimp only at fB fD pE pL pV pK
    rw [rangeKs_length] at pE pL pK
    replace F3 : Fr g L' h _ := F3
    replace N3 : News g L' h _ := N3
    simp only [List.cons_append, List.nil_append, List.map_cons, List.map_nil] at N3
    have hL0 : LvOk B2 v hkvs 0 kvs2 := ⟨pV, fun q hq => by
      cases hv : valueAt hkvs (q : Int) with
      | none => rw [hv] at hq; cases hq
      | some y =>
        obtain ⟨i, hi⟩ := idx_valueAt hv
        have := pK i _ _ (List.getElem?_eq_some_iff.mp hi).1 hi
        simpa using this⟩
    have hB2l := pE.2
    dsimp only
    (try k_fold)
    k_steps
    rename Fr _ _ _ _ => F4
    rename News _ _ _ _ => N4
    rename IsRange _ _ _ _ _ _ _ _ => hr
    try dsimp only at F4 N4 hr
    replace N4 := kst_newsOf N4 (l' := [(lL, listOf #[.ref dN] 0), (dN, o2), (hld, hobj), (em, listOf vsE.toArray cntE), (f, fo), (c, oc), (ce, oe), (d, od2)]) (by k_allIn)
    unfold Hold
    refine' kst_rangeG (σ := LwS) (fun c' => [(lL, listOf c'.vs.toArray c'.cnt), (c'.ld, c'.o), (hld, hobj), (em, listOf vsE.toArray cntE), (f, fo), (c, oc), (ce, oe), (d, c'.od)] ++ c'.tl) (fun c' => [(Str.ofString "level", .ref c'.ld)])
      (fun c' => IsBook w c'.od c'.B ∧ c'.o.IsDictOf (intKind PR w) c'.kvs ∧ (c'.ld == sysModules) = false ∧ OwnOff c'.tl [lL, c'.ld, hld, em, f, c, ce, d] ∧ (@LT.lt Nat _ hld c'.ld ∧ @LT.lt Nat _ em c'.ld ∧ @LT.lt Nat _ f c'.ld ∧ @LT.lt Nat _ c c'.ld ∧ @LT.lt Nat _ ce c'.ld ∧ @LT.lt Nat _ d c'.ld ∧ @Ne Nat lL c'.ld) ∧ c'.kvs.length ≤ 3)
      [Str.ofString "above", Str.ofString "left", Str.ofString "right", Str.ofString "number"]
      (fun pre c' => Ext (3 * (pre.length + 1)) B c'.B ∧ pre.length ≤ n ∧ c'.vs.length = pre.length + 1 ∧ c'.vs[pre.length]? = some (.ref c'.ld) ∧ LvOk c'.B v hkvs pre.length c'.kvs ∧
        ∀ i, i < pre.length → ∃ a o kvs, c'.vs[i]? = some (.ref a) ∧ (a, o) ∈ c'.tl ∧ o.IsDictOf (intKind PR w) kvs ∧ (a == sysModules) = false ∧ LvOk c'.B v hkvs i kvs)
      ⟨od2, B2, dN, o2, kvs2, [], [.ref dN], 0⟩ hh hr (by omega) F4 N4 ?hf ?hk ?hp ?turn ?done
    case hf => exact ⟨fB, fD, loN, off_nil, ⟨lN.1, lN.2.1, lN.2.2.1, lN.2.2.2.1, lN.2.2.2.2.1, lN.2.2.2.2.2, by dsimp only; omega⟩, by dsimp only; omega⟩
    case hk =>
      refine List.forall_mem_cons.mpr ⟨?_, fun _ h => nomatch h⟩
      with_unfolding_all rfl
    case hp => exact ⟨pE.le (by simp only [List.length_nil]; omega), Nat.zero_le _, rfl, rfl, hL0, fun i hi => absurd hi (Nat.not_lt_zero _)⟩
    case turn =>
      clear hL0 hB2l pE pL pV pK fB fD F4 N4 hr
      intro c' pre k t u h tk own hk hlt hoff ⟨fB, fD, fS, fO, fL, fK⟩ ⟨pE, pN, pL, pZ, pV, pA⟩ F3 N3
      obtain ⟨od3, B3, ld, o3, kvs3, tl, vs3, cnt3⟩ := c'
      dsimp only at fB fD fS fO fL fK pE pL pZ pV pA
      obtain ⟨fl1, fl2, fl3, fl4, fl5, fl6, fl7⟩ := fL
      replace F3 : Fr g L' h _ := F3
      replace N3 : News g L' h _ := N3
      have hoff2 := off_app fO (off_sub (adr' := [lL, ld, hld, em, f, c, ce, d]) hoff (by intro b hb; simp only [List.map_append, List.map_cons]; exact List.mem_append_left _ hb))
      simp only [List.cons_append, List.nil_append, List.map_cons, List.map_nil] at N3
      obtain ⟨tl2, htl⟩ : ∃ tl2, tl2 = tl ++ own := ⟨_, rfl⟩
      rw [← htl] at hoff2 N3
      have hB3l := pE.2
      (try dsimp only at F3 N3)
      (try k_fold)
      k_steps
      rename Fr _ _ _ _ => F4
      rename News _ _ _ _ => N4
      have hoff4 : OwnOff tl2 [dN, lL, ld, hld, em, f, c, ce, d] := off_more hoff2 lN.2.2.2.2.2.2.2.2
      have N5 : News g L' _ ([(ld, o3)] ++ ([(dN, oN), (lL, listOf vs3.toArray cnt3), (hld, hobj), (em, listOf vsE.toArray cntE), (f, fo), (c, oc), (ce, oe), (d, od3)] ++ tl2)) := fun p hp => N4 p (by
        simp only [List.cons_append, List.nil_append, List.mem_cons] at hp ⊢
        rcases hp with h | h | h | h | h | h | h | h | h | h <;> simp only [h, true_or, or_true])
      unfold Hold
      refine' kst_dict (σ := LvS) (knd := intKind PR w) (dct := ld) (odct := o3) (kvs := kvs3) [(ld, o3)] (fun c' => [(dN, c'.o), (lL, listOf vs3.toArray cnt3), (hld, hobj), (em, listOf vsE.toArray cntE), (f, fo), (c, oc), (ce, oe), (d, c'.od)] ++ tl2) (fun _ => [])
        (fun c' => IsBook w c'.od c'.B ∧ c'.o.IsDictOf (intKind PR w) c'.kvs) [Str.ofString "left", Str.ofString "right"]
        (fun pre' c' => Ext pre'.length B3 c'.B ∧ c'.kvs.length ≤ pre'.length ∧ (∀ k y, valueAt c'.kvs k = some y → ∃ q : Nat, k = (q : Int) ∧ ∃ e t, y = .bytes e.toArray t ∧ Nd c'.B v (pre.length + 1) q e) ∧
          (∀ (j q : Nat) y, j < pre'.length → kvs3[j]? = some ((q : Int), y) → (valueAt c'.kvs ((q / 2 : Nat) : Int)).isSome = true))
        ⟨od3, B3, oN, []⟩ hh (List.Mem.head _) fD fS ?hne2 F4 N5 ?hf2 ?hk2 ?hp2 ?turn2 ?done2
      case hne2 =>
        intro q hq
        simp only [List.cons_append, List.nil_append, List.mem_cons] at hq
        rcases hq with rfl | rfl | rfl | rfl | rfl | rfl | rfl | rfl | hq
        all_goals first
          | (dsimp only; refine neN ?_; omega)
          | exact hoff2 _ hq _ (by k_memK)
      case hf2 => exact ⟨fB, hiN⟩
      case hk2 => exact fun p hp => nomatch hp
      case hp2 =>
        refine ⟨Ext.refl _ _, Nat.le_refl _, fun k y h => ?_, fun j k y h => absurd h (Nat.not_lt_zero _)⟩
        dsimp only at h
        cases h
      case turn2 =>
        clear N4 N5 hsN hiN
        intro c' pre' kv u2 h tk own' hlt' ⟨k', y, hkv, hk'⟩ hoff' _ ⟨gB, gD⟩ ⟨qE, qL, qV, qK⟩ F6 N6
        obtain ⟨od4, B4, o4, kvs4⟩ := c'
        dsimp only at gB gD qE qL qV qK
        replace F6 : Fr g L' h _ := F6
        replace N6 : News g L' h _ := N6
        have hoff5 : OwnOff (tl2 ++ own') [dN, lL, hld, em, f, c, ce, d] := off_app (off_sub hoff4 (by intro b hb; simp only [List.mem_cons, List.not_mem_nil, or_false] at hb ⊢; rcases hb with h | h | h | h | h | h | h | h <;> simp only [h, true_or, or_true])) (off_sub hoff' (by intro b hb; simp only [List.map_append, List.map_cons]; exact List.mem_append_left _ hb))
        simp only [List.cons_append, List.nil_append] at N6
        obtain ⟨tl5, htl5⟩ : ∃ tl5, tl5 = tl2 ++ own' := ⟨_, rfl⟩
        rw [← htl5] at hoff5 N6
        (try dsimp only at F6 N6)
        obtain ⟨tkk, rfl⟩ := Value.isInt_shape hk'
        obtain ⟨q, rfl, e0, t0, rfl, hN0⟩ := pV.1 _ _ (at_idx fD hkv)
        have hB4l := qE.2
        obtain ⟨ee, hee⟩ : ∃ e, esE[pre.length]? = some e := ⟨_, List.getElem?_eq_getElem (by omega)⟩
        obtain ⟨te, hx⟩ := hE1.get hee
        have hkn : k.toNat = pre.length := by omega
        rw [← hkn] at hx
        have hEm := (hE3 _ _ hee).mono pE.1
        have hLv : LvOk B3 v hkvs pre.length kvs3 := pV
        obtain ⟨el, tel, hg1, hNl⟩ := hLv.get hHo hEm (te := te) (2 * (q / 2))
        obtain ⟨er, ter, hg2, hNr⟩ := hLv.get hHo hEm (te := te) (2 * (q / 2) + 1)
        have hq2 : Int.fdiv (q : Int) 2 = ((q / 2 : Nat) : Int) := by rw [Int.fdiv_eq_ediv_of_nonneg _ (by decide)]; omega
        rw [show ((2 * (q / 2) : Nat) : Int) = Int.fdiv (q : Int) 2 * 2 by rw [hq2]; omega] at hg1
        rw [show ((2 * (q / 2) + 1 : Nat) : Int) = Int.fdiv (q : Int) 2 * 2 + 1 by rw [hq2]; omega] at hg2
        have hll := hNl.len
        have hrl := hNr.len
        (try k_fold)
        k_steps
        unfold Hold
        refine' kst_end ⟨od', Bk', oS, stored kvs4 (Int.fdiv (q : Int) 2) (.bytes y'.toArray tv')⟩ FS NS ?hn3 ?ho3 ?ha3 ?hf3 ?hk3 ?hr3 ?hp3
        case hn3 =>
          intro p hp
          simp only [List.cons_append, List.nil_append, List.mem_cons] at hp ⊢
          rw [htl5]
          rcases hp with h | h | h | h | h | h | h | h | h | h
          all_goals first
            | (simp only [h, true_or, or_true]; done)
            | (have := List.mem_append_left own' h; simp only [this, or_true])
        case ho3 =>
          intro p hp
          have := htl5 ▸ List.mem_append_right tl2 hp
          simp only [List.mem_cons, this, or_true]
        case ha3 => rfl
        case hf3 => exact ⟨hB', hdS⟩
        case hk3 => exact fun p hp => nomatch hp
        case hr3 =>
          intro z h1 h2 h3
          have b := off_stored h3
          simp only [List.forall_mem_cons] at b
          simp [h1, b, kstB]
        case hp3 =>
          have hlen1 := stored_length_le kvs4 (Int.fdiv (q : Int) 2) (.bytes y'.toArray tv')
          simp only [List.length_append, List.length_cons, List.length_nil, Nat.zero_add]
          refine ⟨qE.trans hE', by omega, fun k' y2 he => ?_, fun j q' y2 hj he => ?_⟩
          · rw [at_stored] at he
            split at he
            · rename_i e; subst e
              cases he
              exact ⟨q / 2, hq2, y', _, rfl, el, er, (hNl.mono qE.1).mono hE'.1, (hNr.mono qE.1).mono hE'.1, hH'⟩
            · obtain ⟨q2, a1, e2, t2, a2, a3⟩ := qV k' y2 he
              exact ⟨q2, a1, e2, t2, a2, a3.mono hE'.1⟩
          · rw [at_stored]
            split
            · rfl
            · rename_i e
              refine qK j q' y2 ?_ he
              by_cases hjj : j = pre'.length
              · subst hjj
                rw [hkv] at he
                simp only [Option.some.injEq, Prod.mk.injEq, Int.natCast_inj] at he
                exact absurd (by rw [hq2, he.1]) e
              · omega
      case done2 =>
        intro c' u2 h tk ⟨gB, gD⟩ ⟨qE, qL, qV, qK⟩ F6 N6
        obtain ⟨od4, B4, o4, kvs4⟩ := c'
        dsimp only at gB gD qE qL qV qK
        rw [rangeKs_length] at qE qL qK
        replace F6 : Fr g L' h _ := F6
        replace N6 : News g L' h _ := N6
        simp only [List.cons_append, List.nil_append] at N6
        (try dsimp only at F6 N6)
        have hL1 : LvOk B4 v hkvs (pre.length + 1) kvs4 := ⟨qV, fun q hq => by
          have h1 := pV.2 q hq
          cases hv : valueAt kvs3 ((q / 2 ^ pre.length : Nat) : Int) with
          | none => rw [hv] at h1; cases h1
          | some y =>
            obtain ⟨i, hi⟩ := idx_valueAt hv
            have := qK i _ _ (List.getElem?_eq_some_iff.mp hi).1 hi
            rw [Nat.div_div_eq_div_mul, ← Nat.pow_succ] at this
            exact this⟩
        have hB4l := qE.2
        have hvl : vs3.length = pre.length + 1 := pL
        dsimp only
        (try k_fold)
        k_steps
        rename Fr _ _ _ _ => F8
        rename News _ _ _ _ => N8
        simp only [List.push_toArray] at N8
        unfold Hold
        refine' kst_endG ⟨od4, B4, dN, o4, kvs4, (ld, o3) :: tl, vs3 ++ [.ref dN], cnt3 + 1⟩ F8 N8 ?hn4 ?ho4 ?ha4 ?hf4 ?hk4 ?hr4 ?hp4
        case hn4 =>
          intro p hp
          simp only [List.cons_append, List.nil_append, List.mem_cons] at hp ⊢
          rw [htl]
          rcases hp with h | h | h | h | h | h | h | h | h | h
          all_goals first
            | (simp only [h, true_or, or_true]; done)
            | (have := List.mem_append_left own h; simp only [this, or_true])
        case ho4 =>
          intro p hp
          have := htl ▸ List.mem_append_right tl hp
          simp only [List.mem_cons, this, or_true]
        case ha4 =>
          intro p hp b hb
          have hp2 : p ∈ tl2 := htl ▸ List.mem_append_right tl hp
          simp only [List.map_cons, List.map_nil, List.cons_append, List.nil_append, List.mem_cons] at hb
          rcases hb with rfl | rfl | rfl | rfl | rfl | rfl | rfl | rfl | rfl | hb
          case inr.inr.inr.inr.inr.inr.inr.inr.inr => exact hoff p hp b (by simp only [List.map_append]; exact List.mem_append_right _ hb)
          all_goals exact hoff4 p hp2 _ (by k_memK)
        case hf4 =>
          refine ⟨gB, gD, loN, ?_, ⟨lN.2.2.1, lN.2.2.2.1, lN.2.2.2.2.1, lN.2.2.2.2.2.1, lN.2.2.2.2.2.2.1, lN.2.2.2.2.2.2.2.1, ?_⟩, ?_⟩
          · refine off_cons (off_sub (adr' := [lL, dN, hld, em, f, c, ce, d]) (fun p hp => hoff4 p (htl ▸ List.mem_append_left own hp)) ?_) ?_
            · intro b hb
              simp only [List.mem_cons, List.not_mem_nil, or_false] at hb ⊢
              rcases hb with h | h | h | h | h | h | h | h <;> simp only [h, true_or, or_true]
            · intro b hb
              simp only [List.mem_cons, List.not_mem_nil, or_false] at hb
              rcases hb with rfl | rfl | rfl | rfl | rfl | rfl | rfl | rfl <;> (refine neN ?_; dsimp only; omega)
          · dsimp only
            omega
          · dsimp only
            omega
        case hk4 =>
          refine List.forall_mem_cons.mpr ⟨?_, fun _ h => nomatch h⟩
          dsimp only; simp only [if_true, kstB]
        case hr4 =>
          intro z h1 h2 h3
          have b := off_stored h3
          simp only [List.forall_mem_cons] at b h2
          simp [h1, h2, b, kstB]
        case hp4 =>
          simp only [List.length_append, List.length_cons, List.length_nil, Nat.zero_add]
          refine ⟨(pE.trans qE).le (by omega), by omega, by omega, ?_, hL1, fun i hi => ?_⟩
          · rw [List.getElem?_append_right (by omega), show pre.length + 1 - vs3.length = 0 by omega]; rfl
          · have hi1 : i < vs3.length := by omega
            rw [List.getElem?_append_left hi1]
            by_cases hip : i = pre.length
            · subst hip
              exact ⟨ld, o3, kvs3, pZ, List.mem_cons_self .., fD, fS, pV.mono qE.1⟩
            · obtain ⟨a, o, kk, a1, a2, a3, a4, a5⟩ := pA i (by omega)
              exact ⟨a, o, kk, a1, List.mem_cons_of_mem _ a2, a3, a4, a5.mono qE.1⟩
    case done =>
      intro c' u h tk ⟨fB, fD, fS, fO, fL, fK⟩ ⟨pE, pN, pL, pZ, pV, pA⟩ F3 N3
      obtain ⟨od3, B3, ld, o3, kvs3, tl, vs3, cnt3⟩ := c'
      dsimp only at fB fD fS fO fL fK pE pL pZ pV pA
      obtain ⟨fl1, fl2, fl3, fl4, fl5, fl6, fl7⟩ := fL
      rw [rangeKs_length] at pE pL pZ pV pA
      replace F3 : Fr g L' h _ := F3
      replace N3 : News g L' h _ := N3
      simp only [List.cons_append, List.nil_append] at N3
      (try dsimp only at F3 N3)
      dsimp only
      (try k_fold)
      k_steps
      show R (.ok (.ret (.ref _))) _
      refine hQ _ _ lL vs3 cnt3 ((ld, o3) :: tl) od3 B3 (own_of F3 fun p hp => N3 p ?_) fB pE pL (fun i hi => ?_) ?_ ⟨ltL.1, ltL.2.2.1, ltL.2.2.2.1, ltL.2.2.2.2.1, ltL.2.2.2.2.2.1, ltL.2.2.2.2.2.2⟩
      · simp only [List.cons_append, List.nil_append, List.mem_cons] at hp ⊢
        rcases hp with h | h | h | h | h | h | h | h | h <;> simp only [h, true_or, or_true]
      · by_cases hip : i = n
        · subst hip
          exact ⟨ld, o3, kvs3, pZ, List.mem_cons_self .., fD, fS, pV⟩
        · obtain ⟨a, o, kk, a1, a2, a3, a4, a5⟩ := pA i (by omega)
          exact ⟨a, o, kk, a1, List.mem_cons_of_mem _ a2, a3, a4, a5⟩
      · refine off_cons (off_sub fO ?_) ?_
        · intro b hb
          simp only [List.mem_cons, List.not_mem_nil, or_false] at hb ⊢
          rcases hb with h | h | h | h | h | h | h <;> simp only [h, true_or, or_true]
        · intro b hb
          simp only [List.mem_cons, List.not_mem_nil, or_false] at hb
          rcases hb with rfl | rfl | rfl | rfl | rfl | rfl | rfl <;> (refine neN ?_; dsimp only; omega)
end
end

section
-- GC0
open PySem PySem.W PySem.Calls PyProof.Rows PySem.Spec
set_option Elab.async false
set_option maxRecDepth 100000
set_option linter.unusedVariables false
theorem rsizeD (n : Nat) : Builtin.Range.rangeSize ((n : Int) - 1) (-1) (-1) = (n : Int) := by
  unfold Builtin.Range.rangeSize
  simp
  omega
theorem rsmallD {n : Nat} (h : n ≤ 100000) : Builtin.Range.small ((n : Int) - 1) (-1) (-1) = true := by
  unfold Builtin.Range.small
  rw [rsizeD]
  simp only [Builtin.Range.rangeFitsLong, Bool.and_eq_true, Bool.or_eq_true, decide_eq_true_eq, beq_iff_eq]
  simp
  omega
section
variable {w : World} {A : Around} {base g : Heap} {fr : List Env} {mean : ExcName → Option Value} {mg mb : Str → Option Value} {s : Shared} {FP : List (Addr × Obj)}
  {R : Result → Shared → Prop} {name qual : Str} {params : Arguments} {body : List Stmt} {scope : Scope} {dV kV doc pm cdv ct oc : Value} {an od : Option Addr} {osl : Array (Option Value)} {f : Addr} {args : Args} {binds : List (Str × Value)}
/-- a def of the text's top with cells -/
theorem enterC (C : Ctx w A base fr g mean mg mb) (O : Own g s.heap FP)
    (ho : (hd.heap_39 w.params).lookup f = some ⟨oc, od, .func (fnOf name qual params body scope dV kV doc pm an cdv ct), osl⟩) (hcd : codeIn (hd.heap_39 w.params) cdv qual = true) (hroom : A.depth < recursionLimit)
    (hbind : BindsTo s (fnOf name qual params body scope dV kV doc pm an cdv ct) args binds) (hkind : (binds.all fun y => scope.names.lookup y.1 == some .local || scope.names.lookup y.1 == some .cell) = true)
    (hnd : ((cellsFrom 0 scope.names []).map (·.1)).Nodup) (hco : scope.isCoroutine = false) (hgen : scope.isGenerator = false) (hk : scope.kind = .function)
    (h : ∀ L' h₁ tk cells, Fr g L' h₁ (bindL (envOfC qual scope L' f cdv).kindOf binds fun _ => none) → News g L' h₁ (cells ++ FP) → CellsAre (bindC (envOfC qual scope L' f cdv).kindOf binds fun _ => none) (cellsFrom (L' + 1) scope.names []) cells → (∀ p ∈ FP, p.1 < L') →
      wpAny (model PR w) (A.deeper (envOfC qual scope L' f cdv)) (execs body (envOfC qual scope L' f cdv))
        (fun fl s' => Back R (match fl with | .ret v => v | _ => .none) s')
        (fun e s' => wpAny (model PR w) (A.deeper (envOfC qual scope L' f cdv)) (leaving (envOfC qual scope L' f cdv) e) (fun _ s'' => R (.error e) s'') (fun e' s'' => R (.error e') s'') s')
        { s with heap := h₁, toks := tk }) :
    codeAny (model PR w) A (.call (.ref f) args) R s := by
  refine codeAny_call_function hroom ((C.X.keeps O.stays) _ _ ho) rfl hco hgen rfl (codeRec_of (C.X.keeps O.stays) hcd) (hbind _ _ _ _ ?_)
  refine wpAny_newFunctionEnv_cells hk (kindsX hkind _) fun env' he s' x => ?_
  subst he
  refine ⟨(C.T.nolimit.keeps O.stays).keeps x.toInCall.keep, codeAny_func ?_⟩
  obtain ⟨h₁, tk, rfl, _⟩ := x.done
  have hk₁ := x.toInCall.keep
  obtain ⟨cells, NC, Y⟩ := Cl.news (h₀ := s.heap) (Nat.le_refl _) fun n c hm => ⟨x.cell n c (lookup_of_mem_nodup (cellsFrom_names scope.names 0 (s.heap.objs.size + 1) [] [] rfl ▸ hnd) hm), x.above n c hm⟩
  refine h s.heap.objs.size h₁ tk cells ⟨x.toInCall.ns, fun b o e => hk₁ b o (O.stays b o e), O.size⟩ (fun p hp => ?_) Y (fun p hp => Heap.lt_size (O.own p hp).1)
  rcases List.mem_append.mp hp with hp | hp
  · refine ⟨(NC p hp).1, (NC p hp).2.1, ?_⟩
    cases q : g.get? p.1 with
    | none => rfl
    | some o => have := O.stays _ _ q; rw [(NC p hp).2.2] at this; cases this
  · exact ⟨hk₁ _ _ (O.own p hp).1, Nat.ne_of_lt (Heap.lt_size (O.own p hp).1), (O.own p hp).2⟩
end
section
variable {prog : Program} {w : World} {A : Around} {E : Value → Shared → Prop} {s : Shared} {h₀ : Heap} {L : Addr} {m : Str → Option Value} {env : Env}
/-- the source of a list display that counts down to 0 -/
def DownSrc (prog : Program) (w : World) (A : Around) (h₀ : Heap) (L : Addr) (m : Str → Option Value) (env : Env) (elt : PySem.Expr) (x : Str) (scope : Scope) (cl : List (Str × Addr)) (Fin : Shared → List Value → List (Addr × Obj) → Prop) (xv : Value) (s₁ : Shared) : Prop :=
  ∃ r t u v, ∃ (n : Nat) (news : List (Addr × Obj)), xv = .ref r ∧ A.handled = none ∧ Fr h₀ L s₁.heap m ∧ News h₀ L s₁.heap news ∧ IsRange s₁.heap r ((n : Int) - 1) (-1) (-1) t u v ∧ n ≤ 100000 ∧
    ∀ s₂ : Shared, (∃ h, s₂ = { s₁ with heap := h }) → LCg.CompRest prog w A h₀ L m env elt x scope cl s₂ (fun _ => True) (fun i v => ∃ t, v = .int ((n : Int) - 1 - (i : Int)) t) (Fin s₂) n 0 [] news
theorem down_walks {I : Addr} (hh : A.handled = none) (n : Nat) : Walks prog w A I [I] [I] n (fun i v => ∃ t, v = .int ((n : Int) - 1 - (i : Int)) t) (fun i h => IsRangeIter h I (((n : Int) - 1) + (i : Nat) * (-1)) ((n : Int) - (i : Nat)) (-1)) :=
  let W : Walks prog w A I [I] [I] n (fun i v => i < n ∧ ∃ t, v = .int (((n : Int) - 1) + i * (-1)) t) (fun i h => IsRangeIter h I (((n : Int) - 1) + (i : Nat) * (-1)) ((n : Int) - (i : Nat)) (-1)) := (Walks.range hh I ((n : Int) - 1) (-1) n).bound
  { sub := W.sub, frame := W.frame, done := W.done, self := W.self,
    item := fun i s Q E hi st hQ => W.item i s Q E hi st fun v h' tk hP => hQ v h' tk (by obtain ⟨_, t, rfl⟩ := hP; exact ⟨t, by rw [Int.mul_neg, Int.mul_one, Int.sub_eq_add_neg (b := (i : Int))]⟩) }
theorem ListComp_R {elt iter : PySem.Expr} {x : Str} {px : Pos} {scope : Scope} {cl : List (Str × Addr)} {pos : Pos} {Q : Value → Shared → Prop} (F₀ : Fr h₀ L s.heap m)
    (hclos : closureFor scope env = pure cl) (hcell : ∀ y ∈ scope.names, y.2 ≠ .cell) (hkind : scope.kind = .function)
    (hnames : ∀ y ∈ scope.names, y.2 = .local → scope.names.lookup y.1 = some .local) (hx : scope.names.lookup x = some .local)
    (h : wpAny (model prog w) A (eval iter env) (DownSrc prog w A h₀ L m env elt x scope cl (fun s₂ => LCg.FinE h₀ L m s₂ Q)) E s)
    (hs : ∀ x, foldedSetIterable iter env x = pure x := by intro _; rfl) :
    wpAny (model prog w) A (eval (.ListComp elt [⟨.Name x px, iter, [], 0⟩] scope pos) env) Q E s := by
  rw [eval_ListComp]
  refine wpAny_comprehension_free (use := none) rfl hs hclos hkind hnames (wpAny_mono h (fun xv s₁ h₁ => ?_) fun _ _ e => e)
  obtain ⟨r, t, u, v, n, news, rfl, hh, F, N, hr, hn, R⟩ := h₁
  refine wpAny_pyIter_range hr (rsmallD hn) ?_
  refine LCg.block_U (down_walks hh n) (by rw [sizeLine_eq]; omega) (fun i h st => ⟨_, st⟩) (fun i h h' o nw st e e' _ _ _ => by
      have st' : h.get? s₁.heap.objs.size = some _ := st
      show h'.get? s₁.heap.objs.size = some _
      rw [e', ← e]; exact st') hcell hkind hx (by show IsRangeIter _ _ _ _ _; rw [rsizeD]; simpa using Heap.get?_push_size _ rfl) (fun b hb => ?_)
    (F.keeps fun _ _ e => Heap.get?_push_of_some _ e) (N.grown fun _ _ e => Heap.get?_push_of_some _ e) (Nat.ne_of_lt F.ns.lt) (next_is_new F) (fun p hp => Nat.ne_of_lt (Heap.lt_size (N p hp).1)) trivial (R _ ⟨_, rfl⟩) ?_
  · rw [List.mem_singleton.mp hb]
    show s₁.heap.objs.size < (s₁.heap.push _).objs.size
    rw [Heap.size_push]; exact Nat.lt_succ_self _
  · intro D C h tk m' ys news' F' N' o1 hn hC₀ hD₀ hCL hDL hCD offC fin
    refine ⟨m', hn, fun h'' hs'' => fin D h'' tk (F'.change hs'' hCL hC₀) (fun p hp => ?_) o1⟩
    refine ⟨hs''.extBut _ _ ?_ (N' p hp).1, (N' p hp).2⟩
    rcases List.mem_cons.mp hp with rfl | hp
    · exact Ne.symm hCD
    · exact offC p hp
theorem compEnd_mono {L I C D : Addr} {m : Str → Option Value} {s₁ s₂ : Shared} {oI oC oD : Obj} {S : List (Addr × Obj) → Prop} {rest rest' : Value → List (Addr × Obj) → Prop} {y : Value}
    (h : LCg.CompEnd h₀ L m s₁ I oI C oC D oD S rest y s₂) (k : ∀ news', rest y news' → rest' y news') : LCg.CompEnd h₀ L m s₁ I oI C oC D oD S rest' y s₂ :=
  let ⟨h', tk, news', e, F, N, o, hS, r⟩ := h
  ⟨h', tk, news', e, F, N, o, hS, k _ r⟩
/-- a list display with an own invariant, the ledger as it stood -/
theorem comp_ind {elt : PySem.Expr} {x : Str} {scope : Scope} {cl : List (Str × Addr)} {s₂ : Shared} {P : Nat → Value → Prop} {Fin : List Value → List (Addr × Obj) → Prop} {n : Nat} {news : List (Addr × Obj)} (J : Nat → List Value → Prop) (h0 : J 0 []) (fin : ∀ ys, J n ys → Fin ys news)
    (turn : ∀ i ys v I oI C oC D m₂ h tk (E' : Value → Shared → Prop), i < n → J i ys → P i v → LCg.NsObj oC m₂ → m₂ x = some v → Fr h₀ L h m → News h₀ L h ((I, oI) :: (C, oC) :: (D, LCg.lst ys) :: news) → LCg.Off3 I C D news → ((@Ne Nat I C) ∧ (@Ne Nat I D) ∧ (@Ne Nat C D)) →
      wpAny (model prog w) A (eval elt (compEnvC scope cl C env)) (LCg.CompEnd h₀ L m { s₂ with heap := h, toks := tk } I oI C oC D (LCg.lst ys) (fun _ => True) (fun y news' => news' = news ∧ J (i + 1) (ys ++ [y]))) E' { s₂ with heap := h, toks := tk }) :
    LCg.CompRest prog w A h₀ L m env elt x scope cl s₂ (fun _ => True) P Fin n 0 [] news := by
  have main : ∀ k i ys, i + k = n → J i ys → LCg.CompRest prog w A h₀ L m env elt x scope cl s₂ (fun _ => True) P Fin k i ys news := by
    intro k
    induction k with
    | zero =>
      intro i ys e j
      have : i = n := by omega
      subst this
      exact LCg.CompRest.zero (fin ys j)
    | succ k ih =>
      intro i ys e j
      refine LCg.CompRest.succ fun v I oI C oC D m₂ h tk E' hP hC hx F N off ne => ?_
      refine wpAny_mono (turn i ys v I oI C oC D m₂ h tk E' (by omega) j hP hC hx F N off ne) (fun y s₃ h₃ => ?_) fun _ _ e => e
      refine compEnd_mono h₃ fun news' r => ?_
      obtain ⟨rfl, r⟩ := r
      exact ih (i + 1) _ (by omega) r
  exact main n 0 [] (by omega) h0
end
end
open PySem PySem.W PySem.Calls PyProof.Rows in
local macro_rules | `(tactic| walk_at "eval ListComp") => `(tactic| (k_here; k_dflt (refine ListComp_R (F₀ := by k_asm) (by with_unfolding_all rfl) (by decide) (by rfl) (by decide) (by rfl) ?_)))
open PySem PySem.W PySem.Calls PyProof.Rows in
local macro_rules | `(tactic| walk_at "DownSrc") => `(tactic| (with_reducible refine Hold.mk ?_))

section
-- GC
open PySem PySem.W PySem.Calls PyProof.Rows
set_option Elab.async false
set_option maxRecDepth 100000
set_option linter.unusedVariables false
theorem xor_one (p h : Nat) : Builtin.bitXor ((p / 2 ^ h : Nat) : Int) 1 = ((sib p h : Nat) : Int) := by
  rw [bitXor_and, show (1 : Int) = 2 ^ 0 from rfl, kbt_bit]
  unfold sib
  generalize p / 2 ^ h = q
  simp only [Int.pow_zero, Int.ediv_one, Int.mul_one]
  split <;> omega
/-- the list of levels: its dicts stand in the tail of the ledger -/
def LvsOk (w : World) (B : List Bs) (v : Nat → Bs) (hkvs : List (Int × Value)) (n : Nat) (vs : List Value) (tl : List (Addr × Obj)) : Prop :=
  vs.length = n + 1 ∧ ∀ i, i ≤ n → ∃ a o kvs, vs[i]? = some (.ref a) ∧ (a, o) ∈ tl ∧ o.IsDictOf (intKind PR w) kvs ∧ (a == sysModules) = false ∧ LvOk B v hkvs i kvs
section
set_option maxHeartbeats 4000000 in
theorem way_spec {w : World} {A : Around} {base g : Heap} {fr : List Env} {mean : ExcName → Option Value} {mg mb : Str → Option Value} {s : Shared} {R : Result → Shared → Prop}
    {l : Addr} {vs : List Value} {cnt : Nat} {tl : List (Addr × Obj)} {B : List Bs} {v : Nat → Bs} {hkvs : List (Int × Value)} {tp tn : Tok} {n p : Nat}
    (C : Ctx w A base fr g mean mg mb) (O : Own g s.heap ((l, listOf vs.toArray cnt) :: tl))
    (hroom : A.depth + 10 < recursionLimit) (hh : A.handled = none) (hn : n ≤ 256) (hV : LvsOk w B v hkvs n vs tl) (hp : (valueAt hkvs (p : Int)).isSome = true)
    (hQ : ∀ h' tk rt rs es, Own g h' ((rt, tupOf rs) :: (l, listOf vs.toArray cnt) :: tl) → BsAre rs es → es.length = n → (∀ j e, es[j]? = some e → Nd B v (n - 1 - j) (p / 2 ^ (n - 1 - j)) e) →
      (∀ q ∈ (l, listOf vs.toArray cnt) :: tl, @LT.lt Nat _ q.1 rt) → R (.ok (.ret (.ref rt))) { s with heap := h', toks := tk }) :
    codeAny (model PR w) A (.call (.ref 279) ⟨[.ref l, .int (p : Int) tp, .int (n : Int) tn], []⟩) R s := by
  obtain ⟨X', T', B'⟩ : (hd.heap_39 w.params).In g ∧ Top topProg LOOSE mean mg mb g ∧ Below A base fr g := ⟨C.X, C.T, C.B⟩
  w_on
  refine' enterC (binds := [(Str.ofString "levels", .ref l), (Str.ofString "number", .int (p : Int) tp), (Str.ofString "depth", .int (n : Int) tn)]) C O ?k6 ?k7 ?k8 ?k9 ?kB ?kD ?c2 ?c3 ?c4 ?_
  (case k6 => k_is)
  (case k7 => k_is)
  (case k8 => k_room)
  (case k9 => exact BindsTo.of_eq rfl)
  (case kB => exact rfl)
  (case kD => decide +kernel)
  (case c2 => exact rfl)
  (case c3 => exact rfl)
  (case c4 => exact rfl)
  intro L' h₁ tkc cells' F' N' Y' lt'
  obtain ⟨o1, o2, hE, d1, d2⟩ := CellsAre.two Y'
  subst hE
  replace d1 : _ = Data.cell (some (.int (p : Int) tp)) := d1
  replace d2 : _ = Data.cell (some (.ref l)) := d2
  simp only [List.cons_append, List.nil_append] at N'
  (try k_fold)
  k_steps
  rename Fr _ _ _ _ => F2
  rename News _ _ _ _ => N2
  rename IsRange _ _ _ _ _ _ _ _ => hr
  (try dsimp only at F2 N2 hr)
  unfold Hold
  refine ⟨_, _, _, _, n, _, rfl, hh, F2, N2, hr, by omega, fun s₂ ⟨h2, e2⟩ => ?_⟩
  subst e2
  refine comp_ind (fun i ys => ∃ es, BsAre ys es ∧ es.length = i ∧ ∀ j e, es[j]? = some e → Nd B v (n - 1 - j) (p / 2 ^ (n - 1 - j)) e) ⟨[], .nil, rfl, fun j e h => by simp at h⟩ (fun ys ⟨es, e1, e2, e3⟩ => ?_) ?_
  rotate_left
  · intro i ys v1 I oI C1 oC D m₂ h tk E' hi ⟨es, e1, e2, e3⟩ ⟨t1, hv⟩ hC hx F3 N3 off3 ne3
    subst hv
    obtain ⟨hV1, hV2⟩ := hV
    obtain ⟨a, o, kvs, a1, a2, a3, a4, a5⟩ := hV2 (n - 1 - i) (by omega)
    have hk : ((n : Int) - 1 - (i : Int)).toNat = n - 1 - i := by omega
    have hsh : Int.fdiv (p : Int) (2 ^ Int.toNat ((n : Int) - 1 - (i : Int))) = ((p / 2 ^ (n - 1 - i) : Nat) : Int) := by
      rw [hk, Int.fdiv_eq_ediv_of_nonneg _ (by have := kbt_pos (n - 1 - i); omega)]
      push_cast; rfl
    obtain ⟨y, hy⟩ := Option.isSome_iff_exists.mp (a5.2 p hp)
    obtain ⟨q, hq1, e, te, hq2, hq3⟩ := a5.1 _ _ hy
    subst hq2
    have hq4 : p / 2 ^ (n - 1 - i) = q := by omega
    rw [← hsh] at hy
    rw [← hk] at a1
    dsimp only
    (try k_fold)
    k_steps
    unfold Hold
    refine LCg.CompEnd.intro (by assumption) (by assumption) _ (fun p hp => hp) off3 trivial ⟨rfl, es ++ [e], e1.append (.cons .nil), by simp [e2], es_snoc e2 e3 (hq4 ▸ hq3)⟩
  · have hyl := e1.length
    dsimp only
    k_steps
    rename Fr _ _ _ _ => F4
    rename News _ _ _ _ => N4
    show R (.ok (.ret (.ref _))) _
    refine hQ _ _ tD ys es (own_of F4 fun q hq => N4 q ?_) e1 e2 e3 fun q hq => ?_
    · rcases List.mem_cons.mp hq with rfl | hq
      · exact List.mem_cons_self ..
      · exact List.mem_cons_of_mem _ (List.mem_cons_of_mem _ (List.mem_cons_of_mem _ (List.mem_cons_of_mem _ hq)))
    · rcases List.mem_cons.mp hq with rfl | hq
      · exact ltT.2.2.2.1
      · exact allLt_mem ltT.2.2.2.2 q hq

set_option maxHeartbeats 4000000 in
theorem side_spec {w : World} {A : Around} {base g : Heap} {fr : List Env} {mean : ExcName → Option Value} {mg mb : Str → Option Value} {s : Shared} {R : Result → Shared → Prop}
    {l em : Addr} {vs vsE : List Value} {esE : List Bs} {cnt cntE : Nat} {tl : List (Addr × Obj)} {B : List Bs} {x : Bs} {v : Nat → Bs} {hkvs : List (Int × Value)} {tp tn : Tok} {n p : Nat}
    (C : Ctx w A base fr g mean mg mb) (O : Own g s.heap ((l, listOf vs.toArray cnt) :: (em, listOf vsE.toArray cntE) :: tl))
    (hroom : A.depth + 10 < recursionLimit) (hh : A.handled = none) (hn : n ≤ 256) (hV : LvsOk w B v hkvs n vs tl) (hHo : HeldOk hkvs x v) (hE1 : BsAre vsE esE) (hE2 : esE.length = n + 1) (hE3 : ∀ i e, esE[i]? = some e → Em x B i e)
    (hQ : ∀ h' tk rt rs es, Own g h' ((rt, tupOf rs) :: (l, listOf vs.toArray cnt) :: (em, listOf vsE.toArray cntE) :: tl) → BsAre rs es → es.length = n → (∀ j e, es[j]? = some e → Nd B v (n - 1 - j) (sib p (n - 1 - j)) e) →
      (∀ q ∈ (l, listOf vs.toArray cnt) :: (em, listOf vsE.toArray cntE) :: tl, @LT.lt Nat _ q.1 rt) → R (.ok (.ret (.ref rt))) { s with heap := h', toks := tk }) :
    codeAny (model PR w) A (.call (.ref 284) ⟨[.ref l, .ref em, .int (p : Int) tp, .int (n : Int) tn], []⟩) R s := by
  obtain ⟨X', T', B'⟩ : (hd.heap_39 w.params).In g ∧ Top topProg LOOSE mean mg mb g ∧ Below A base fr g := ⟨C.X, C.T, C.B⟩
  w_on
  refine' enterC (binds := [(Str.ofString "levels", .ref l), (Str.ofString "empty", .ref em), (Str.ofString "number", .int (p : Int) tp), (Str.ofString "depth", .int (n : Int) tn)]) C O ?k6 ?k7 ?k8 ?k9 ?kB ?kD ?c2 ?c3 ?c4 ?_
  (case k6 => k_is)
  (case k7 => k_is)
  (case k8 => k_room)
  (case k9 => exact BindsTo.of_eq rfl)
  (case kB => exact rfl)
  (case kD => decide +kernel)
  (case c2 => exact rfl)
  (case c3 => exact rfl)
  (case c4 => exact rfl)
  intro L' h₁ tkc cells' F' N' Y' lt'
  obtain ⟨o1, o2, o3, hE, d1, d2, d3⟩ := CellsAre.three Y'
  subst hE
  replace d1 : _ = Data.cell (some (.int (p : Int) tp)) := d1
  replace d2 : _ = Data.cell (some (.ref em)) := d2
  replace d3 : _ = Data.cell (some (.ref l)) := d3
  simp only [List.cons_append, List.nil_append] at N'
  (try k_fold)
  k_steps
  rename Fr _ _ _ _ => F2
  rename News _ _ _ _ => N2
  rename IsRange _ _ _ _ _ _ _ _ => hr
  (try dsimp only at F2 N2 hr)
  unfold Hold
  refine ⟨_, _, _, _, n, _, rfl, hh, F2, N2, hr, by omega, fun s₂ ⟨h2, e2⟩ => ?_⟩
  subst e2
  refine comp_ind (fun i ys => ∃ es, BsAre ys es ∧ es.length = i ∧ ∀ j e, es[j]? = some e → Nd B v (n - 1 - j) (sib p (n - 1 - j)) e) ⟨[], .nil, rfl, fun j e h => by simp at h⟩ (fun ys ⟨es, e1, e2, e3⟩ => ?_) ?_
  rotate_left
  · intro i ys v1 I oI C1 oC D m₂ h tk E' hi ⟨es, e1, e2, e3⟩ ⟨t1, hv⟩ hC hx F3 N3 off3 ne3
    subst hv
    obtain ⟨hV1, hV2⟩ := hV
    obtain ⟨a, o, kvs, a1, a2, a3, a4, a5⟩ := hV2 (n - 1 - i) (by omega)
    have hk : ((n : Int) - 1 - (i : Int)).toNat = n - 1 - i := by omega
    have hsh : Int.fdiv (p : Int) (2 ^ Int.toNat ((n : Int) - 1 - (i : Int))) = ((p / 2 ^ (n - 1 - i) : Nat) : Int) := by
      rw [hk, Int.fdiv_eq_ediv_of_nonneg _ (by have := kbt_pos (n - 1 - i); omega)]
      push_cast; rfl
    obtain ⟨ee, hee⟩ : ∃ e, esE[n - 1 - i]? = some e := ⟨_, List.getElem?_eq_getElem (by omega)⟩
    obtain ⟨te, hxe⟩ := hE1.get hee
    have hEm := hE3 _ _ hee
    obtain ⟨e', te', hg, hNd⟩ := a5.get hHo hEm (te := te) (sib p (n - 1 - i))
    rw [← xor_one, ← hsh] at hg
    rw [← hk] at a1 hxe
    dsimp only
    (try k_fold)
    k_steps
    unfold Hold
    refine LCg.CompEnd.intro (by assumption) (by assumption) _ (fun p hp => hp) off3 trivial ⟨rfl, es ++ [e'], e1.append (.cons .nil), by simp [e2], es_snoc e2 e3 hNd⟩
  · have hyl := e1.length
    dsimp only
    k_steps
    rename Fr _ _ _ _ => F4
    rename News _ _ _ _ => N4
    show R (.ok (.ret (.ref _))) _
    refine hQ _ _ tD ys es (own_of F4 fun q hq => N4 q ?_) e1 e2 e3 fun q hq => ?_
    · rcases List.mem_cons.mp hq with rfl | hq
      · exact List.mem_cons_self ..
      · exact List.mem_cons_of_mem _ (List.mem_cons_of_mem _ (List.mem_cons_of_mem _ (List.mem_cons_of_mem _ (List.mem_cons_of_mem _ hq))))
    · rcases List.mem_cons.mp hq with rfl | hq
      · exact ltT.2.2.2.2.1
      · rcases List.mem_cons.mp hq with rfl | hq
        · exact ltT.2.2.2.2.2.1
        · exact allLt_mem ltT.2.2.2.2.2.2 q hq
end
end

section
-- GE0
open PySem
open PySem.Sem (wp)
set_option Elab.async false
set_option maxRecDepth 100000
set_option linter.unusedVariables false
/-- KeyError is made by its base's new: the facts of a class that has its own do not fit it -/
structure KeFacts (cls own newId initId : String) : Prop where
  ends : newId.endsWith ".__new__" = true
  owner : newId.dropRight 8 = own
  entry : entryFor table newId = some Builtin.«BaseException.__new__»
  sub : isSubtype (.type cls) (.type own) = pure true
  self : isSubtype (.type cls) (.type cls) = pure true
  notAttr : isSubtype (.type cls) (.type "AttributeError") = pure false
  notName : isSubtype (.type cls) (.type "NameError") = pure false
  made : Bind.madeHere "BaseException.__new__" (.type cls) = pure ()
  notType : (Value.type cls == Value.type "type") = false
  canMake : ((Manifest.find? cls).bind fun x => List.findSome? (fun t => (Manifest.find? t).bind fun b =>
    if b.noNew = true then some true else if (b.attrs.any fun x => x.fst == "__new__") = true then some false else none) x.mro).getD false = false
  noVector : ∀ args, checkTypeCall cls args = pure ()
  mro : ∃ m, mroOf (.type cls) = pure m ∧ m.isEmpty = false
  madeBy : Bind.madeBy (.type cls) = pure (some newId)
  quiet : newId.startsWith "lifetime." = false
  newOk : ∀ rest, checkBuiltinCall newId ⟨.type cls :: rest, []⟩ = pure ()
  init : Slot cls "__init__" initId
  initEntry : entryFor table initId = some Builtin.«BaseException.__init__»
  initSplit : splitId initId = some (cls, "__init__")
  initKind : builtinKind initId = some .slot
  initRow : Manifest.signature? initId = some ⟨.positional, "*", cls, .self, [⟨"args", .varPos, false⟩]⟩
  noStar : (cls != "*") = true
theorem keF : KeFacts "KeyError" "LookupError" "LookupError.__new__" "KeyError.__init__" where
  ends := by decide +kernel
  owner := by decide +kernel
  entry := entryFor_alias (id' := "BaseException.__new__") (by rw [fastTable_eq_tree]; kernel_rfl) (by first | rfl | decide +kernel) (by decide +kernel) (by rw [fastTable_eq_tree]; kernel_rfl)
  sub := by rw [isSubtype_type]; kernel_rfl
  self := by rw [isSubtype_type]; kernel_rfl
  notAttr := by rw [isSubtype_type]; kernel_rfl
  notName := by rw [isSubtype_type]; kernel_rfl
  made := by kernel_rfl
  notType := by decide +kernel
  canMake := by kernel_rfl
  noVector := fun args => by kernel_rfl
  mro := ⟨[.type "KeyError", .type "LookupError", .type "Exception", .type "BaseException", .type "object"], by rw [mroOf_type]; kernel_rfl, rfl⟩
  madeBy := by kernel_rfl
  quiet := by decide +kernel
  newOk := fun rest => by kernel_rfl
  init := .of (owner := "KeyError") (n := "__init__") (by rw [typeLookup_type, builtinLookup_eq_fast]; kernel_rfl) (by decide +kernel) (by decide +kernel) (by decide +kernel)
    (by first | exact .inl (by decide +kernel) | exact .inr (by decide +kernel)) (by rw [isSubtype_type]; kernel_rfl)
  initEntry := entryFor_alias (id' := "BaseException.__init__") (by rw [fastTable_eq_tree]; kernel_rfl) (by first | rfl | decide +kernel) (by decide +kernel) (by rw [fastTable_eq_tree]; kernel_rfl)
  initSplit := by kernel_rfl
  initKind := by kernel_rfl
  initRow := by kernel_rfl
  noStar := by decide +kernel
theorem keF_raise : ExcRaiseFacts "KeyError" where
  isExc := by rw [isSubtype_type]; kernel_rfl
  plainMeta := by kernel_rfl
section
variable {prog : Program} {w : World} {A : Around} {cls own newId initId : String}
theorem ke_new (F : KeFacts cls own newId initId) {R : Result → Shared → Prop} {rest : List Value} {hp : Heap} {g : Array GenState} {d : Drawn} {tk : Nat} {os : OsState}
    (h : R (.ok (.ret (.ref (hp.objs.size + 1)))) ⟨(hp.push { cls := .type "tuple", data := .seq rest.toArray }).push
      { cls := .type cls, data := .fields #[.ref hp.objs.size, .none, .none, .none, .bool false, .none] }, g, d, tk, os⟩)
    (hrest : rest.length ≤ sizeLine) :
    codeAny (model prog w) A (.builtin newId ⟨.type cls :: rest, []⟩) R ⟨hp, g, d, tk, os⟩ := by
  have hends := F.ends
  have howner := F.owner
  have hsub := F.sub
  have hna := F.notAttr
  have hnn := F.notName
  have hmade := F.made
  refine codeAny_builtinAt F.entry ?_
  unfold Builtin.«BaseException.__new__»
  refine wpAt_bind ?_
  show wpAt _ _ _ (stack >>= _) _ _ _
  refine wpAt_bind (wpAt_stack fun p below => wpAt_of_wpAny ?_)
  wp_walk
  refine wpAt_of_wpAny ?_
  rw [howner]
  wp_walk
  show R _ _
  rw [Heap.size_push]
  exact h
theorem ke_init (F : KeFacts cls own newId initId) {M : Model} {self : Value} {rest : List Value} {E : Value → Shared → Prop} {Q : Unit → Shared → Prop}
    {hp : Heap} {g : Array GenState} {d : Drawn} {tk : Nat} {os : OsState} (hT : Shared.TypeIs ⟨hp, g, d, tk, os⟩ self cls) (h : Q () ⟨hp, g, d, tk, os⟩) :
    wpAny M A (checkBuiltinCall initId ⟨self :: rest, []⟩) Q E ⟨hp, g, d, tk, os⟩ := by
  have hsub := F.self
  have hshort := F.noStar
  simp only [checkBuiltinCall, F.initKind, F.initSplit, F.initRow]
  wp_walk
  refine wpAny_onRaise ?_
  rw [show ∀ (a b : String) (n : Nat), Bind.check ⟨.positional, "*", cls, .self, [⟨"args", .varPos, false⟩]⟩ a b n (List.map (fun x => x.fst) ({ pos := self :: rest } : Args).kw) = pure () from
    fun a b n => check_star_args _ _ _ _ _ _]
  exact wpAny_pure h
theorem ke_typecall (F : KeFacts cls own newId initId) {rest : List Value} {E : Value → Shared → Prop} {Q : Fin → Shared → Prop}
    {hp : Heap} {g : Array GenState} {d : Drawn} {tk : Nat} {os : OsState}
    (h : ∀ h' e, Heap.MadeExc hp h' e cls rest → Q (.done (.ret (.ref e))) ⟨h', g, d, tk, os⟩) (hrest : rest.length ≤ sizeLine) :
    wpAny (model prog w) A (Builtin.«type.__call__» ⟨.type cls :: rest, []⟩) Q E ⟨hp, g, d, tk, os⟩ := by
  have hnt := F.notType
  have hcan := F.canMake
  have hchk := F.noVector ⟨rest, []⟩
  obtain ⟨m, hmro, hne⟩ := F.mro
  have hmade := F.madeBy
  wp_walk
  refine codeAny_call_builtin_code (Code.quiet_builtin _ F.quiet) (wpAny_of_eq (F.newOk rest) ?_)
  refine ke_new F ?_ hrest
  show wpAny _ _ _ _ _ _
  have hget : ((hp.push { cls := .type "tuple", data := .seq rest.toArray }).push
      { cls := .type cls, data := .fields #[.ref hp.objs.size, .none, .none, .none, .bool false, .none] }).get? (hp.objs.size + 1) = some
      { cls := .type cls, data := .fields #[.ref hp.objs.size, .none, .none, .none, .bool false, .none] } := by heap_get
  refine wpAny_bind (wpAny_isInstance ⟨_, hget, rfl⟩ F.self ?_)
  wp_step
  refine wpAny_bind (wpAny_holding (wpAny_callSpecial?_slot ⟨_, hget, rfl⟩ F.init (wpAny_call (codeAny_call_builtin F.init.plain F.initEntry (ke_init F ⟨_, hget, rfl⟩ ?_)))))
  wp_walk
  refine h _ _ ⟨fun b o hb => ?_, Heap.get?_none_of_le (Nat.le_succ _), hp.objs.size + 2, ?_, Heap.get?_none_of_le (by omega), ?_⟩
  · rw [Heap.get?_update_other _ _ (Nat.ne_of_gt (Nat.lt_succ_of_lt (Heap.lt_size hb)))]
    exact Heap.get?_push_of_some _ (Heap.get?_push_of_some _ (Heap.get?_push_of_some _ hb))
  · rw [Heap.get?_update_self _ (Heap.get?_push_of_some _ hget) rfl]
    simp only [Heap.size_push]
    rfl
  · rw [Heap.get?_update_other _ _ (show hp.objs.size + 1 ≠ hp.objs.size + 2 by omega)]
    exact Heap.get?_push_at (by simp only [Heap.size_push]) rfl
theorem ke_call (F : KeFacts cls own newId initId) {rest : List Value} {E : Value → Shared → Prop} {Q : Value → Shared → Prop}
    {hp : Heap} {g : Array GenState} {d : Drawn} {tk : Nat} {os : OsState}
    (h : ∀ h' e, Heap.MadeExc hp h' e cls rest → Q (.ref e) ⟨h', g, d, tk, os⟩) (hrest : rest.length ≤ sizeLine) :
    wpAny (model prog w) A (call (.type cls) rest) Q E ⟨hp, g, d, tk, os⟩ := by
  refine wpAny_call (codeAny_of_tree ?_)
  show wpAny _ _ (again (.builtin "type.__call__" ⟨.type cls :: rest, []⟩)) _ _ _
  exact wpAny_pure ⟨Code.quiet_builtin _ (by decide +kernel), codeAny_builtin entry_typeCall (ke_typecall F (fun h' e hm => h h' e hm) hrest)⟩
variable {E : Value → Shared → Prop} {s : Shared} {env : Env}
theorem ke_Raise_call {x : Str} {np cpos pos : Pos} {args : List PySem.Expr} {Q : Flow → Shared → Prop}
    (hh : A.handled = none) (hplain : (backTo cpos (starEach args env)).any (·.1) = false)
    (h : wpAny (model prog w) A (eval (.Name x np) env) (fun f s₁ => f = .type "KeyError" ∧ wpAny (model prog w) A (evalArgs (.type "KeyError") true (backTo cpos (starEach args env)) [])
      (fun a s₂ => a.kw = [] ∧ a.pos.length ≤ sizeLine ∧ ∀ h' e, Heap.MadeExc s₂.heap h' e "KeyError" a.pos → E (.ref e) { s₂ with heap := h' }) E s₁) E s) :
    wpAny (model prog w) A (exec (.Raise (some (.Call (.Name x np) args [] cpos)) none pos) env) Q E s := by
  refine wpAny_Raise_made keF_raise hh (wpAny_Call_ofName (wpAny_mono h (fun f s₁ h₁ => ?_) fun _ _ x => x))
  obtain ⟨rfl, h₁⟩ := h₁
  refine callWith_excType hplain (wpAny_mono h₁ (fun a s₂ h₂ => ?_) fun _ _ x => x)
  obtain ⟨apos, akw⟩ := a
  obtain ⟨hkw, hlen, h₂⟩ := h₂
  obtain rfl : akw = [] := hkw
  obtain ⟨hp, g, d, tk, os⟩ := s₂
  refine ke_call keF (hrest := hlen) fun h' e hm => ?_
  obtain ⟨t, ht, _, _⟩ := hm.there
  exact ⟨e, t, rfl, ht, h₂ h' e hm⟩
theorem ke_Raise {x : Str} {np cpos pos : Pos} {e₀ : PySem.Expr} {rest : List PySem.Expr} {Q : Flow → Shared → Prop} (hh : A.handled = none)
    (h : wpAny (model prog w) A (eval (.Name x np) env) (fun f s₁ => f = .type "KeyError" ∧ wpAny (model prog w) A (spliced (backTo cpos (starEach (e₀ :: rest) env)))
      (fun vs s₂ => vs.length ≤ sizeLine ∧ ∀ h' e, Heap.MadeExc s₂.heap h' e "KeyError" vs → E (.ref e) { s₂ with heap := h' }) E s₁) E s)
    (he : starEach (e₀ :: rest) env = (false, eval e₀ env) :: starEach rest env := by rfl) (hplain : (backTo cpos (starEach rest env)).any (·.1) = false := by rfl) :
    wpAny (model prog w) A (exec (.Raise (some (.Call (.Name x np) (e₀ :: rest) [] cpos)) none pos) env) Q E s := by
  refine ke_Raise_call hh (by rw [he]; show (false || (backTo cpos (starEach rest env)).any (·.1)) = false; rw [hplain]; rfl) (wpAny_mono h (fun f s₁ h₁ => ⟨h₁.1, ?_⟩) fun _ _ y => y)
  have h₂ := h₁.2
  rw [he] at h₂ ⊢
  exact Calls.evalArgs_plain (wpAny_mono h₂ (fun vs s₂ h₃ => ⟨rfl, h₃⟩) fun _ _ y => y)
end
end
open PySem PySem.W PySem.Calls PyProof.Rows in
local macro_rules | `(tactic| walk_at "exec Raise some none") => `(tactic| (k_here; (with_reducible show wpAny _ _ (exec (Stmt.Raise (some (Expr.Call (Expr.Name ("KeyError" : Str) _) _ [] _)) none _) _) _ _ _); (with_reducible rename Fr _ _ _ _ => kF); k_dflt (refine' ke_Raise ?hh ?_; (case hh => assumption); refine' name_B kF ?k1 ?k2 ?k3 ?k4 ?k5 ?_; (case k1 => k_asm); (case k2 => k_asm); (case k3 => k_is); (case k4 => boot_by_name); (case k5 => decide); refine ⟨rfl, ?_⟩)))

section
-- GE
open PySem PySem.W PySem.Calls PyProof.Rows
set_option Elab.async false
set_option maxRecDepth 100000
set_option linter.unusedVariables false
section
set_option maxHeartbeats 4000000 in
theorem exists_spec {w : World} {A : Around} {base g : Heap} {fr : List Env} {mean : ExcName → Option Value} {mg mb : Str → Option Value} {s : Shared} {R : Result → Shared → Prop}
    {f tr dd db : Addr} {odb : Obj} {B : List Bs} {x root key : Bs} {kvs : List (Bs × Value)} {v : Nat → Bs} {t1 t2 t3 t4 t5 t6 tn td tx trt tkey : Tok} {n : Nat}
    (C : Ctx w A base fr g mean mg mb) (XB : (hd.heap_39 w.params).In base) (TB : Top topProg LOOSE mean mg mb base) (D : KtsDicts (fr.filterMap (·.frame)) g) (O : Own g s.heap [(tr, instObj 235 dd), (dd, treeD w t1 t2 t3 t4 t5 t6 tn td tx trt n x f db root), (db, odb)])
    (hroom : A.depth + 20 < recursionLimit) (hh : A.handled = none) (hlen : B.length < 1000000) (hBn : B.Nodup) (hn : n ≤ 32) (hn1 : 1 ≤ n)
    (hD : odb.IsDictOf (bytesKind PR w) kvs) (hV : DbV B kvs) (hF : Full B v (8 * n) kvs) (hR : Nd B v (8 * n) 0 root) (hk : key.length = n)
    (hQ : ∀ h' tk g', KtsTurn (fr.filterMap (·.frame)) g g' → Own g' h' [(tr, instObj 235 dd), (dd, treeD w t1 t2 t3 t4 t5 t6 tn td tx trt n x f db root), (db, odb)] → R (.ok (.ret (.bool (!(v (dec key)).isEmpty)))) { s with heap := h', toks := tk }) :
    codeAny (model PR w) A (.call (.ref 197) ⟨[.ref tr, .bytes key.toArray tkey], []⟩) R s := by
  obtain ⟨X', T', B'⟩ : (hd.heap_39 w.params).In g ∧ Top topProg LOOSE mean mg mb g ∧ Below A base fr g := ⟨C.X, C.T, C.B⟩
  w_on
  refine' enter (binds := [(Str.ofString "self", .ref tr), (Str.ofString "key", .bytes key.toArray tkey)]) C O ?k6 ?k7 ?k8 ?k9 ?kB ?c5 ?c2 ?c3 ?c4 ?_
  (case k6 => k_is)
  (case k7 => k_is)
  (case k8 => k_room)
  (case k9 => exact BindsTo.of_eq rfl)
  (case kB => exact locs rfl)
  (case c5 => decide)
  (case c2 => exact rfl)
  (case c3 => exact rfl)
  (case c4 => exact rfl)
  intro L' h₁ F' N' lt'
  (try k_fold)
  have hk' : key.toArray.size = n := by rw [List.size_toArray]; exact hk
  k_steps
  all_goals (try dsimp only)
  all_goals k_steps
  · rename Fr _ _ _ _ => F2
    rename News _ _ _ _ => N2
    rename KtsTurn _ _ _ => T2
    rename (_ == _) = true => hv
    have hv' : v (dec key) = [] := by simpa using hv
    rw [hv'] at hQ
    show R (.ok (.ret (.bool false))) _
    exact hQ _ _ _ T2 (own_of F2 (kst_newsOf N2 (by k_allIn)))
  · rename Fr _ _ _ _ => F2
    rename News _ _ _ _ => N2
    rename (_ == _) = false => hv
    have hv' : (v (dec key)).isEmpty = false := by
      cases hz : v (dec key) with
      | nil => rw [hz] at hv; simp at hv
      | cons a l => rfl
    rw [hv'] at hQ
    show R (.ok (.ret (.bool true))) _
    exact hQ _ _ _ KtsTurn.refl (own_of F2 (kst_newsOf N2 (by k_allIn)))
set_option maxHeartbeats 4000000 in
theorem read_spec {w : World} {A : Around} {base g : Heap} {fr : List Env} {mean : ExcName → Option Value} {mg mb : Str → Option Value} {s : Shared} {R : Result → Shared → Prop}
    {f tr dd db : Addr} {odb : Obj} {B : List Bs} {x root key due : Bs} {kvs : List (Bs × Value)} {v : Nat → Bs} {t1 t2 t3 t4 t5 t6 tn td tx trt tkey tdue : Tok} {n : Nat}
    (C : Ctx w A base fr g mean mg mb) (XB : (hd.heap_39 w.params).In base) (TB : Top topProg LOOSE mean mg mb base) (D : KtsDicts (fr.filterMap (·.frame)) g) (O : Own g s.heap [(tr, instObj 235 dd), (dd, treeD w t1 t2 t3 t4 t5 t6 tn td tx trt n x f db root), (db, odb)])
    (hroom : A.depth + 20 < recursionLimit) (hh : A.handled = none) (hlen : B.length < 1000000) (hBn : B.Nodup) (hn : n ≤ 32) (hn1 : 1 ≤ n)
    (hD : odb.IsDictOf (bytesKind PR w) kvs) (hV : DbV B kvs) (hF : Full B v (8 * n) kvs) (hR : Nd B v (8 * n) 0 root) (hk : key.length = n) (hdue : due = v (dec key))
    (hQ : ∀ h' tk g', KtsTurn (fr.filterMap (·.frame)) g g' → Own g' h' [(tr, instObj 235 dd), (dd, treeD w t1 t2 t3 t4 t5 t6 tn td tx trt n x f db root), (db, odb)] → R (.ok (.ret (.bool true))) { s with heap := h', toks := tk }) :
    codeAny (model PR w) A (.call (.ref 298) ⟨[.ref tr, .bytes key.toArray tkey, .bytes due.toArray tdue], []⟩) R s := by
  obtain ⟨X', T', B'⟩ : (hd.heap_39 w.params).In g ∧ Top topProg LOOSE mean mg mb g ∧ Below A base fr g := ⟨C.X, C.T, C.B⟩
  w_on
  refine' enter (binds := [(Str.ofString "tree", .ref tr), (Str.ofString "key", .bytes key.toArray tkey), (Str.ofString "due", .bytes due.toArray tdue)]) C O ?k6 ?k7 ?k8 ?k9 ?kB ?c5 ?c2 ?c3 ?c4 ?_
  (case k6 => k_is)
  (case k7 => k_is)
  (case k8 => k_room)
  (case k9 => exact BindsTo.of_eq rfl)
  (case kB => exact locs rfl)
  (case c5 => decide)
  (case c2 => exact rfl)
  (case c3 => exact rfl)
  (case c4 => exact rfl)
  intro L' h₁ F' N' lt'
  (try k_fold)
  have hk' : key.toArray.size = n := by rw [List.size_toArray]; exact hk
  subst hdue
  k_steps
  all_goals (try dsimp only)
  all_goals k_steps
  · rename Fr _ _ _ _ => F2
    rename News _ _ _ _ => N2
    rename KtsTurn _ _ _ => T2
    rename (_ == _) = true => hv
    have hv' : (v (dec key) == []) = true := hv
    show R (.ok (.ret (.bool (v (dec key) == [])))) _
    rw [hv']
    exact hQ _ _ _ T2 (own_of F2 (kst_newsOf N2 (by k_allIn)))
  · rename Fr _ _ _ _ => F2
    rename News _ _ _ _ => N2
    show R (.ok (.ret (.bool (v (dec key) == v (dec key))))) _
    rw [beq_self_eq_true]
    exact hQ _ _ _ KtsTurn.refl (own_of F2 (kst_newsOf N2 (by k_allIn)))
  · rename (_ == _) = false => hv
    rename (_ != _) = false => hw
    have hw' : (v (dec key) != []) = false := hw
    have hv' : (v (dec key) == []) = false := hv
    unfold bne at hw'
    rw [hv'] at hw'
    cases hw'
end
end

section
-- GS
open PySem PySem.W PySem.Calls PyProof.Rows
set_option Elab.async false
set_option maxRecDepth 100000
set_option linter.unusedVariables false
section
variable {prog : Program} {w : World} {A A₀ : Around} {E : Value → Shared → Prop} {s : Shared} {env : Env} {base g : Heap} {outer : List Env} {x : Str} {body : List Stmt} {Q : Flow → Shared → Prop} {m : Str → Option Value} {news : List (Addr × Obj)}
theorem below_turn {fs : List Env} {g' : Heap} (K : Below A₀ base fs g) (T : KtsTurn (fs.filterMap (·.frame)) g g') : Below A₀ base fs g' :=
  ⟨K.stack, fun b o e => T.other b o (K.stays b o e) (fun hm => by
    rw [(K.frames.mem hm).1] at e
    cases e), K.frames.of_keeps fun b o e _ => by
      obtain ⟨sl, hs⟩ := T.up e
      exact ⟨_, hs, rfl⟩⟩
/-- the end of a turn in which the ground may have turned -/
def EndS (outer : List Env) (g : Heap) (L : Addr) (x : Str) (m : Str → Option Value) (news : List (Addr × Obj)) (s₁ s₂ : Shared) : Prop :=
  ∃ h' tk g', ∃ u : Str → Option Value, s₂ = { s₁ with heap := h', toks := tk } ∧ KtsTurn (outer.filterMap (·.frame)) g g' ∧ Fr g' L h' (fun y => if y = x then u y else m y) ∧ News g' L h' news
def PostS (outer : List Env) (g : Heap) (L : Addr) (x : Str) (m : Str → Option Value) (news : List (Addr × Obj)) (s₁ : Shared) (Q : Flow → Shared → Prop) (f : Flow) (s₂ : Shared) : Prop :=
  match f with
  | .ret v => Q (.ret v) s₂
  | .brk => Q .next s₂
  | _ => EndS outer g L x m news s₁ s₂
def RangeS (prog : Program) (w : World) (A A₀ : Around) (base g : Heap) (outer : List Env) (env : Env) (x : Str) (body : List Stmt) (Q : Flow → Shared → Prop) (E : Value → Shared → Prop) (xv : Value) (s₁ : Shared) : Prop :=
  ∃ (n : Nat) (r : Addr) (t u v : Tok) (m : Str → Option Value) (news : List (Addr × Obj)), xv = .ref r ∧ IsRange s₁.heap r 0 (n : Int) 1 t u v ∧ n ≤ 100000 ∧ A.handled = none ∧ Fr g env.locals s₁.heap m ∧ News g env.locals s₁.heap news ∧ Below A₀ base outer g ∧
    (∀ i t g' h tk I oI, i < n → KtsTurn (outer.filterMap (·.frame)) g g' → Below A₀ base outer g' → Fr g' env.locals h (fun y => if y = x then some (.int (i : Int) t) else m y) → News g' env.locals h ((I, oI) :: news) → AllNe I news →
      wpAny (model prog w) A (execs body env) (PostS outer g' env.locals x m ((I, oI) :: news) { s₁ with heap := h, toks := tk } Q) E { s₁ with heap := h, toks := tk }) ∧
    ∀ g' h tk (u : Str → Option Value), KtsTurn (outer.filterMap (·.frame)) g g' → Below A₀ base outer g' → Fr g' env.locals h (fun y => if y = x then u y else m y) → News g' env.locals h news → Q .next { s₁ with heap := h, toks := tk }
theorem For_S {px pos : Pos} {iter : PySem.Expr} (F₀ : Fr g env.locals s.heap m) (B₀ : Below A₀ base outer g) (hx : env.kindOf x = some .local) (hp : (env.scope.kind == .class || (env.scope.kind == .module && env.locals != env.globals)) = false)
    (h : wpAny (model prog w) A (eval iter env) (RangeS prog w A A₀ base g outer env x body Q E) E s)
    (hs : ∀ x, foldedSetIterable iter env x = pure x := by intro _; rfl)
    (hE : PassesOwn (model prog w) A env E := by passes_own) :
    wpAny (model prog w) A (exec (.For (.Name x px) iter body [] pos) env) Q E s := by
  refine wpAny_For (wpAny_mono h (fun xv s₁ h₁ => ?_) fun _ _ e => e) hs
  obtain ⟨n, r, t, u, v, m, news, rfl, hr, hn, hh, F, N, B, turn, done⟩ := h₁
  refine wpAny_pyIter_range hr (rsmall hn) ?_
  have W : Walks prog w A s₁.heap.objs.size [s₁.heap.objs.size] [s₁.heap.objs.size] n (fun i v => i < n ∧ ∃ t, v = .int (0 + i * 1) t)
      (fun i h => IsRangeIter h s₁.heap.objs.size (0 + (i : Nat) * 1) ((n : Int) - (i : Nat)) 1) := (Walks.range hh _ 0 1 n).bound
  generalize hI : s₁.heap.objs.size = I at W
  have old : ∀ p ∈ news, p.1 ≠ I := fun p hp => hI ▸ Nat.ne_of_lt (Heap.lt_size (N p hp).1)
  have hIL : env.locals ≠ I := hI ▸ Nat.ne_of_lt F.ns.lt
  have hI0 : g.get? I = none := hI ▸ next_is_new F
  refine codeAny_forLoop (R := fun r s' => match r with | .ok f => Q f s' | .error e => cameBackBy (model prog w) A env E e s')
    (fun k s' => ∃ h' tk g', ∃ u : Str → Option Value, ∃ i, s' = { s₁ with heap := h', toks := tk } ∧ IsRangeIter h' I (0 + (i : Nat) * 1) ((n : Int) - (i : Nat)) 1 ∧ KtsTurn (outer.filterMap (·.frame)) g g' ∧ Fr g' env.locals h' (fun y => if y = x then u y else m y) ∧ News g' env.locals h' news ∧ i ≤ n ∧ k = n + 1 - i) ?_ (n + 1)
    ⟨_, s₁.toks, g, m, 0, rfl, (by rw [rsize]; subst hI; simpa using Heap.get?_push_size _ rfl), KtsTurn.refl, ?_, fun p hp => ⟨Heap.get?_push_of_some _ (N p hp).1, (N p hp).2⟩, Nat.zero_le _, rfl⟩
  rotate_left
  · have := F.push { cls := .type "range_iterator", data := .fields #[rawInt 0, rawInt (Builtin.Range.rangeSize 0 n 1), rawInt 1] }
    have e : (fun y => if y = x then m y else m y) = m := by funext y; split <;> rfl
    rw [e]; exact this
  rintro k s' ⟨h', tk, g', u, i, rfl, hst', T', F', N', hi, rfl⟩
  have B' := below_turn B T'
  have hI' : g'.get? I = none := T'.none_ _ hI0
  have next : ∀ h₁ : Heap, (∀ b o, b ∉ [I] → h'.get? b = some o → h₁.get? b = some o) → Fr g' env.locals h₁ (fun y => if y = x then u y else m y) ∧ News g' env.locals h₁ news := fun h₁ hk₁ =>
    ⟨⟨F'.ns.at' fun o e => hk₁ _ o (by simpa using hIL) e, fun b o e => hk₁ b o (by simp; rintro rfl; rw [hI'] at e; cases e) (F'.keep b o e), F'.above⟩, fun p hp => ⟨hk₁ _ _ (by simpa using old p hp) (N' p hp).1, (N' p hp).2⟩⟩
  by_cases hlt : i < n
  · refine W.item i _ _ _ hlt hst' fun v h₁ tk₁ hP hst₁ hk₁ => ?_
    obtain ⟨F₁, N₁⟩ := next h₁ hk₁
    obtain ⟨_, t, rfl⟩ := hP
    refine wpAny_assign_Name (wpAny_storeName_local hx F₁.ns (fun h₂ hn₂ hs₂ => ?_) hp)
    have F₂ := F₁.set hn₂ hs₂
    have hst₂ : IsRangeIter h₂ I (0 + ((i + 1 : Nat) : Int) * 1) ((n : Int) - ((i + 1 : Nat) : Int)) 1 := W.frame _ _ _ hst₁ fun b hb o e => (hs₂.2 b fun q => hIL (by rw [List.mem_singleton.mp hb] at q; exact q.symm)).trans e
    have e1 : (0 : Int) + (i : Int) * 1 = (i : Int) := by omega
    have em : (fun y => if y = x then some (Value.int (0 + (i : Int) * 1) t) else if y = x then u y else m y) = fun y => if y = x then some (Value.int (i : Int) t) else m y := by
      funext y; by_cases h : y = x <;> simp [h]
    rw [em] at F₂
    have N₂ : News g' env.locals h₂ ((I, _) :: news) := fun p hp => by
      rcases List.mem_cons.mp hp with rfl | hp
      · exact ⟨hst₂, fun q => hIL q.symm, hI'⟩
      · exact N₁.set hs₂ p hp
    refine wpAny_mono (wpAny_passesOwn hE (turn i t g' h₂ _ I _ hlt T' B' F₂ N₂ (allNe_of old))) (fun f s₃ h₃ => ?_) fun _ _ e => e
    cases f with
    | ret v => exact h₃
    | brk => exact h₃
    | cont =>
      obtain ⟨h₃', tk₃, g₃, u₃, rfl, T₃, F₃, N₃⟩ := h₃
      exact ⟨n + 1 - (i + 1), by omega, h₃', tk₃, g₃, u₃, i + 1, rfl, (N₃ _ (List.mem_cons_self ..)).1, T'.trans T₃, F₃, fun p hp => N₃ p (List.mem_cons_of_mem _ hp), hlt, rfl⟩
    | next =>
      obtain ⟨h₃', tk₃, g₃, u₃, rfl, T₃, F₃, N₃⟩ := h₃
      exact ⟨n + 1 - (i + 1), by omega, h₃', tk₃, g₃, u₃, i + 1, rfl, (N₃ _ (List.mem_cons_self ..)).1, T'.trans T₃, F₃, fun p hp => N₃ p (List.mem_cons_of_mem _ hp), hlt, rfl⟩
  · have hin : i = n := by omega
    subst hin
    refine W.done _ _ _ hst' fun h₁ tk₁ hk₁ => wpAny_execs_nil ?_
    obtain ⟨F₁, N₁⟩ := next h₁ hk₁
    exact done g' h₁ tk₁ u T' B' F₁ N₁
end
end

section
-- GT
open PySem PySem.W PySem.Calls PyProof.Rows
set_option Elab.async false
set_option maxRecDepth 100000
set_option linter.unusedVariables false
theorem adjust_to {k : Int} {n b : Nat} (hk : (if k < 0 then max (k + (n : Int)) 0 else min k (n : Int)) = (b : Int)) : Builtin.Slice.sliceAdjust none (some k) 1 (n : Int) = (0, (b : Int)) := by
  unfold Builtin.Slice.sliceAdjust
  simp only [show ¬ ((1 : Int) < 0) by decide, if_false]
  rw [hk]
theorem places_to (b : Nat) : Builtin.Slice.slicePlaces 0 (b : Int) 1 = b := by
  unfold Builtin.Slice.slicePlaces
  simp only [show (1 : Int) > 0 by decide, if_true, Int.ediv_one]
  split <;> omega
section
variable {prog : Program} {w : World} {A : Around} {E : Value → Shared → Prop} {s : Shared} {h₀ : Heap} {L : Addr} {m : Str → Option Value} {news : List (Addr × Obj)}
theorem sliceApplied_to {sl : Addr} {n b : Nat} {k : Int} {u : Tok} {Q : Int × Int × Nat → Shared → Prop} (hs : s.heap.IsSliceOf sl .none (.int k u) .none) (hk : (if k < 0 then max (k + (n : Int)) 0 else min k (n : Int)) = (b : Int)) (h : Q (0, 1, b) s) :
    wpAny (model prog w) A (Builtin.Slice.sliceApplied (.ref sl) (pure (n : Int))) Q E s := by
  obtain ⟨os, hos, hcs, hds⟩ := id hs
  unfold Builtin.Slice.sliceApplied Builtin.Slice.sliceFields
  refine wpAny_bind (wpAny_bind (wpAny_field hos hds (x := .none) rfl (wpAny_bind (wpAny_field hos hds (x := .int k u) rfl (wpAny_bind (wpAny_field hos hds (x := .none) rfl (wpAny_pure ?_)))))))
  refine wpAny_bind (slicePart_none ?_)
  show wpAny _ _ (if ((1 : Int) == 0) = true then _ else _) _ _ s
  rw [if_neg (by decide)]
  refine wpAny_bind (slicePart_none (wpAny_bind (slicePart_int (wpAny_bind (wpAny_pure ?_)))))
  show wpAny _ _ (match Builtin.Slice.sliceAdjust none (some k) 1 (n : Int) with | (lo, hi) => pure (lo, (1 : Int), Builtin.Slice.slicePlaces lo hi 1)) _ _ s
  rw [adjust_to hk]
  show wpAny _ _ (pure ((0 : Int), (1 : Int), Builtin.Slice.slicePlaces 0 (b : Int) 1)) _ _ s
  rw [places_to b]
  exact wpAny_pure h
theorem pick_to (xs : Array Value) (b : Nat) : ((List.range b).filterMap fun (k : Nat) => xs[((0 : Int) + (k : Int) * 1).toNat]?).toArray = (xs.toList.take b).toArray := by
  have e : (fun (k : Nat) => xs[((0 : Int) + (k : Int) * 1).toNat]?) = fun k => xs[0 + k]? := by
    funext k
    have : ((0 : Int) + (k : Int) * 1).toNat = 0 + k := by omega
    rw [this]
  rw [e]
  have := pick_run xs 0 b
  rw [List.filterMap_map] at this
  have e2 : ((fun x => xs[x]?) ∘ fun x => 0 + x) = fun k => xs[0 + k]? := rfl
  rw [e2, List.drop_zero] at this
  rw [this]
theorem getItem_tuple_to {t sl : Addr} {items : Array Value} {b : Nat} {k : Int} {u : Tok} {Q : Value → Shared → Prop} (ht : IsTup s.heap t items) (hs : s.heap.IsSliceOf sl .none (.int k u) .none) (hk : (if k < 0 then max (k + (items.size : Int)) 0 else min k (items.size : Int)) = (b : Int)) (hb : b < items.size)
    (h : Q (.ref s.heap.objs.size) { s with heap := s.heap.push { cls := .type "tuple", data := .seq (items.toList.take b).toArray } })
    (hsz : items.size ≤ sizeLine) : wpAny (model prog w) A (getItem (.ref t) (.ref sl)) Q E s := by
  have hdrop : sizeOk (.seq (items.toList.take b).toArray) := by
    show (items.toList.take b).toArray.size ≤ sizeLine
    rw [List.size_toArray, List.length_take, Array.length_toList]
    omega
  obtain ⟨os, hos, hcs, hds⟩ := id hs
  have hTs : s.TypeIs (.ref sl) "slice" := ⟨os, hos, hcs⟩
  unfold getItem
  try with_reducible refine wpAny_holding ?_
  first | refine wpAny_bind (wpAny_pure ?_) | skip
  refine wpAny_bind (wpAny_sequenceKey ht.typeIs (by decide) ?_)
  refine wpAny_bind (wpAny_callSpecial?_slot (name := Str.ofString "__getitem__") ht.typeIs slot_tuple_getitem
    (wpAny_call_entry slot_tuple_getitem ht.typeIs entry_tuple_getitem ?_ (args_tuple_getitem _ _)))
  show wpAny _ _ (Builtin.Tuple.tupleItemsOf (.ref t) >>= _) _ _ s
  refine wpAny_bind (tupleItemsOf_ ht ?_)
  refine wpAny_bind (wpAny_typeOf hTs ?_)
  rw [if_pos (by decide)]
  refine wpAny_bind (sliceApplied_to hs hk ?_)
  have hno : ¬ (((0 : Int) == 0 && (1 : Int) == 1 && b == items.size) = true) := by
    have : (b == items.size) = false := by rw [beq_eq_false_iff_ne]; omega
    rw [this]; simp
  show wpAny _ _ (if ((0 : Int) == 0 && (1 : Int) == 1 && b == items.size) = true then _ else _) _ _ s
  rw [if_neg hno, pick_to items b]
  first
    | exact wpAny_bind (m := Builtin.Tuple.tupleExact _) (wpAny_newObj_type (wpAny_pure ⟨_, rfl, wpAny_pure h⟩) hdrop)
    | exact wpAny_bind (m := Builtin.Tuple.tupleExact _) (wpAny_newObj_type (wpAny_bind (wpAny_pure (wpAny_pure ⟨_, rfl, wpAny_pure h⟩))) hdrop)
    | exact wpAny_bind (wpAny_bind (m := Builtin.Tuple.tupleExact _) (wpAny_newObj_type (wpAny_pure (wpAny_pure ⟨_, rfl, wpAny_pure h⟩)) hdrop))
    | exact wpAny_bind (wpAny_bind (m := Builtin.Tuple.tupleExact _) (wpAny_newObj_type (wpAny_pure ⟨_, rfl, wpAny_pure h⟩) hdrop))
theorem slice_tuple_to {value slice : PySem.Expr} {t : Addr} {vs : List Value} {b : Nat} {k : Int} {u : Tok} {Q : Value → Shared → Prop}
    (F : Fr h₀ L s.heap m) (N : News h₀ L s.heap news) (ht : IsTup s.heap t vs.toArray) (hk : (if k < 0 then max (k + (vs.length : Int)) 0 else min k (vs.length : Int)) = (b : Int)) (hb : b < vs.length) (hsz : vs.length ≤ 100000)
    (h : ∀ D h', Fr h₀ L h' m → News h₀ L h' ((D, tupOf (vs.take b)) :: news) → (∀ p ∈ news, p.1 < D) → Q (.ref D) { s with heap := h' })
    (hs : subscripted slice false (.ref t) (.ref s.heap.objs.size) = operate [.ref s.heap.objs.size, .ref t] (getItem (.ref t) (.ref s.heap.objs.size)) := by with_unfolding_all rfl)
    (hg : ∀ r, letTemporaryGo value (.ref t) r = pure () := by intro _; with_unfolding_all rfl) :
    wpAny (model prog w) A (subscriptTail value slice (.ref t) (.ref s.heap.objs.size)) Q E { s with heap := s.heap.push { cls := .type "slice", data := .fields #[.none, .int k u, .none] } } := by
  have ht' : IsTup (s.heap.push { cls := .type "slice", data := .fields #[.none, .int k u, .none] }) t vs.toArray := ht.keeps fun _ _ e => Heap.get?_push_of_some _ e
  refine subscriptTail_ops (s := { s with heap := s.heap.push { cls := .type "slice", data := .fields #[.none, .int k u, .none] } }) ht'.typeIs slot_tuple_getitem.lookup
    (getItem_tuple_to ht' (Heap.IsSliceOf.new ..) (b := b) (by simpa using hk) (by simpa using hb) ?_ (by rw [List.size_toArray, sizeLine_eq]; omega)) hs hg
  have N1 := News.push (F.push { cls := .type "slice", data := .fields #[.none, .int k u, .none] }) (N.grown fun _ _ e => Heap.get?_push_of_some _ e) (tupOf (vs.take b))
  rw [Heap.size_push] at N1
  show Q (.ref (s.heap.push _).objs.size) _
  rw [Heap.size_push]
  exact h _ _ ((F.push _).push _) N1 fun p hp => Nat.lt_succ_of_lt (Heap.lt_size (N p hp).1)
theorem slice_tuple_fr {value slice : PySem.Expr} {t : Addr} {vs : List Value} {a : Nat} {u : Tok} {Q : Value → Shared → Prop}
    (F : Fr h₀ L s.heap m) (N : News h₀ L s.heap news) (ht : IsTup s.heap t vs.toArray) (h1 : 1 ≤ a) (ha : a ≤ vs.length) (hsz : vs.length ≤ 100000)
    (h : ∀ D h', Fr h₀ L h' m → News h₀ L h' ((D, tupOf (vs.drop a)) :: news) → (∀ p ∈ news, p.1 < D) → Q (.ref D) { s with heap := h' })
    (hs : subscripted slice false (.ref t) (.ref s.heap.objs.size) = operate [.ref s.heap.objs.size, .ref t] (getItem (.ref t) (.ref s.heap.objs.size)) := by with_unfolding_all rfl)
    (hg : ∀ r, letTemporaryGo value (.ref t) r = pure () := by intro _; with_unfolding_all rfl) :
    wpAny (model prog w) A (subscriptTail value slice (.ref t) (.ref s.heap.objs.size)) Q E { s with heap := s.heap.push { cls := .type "slice", data := .fields #[.int (a : Int) u, .none, .none] } } :=
  slice_tuple_from F N ht h1 (by simpa using ha) (fun h' F' N' => h _ h' F' N' fun p hp => Nat.lt_succ_of_lt (Heap.lt_size (N p hp).1)) hs hg (by rw [List.size_toArray, sizeLine_eq]; omega)
end
end

section
-- GF
local macro_rules | `(tactic| walk_at "no such key") => `(tactic| fail)
open PySem PySem.W PySem.Calls PyProof.Rows
set_option Elab.async false
set_option maxRecDepth 100000
set_option linter.unusedVariables false
theorem cut1 {x : List UInt8} (h : 1 ≤ x.length) : (x.drop (clipAt x.length 1)).take (x.length - clipAt x.length 1) = x.drop 1 := by
  have e : clipAt x.length 1 = 1 := by rw [show (1 : Int) = ((1 : Nat) : Int) from rfl, clipAt_nat]; omega
  rw [e, List.take_of_length_le (by simp)]
section
local macro_rules | `(tactic| walk_at "exec For Name Call cons nil") => `(tactic| (k_here; k_dflt (refine' For_S ?F ?B ?k1 ?k2 ?_; (case F => k_asm); (case B => k_asm); (case k1 => exact rfl); (case k2 => exact rfl))))
local macro_rules | `(tactic| walk_at "RangeS") => `(tactic| (with_reducible refine Hold.mk ?_))
local macro_rules | `(tactic| walk_at "PostS") => `(tactic| (dsimp only [PostS]))
local macro_rules | `(tactic| walk_at "EndS") => `(tactic| (with_reducible refine Hold.mk ?_))
local macro_rules | `(tactic| walk_at "subscriptTail") => `(tactic| (k_here; (with_reducible show wpAny _ _ (subscriptTail _ (Expr.Slice _ none none _) (Value.bytes (List.toArray _) _) (Value.ref _)) _ _ _); (with_reducible rename Fr _ _ _ _ => F'); (with_reducible rename News _ _ _ _ => N'); k_dflt (refine slice_B (lo := some 1) (hi := none) (s := ⟨_, _, _, _, _⟩) F' N' (by constructor) (by constructor) (by omega) (cut1 (by omega)) ?_); intro h' t' k' F' N'; (try k_sweep)))
set_option hygiene false in
local macro_rules | `(tactic| walk_at "subscriptTail") => `(tactic| (k_here; (with_reducible show wpAny _ _ (subscriptTail _ (Expr.Slice (some _) none none _) (Value.ref _) (Value.ref _)) _ _ _); (with_reducible rename Fr _ _ _ _ => F'); (with_reducible rename News _ _ _ _ => N'); k_dflt (refine slice_tuple_fr (a := 1) (s := ⟨_, _, _, _, _⟩) F' N' (News.isTup N' (by k_mem)) (by decide) (by omega) (by omega) ?_); intro sD sH sF sN sL; (try k_lt sL); (try k_sweep)))
set_option hygiene false in
local macro_rules | `(tactic| walk_at "subscriptTail") => `(tactic| (k_here; (with_reducible show wpAny _ _ (subscriptTail _ (Expr.Slice none (some _) none _) (Value.ref _) (Value.ref _)) _ _ _); (with_reducible rename Fr _ _ _ _ => F'); (with_reducible rename News _ _ _ _ => N'); k_dflt (refine slice_tuple_to (k := -1) (b := 8 * n - 1) (s := ⟨_, _, _, _, _⟩) F' N' (News.isTup N' (by k_mem)) (by omega) (by omega) (by omega) ?_); intro sD sH sF sN sL; (try k_lt sL); (try k_sweep)))
set_option hygiene false in
local macro_rules | `(tactic| walk_at "binaryOp Add bytes bytes") => `(tactic| (k_here; (with_reducible show wpAny _ _ (binaryOp Operator.Add (Value.bytes (List.toArray _) _) (Value.bytes #[_] _)) _ _ _); k_dflt (refine' bytes_add_K ?z rfl ?_; (case z => (simp only [List.size_toArray, List.length_cons, List.length_nil]; omega))); intro tA kA))
set_option maxHeartbeats 4000000 in
theorem refused_spec {w : World} {A : Around} {base g : Heap} {fr : List Env} {mean : ExcName → Option Value} {mg mb : Str → Option Value} {s : Shared} {R : Result → Shared → Prop}
    {f fo' tr dd db sd : Addr} {B : List Bs} {x root key y : Bs} {vs : List Value} {t1 t2 t3 t4 t5 t6 tn td tx trt tkey ty : Tok} {n : Nat}
    (C : Ctx w A base fr g mean mg mb) (XB : (hd.heap_39 w.params).In base) (TB : Top topProg LOOSE mean mg mb base) (D : KtsDicts (fr.filterMap (·.frame)) g)
    (O : Own g s.heap [(tr, instObj 235 dd), (dd, treeD w t1 t2 t3 t4 t5 t6 tn td tx trt n x f db root), (sd, tupOf vs)])
    (hroom : A.depth + 20 < recursionLimit) (hh : A.handled = none) (hn : n ≤ 32) (hn1 : 1 ≤ n) (hk : key.length = n) (hv : vs.length = 8 * n)
    (hQ : ∀ h' tk g', KtsTurn (fr.filterMap (·.frame)) g g' → Own g' h' [(tr, instObj 235 dd), (dd, treeD w t1 t2 t3 t4 t5 t6 tn td tx trt n x f db root), (sd, tupOf vs)] → R (.ok (.ret (.bool true))) { s with heap := h', toks := tk }) :
    codeAny (model PR w) A (.call (.ref 305) ⟨[.ref tr, .bytes key.toArray tkey, .ref sd, .bytes y.toArray ty, .ref fo'], []⟩) R s := by
  obtain ⟨X', T', B'⟩ : (hd.heap_39 w.params).In g ∧ Top topProg LOOSE mean mg mb g ∧ Below A base fr g := ⟨C.X, C.T, C.B⟩
  w_on
  refine' enter (binds := [(Str.ofString "tree", .ref tr), (Str.ofString "key", .bytes key.toArray tkey), (Str.ofString "side", .ref sd), (Str.ofString "value", .bytes y.toArray ty), (Str.ofString "hash_of", .ref fo')]) C O ?k6 ?k7 ?k8 ?k9 ?kB ?c5 ?c2 ?c3 ?c4 ?_
  (case k6 => k_is)
  (case k7 => k_is)
  (case k8 => k_room)
  (case k9 => exact BindsTo.of_eq rfl)
  (case kB => exact locs rfl)
  (case c5 => decide)
  (case c2 => exact rfl)
  (case c3 => exact rfl)
  (case c4 => exact rfl)
  intro L' h₁ F' N' lt'
  (try k_fold)
  have hk' : key.toArray.size = n := by rw [List.size_toArray]; exact hk
  k_steps
  rename Fr _ _ _ _ => F2
  rename News _ _ _ _ => N2
  rename IsRange _ _ _ _ _ _ _ _ => hr
  have B2 : Below A base fr g := C.B
  unfold Hold
  refine ⟨4, _, _, _, _, _, _, rfl, hr, by omega, hh, F2, N2, B2, ?_, ?_⟩
  · intro i t g2 h tk I oI hi T3 B3 F3 N3 ne3
    have X3 : (hd.heap_39 w.params).In g2 := XB.keeps B3.stays
    have TT3 : Top topProg LOOSE mean mg mb g2 := TB.keeps B3.stays
    have D3 := D.turn T3
    simp only [AllNe, and_true] at ne3
    clear X' T' B' C B2 F2 N2 hr D T3 hQ O
    have hi4 : i = 0 ∨ i = 1 ∨ i = 2 ∨ i = 3 := by omega
    rcases hi4 with rfl | rfl | rfl | rfl
    · replace F3 : Fr g2 L' h (fun y => if y = Str.ofString "turn" then some (.int 0 t) else _) := F3
      have hsz : (key ++ [0]).toArray.size = n + 1 := by simp [hk]
      have hpr : (((key ++ [0]).toArray.size : Nat) : Int) ≠ (n : Int) := by omega
      (try dsimp only)
      (try k_fold)
      k_steps
      all_goals (try dsimp only)
      all_goals k_steps
      · rename (_ != _) = true => hw
        exact absurd hw (by simp)
      · rename Fr _ _ _ _ => F4
        rename News _ _ _ _ => N4
        rename KtsTurn _ _ _ => T4
        unfold Hold
        exact ⟨_, _, _, _, rfl, T4, F4, kst_newsOf N4 (by k_allIn)⟩
    · replace F3 : Fr g2 L' h (fun y => if y = Str.ofString "turn" then some (.int 1 t) else _) := F3
      have hsz : (key.drop 1).toArray.size = n - 1 := by simp [hk]
      have hpr : (((key.drop 1).toArray.size : Nat) : Int) ≠ (n : Int) := by omega
      (try dsimp only)
      (try k_fold)
      k_steps
      all_goals (try dsimp only)
      all_goals k_steps
      · rename (_ != _) = true => hw
        exact absurd hw (by simp)
      · rename Fr _ _ _ _ => F4
        rename News _ _ _ _ => N4
        rename KtsTurn _ _ _ => T4
        unfold Hold
        exact ⟨_, _, _, _, rfl, T4, F4, kst_newsOf N4 (by k_allIn)⟩
    · replace F3 : Fr g2 L' h (fun y => if y = Str.ofString "turn" then some (.int 2 t) else _) := F3
      have hsz : (vs.drop 1).length = 8 * n - 1 := by simp [hv]
      have hpr : (((vs.drop 1).toArray.size : Nat) : Int) ≠ (n : Int) * 8 := by simp only [List.size_toArray]; omega
      (try dsimp only)
      (try k_fold)
      k_steps
      all_goals (try dsimp only)
      all_goals k_steps
      · rename (_ != _) = true => hw
        exact absurd hw (by simp)
      · rename Fr _ _ _ _ => F4
        rename News _ _ _ _ => N4
        rename KtsTurn _ _ _ => T4
        unfold Hold
        exact ⟨_, _, _, _, rfl, T4, F4, kst_newsOf N4 (by k_allIn)⟩
    · replace F3 : Fr g2 L' h (fun y => if y = Str.ofString "turn" then some (.int 3 t) else _) := F3
      have hsz : (vs.take (8 * n - 1)).length = 8 * n - 1 := by simp [hv]
      have hpr : (((vs.take (8 * n - 1)).toArray.size : Nat) : Int) ≠ (n : Int) * 8 := by simp only [List.size_toArray]; omega
      (try dsimp only)
      (try k_fold)
      k_steps
      all_goals (try dsimp only [InitBack])
      all_goals k_steps
      · rename (_ != _) = true => hw
        exact absurd hw (by simp)
      · rename Fr _ _ _ _ => F4
        rename News _ _ _ _ => N4
        rename KtsTurn _ _ _ => T4
        unfold Hold
        exact ⟨_, _, _, _, rfl, T4, F4, kst_newsOf N4 (by k_allIn)⟩
  · intro g2 h tk u T3 B3 F3 N3
    have X3 : (hd.heap_39 w.params).In g2 := XB.keeps B3.stays
    have TT3 : Top topProg LOOSE mean mg mb g2 := TB.keeps B3.stays
    dsimp only
    (try k_fold)
    k_steps
    rename Fr _ _ _ _ => F4
    rename News _ _ _ _ => N4
    show R (.ok (.ret (.bool true))) _
    exact hQ _ _ _ T3 (own_of F4 (kst_newsOf N4 (by k_allIn)))
end
end

section
-- GP
open PySem PySem.W PySem.Calls PyProof.Rows
set_option Elab.async false
set_option maxRecDepth 100000
set_option linter.unusedVariables false
/-- a proof's attributes -/
abbrev proofD (w : World) (t1 t2 t3 t4 t5 t6 tk tn ty tb : Tok) (n : Nat) (key y : Bs) (pb f : Addr) : Obj :=
  dictOf [kE w "_key" t1 (.bytes key.toArray tk), kE w "_key_size" t2 (.int (n : Int) tn), kE w "_value" t3 (.bytes y.toArray ty), kE w "_branch" t4 (.ref pb), kE w "_branch_size" t5 (.int ((8 * n : Nat) : Int) tb), kE w "hash_of" t6 (.ref f)] 6
section
set_option maxHeartbeats 4000000 in
theorem pinit_spec {w : World} {A : Around} {base g : Heap} {fr : List Env} {mean : ExcName → Option Value} {mg mb : Str → Option Value} {s : Shared} {R : Result → Shared → Prop}
    {f pf pd bl : Addr} {key y : Bs} {vs : List Value} {tkey ty : Tok} {n cnt : Nat}
    (C : Ctx w A base fr g mean mg mb) (O : Own g s.heap [(pf, instObj 132 pd), (pd, dictOf [] 0), (bl, listOf vs.toArray cnt)])
    (hroom : A.depth + 20 < recursionLimit) (hh : A.handled = none) (hn : n ≤ 32) (hn1 : 1 ≤ n) (hk : key.length = n) (hv : vs.length = 8 * n) (na : @Ne Nat pf pd ∧ @Ne Nat pf bl ∧ @Ne Nat pd bl)
    (hQ : ∀ h' tk t1 t2 t3 t4 t5 t6 tn tb pb c', Own g h' [(pb, listOf vs.toArray c'), (pf, instObj 132 pd), (pd, proofD w t1 t2 t3 t4 t5 t6 tkey tn ty tb n key y pb f), (bl, listOf vs.toArray cnt)] → (@LT.lt Nat _ pf pb ∧ @LT.lt Nat _ pd pb ∧ @LT.lt Nat _ bl pb) → R (.ok (.ret .none)) { s with heap := h', toks := tk }) :
    codeAny (model PR w) A (.call (.ref 90) ⟨[.ref pf, .bytes key.toArray tkey, .bytes y.toArray ty, .ref bl, .ref f], []⟩) R s := by
  obtain ⟨na1, na2, na3⟩ := na
  obtain ⟨X', T', B'⟩ : (hd.heap_39 w.params).In g ∧ Top topProg LOOSE mean mg mb g ∧ Below A base fr g := ⟨C.X, C.T, C.B⟩
  w_on
  refine' enter (binds := [(Str.ofString "self", .ref pf), (Str.ofString "key", .bytes key.toArray tkey), (Str.ofString "value", .bytes y.toArray ty), (Str.ofString "branch", .ref bl), (Str.ofString "hash_of", .ref f)]) C O ?k6 ?k7 ?k8 ?k9 ?kB ?c5 ?c2 ?c3 ?c4 ?_
  (case k6 => k_is)
  (case k7 => k_is)
  (case k8 => k_room)
  (case k9 => exact BindsTo.of_eq rfl)
  (case kB => exact locs rfl)
  (case c5 => decide)
  (case c2 => exact rfl)
  (case c3 => exact rfl)
  (case c4 => exact rfl)
  intro L' h₁ F' N' lt'
  (try k_fold)
  have hk' : key.toArray.size = n := by rw [List.size_toArray]; exact hk
  k_steps
  rename Fr _ _ _ _ => F2
  rename News _ _ _ _ => N2
  rename (_ ∧ _ ∧ _) => lt3
  have hvs : vs.toArray.size = 8 * n := by rw [List.size_toArray]; exact hv
  rw [hk', hvs] at N2
  show R (.ok (.ret .none)) _
  exact hQ _ _ _ _ _ _ _ _ _ _ _ _ (own_of F2 (kst_newsOf N2 (by k_allIn))) lt3

end
end

section
-- GQ
open PySem PySem.W PySem.Calls PyProof.Rows
set_option Elab.async false
set_option maxRecDepth 100000
set_option linter.unusedVariables false
theorem xor_halves (p q : Int) : Builtin.bitXor p q = 2 * Builtin.bitXor (p / 2) (q / 2) + (p + q) % 2 := by
  rw [bitXor_and, bitXor_and, kbt_halves]
  split <;> omega
theorem xor_bit : ∀ (b : Nat) (p q : Int), Builtin.bitXor p q / 2 ^ b % 2 = (p / 2 ^ b + q / 2 ^ b) % 2
  | 0, p, q => by
    rw [xor_halves]
    simp only [Int.pow_zero, Int.ediv_one]
    omega
  | b + 1, p, q => by
    have e : ∀ x : Int, x / 2 ^ (b + 1) = x / 2 / 2 ^ b := fun x => by
      rw [Int.pow_succ, Int.mul_comm, Int.ediv_ediv_of_nonneg (by decide)]
    rw [e, e, e, ← xor_bit b]
    congr 2
    rw [xor_halves p q]
    omega
theorem xor_nat_bit (b p q : Nat) : Builtin.bitXor (p : Int) (q : Int) / 2 ^ b % 2 = (((p / 2 ^ b + q / 2 ^ b) % 2 : Nat) : Int) := by
  rw [xor_bit]
  push_cast
  rfl
theorem xor_zero {p q : Nat} (h : Builtin.bitXor (p : Int) (q : Int) = 0) : p = q := by
  rw [bitXor_and, bitAnd_pp (by omega) (by omega)] at h
  simp only [Int.toNat_natCast] at h
  have h1 := Nat.and_le_left (n := p) (m := q)
  have h2 := Nat.and_le_right (n := p) (m := q)
  omega
def rIt (x n : Int) : Obj := { cls := .type "range_iterator", data := .fields #[rawInt x, rawInt n, rawInt (-1)] }
section
variable {prog : Program} {w : World} {A : Around} {E : Value → Shared → Prop} {s : Shared}
theorem rr_sub : isSubtype (.type "range_iterator") (.type "reversed") = pure false := by rw [isSubtype_type]; kernel_rfl
theorem range_fields {M : Model} {r : Addr} {o : Obj} {a b c : Int} {t u v : Tok} {Q : Int × Int × Int → Shared → Prop} (ho : s.heap.get? r = some o) (hd : o.data = .fields #[.int a t, .int b u, .int c v]) (h : Q (a, b, c) s) :
    wpAny M A (Builtin.Range.rangeFields (.ref r)) Q E s := by
  unfold Builtin.Range.rangeFields
  refine wpAny_bind (wpAny_field ho hd (x := .int a t) (by simp) ?_)
  refine wpAny_bind (wpAny_of_eq (a := some a) rfl ?_)
  refine wpAny_bind (wpAny_field ho hd (x := .int b u) (by simp) ?_)
  refine wpAny_bind (wpAny_of_eq (a := some b) rfl ?_)
  refine wpAny_bind (wpAny_field ho hd (x := .int c v) (by simp) ?_)
  refine wpAny_bind (wpAny_of_eq (a := some c) rfl ?_)
  exact wpAny_pure h
theorem rr_call {r : Addr} {n : Nat} {t u v : Tok} {Q : Value → Shared → Prop} (hr : IsRange s.heap r 0 (n : Int) 1 t u v) (hn : n ≤ 100000)
    (h : Q (.ref s.heap.objs.size) { s with heap := s.heap.push (rIt ((n : Int) - 1) (n : Int)) }) : wpAny (model prog w) A (call (.builtin "range.__reversed__") [.ref r]) Q E s := by
  have hT : s.TypeIs (.ref r) "range" := ⟨_, hr, rfl⟩
  refine wpAny_call_entry F.slot_range_reversed hT F.entry_range_reversed ?_ (F.args_range_reversed_1 _)
  have hsm : (Builtin.Range.rangeFitsLong 0 && Builtin.Range.rangeFitsLong (n : Int) && Builtin.Range.rangeFitsLong 1 && Builtin.Range.rangeFitsLong (-1) && Builtin.Range.rangeFitsLong (0 - 1) && Builtin.Range.rangeFitsLong (n : Int)) = true := by
    simp only [Builtin.Range.rangeFitsLong, Bool.and_eq_true, decide_eq_true_eq]
    omega
  unfold Builtin.«range.__reversed__»
  refine wpAny_bind (wpAny_of_eq (a := Value.ref r) rfl ?_)
  obtain ⟨o, ho, hd⟩ : ∃ o, s.heap.get? r = some o ∧ o.data = .fields #[.int 0 t, .int (n : Int) u, .int 1 v] := ⟨_, hr, rfl⟩
  refine wpAny_bind (range_fields ho hd ?_)
  dsimp only
  rw [rsize]
  simp only [hsm, Bool.not_true, Bool.false_eq_true, if_false, if_true]
  have e1 : (0 : Int) + ((n : Int) - 1) * 1 = (n : Int) - 1 := by omega
  rw [e1]
  exact wpAny_bind (wpAny_newObj_type (wpAny_pure ⟨_, rfl, h⟩))
theorem rr_new {r : Addr} {n : Nat} {t u v : Tok} {Q₁ : Value → Shared → Prop} (hr : IsRange s.heap r 0 (n : Int) 1 t u v) (hn : n ≤ 100000)
    (h : Q₁ (.ref s.heap.objs.size) { s with heap := s.heap.push (rIt ((n : Int) - 1) (n : Int)) }) :
    codeAny (model prog w) A (.call (.builtin "reversed.__new__") ⟨[.type "reversed", .ref r], []⟩) (wants Q₁ E) s := by
  have hT : s.TypeIs (.ref r) "range" := ⟨_, hr, rfl⟩
  refine codeAny_of_tree ?_
  show wpAny _ A.in1 (do checkBuiltinCall "reversed.__new__" ⟨[.type "reversed", .ref r], []⟩; again (.builtin "reversed.__new__" ⟨[.type "reversed", .ref r], []⟩)) _ _ s
  refine wpAny_bind (wpAny_of_eq (F.newCall_reversed_1 _) (wpAny_pure ⟨plainId_quiet F.plain_reversed_new _, codeAny_builtin F.entry_reversed_new ?_⟩))
  rw [Around.under_plainId F.plain_reversed_new _]
  unfold Builtin.«reversed.__new__»
  refine wpAny_bind (wpAny_of_eq (newClass_reversed _) ?_)
  try dsimp only
  refine wpAny_bind (wpAny_of_eq (a := ()) (by first | rfl | kernel_rfl) ?_)
  refine wpAny_bind (wpAny_of_eq (a := ()) (by first | rfl | kernel_rfl) ?_)
  try dsimp only
  refine wpAny_bind (wpAny_specialOf hT F.slot_range_reversed.lookup ?_)
  try dsimp only
  refine wpAny_bind (wpAny_of_eq (F.slot_range_reversed.bind _) ?_)
  try dsimp only
  first
  | rw [if_neg (show ¬ ((Value.builtin "range.__reversed__" == Value.none) = true) from Bool.false_ne_true)]
  | (show wpAny _ _ (if (Value.builtin "range.__reversed__" == Value.none) = true then _ else _) _ _ _; rw [if_neg (show ¬ ((Value.builtin "range.__reversed__" == Value.none) = true) from Bool.false_ne_true)])
  refine wpAny_bind (wpAny_rule ?_)
  refine wpAny_bind (m := runValue (.call (.builtin "range.__reversed__") ⟨[.ref r], []⟩)) (show wpAny _ _ (call (.builtin "range.__reversed__") [.ref r]) _ _ _ from rr_call hr hn ?_)
  first
  | exact wpAny_pure h
  | exact wpAny_bind (wpAny_pure (wpAny_pure h))
theorem rr_reversed {r : Addr} {n : Nat} {t u v : Tok} {Q : Value → Shared → Prop} (hr : IsRange s.heap r 0 (n : Int) 1 t u v) (hn : n ≤ 100000)
    (h : Q (.ref s.heap.objs.size) { s with heap := s.heap.push (rIt ((n : Int) - 1) (n : Int)) }) : wpAny (model prog w) A (call (.type "reversed") [.ref r]) Q E s := by
  refine callType_other (U := "range_iterator") (Q₁ := fun obj s₁ => obj = .ref s.heap.objs.size ∧ s₁ = { s with heap := s.heap.push (rIt ((n : Int) - 1) (n : Int)) }) (by decide +kernel) F.create_reversed ⟨_, _, F.mro_reversed⟩ F.made_reversed rr_sub (F.typeCall_reversed_1 _) (rr_new hr hn ⟨rfl, rfl⟩) ?_
  rintro obj s₁ ⟨rfl, rfl⟩
  exact ⟨⟨_, Heap.get?_push_size _ rfl, rfl⟩, h⟩
end
section
variable {prog : Program} {w : World} {A : Around} {E : Value → Shared → Prop} {s : Shared} {h₀ : Heap} {L : Addr} {m : Str → Option Value} {news : List (Addr × Obj)}
theorem rr_at {r : Addr} {n : Nat} {t u v : Tok} {Q : Value → Shared → Prop} (F : Fr h₀ L s.heap m) (N : News h₀ L s.heap news) (hr : IsRange s.heap r 0 (n : Int) 1 t u v) (hn : n ≤ 100000)
    (h : ∀ I h', Fr h₀ L h' m → News h₀ L h' ((I, rIt ((n : Int) - 1) (n : Int)) :: news) → (∀ p ∈ news, p.1 < I) → Q (.ref I) { s with heap := h' }) :
    wpAny (model prog w) A (call (.type "reversed") [.ref r]) Q E s :=
  rr_reversed hr hn (h _ _ (F.push _) (News.push F N _) fun p hp => Heap.lt_size (N p hp).1)
end
section
variable {prog : Program} {w : World} {A : Around} {E : Value → Shared → Prop} {s : Shared} {env : Env} {h₀ : Heap} {x : Str} {body : List Stmt} {Q : Flow → Shared → Prop}
/-- a loop over a range turned round: RO stands in the ledger, nothing is changed -/
theorem kst_down {I : Addr} {n : Nat} {m₀ : Str → Option Value} (RO : List (Addr × Obj)) (P : List Int → Unit → Prop) (hh : A.handled = none) (F : Fr h₀ env.locals s.heap m₀) (N : News h₀ env.locals s.heap ((I, rIt ((n : Int) - 1) (n : Int)) :: RO)) (hne : ∀ p ∈ RO, p.1 ≠ I) (hp : P [] ())
    (turn : ∀ (pre : List Int) t (u : Str → Option Value) h tk own, pre.length < n → P pre () →
      Fr h₀ env.locals h (fun y => if y = x then some (.int ((n : Int) - 1 - (pre.length : Int)) t) else m₀ y) → News h₀ env.locals h (RO ++ own) →
      wpAny (model prog w) A (execs body env) (InvPostN h₀ env.locals (KstS (fun _ : Unit => RO ++ ([] : List (Addr × Obj))) (fun _ => []) (fun _ => True) x [] m₀ P (pre ++ [(pre.length : Int)])) own ((RO ++ ([] : List (Addr × Obj))).map (·.1)) { s with heap := h, toks := tk } Q) E { s with heap := h, toks := tk })
    (done : ∀ (u : Str → Option Value) h tk, P (rangeKs 0 n) () → Fr h₀ env.locals h (fun y => if y = x then u y else m₀ y) → News h₀ env.locals h RO → Q .next { s with heap := h, toks := tk }) :
    wpAny (model prog w) A (pyIter (.ref I)) (fun it s₂ => LoopAtV prog w A h₀ env x body Q E it s₂) E s := by
  have hI := N _ (List.mem_cons_self ..)
  have hst : IsRangeIter s.heap I ((n : Int) - 1 + ((0 : Nat) : Int) * (-1)) ((n : Int) - ((0 : Nat) : Int)) (-1) := by
    have e1 : ((n : Int) - 1 + ((0 : Nat) : Int) * (-1)) = (n : Int) - 1 := by omega
    have e2 : ((n : Int) - ((0 : Nat) : Int)) = (n : Int) := by omega
    rw [e1, e2]
    exact hI.1
  refine (down_walks hh n).self 0 s _ _ hst ?_
  refine kst_anyX (σ := Unit) RO (fun _ => []) (fun _ => []) (fun _ => True) [] P () (down_walks hh n) ?_ ?_ ?_ ?_ ?_ hst F (by rw [List.append_nil]; exact fun p hp => N p (List.mem_cons_of_mem _ hp)) trivial (fun p hp => nomatch hp) hp ?_ ?_
  · intro hm
    exact hI.2.1 (List.mem_singleton.mp hm).symm
  · intro b hb
    rw [List.mem_singleton.mp hb]
    exact hI.2.2
  · intro p hp hm
    exact hne p hp (List.mem_singleton.mp hm)
  · exact fun p hp => nomatch hp
  · exact fun p hp => nomatch hp
  · intro c pre v u h tk own hlt ⟨t, hv⟩ _ _ _ hP F' N'
    subst hv
    exact turn pre t u h tk own hlt hP F' (by simpa using N')
  · intro c u h tk _ hP F' N'
    exact done u h tk hP F' (by simpa using N')
end
section
variable {prog : Program} {w : World} {A : Around} {E : Value → Shared → Prop} {s : Shared} {h₀ : Heap} {L : Addr} {m : Str → Option Value} {news news' : List (Addr × Obj)}
theorem set_list {D : Addr} {vs : List Value} {n : Nat} {k : Int} {t : Tok} {v : Value} {Q : Unit → Shared → Prop} (F : Fr h₀ L s.heap m) (N : News h₀ L s.heap news) (U : Upd D (listOf vs.toArray n) (listOf (vs.set k.toNat v).toArray n) news news') (h0 : 0 ≤ k) (h1 : k < vs.length) (hfit : vs.length ≤ 100000)
    (h : ∀ h', Fr h₀ L h' m → News h₀ L h' news' → Q () { s with heap := h' }) :
    wpAny (model prog w) A (setItem (.ref D) (.int k t) v) Q E s := by
  obtain ⟨pre, post, rfl, rfl, a, b⟩ := U.split
  have z := N (D, listOf vs.toArray n) (List.mem_append.mpr (.inr (.head _)))
  refine ki_setAt z.1 h0 (by omega) (by rw [List.size_toArray]; exact h1) (h _ (F.change (Heap.SameBut.update ..) z.2.1 z.2.2) (ki_turn _ N a b ?_ ?_))
  · show vs.toArray.setIfInBounds k.toNat v = (vs.set k.toNat v).toArray
    apply Array.toList_inj.mp
    simp
  · simp
theorem item_tup {l : Addr} {value slice : PySem.Expr} {vs : List Value} {k : Int} {u : Tok} {v : Value} {Q : Value → Shared → Prop}
    (N : News h₀ L s.heap news) (hm : (l, tupOf vs) ∈ news) (h0 : 0 ≤ k) (hsz : vs.length ≤ 100000) (hx : vs[k.toNat]? = some v) (h : Q v s)
    (hs : subscripted slice false (.ref l) (.int k u) = operate [.ref l, .int k u] (getItem (.ref l) (.int k u)) := by with_unfolding_all rfl) :
    wpAny (model prog w) A (subscriptTail value slice (.ref l) (.int k u)) Q E s := by
  have hi := (List.getElem?_eq_some_iff.mp hx).1
  refine item_tupleT (News.isTup N hm) (by omega) (by omega) ?_ hx h hs
  have h2 : k < (vs.length : Int) := by omega
  have h3 : ¬ (k < 0) := by omega
  simp [seqIndex?, h0, h2, h3]
end
end

section
-- GO
local macro_rules | `(tactic| walk_at "no such key") => `(tactic| fail)
open PySem PySem.W PySem.Calls PyProof.Rows
set_option Elab.async false
set_option maxRecDepth 100000
set_option linter.unusedVariables false
section
set_option hygiene false in
local macro_rules | `(tactic| walk_at "call type:reversed") => `(tactic| (k_here; (with_reducible show wpAny _ _ (call (Value.type _) [Value.ref _]) _ _ _); (rename IsRange _ _ _ _ _ _ _ _ => rgX); k_dflt (refine' rr_at ?F ?N ?t ?z ?_; (case t => exact rgX); (case F => k_asm); (case N => k_asm); (case z => omega)); intro rD rH FR NR ltR; (try k_lt ltR); (try k_sweep)))
local macro_rules | `(tactic| walk_at "subscriptTail") => `(tactic| (k_here; (with_reducible show wpAny _ _ (subscriptTail _ _ (Value.ref _) (Value.int _ _)) _ _ _); k_dflt (refine' item_tup ?N ?m ?h0 ?z ?hx ?_; (case N => k_asm); (case m => k_mem); (case hx => assumption); (case h0 => omega); (case z => omega))))
local macro_rules | `(tactic| walk_at "setItem ref int") => `(tactic| (k_here; k_dflt (refine' set_list ?F ?N ?U ?h0 ?h1 ?z ?_; (case F => k_asm); (case N => k_asm); (case U => k_upd); (case h0 => omega); (case h1 => omega); (case z => omega)); intro h' F' N'; (try k_sweep)))
set_option maxHeartbeats 4000000 in
theorem update_spec {w : World} {A : Around} {base g : Heap} {fr : List Env} {mean : ExcName → Option Value} {mg mb : Str → Option Value} {s : Shared} {R : Result → Shared → Prop}
    {f pf pd pb us : Addr} {key0 y0 key y : Bs} {vs ws : List Value} {t1 t2 t3 t4 t5 t6 tk0 tn ty0 tb tkey ty : Tok} {n cnt : Nat}
    (C : Ctx w A base fr g mean mg mb) (O : Own g s.heap [(pf, instObj 132 pd), (pd, proofD w t1 t2 t3 t4 t5 t6 tk0 tn ty0 tb n key0 y0 pb f), (pb, listOf vs.toArray cnt), (us, tupOf ws)])
    (hroom : A.depth + 20 < recursionLimit) (hh : A.handled = none) (hn : n ≤ 32) (hn1 : 1 ≤ n) (hk0 : key0.length = n) (hk : key.length = n) (hv : vs.length = 8 * n) (hw : ws.length = 8 * n)
    (na : @Ne Nat pf pd ∧ @Ne Nat pf pb ∧ @Ne Nat pd pb ∧ @Ne Nat pf us ∧ @Ne Nat pd us ∧ @Ne Nat pb us)
    (hQ : ∀ h' tk t3' ty' y' vs', Own g h' [(pf, instObj 132 pd), (pd, proofD w t1 t2 t3' t4 t5 t6 tk0 tn ty' tb n key0 y' pb f), (pb, listOf vs'.toArray cnt), (us, tupOf ws)] →
      ((dec key0 = dec key ∧ y' = y ∧ vs' = vs) ∨ (dec key0 ≠ dec key ∧ y' = y0 ∧ ∃ (b : Nat) (e : Value), b < 8 * n ∧ dec key0 / 2 ^ (b + 1) = dec key / 2 ^ (b + 1) ∧ dec key0 / 2 ^ b ≠ dec key / 2 ^ b ∧ ws[8 * n - 1 - b]? = some e ∧ vs' = vs.set (8 * n - 1 - b) e)) →
      R (.ok (.ret .none)) { s with heap := h', toks := tk }) :
    codeAny (model PR w) A (.call (.ref 129) ⟨[.ref pf, .bytes key.toArray tkey, .bytes y.toArray ty, .ref us], []⟩) R s := by
  obtain ⟨na1, na2, na3, na4, na5, na6⟩ := na
  obtain ⟨X', T', B'⟩ : (hd.heap_39 w.params).In g ∧ Top topProg LOOSE mean mg mb g ∧ Below A base fr g := ⟨C.X, C.T, C.B⟩
  w_on
  refine' enter (binds := [(Str.ofString "self", .ref pf), (Str.ofString "key", .bytes key.toArray tkey), (Str.ofString "value", .bytes y.toArray ty), (Str.ofString "node_updates", .ref us)]) C O ?k6 ?k7 ?k8 ?k9 ?kB ?c5 ?c2 ?c3 ?c4 ?_
  (case k6 => k_is)
  (case k7 => k_is)
  (case k8 => k_room)
  (case k9 => exact BindsTo.of_eq rfl)
  (case kB => exact locs rfl)
  (case c5 => decide)
  (case c2 => exact rfl)
  (case c3 => exact rfl)
  (case c4 => exact rfl)
  intro L' h₁ F' N' lt'
  (try k_fold)
  have hk' : key.toArray.size = n := by rw [List.size_toArray]; exact hk
  have hk0' : key0.toArray.size = n := by rw [List.size_toArray]; exact hk0
  k_steps
  · rename Fr _ _ _ _ => F2
    rename News _ _ _ _ => N2
    rename (Builtin.bitXor _ _ = 0) => hz
    show R (.ok (.ret .none)) _
    exact hQ _ _ _ _ _ _ (own_of F2 (kst_newsOf N2 (by k_allIn))) (.inl ⟨xor_zero hz, rfl, rfl⟩)
  · rename ¬ (Builtin.bitXor _ _ = 0) => hz
    have hne : dec key0 ≠ dec key := fun e => hz (by rw [e]; exact bitXor_self _)
    have hp0 : dec key0 < 2 ^ (8 * n) := by rw [← hk0]; exact dec_lt key0
    have hp1 : dec key < 2 ^ (8 * n) := by rw [← hk]; exact dec_lt key
    have N2 := kst_newsOf NR (l' := [(rD, rIt (((8 * n : Nat) : Int) - 1) ((8 * n : Nat) : Int)), (pf, instObj 132 pd), (pd, proofD w t1 t2 t3 t4 t5 t6 tk0 tn ty0 tb n key0 y0 pb f), (pb, listOf vs.toArray cnt), (us, tupOf ws)]) (by k_allIn)
    unfold Hold
    refine' kst_down [(pf, instObj 132 pd), (pd, proofD w t1 t2 t3 t4 t5 t6 tk0 tn ty0 tb n key0 y0 pb f), (pb, listOf vs.toArray cnt), (us, tupOf ws)]
      (fun pre _ => pre.length ≤ 8 * n ∧ dec key0 / 2 ^ (8 * n - pre.length) = dec key / 2 ^ (8 * n - pre.length)) ?hh FR N2 ?hne ?hp ?turn ?done
    case hh => exact hh
    case hne =>
      intro p hp
      simp only [List.mem_cons, List.not_mem_nil, or_false] at hp
      rcases hp with rfl | rfl | rfl | rfl <;> (dsimp only; refine neN ?_; omega)
    case hp => exact ⟨Nat.zero_le _, by simp only [List.length_nil, Nat.sub_zero]; rw [Nat.div_eq_of_lt hp0, Nat.div_eq_of_lt hp1]⟩
    case done =>
      intro u h tk ⟨_, he⟩ _ _
      rw [rangeKs_length] at he
      simp only [Nat.sub_self, Nat.pow_zero, Nat.div_one] at he
      exact absurd he hne
    case turn =>
      intro pre t u h tk own hlt ⟨pL, pE⟩ F3 N3
      simp only [List.cons_append, List.nil_append] at N3
      obtain ⟨b, hb⟩ : ∃ b, 8 * n - pre.length = b + 1 := ⟨8 * n - pre.length - 1, by omega⟩
      have hbi : ((8 * n : Nat) : Int) - 1 - (pre.length : Int) = (b : Int) := by omega
      rw [hb] at pE
      rw [hbi] at F3
      have hjn : (((8 * n : Nat) : Int) - 1 - (b : Int)).toNat = 8 * n - 1 - b := by omega
      obtain ⟨e, he⟩ : ∃ e, ws[8 * n - 1 - b]? = some e := ⟨_, List.getElem?_eq_getElem (by omega)⟩
      have hx := he
      rw [← hjn] at hx
      dsimp only
      (try k_fold)
      k_steps
      · rename Fr _ _ _ _ => F4
        rename News _ _ _ _ => N4
        rename 0 < Builtin.bitAnd _ _ => hbit
        replace N4 := kst_newsOf N4 (l' := [(pf, instObj 132 pd), (pd, proofD w t1 t2 t3 t4 t5 t6 tk0 tn ty0 tb n key0 y0 pb f), (pb, listOf vs.toArray cnt), (us, tupOf ws)]) (by k_allIn)
        refine' set_list (s := ⟨_, _, _, _, _⟩) F4 N4 ?U ?h0 ?h1 ?z ?_
        case U => k_upd
        case h0 => omega
        case h1 => omega
        case z => omega
        intro h9 F9 N9
        dsimp only
        k_steps
        show R (.ok (.ret .none)) _
        rw [hjn] at N9
        refine hQ _ _ _ _ _ _ (own_of F9 (kst_newsOf N9 (by k_allIn))) (.inr ⟨hne, rfl, b, e, by omega, pE, fun eq => ?_, he, rfl⟩)
        rw [Int.one_mul, Int.toNat_natCast, kbt_bit, xor_nat_bit, eq, show dec key / 2 ^ b + dec key / 2 ^ b = 2 * (dec key / 2 ^ b) by omega, Nat.mul_mod_right] at hbit
        simp at hbit
      · rename ¬ (0 < Builtin.bitAnd _ _) => hbit
        rename Fr _ _ _ _ => F4
        rename News _ _ _ _ => N4
        unfold Hold
        refine' kst_end () F4 N4 ?hn ?ho ?ha ?hf ?hk ?hr ?hp
        case hn =>
          simp only [List.append_nil]
          k_allIn
        case ho => exact fun p hp => by k_ownIn
        case ha => rfl
        case hf => trivial
        case hk => exact fun p hp => nomatch hp
        case hr =>
          intro z h1 h2 h3
          simp [h1]
        case hp =>
          simp only [List.length_append, List.length_cons, List.length_nil, Nat.zero_add]
          refine ⟨by omega, ?_⟩
          rw [show 8 * n - (pre.length + 1) = b by omega]
          have hp := kbt_pos b
          have hs0 := step_down (dec key0) b
          have hs1 := step_down (dec key) b
          rw [Int.one_mul, Int.toNat_natCast, kbt_bit, xor_nat_bit] at hbit
          have hm : (dec key0 / 2 ^ b + dec key / 2 ^ b) % 2 = 0 := by
            rcases Nat.mod_two_eq_zero_or_one (dec key0 / 2 ^ b + dec key / 2 ^ b) with h | h
            · exact h
            · rw [h] at hbit; exact absurd (by simpa using hp) hbit
          omega
end
end

section
-- GB
local macro_rules | `(tactic| walk_at "no such key") => `(tactic| fail)
local macro_rules | `(tactic| walk_at "no such key") => `(tactic| fail)
local macro_rules | `(tactic| walk_at "no such key") => `(tactic| fail)
local macro_rules | `(tactic| walk_at "no such key") => `(tactic| fail)
local macro_rules | `(tactic| walk_at "no such key") => `(tactic| fail)
open PySem PySem.W PySem.Calls PyProof.Rows
set_option Elab.async false
set_option maxRecDepth 100000
set_option linter.unusedVariables false
section
set_option maxHeartbeats 4000000 in
theorem branch_spec {w : World} {A : Around} {base g : Heap} {fr : List Env} {mean : ExcName → Option Value} {mg mb : Str → Option Value} {s : Shared} {R : Result → Shared → Prop}
    {f tr dd db : Addr} {odb : Obj} {B : List Bs} {x root key : Bs} {kvs : List (Bs × Value)} {v : Nat → Bs} {t1 t2 t3 t4 t5 t6 tn td tx trt tkey : Tok} {n : Nat}
    (C : Ctx w A base fr g mean mg mb) (O : Own g s.heap [(tr, instObj 235 dd), (dd, treeD w t1 t2 t3 t4 t5 t6 tn td tx trt n x f db root), (db, odb)])
    (hroom : A.depth + 20 < recursionLimit) (hh : A.handled = none) (hlen : B.length < 1000000) (hBn : B.Nodup) (hn : n ≤ 32) (hn1 : 1 ≤ n)
    (hD : odb.IsDictOf (bytesKind PR w) kvs) (hV : DbV B kvs) (hF : Full B v (8 * n) kvs) (hR : Nd B v (8 * n) 0 root) (hk : key.length = n) (hne : v (dec key) ≠ [])
    (hQ : ∀ h' tk br vs es, Own g h' [(br, tupOf vs), (tr, instObj 235 dd), (dd, treeD w t1 t2 t3 t4 t5 t6 tn td tx trt n x f db root), (db, odb)] → BsAre vs es → es.length = 8 * n →
      (∀ j e, es[j]? = some e → Nd B v (8 * n - 1 - j) (sib (dec key) (8 * n - 1 - j)) e) → R (.ok (.ret (.ref br))) { s with heap := h', toks := tk }) :
    codeAny (model PR w) A (.call (.ref 176) ⟨[.ref tr, .bytes key.toArray tkey], []⟩) R s := by
  obtain ⟨X', T', B'⟩ : (hd.heap_39 w.params).In g ∧ Top topProg LOOSE mean mg mb g ∧ Below A base fr g := ⟨C.X, C.T, C.B⟩
  w_on
  refine' enter (binds := [(Str.ofString "self", .ref tr), (Str.ofString "key", .bytes key.toArray tkey)]) C O ?k6 ?k7 ?k8 ?k9 ?kB ?c5 ?c2 ?c3 ?c4 ?_
  (case k6 => k_is)
  (case k7 => k_is)
  (case k8 => k_room)
  (case k9 => exact BindsTo.of_eq rfl)
  (case kB => exact locs rfl)
  (case c5 => decide)
  (case c2 => exact rfl)
  (case c3 => exact rfl)
  (case c4 => exact rfl)
  intro L' h₁ F' N' lt'
  (try k_fold)
  have hk' : key.toArray.size = n := by rw [List.size_toArray]; exact hk
  k_steps
  · rename Fr _ _ _ _ => F2
    rename News _ _ _ _ => N2
    show R (.ok (.ret (.ref brG))) _
    exact hQ _ _ brG vsG esG (own_of F2 (kst_newsOf N2 (by k_allIn))) eG1 eG2 eG3
local macro_rules | `(tactic| walk_at "call ref") => `(tactic| (k_here; (with_reducible show wpAny _ _ (call (Value.ref 190) _) _ _ _); (with_reducible refine Hold.mk ?_)))
set_option maxHeartbeats 4000000 in
theorem delete_spec {w : World} {A : Around} {base g : Heap} {fr : List Env} {mean : ExcName → Option Value} {mg mb : Str → Option Value} {s : Shared} {R : Result → Shared → Prop}
    {f c ce d tr dd db : Addr} {fo oc oe od odb : Obj} {B : List Bs} {x root key : Bs} {kvs : List (Bs × Value)} {v : Nat → Bs} {t1 t2 t3 t4 t5 t6 tn td tx trt tkey : Tok} {n : Nat}
    (C : Ctx w A base fr g mean mg mb) (O : Own g s.heap [(tr, instObj 235 dd), (dd, treeD w t1 t2 t3 t4 t5 t6 tn td tx trt n x f db root), (db, odb), (f, fo), (c, oc), (ce, oe), (d, od)])
    (H : IsHash f c ce d fo oc oe) (hB : IsBook w od B)
    (hroom : A.depth + 25 < recursionLimit) (hh : A.handled = none) (hlen : B.length < 100000) (hn : n ≤ 32) (hn1 : 1 ≤ n) (hy : x.length ≤ 64) (hkl : kvs.length ≤ 1000000)
    (hD : odb.IsDictOf (bytesKind PR w) kvs) (hV : DbV B kvs) (hF : Full B v (8 * n) kvs) (hR : Nd B v (8 * n) 0 root) (hk : key.length = n)
    (na : (@LT.lt Nat _ f tr ∧ @LT.lt Nat _ c tr ∧ @LT.lt Nat _ ce tr ∧ @LT.lt Nat _ d tr) ∧ (@LT.lt Nat _ f dd ∧ @LT.lt Nat _ c dd ∧ @LT.lt Nat _ ce dd ∧ @LT.lt Nat _ d dd) ∧ @LT.lt Nat _ dd tr)
    (nb : @LT.lt Nat _ tr db ∧ @LT.lt Nat _ dd db ∧ @LT.lt Nat _ f db ∧ @LT.lt Nat _ c db ∧ @LT.lt Nat _ ce db ∧ @LT.lt Nat _ d db)
    (hQ : ∀ h' tk rs vs es t6' trt' root' odb' od' B' kvs', Own g h' [(rs, tupOf vs), (tr, instObj 235 dd), (dd, treeD w t1 t2 t3 t4 t5 t6' tn td tx trt' n x f db root'), (db, odb'), (f, fo), (c, oc), (ce, oe), (d, od')] →
      BsAre vs es → es.length = 8 * n → (∀ j e, es[j]? = some e → Nd B' (upd v (dec key) x) (8 * n - 1 - j) (dec key / 2 ^ (8 * n - 1 - j)) e) → IsBook w od' B' → Ext (8 * n + 1) B B' → odb'.IsDictOf (bytesKind PR w) kvs' → DbV B' kvs' →
      kvs'.length ≤ kvs.length + (8 * n + 1) → Full B' (upd v (dec key) x) (8 * n) kvs' → Nd B' (upd v (dec key) x) (8 * n) 0 root' → (@LT.lt Nat _ tr rs ∧ @LT.lt Nat _ dd rs ∧ @LT.lt Nat _ db rs ∧ @LT.lt Nat _ f rs ∧ @LT.lt Nat _ c rs ∧ @LT.lt Nat _ ce rs ∧ @LT.lt Nat _ d rs) →
      R (.ok (.ret (.ref rs))) { s with heap := h', toks := tk }) :
    codeAny (model PR w) A (.call (.ref 204) ⟨[.ref tr, .bytes key.toArray tkey], []⟩) R s := by
  obtain ⟨X', T', B'⟩ : (hd.heap_39 w.params).In g ∧ Top topProg LOOSE mean mg mb g ∧ Below A base fr g := ⟨C.X, C.T, C.B⟩
  w_on
  refine' enter (binds := [(Str.ofString "self", .ref tr), (Str.ofString "key", .bytes key.toArray tkey)]) C O ?k6 ?k7 ?k8 ?k9 ?kB ?c5 ?c2 ?c3 ?c4 ?_
  (case k6 => k_is)
  (case k7 => k_is)
  (case k8 => k_room)
  (case k9 => exact BindsTo.of_eq rfl)
  (case kB => exact locs rfl)
  (case c5 => decide)
  (case c2 => exact rfl)
  (case c3 => exact rfl)
  (case c4 => exact rfl)
  intro L' h₁ F' N' lt'
  (try k_fold)
  have hk' : key.toArray.size = n := by rw [List.size_toArray]; exact hk
  k_steps
  rename Fr _ _ _ _ => F2
  rename News _ _ _ _ => N2
  unfold Hold
  refine wpAny_call (at_call C.B F2 C.X C.T N2 [(tr, instObj 235 dd), (dd, treeD w t1 t2 t3 t4 t5 t6 tn td tx trt n x f db root), (db, odb), (f, fo), (c, oc), (ce, oe), (d, od)] (fun p hp => hp) rfl rfl (Around.frames_deeper (Below.stack C.B)) fun g2 C2 O2 back fz => ?_)
  refine set_spec C2 O2 H hB (by k_room) hh hlen hn hn1 hy hkl hD hV hF hR hk na nb fun h' tk rs vs es t6' trt' root' odb' od' B2 kvs' O3 e1 e2 e3 hB2 hE2 hD2 hV2 hl2 hF2 hR2 lt2 => ?_
  obtain ⟨F9, N9⟩ := back h' _ O3
  replace N9 := N9 [(rs, tupOf vs), (tr, instObj 235 dd), (dd, treeD w t1 t2 t3 t4 t5 t6' tn td tx trt' n x f db root'), (db, odb'), (f, fo), (c, oc), (ce, oe), (d, od')] (fun p hp => .inl hp)
  dsimp only
  k_steps
  show R (.ok (.ret (.ref rs))) _
  exact hQ _ _ rs vs es t6' trt' root' odb' od' B2 kvs' (own_of F9 N9) e1 e2 e3 hB2 hE2 hD2 hV2 hl2 hF2 hR2 lt2
end
end

section
-- GD
open PySem PySem.W PySem.Calls PyProof.Rows
set_option Elab.async false
set_option maxRecDepth 100000
set_option linter.unusedVariables false
section
set_option maxHeartbeats 4000000 in
theorem sizes_spec {w : World} {A : Around} {base g : Heap} {fr : List Env} {mean : ExcName → Option Value} {mg mb : Str → Option Value} {s : Shared} {R : Result → Shared → Prop}
    (C : Ctx w A base fr g mean mg mb) (O : Own g s.heap []) (hroom : A.depth + 5 < recursionLimit) (hh : A.handled = none)
    (hQ : ∀ h' tk l vs cnt, Own g h' [(l, listOf vs.toArray cnt)] → IntsAre vs [1, 2, 3, 4, 5, 6, 8, 12, 16, 32] → R (.ok (.ret (.ref l))) { s with heap := h', toks := tk }) :
    codeAny (model PR w) A (.call (.ref 246) ⟨[], []⟩) R s := by
  obtain ⟨X', T', B'⟩ : (hd.heap_39 w.params).In g ∧ Top topProg LOOSE mean mg mb g ∧ Below A base fr g := ⟨C.X, C.T, C.B⟩
  w_on
  refine' enter (binds := []) C O ?k6 ?k7 ?k8 ?k9 ?kB ?c5 ?c2 ?c3 ?c4 ?_
  (case k6 => k_is)
  (case k7 => k_is)
  (case k8 => k_room)
  (case k9 => exact BindsTo.of_eq rfl)
  (case kB => exact locs rfl)
  (case c5 => decide)
  (case c2 => exact rfl)
  (case c3 => exact rfl)
  (case c4 => exact rfl)
  intro L' h₁ F' N' lt'
  (try k_fold)
  k_steps
  show R (.ok (.ret (.ref lL))) _
  exact hQ _ _ lL [_, _, _, _, _, _, _, _, _, _] 0 (own_of FL NL) (.cons _ _ (.cons _ _ (.cons _ _ (.cons _ _ (.cons _ _ (.cons _ _ (.cons _ _ (.cons _ _ (.cons _ _ (.cons _ _ .nil))))))))))
set_option maxHeartbeats 4000000 in
theorem defaults_spec {w : World} {A : Around} {base g : Heap} {fr : List Env} {mean : ExcName → Option Value} {mg mb : Str → Option Value} {s : Shared} {R : Result → Shared → Prop}
    (C : Ctx w A base fr g mean mg mb) (O : Own g s.heap []) (hroom : A.depth + 5 < recursionLimit) (hh : A.handled = none)
    (hQ : ∀ h' tk l vs cnt, Own g h' [(l, listOf vs.toArray cnt)] → BsAre vs [[], [7], [97, 98]] → R (.ok (.ret (.ref l))) { s with heap := h', toks := tk }) :
    codeAny (model PR w) A (.call (.ref 253) ⟨[], []⟩) R s := by
  obtain ⟨X', T', B'⟩ : (hd.heap_39 w.params).In g ∧ Top topProg LOOSE mean mg mb g ∧ Below A base fr g := ⟨C.X, C.T, C.B⟩
  w_on
  refine' enter (binds := []) C O ?k6 ?k7 ?k8 ?k9 ?kB ?c5 ?c2 ?c3 ?c4 ?_
  (case k6 => k_is)
  (case k7 => k_is)
  (case k8 => k_room)
  (case k9 => exact BindsTo.of_eq rfl)
  (case kB => exact locs rfl)
  (case c5 => decide)
  (case c2 => exact rfl)
  (case c3 => exact rfl)
  (case c4 => exact rfl)
  intro L' h₁ F' N' lt'
  (try k_fold)
  k_steps
  show R (.ok (.ret (.ref lL))) _
  exact hQ _ _ lL [_, _, _] 0 (own_of FL NL) (.cons (.cons (.cons .nil)))
theorem in1 (a : Int) : ∀ n ∈ [Int.fmod a 256], 0 ≤ n ∧ n < 256 := fun n hn => by
  simp only [List.mem_cons, List.not_mem_nil, or_false] at hn
  subst hn
  exact ⟨fmod_lo _ (by decide), fmod_hi _ (by decide)⟩
theorem in2 (a b : Int) : ∀ n ∈ [Int.fmod a 256, 1 + Int.fmod b 255], 0 ≤ n ∧ n < 256 := fun n hn => by
  simp only [List.mem_cons, List.not_mem_nil, or_false] at hn
  rcases hn with rfl | rfl
  · exact ⟨fmod_lo _ (by decide), fmod_hi _ (by decide)⟩
  · have h1 := fmod_lo b (n := 255) (by decide)
    have h2 := fmod_hi b (n := 255) (by decide)
    omega
set_option hygiene false in
local macro_rules | `(tactic| walk_at "call type:bytes") => `(tactic| (k_here; (with_reducible show wpAny _ _ (call (Value.type "bytes") [Value.ref _]) _ _ _); k_dflt (refine' bytes_K ?F ?N ?l ?i ?r ?z ?h ?_; (case F => k_asm); (case N => k_asm); (case l => exact News.isList (by k_asm) (by k_mem)); (case i => first | exact .cons _ _ .nil | exact .cons _ _ (.cons _ _ .nil)); (case r => first | exact in1 _ | exact in2 _ _); (case z => (simp only [sizeLine_eq, List.length_cons, List.length_nil]; decide)); (case h => assumption)); intro bH bt bk bF bN bA; (try k_sweep)))
set_option maxHeartbeats 4000000 in
theorem deed_spec {w : World} {A : Around} {base g : Heap} {fr : List Env} {mean : ExcName → Option Value} {mg mb : Str → Option Value} {s : Shared} {R : Result → Shared → Prop} {x : Bs} {tx tn : Tok} {n : Int}
    (C : Ctx w A base fr g mean mg mb) (O : Own g s.heap []) (hroom : A.depth + 5 < recursionLimit) (hh : A.handled = none) (hx : x.length ≤ 2)
    (hQ : ∀ h' tk l (e : Bs) te gone, Own g h' [(l, tupOf [.bytes e.toArray te, .bool gone])] → (e.length ≤ 64 ∧ e.length ≠ 6) → (gone = true → e = x) → R (.ok (.ret (.ref l))) { s with heap := h', toks := tk }) :
    codeAny (model PR w) A (.call (.ref 291) ⟨[.int n tn, .bytes x.toArray tx], []⟩) R s := by
  obtain ⟨X', T', B'⟩ : (hd.heap_39 w.params).In g ∧ Top topProg LOOSE mean mg mb g ∧ Below A base fr g := ⟨C.X, C.T, C.B⟩
  w_on
  refine' enter (binds := [(Str.ofString "number", .int n tn), (Str.ofString "default", .bytes x.toArray tx)]) C O ?k6 ?k7 ?k8 ?k9 ?kB ?c5 ?c2 ?c3 ?c4 ?_
  (case k6 => k_is)
  (case k7 => k_is)
  (case k8 => k_room)
  (case k9 => exact BindsTo.of_eq rfl)
  (case kB => exact locs rfl)
  (case c5 => decide)
  (case c2 => exact rfl)
  (case c3 => exact rfl)
  (case c4 => exact rfl)
  intro L' h₁ F' N' lt'
  (try k_fold)
  k_steps
  all_goals (try dsimp only)
  all_goals k_steps
  · rename Fr _ _ _ _ => F2
    rename News _ _ _ _ => N2
    show R (.ok (.ret (.ref _))) _
    exact hQ _ _ _ [] _ false (own_of F2 N2) ⟨by decide, by decide⟩ (fun h => nomatch h)
  · rename Fr _ _ _ _ => F2
    rename News _ _ _ _ => N2
    show R (.ok (.ret (.ref _))) _
    exact hQ _ _ _ x _ false (own_of F2 N2) ⟨by omega, by omega⟩ (fun h => nomatch h)
  · rename Fr _ _ _ _ => F2
    rename News _ _ _ _ => N2
    show R (.ok (.ret (.ref _))) _
    exact hQ _ _ _ x _ true (own_of F2 N2) ⟨by omega, by omega⟩ (fun _ => rfl)
  · rename Fr _ _ _ _ => F2
    rename News _ _ _ _ => N2
    show R (.ok (.ret (.ref _))) _
    exact hQ _ _ _ _ _ false (own_of F2 (kst_newsOf N2 (by k_allIn))) ⟨by simp, by simp⟩ (fun h => nomatch h)
  · rename Fr _ _ _ _ => F2
    rename News _ _ _ _ => N2
    show R (.ok (.ret (.ref _))) _
    exact hQ _ _ _ _ _ false (own_of F2 (kst_newsOf N2 (by k_allIn))) ⟨by simp, by simp⟩ (fun h => nomatch h)
set_option maxHeartbeats 4000000 in
theorem lawhash_spec {w : World} {A : Around} {base g : Heap} {fr : List Env} {mean : ExcName → Option Value} {mg mb : Str → Option Value} {s : Shared} {R : Result → Shared → Prop} {d : Addr} {od : Obj}
    (C : Ctx w A base fr g mean mg mb) (O : Own g s.heap [(d, od), (255, tabObj #[])]) (hcdh : CodeHd g 259 255) (hne : @Ne Nat d 255) (hroom : A.depth + 5 < recursionLimit) (hh : A.handled = none) (hlo : (d == sysModules) = false)
    (hQ : ∀ h' tk f c ce fo oc oe ps, Own g h' [(f, fo), (c, oc), (ce, oe), (d, od), (255, tabObj ps)] → IsHash f c ce d fo oc oe → (@LT.lt Nat _ d ce ∧ @LT.lt Nat _ ce c ∧ @LT.lt Nat _ c f) → R (.ok (.ret (.ref f))) { s with heap := h', toks := tk }) :
    codeAny (model PR w) A (.call (.ref 260) ⟨[.ref d], []⟩) R s := by
  obtain ⟨X', T', B'⟩ : (hd.heap_39 w.params).In g ∧ Top topProg LOOSE mean mg mb g ∧ Below A base fr g := ⟨C.X, C.T, C.B⟩
  w_on
  refine' enterC (binds := [(Str.ofString "book", .ref d)]) C O ?k6 ?k7 ?k8 ?k9 ?kB ?kD ?c2 ?c3 ?c4 ?_
  (case k6 => k_is)
  (case k7 => k_is)
  (case k8 => k_room)
  (case k9 => exact BindsTo.of_eq rfl)
  (case kB => exact rfl)
  (case kD => decide +kernel)
  (case c2 => exact rfl)
  (case c3 => exact rfl)
  (case c4 => exact rfl)
  intro L' h₁ tkc cells' F' N' Y' lt'
  obtain ⟨o1, hE, d1⟩ := CellsAre.one Y'
  subst hE
  replace d1 : _ = Data.cell (some (.ref d)) := d1
  k_lt lt'
  simp only [List.cons_append, List.nil_append] at N'
  (try k_fold)
  k_steps
  rename Fr _ _ _ _ => F2
  rename News _ _ _ _ => N2
  rename (Obj.data _ = Data.fields _) => dA
  rename (_[1]? = some _) => dB
  rename (_ ∧ _ ∧ _) => lA
  rename (@LT.lt Nat _ _ _) => lB
  obtain ⟨lA1, lA2, lA3⟩ := lA
  show R (.ok (.ret (.ref _))) _
  refine hQ _ _ _ _ (L' + 1) _ _ o1 _ (own_of F2 (kst_newsOf N2 (by k_allIn))) ⟨⟨_, _, _, _, _, _, rfl, dA, dB, d1, hlo⟩, ?_, ?_, ?_⟩ ⟨?_, lA1, lB⟩
  · refine neN ?_; omega
  · refine neN ?_; omega
  · refine neN ?_; omega
  · have := lt'.1; omega
end
end

section
-- GTC
open PySem PySem.W PySem.Calls PyProof.Rows PySem.SeqAt
set_option Elab.async false
set_option maxRecDepth 100000
set_option linter.unusedVariables false
section
variable {prog : Program} {w : World} {A : Around} {E : Value → Shared → Prop} {s : Shared}
theorem eqs_at {vs vs' : List Value} {es : List Bs} (e1 : BsAre vs es) (e2 : BsAre vs' es) : ∀ j (h1 : j < vs.toArray.size) (h2 : j < vs'.toArray.size), EqAt A.in1 s vs.toArray[j] vs'.toArray[j] true := fun j h1 h2 => by
  have hj : j < es.length := by rw [← e1.length]; simpa using h1
  obtain ⟨t, ht⟩ := e1.get (List.getElem?_eq_getElem hj)
  obtain ⟨t', ht'⟩ := e2.get (List.getElem?_eq_getElem hj)
  have a1 : vs.toArray[j] = .bytes es[j].toArray t := by
    rw [List.getElem_toArray]
    exact (List.getElem?_eq_some_iff.mp ht).2
  have a2 : vs'.toArray[j] = .bytes es[j].toArray t' := by
    rw [List.getElem_toArray]
    exact (List.getElem?_eq_some_iff.mp ht').2
  rw [a1, a2]
  intro prog w E Q hq
  exact eqBool_bytes (by simpa using hq)
theorem ne_tups {l b : Addr} {vs vs' : List Value} {es : List Bs} {Q : Value → Shared → Prop} (hl : IsTup s.heap l vs.toArray) (hb : IsTup s.heap b vs'.toArray) (hu : A.units < cLine) (e1 : BsAre vs es) (e2 : BsAre vs' es) (h : Q (.bool false) s) :
    wpAny (model prog w) A (compareOp .NotEq (.ref l) (.ref b)) Q E s := by
  refine RcNeAt.tuples (e := fun _ => true) hl hb hu (eqs_at e1 e2) prog w E Q ?_
  have e : vs.toArray.size = vs'.toArray.size := by simp [e1.length, e2.length]
  have a : (List.range (min vs.toArray.size vs'.toArray.size)).all (fun _ => true) = true := List.all_eq_true.mpr fun _ _ => rfl
  rw [a, e, beq_self_eq_true]
  exact h
end
end

section
-- GN
open PySem PySem.W PySem.Calls PyProof.Rows
set_option Elab.async false
set_option maxRecDepth 100000
set_option linter.unusedVariables false
/-- along a branch of true siblings the chain is the tree's -/
theorem ch_nd {B : List Bs} {v : Nat → Bs} {p D : Nat} {y : Bs} {es : List Bs} (hy : y = v p) (hl : es.length = D) (hes : ∀ j e, es[j]? = some e → Nd B v (D - 1 - j) (sib p (D - 1 - j)) e) : ∀ {i : Nat} {e : Bs}, i ≤ D → Ch B p y es i e → Nd B v i (p / 2 ^ i) e
  | 0, e, _, h => by
    have h' : Hs B y e := h
    subst hy
    show Hs B (v (p / 2 ^ 0)) e
    simpa using h'
  | i + 1, e, hi, ⟨x, sb, cx, hsb, hs⟩ => by
    have nx := ch_nd hy hl hes (by omega) cx
    have ns := hes _ _ hsb
    rw [hl, show D - 1 - (D - 1 - i) = i by omega] at ns
    have sd := step_down p i
    unfold sib at ns
    rcases Nat.mod_two_eq_zero_or_one (p / 2 ^ i) with hm | hm
    · rw [if_pos hm] at ns hs
      rw [hm, Nat.add_zero] at sd
      rw [sd] at nx ns
      exact ⟨x, sb, nx, ns, hs⟩
    · rw [if_neg (by omega)] at ns hs
      rw [hm] at sd
      rw [sd] at nx
      rw [sd, Nat.add_sub_cancel] at ns
      exact ⟨sb, x, ns, nx, hs⟩
theorem Ch.fn {B : List Bs} (hn : B.Nodup) {p : Nat} {y : Bs} {es : List Bs} : ∀ {i : Nat} {e e' : Bs}, Ch B p y es i e → Ch B p y es i e' → e = e'
  | 0, _, _, h, h' => Hs.fn hn h h'
  | i + 1, _, _, ⟨x, sb, cx, hsb, hs⟩, ⟨x', sb', cx', hsb', hs'⟩ => by
    have e1 := Ch.fn hn cx cx'
    have e2 : sb = sb' := Option.some.inj (hsb.symm.trans hsb')
    subst e1 e2
    exact Hs.fn hn hs hs'
/-- two branches that differ in one place lead to two roots -/
theorem ch_spoilt {B : List Bs} (hn : B.Nodup) (hb : B.length < 1000000) {p : Nat} {y : Bs} {es es' : List Bs} {at_ : Nat} (hl : es'.length = es.length) (ha : at_ < es.length) (he : ∀ j, j ≠ at_ → es'[j]? = es[j]?) (hne : es'[at_]? ≠ es[at_]?)
    (h32 : ∀ e ∈ es, e.length = 32) (h32' : ∀ e ∈ es', e.length = 32) : ∀ {i : Nat} {e e' : Bs}, i ≤ es.length → Ch B p y es i e → Ch B p y es' i e' → (i ≤ es.length - 1 - at_ → e = e') ∧ (es.length - 1 - at_ < i → e ≠ e')
  | 0, e, e', _, h, h' => ⟨fun _ => Hs.fn hn h h', fun h0 => absurd h0 (Nat.not_lt_zero _)⟩
  | i + 1, e, e', hi, ⟨x, sb, cx, hsb, hs⟩, ⟨x', sb', cx', hsb', hs'⟩ => by
    have ih := ch_spoilt hn hb hl ha he hne h32 h32' (by omega) cx cx'
    rw [hl] at hsb'
    have l1 := cx.len
    have l1' := cx'.len
    have l2 := h32 _ (List.mem_of_getElem? hsb)
    have l2' := h32' _ (List.mem_of_getElem? hsb')
    constructor
    · intro hle
      have hx := ih.1 (by omega)
      have hj : es.length - 1 - i ≠ at_ := by omega
      rw [he _ hj, hsb] at hsb'
      have hsbe := Option.some.inj hsb'
      subst hx hsbe
      exact Hs.fn hn hs hs'
    · intro hlt heq
      subst heq
      have ht := Hs.inj hb hs hs'
      have split : x = x' ∧ sb = sb' := by
        split at ht
        · exact List.append_inj ht (by omega)
        · exact (List.append_inj ht (by omega)).symm
      by_cases hk : es.length - 1 - at_ = i
      · have hj : es.length - 1 - i = at_ := by omega
        rw [hj] at hsb hsb'
        rw [split.2] at hsb
        exact hne (hsb'.trans hsb.symm)
      · exact ih.2 (by omega) split.1
/-- the lists of levels: a told list and the law's own list are one -/
theorem nds_eq {B : List Bs} (hn : B.Nodup) {v : Nat → Bs} {D : Nat} {pl : Nat → Nat} {es es' : List Bs} (hl : es.length = D) (hl' : es'.length = D) (h : ∀ j e, es[j]? = some e → Nd B v (D - 1 - j) (pl j) e) (h' : ∀ j e, es'[j]? = some e → Nd B v (D - 1 - j) (pl j) e) : es = es' := by
  refine List.ext_getElem? fun j => ?_
  by_cases hj : j < D
  · have a := List.getElem?_eq_getElem (l := es) (i := j) (by omega)
    have b := List.getElem?_eq_getElem (l := es') (i := j) (by omega)
    rw [a, b, Nd.fn hn (h _ _ a) (h' _ _ b)]
  · rw [List.getElem?_eq_none (by omega), List.getElem?_eq_none (by omega)]
/-- set one leaf: the siblings along another way change just where the ways part -/
theorem sib_part {p q b h : Nat} (h1 : p / 2 ^ (b + 1) = q / 2 ^ (b + 1)) (h2 : p / 2 ^ b ≠ q / 2 ^ b) : (h = b → sib p h = q / 2 ^ h) ∧ (h ≠ b → q / 2 ^ h ≠ sib p h) := by
  constructor
  · rintro rfl
    have s1 := step_down p h
    have s2 := step_down q h
    unfold sib
    split <;> omega
  · intro hne
    rcases Nat.lt_or_ge h b with hlt | hge
    · obtain ⟨k, rfl⟩ : ∃ k, b = h + (k + 1) := ⟨b - h - 1, by omega⟩
      intro e
      have e2 : q / 2 ^ (h + 1) = p / 2 ^ (h + 1) := by
        have s1 := step_down p h
        have s2 := step_down q h
        unfold sib at e
        split at e <;> omega
      refine h2 ?_
      have : ∀ z : Nat, z / 2 ^ (h + (k + 1)) = z / 2 ^ (h + 1) / 2 ^ k := fun z => by
        rw [Nat.div_div_eq_div_mul, ← Nat.pow_add]
        congr 2
        omega
      rw [this, this, e2]
    · obtain ⟨k, rfl⟩ : ∃ k, h = b + 1 + k := ⟨h - b - 1, by omega⟩
      have e : q / 2 ^ (b + 1 + k) = p / 2 ^ (b + 1 + k) := by
        rw [Nat.pow_add, ← Nat.div_div_eq_div_mul, ← Nat.div_div_eq_div_mul, h1]
      rw [e]
      exact sib_ne p _
theorem BsAre.set : ∀ {vs : List Value} {es : List Bs}, BsAre vs es → ∀ (i : Nat) (e : Bs) (t : Tok), BsAre (vs.set i (.bytes e.toArray t)) (es.set i e)
  | _, _, .nil, _, _, _ => .nil
  | _, _, .cons r, 0, e, t => .cons r
  | _, _, .cons r, i + 1, e, t => .cons (r.set i e t)
theorem BsAre.take : ∀ {vs : List Value} {es : List Bs}, BsAre vs es → ∀ (i : Nat), BsAre (vs.take i) (es.take i)
  | _, _, .nil, _ => by simp; exact .nil
  | _, _, .cons r, 0 => .nil
  | _, _, .cons r, i + 1 => .cons (r.take i)
theorem BsAre.drop : ∀ {vs : List Value} {es : List Bs}, BsAre vs es → ∀ (i : Nat), BsAre (vs.drop i) (es.drop i)
  | _, _, .nil, _ => by simp; exact .nil
  | _, _, .cons r, 0 => .cons r
  | _, _, .cons r, i + 1 => r.drop i
/-- the proof's branch behind an update -/
theorem upd_branch {B B' : List Bs} (hp : B <+: B') {v : Nat → Bs} {D p0 q b : Nat} {y ub : Bs} {es us : List Bs} (hl : es.length = D) (hb : b < D) (h1 : p0 / 2 ^ (b + 1) = q / 2 ^ (b + 1)) (h2 : p0 / 2 ^ b ≠ q / 2 ^ b)
    (hes : ∀ j e, es[j]? = some e → Nd B v (D - 1 - j) (sib p0 (D - 1 - j)) e) (hus : ∀ j e, us[j]? = some e → Nd B' (upd v q y) (D - 1 - j) (q / 2 ^ (D - 1 - j)) e) (hub : us[D - 1 - b]? = some ub) :
    ∀ j e, (es.set (D - 1 - b) ub)[j]? = some e → Nd B' (upd v q y) (D - 1 - j) (sib p0 (D - 1 - j)) e := fun j e hj => by
  by_cases hjb : D - 1 - b = j
  · subst hjb
    rw [List.getElem?_set_self (by omega)] at hj
    have he := Option.some.inj hj
    subst he
    have hu := hus _ _ hub
    rw [show D - 1 - (D - 1 - b) = b by omega] at hu ⊢
    rw [(sib_part h1 h2).1 rfl]
    exact hu
  · rw [List.getElem?_set_ne hjb] at hj
    have hlt := (List.getElem?_eq_some_iff.mp hj).1
    exact ((hes _ _ hj).mono hp).congr (upd_off ((sib_part h1 h2).2 (by omega)))
theorem upd_same {v : Nat → Bs} {q : Nat} {y : Bs} : upd v q y q = y := by simp [upd]
theorem upd_other {v : Nat → Bs} {p q : Nat} {y : Bs} (h : p ≠ q) : upd v q y p = v p := by simp [upd, h]
/-- the siblings of the set key itself do not change -/
theorem own_branch {B B' : List Bs} (hp : B <+: B') {v : Nat → Bs} {D p : Nat} {y : Bs} {es : List Bs} (hes : ∀ j e, es[j]? = some e → Nd B v (D - 1 - j) (sib p (D - 1 - j)) e) :
    ∀ j e, es[j]? = some e → Nd B' (upd v p y) (D - 1 - j) (sib p (D - 1 - j)) e := fun j e hj => ((hes _ _ hj).mono hp).congr (upd_off (sib_ne p _))
/-- held grows with the leaves -/
theorem HeldOk.put {hkvs : List (Int × Value)} {x : Bs} {v : Nat → Bs} (h : HeldOk hkvs x v) (q : Nat) (y : Bs) (t : Tok) : HeldOk (stored hkvs (q : Int) (.bytes y.toArray t)) x (upd v q y) := by
  refine ⟨fun k z hz => ?_, fun p hp => ?_⟩
  · rw [at_stored] at hz
    split at hz
    · rename_i e
      subst e
      cases hz
      exact ⟨q, rfl, t, by rw [upd_same]⟩
    · rename_i e
      obtain ⟨p, rfl, t', ht⟩ := h.1 k z hz
      exact ⟨p, rfl, t', by rw [upd_other (by omega)]; exact ht⟩
  · rw [at_stored] at hp
    split at hp
    · cases hp
    · rename_i e
      rw [upd_other (by omega)]
      exact h.2 p hp
end

section
-- GK0
open PySem PySem.W PySem.Calls PyProof.Rows
set_option Elab.async false
set_option maxRecDepth 100000
set_option linter.unusedVariables false
/-- the law's body, read off the program -/
noncomputable def lawBody : List Stmt := match PySem.Challenge.pw_gp5032_01.main.body.getLast? with
  | some (.FunctionDef _ _ b _ _ _ _ _ _ _) => b
  | _ => []
theorem lawBody_len : lawBody.length = 24 := by rfl
noncomputable def lawScope : Scope := match PySem.Challenge.pw_gp5032_01.main.body.getLast? with
  | some (.FunctionDef _ _ _ _ _ _ sc _ _ _) => sc
  | _ => { kind := .function, names := [], isGenerator := false, isCoroutine := false, more := [] }
noncomputable abbrev lawEnv (L fa : Addr) (cd : Value) : Env := envOf (Str.ofString "law") lawScope L fa cd
/-- the loop over the deeds -/
noncomputable def lawFor : Stmt := match lawBody.drop 17 with
  | f :: _ => f
  | [] => .Pass default
end

section
-- GK
local macro_rules | `(tactic| walk_at "no such key") => `(tactic| fail)
local macro_rules | `(tactic| walk_at "no such key") => `(tactic| fail)
open PySem PySem.W PySem.Calls PyProof.Rows
set_option Elab.async false
set_option maxRecDepth 100000
set_option linter.unusedVariables false
section
local macro_rules | `(tactic| walk_at "call ref") => `(tactic| (k_here; (first
  | (with_reducible show wpAny _ _ (call (Value.ref 246) _) _ _ _) | (with_reducible show wpAny _ _ (call (Value.ref 253) _) _ _ _) | (with_reducible show wpAny _ _ (call (Value.ref 260) _) _ _ _) | (with_reducible show wpAny _ _ (call (Value.ref 267) _) _ _ _)
  | (with_reducible show wpAny _ _ (call (Value.ref 235) _) _ _ _) | (with_reducible show wpAny _ _ (call (Value.ref 190) _) _ _ _) | (with_reducible show wpAny _ _ (call (Value.ref 204) _) _ _ _) | (with_reducible show wpAny _ _ (call (Value.ref 274) _) _ _ _)
  | (with_reducible show wpAny _ _ (call (Value.ref 279) _) _ _ _) | (with_reducible show wpAny _ _ (call (Value.ref 284) _) _ _ _) | (with_reducible show wpAny _ _ (call (Value.ref 176) _) _ _ _) | (with_reducible show wpAny _ _ (call (Value.ref 132) _) _ _ _)
  | (with_reducible show wpAny _ _ (call (Value.ref 129) _) _ _ _) | (with_reducible show wpAny _ _ (call (Value.ref 76) _) _ _ _) | (with_reducible show wpAny _ _ (call (Value.ref 291) _) _ _ _) | (with_reducible show wpAny _ _ (call (Value.ref 298) _) _ _ _)
  | (with_reducible show wpAny _ _ (call (Value.ref 305) _) _ _ _) | (with_reducible show wpAny _ _ (call (Value.ref 197) _) _ _ _)); (with_reducible refine Hold.mk ?_)))
theorem size_ok (k : Nat) (h : k < 10) : ∃ n : Nat, ([1, 2, 3, 4, 5, 6, 8, 12, 16, 32] : List Int).getD k 0 = (n : Int) ∧ 1 ≤ n ∧ n ≤ 32 := by
  have : k = 0 ∨ k = 1 ∨ k = 2 ∨ k = 3 ∨ k = 4 ∨ k = 5 ∨ k = 6 ∨ k = 7 ∨ k = 8 ∨ k = 9 := by omega
  rcases this with rfl | rfl | rfl | rfl | rfl | rfl | rfl | rfl | rfl | rfl
  · exact ⟨1, rfl, by decide, by decide⟩
  · exact ⟨2, rfl, by decide, by decide⟩
  · exact ⟨3, rfl, by decide, by decide⟩
  · exact ⟨4, rfl, by decide, by decide⟩
  · exact ⟨5, rfl, by decide, by decide⟩
  · exact ⟨6, rfl, by decide, by decide⟩
  · exact ⟨8, rfl, by decide, by decide⟩
  · exact ⟨12, rfl, by decide, by decide⟩
  · exact ⟨16, rfl, by decide, by decide⟩
  · exact ⟨32, rfl, by decide, by decide⟩
theorem default_ok (k : Nat) (h : k < 3) : ∃ x : Bs, ([[], [7], [97, 98]] : List Bs)[k]? = some x ∧ x.length ≤ 2 := by
  have : k = 0 ∨ k = 1 ∨ k = 2 := by omega
  rcases this with rfl | rfl | rfl
  · exact ⟨[], rfl, by decide⟩
  · exact ⟨[7], rfl, by decide⟩
  · exact ⟨[97, 98], rfl, by decide⟩
set_option maxHeartbeats 8000000 in
/-- size, default, depth, hash_of, empty -/
theorem lawA {w : World} {h₀ : Heap} {L fa nl : Addr} {cd : Value} {mean : ExcName → Option Value} {mg mb : Str → Option Value} {s : Shared} {m : Str → Option Value} {Q : Flow → Shared → Prop} {E : Value → Shared → Prop} {nvs : List Value} {ns : List Int} {nc : Nat}
   (B : Below callerA h₀ [] h₀) (X : (hd.heap_39 w.params).In h₀) (T : Top topProg LOOSE mean mg mb h₀) (hcd : CodeHd h₀ 259 255) (F : Fr h₀ L s.heap (fun y => if y = Str.ofString "numbers" then some (.ref nl) else m y)) (N : News h₀ L s.heap [(nl, listOf nvs.toArray nc), (255, tabObj #[])])
   (hI : IntsAre nvs ns) (hl : ns.length = 7) (hnl : @Ne Nat nl 255)
   (cont : ∀ (s' : Shared) (n : Nat) (x : Bs) (tx tn td : Tok) (f c ce d em : Addr) (fo oc oe od : Obj) (B1 : List Bs) (vsE : List Value) (esE : List Bs) (cntE : Nat) (ps : Array Value),
     (∃ h' tk, s' = { s with heap := h', toks := tk }) → Fr h₀ L s'.heap (fun y => if y = Str.ofString "empty" then some (.ref em) else if y = Str.ofString "hash_of" then some (.ref f) else if y = Str.ofString "depth" then some (.int ((8 * n : Nat) : Int) td) else if y = Str.ofString "default" then some (.bytes x.toArray tx) else if y = Str.ofString "size" then some (.int (n : Int) tn) else if y = Str.ofString "numbers" then some (.ref nl) else m y) →
     News h₀ L s'.heap [(em, listOf vsE.toArray cntE), (f, fo), (c, oc), (ce, oe), (d, od), (255, tabObj ps), (nl, listOf nvs.toArray nc)] → IsHash f c ce d fo oc oe → IsBook w od B1 → B1.length ≤ 8 * n + 1 → BsAre vsE esE → esE.length = 8 * n + 1 → (∀ i e, esE[i]? = some e → Em x B1 i e) →
     1 ≤ n → n ≤ 32 → x.length ≤ 2 → (@LT.lt Nat _ d ce ∧ @LT.lt Nat _ ce c ∧ @LT.lt Nat _ c f ∧ @LT.lt Nat _ f em ∧ @LT.lt Nat _ nl d ∧ @LT.lt Nat _ 255 d) →
     wpAny (model PR w) (callerA.deeper (lawEnv L fa cd)) (execs (lawBody.drop 6) (lawEnv L fa cd)) Q E s') :
   wpAny (model PR w) (callerA.deeper (lawEnv L fa cd)) (execs (lawBody.drop 1) (lawEnv L fa cd)) Q E s := by
  w_on
  unfold lawEnv
  rw [show lawScope = Scope.mk _ _ _ _ _ from rfl, show lawBody.drop 1 = _ :: _ :: _ from rfl]
  k_steps
  rename Fr _ _ _ _ => F2
  rename News _ _ _ _ => N2
  unfold Hold
  refine wpAny_call (at_call B F2 X T N2 [] (fun p hp => nomatch hp) rfl rfl (Around.frames_deeper (Below.stack B)) fun g2 C2 O2 back fz => ?_)
  refine sizes_spec C2 O2 (by simp only [depth_deeper, depth_caller]; decide) rfl fun h' tk l vs cnt O3 hIv => ?_
  obtain ⟨F3, N3⟩ := back h' _ O3
  have n1 : ∀ p ∈ [(nl, listOf nvs.toArray nc), (255, tabObj #[])], p.1 ≠ l := fun p hp => fz_ne O3 (List.mem_cons_self ..) (fz p hp (fun q hq => nomatch hq))
  replace n1 := allNe_of n1
  simp only [AllNe, and_true] at n1
  replace N3 := N3 [(l, listOf vs.toArray cnt), (nl, listOf nvs.toArray nc), (255, tabObj #[])] (fun p hp => by
    rcases List.mem_cons.mp hp with rfl | hp
    · exact .inl (List.mem_cons_self ..)
    · exact .inr ⟨hp, fun q hq => nomatch hq⟩)
  clear back fz C2 O2 O3 N2 F2
  dsimp only
  (try k_fold)
  k_steps
  rename Fr _ _ _ _ => F2
  rename News _ _ _ _ => N2
  obtain ⟨n, hn, hn1, hn2⟩ := size_ok (Int.toNat (Int.fmod (List.getD ns (Int.toNat 0) 0) 10)) (by have := fmod_lo (List.getD ns (Int.toNat 0) 0) (n := 10) (by decide); have := fmod_hi (List.getD ns (Int.toNat 0) 0) (n := 10) (by decide); omega)
  rw [hn] at F2
  replace N2 := kst_newsOf N2 (l' := [(nl, listOf nvs.toArray nc), (255, tabObj #[])]) (by k_allIn)
  clear hIv n1
  unfold Hold
  refine wpAny_call (at_call B F2 X T N2 [] (fun p hp => nomatch hp) rfl rfl (Around.frames_deeper (Below.stack B)) fun g2 C2 O2 back fz => ?_)
  refine defaults_spec C2 O2 (by simp only [depth_deeper, depth_caller]; decide) rfl fun h2 tk2 l2 vs2 cnt2 O3 hIv => ?_
  obtain ⟨F3, N3⟩ := back h2 _ O3
  have n1 : ∀ p ∈ [(nl, listOf nvs.toArray nc), (255, tabObj #[])], p.1 ≠ l2 := fun p hp => fz_ne O3 (List.mem_cons_self ..) (fz p hp (fun q hq => nomatch hq))
  replace n1 := allNe_of n1
  simp only [AllNe, and_true] at n1
  replace N3 := N3 [(l2, listOf vs2.toArray cnt2), (nl, listOf nvs.toArray nc), (255, tabObj #[])] (fun p hp => by
    rcases List.mem_cons.mp hp with rfl | hp
    · exact .inl (List.mem_cons_self ..)
    · exact .inr ⟨hp, fun q hq => nomatch hq⟩)
  clear back fz C2 O2 O3 N2 F2
  obtain ⟨x, hxx, hxl⟩ := default_ok (Int.toNat (Int.fmod (Int.fdiv (List.getD ns (Int.toNat 0) 0) 10) 3)) (by have := fmod_lo (Int.fdiv (List.getD ns (Int.toNat 0) 0) 10) (n := 3) (by decide); have := fmod_hi (Int.fdiv (List.getD ns (Int.toNat 0) 0) 10) (n := 3) (by decide); omega)
  obtain ⟨tx, hx⟩ := hIv.get hxx
  have hlo3 := fmod_lo (Int.fdiv (List.getD ns (Int.toNat 0) 0) 10) (n := 3) (by decide)
  have hhi3 := fmod_hi (Int.fdiv (List.getD ns (Int.toNat 0) 0) 10) (n := 3) (by decide)
  dsimp only
  (try k_fold)
  k_steps
  rename Fr _ _ _ _ => F2
  rename News _ _ _ _ => N2
  replace N2 := kst_newsOf N2 (l' := [(dN, oN), (nl, listOf nvs.toArray nc), (255, tabObj #[])]) (by k_allIn)
  have hDb := dict_nil (bytesKind PR w) hsN
  clear hIv n1 hlo3 hhi3 hx
  unfold Hold
  refine wpAny_call (at_call B F2 X T N2 [(dN, oN), (255, tabObj #[])] (by k_allIn) rfl rfl (Around.frames_deeper (Below.stack B)) fun g2 C2 O2 back fz => ?_)
  refine lawhash_spec C2 O2 (hcd.keeps C2.B.stays) (by refine neN ?_; omega) (by simp only [depth_deeper, depth_caller]; decide) rfl loN fun h3 tk3 f c ce fo oc oe ps O3 H lt3 => ?_
  obtain ⟨F3, N3⟩ := back h3 _ O3
  have n1 : @Ne Nat nl f ∧ @Ne Nat nl c ∧ @Ne Nat nl ce := by
    have hz := fz (nl, listOf nvs.toArray nc) (by k_mem) (by
      intro q hq
      simp only [List.mem_cons, List.not_mem_nil, or_false] at hq
      rcases hq with rfl | rfl <;> (dsimp only; refine neN ?_; omega))
    exact ⟨fz_ne O3 (by k_mem) hz, fz_ne O3 (by k_mem) hz, fz_ne O3 (by k_mem) hz⟩
  replace N3 := N3 [(f, fo), (c, oc), (ce, oe), (dN, oN), (255, tabObj ps), (nl, listOf nvs.toArray nc)] (fun p hp => by
    simp only [List.mem_cons, List.not_mem_nil, or_false] at hp
    rcases hp with rfl | rfl | rfl | rfl | rfl | rfl
    · exact .inl (by k_mem)
    · exact .inl (by k_mem)
    · exact .inl (by k_mem)
    · exact .inl (by k_mem)
    · exact .inl (by k_mem)
    · refine .inr ⟨by k_mem, fun q hq => ?_⟩
      simp only [List.mem_cons, List.not_mem_nil, or_false] at hq
      rcases hq with rfl | rfl <;> (dsimp only; refine neN ?_; omega))
  clear back fz C2 O2 O3 N2 F2
  dsimp only
  (try k_fold)
  k_steps
  rename Fr _ _ _ _ => F2
  rename News _ _ _ _ => N2
  have h8 : (8 * (n : Int)) = ((8 * n : Nat) : Int) := by omega
  rw [h8] at F2
  have hB0 : IsBook w oN [] := ⟨[], hDb, rfl, fun i p hp => by simp at hp⟩
  unfold Hold
  rw [h8]
  refine wpAny_call (at_call B F2 X T N2 [(f, fo), (c, oc), (ce, oe), (dN, oN)] (by k_allIn) rfl rfl (Around.frames_deeper (Below.stack B)) fun g2 C2 O2 back fz => ?_)
  refine empties_spec C2 O2 H hB0 (by simp only [depth_deeper, depth_caller]; decide) rfl (by decide) (by omega) fun h4 tk4 em vsE esE cntE od1 B1 O3 hB1 hE1 eV eL eM l1 l2' l3 l4 => ?_
  obtain ⟨F3, N3⟩ := back h4 _ O3
  have hfar : ∀ p ∈ [(255, tabObj ps), (nl, listOf nvs.toArray nc)], ∀ q ∈ [(f, fo), (c, oc), (ce, oe), (dN, oN)], q.1 ≠ p.1 := by
    intro p hp q hq
    simp only [List.mem_cons, List.not_mem_nil, or_false] at hp hq
    rcases hp with rfl | rfl <;> rcases hq with rfl | rfl | rfl | rfl <;> (dsimp only; refine neN ?_; omega)
  have n2 : ∀ p ∈ [(255, tabObj ps), (nl, listOf nvs.toArray nc)], p.1 ≠ em := fun p hp => fz_ne O3 (List.mem_cons_self ..) (fz p (by
    simp only [List.mem_cons, List.not_mem_nil, or_false] at hp ⊢
    rcases hp with rfl | rfl <;> simp) (hfar p hp))
  replace n2 := allNe_of n2
  simp only [AllNe, and_true] at n2
  replace N3 := N3 [(em, listOf vsE.toArray cntE), (f, fo), (c, oc), (ce, oe), (dN, od1), (255, tabObj ps), (nl, listOf nvs.toArray nc)] (fun p hp => by
    simp only [List.mem_cons, List.not_mem_nil, or_false] at hp
    rcases hp with rfl | rfl | rfl | rfl | rfl | rfl | rfl
    · exact .inl (by k_mem)
    · exact .inl (by k_mem)
    · exact .inl (by k_mem)
    · exact .inl (by k_mem)
    · exact .inl (by k_mem)
    · exact .inr ⟨by k_mem, hfar _ (by k_mem)⟩
    · exact .inr ⟨by k_mem, hfar _ (by k_mem)⟩)
  clear back fz C2 O2 O3 N2 F2
  dsimp only
  walk1
  dsimp only
  rename Fr _ _ _ _ => F4
  rename News _ _ _ _ => N4
  exact cont _ n x tx _ _ f c ce dN em fo oc oe od1 B1 vsE esE cntE ps ⟨_, _, rfl⟩ F4 N4 H hB1 (by simpa using hE1.2) eV eL eM hn1 hn2 hxl ⟨lt3.1, lt3.2.1, lt3.2.2, l1, lN.2.1, lN.2.2⟩
end
end

section
-- L0
open PySem PySem.W PySem.Calls PyProof.Rows
set_option Elab.async false
set_option maxRecDepth 100000
set_option linter.unusedVariables false
theorem Fr.top {h₀ h : Heap} {L : Addr} {m : Str → Option Value} (F : Fr h₀ L h m) {a : Str} {v : Value} (e : m a = some v) : Fr h₀ L h (fun y => if y = a then some v else m y) := by
  have : (fun y => if y = a then some v else m y) = m := funext fun y => by
    split
    · rename_i q; rw [q, e]
    · rfl
  rw [this]; exact F
/-- take a read name off again -/
theorem Fr.under {h₀ h : Heap} {L : Addr} {m : Str → Option Value} {a b : Str} {v u : Value} (F : Fr h₀ L h (fun y => if y = b then some u else if y = a then some v else m y)) (e : m a = some v) : Fr h₀ L h (fun y => if y = b then some u else m y) := by
  have : (fun y => if y = a then some v else m y) = m := funext fun y => by
    split
    · rename_i q; rw [q, e]
    · rfl
  have e2 : (fun y => if y = b then some u else if y = a then some v else m y) = (fun y => if y = b then some u else m y) := funext fun y => by
    have := congrFun this y
    rw [this]
  rw [← e2]; exact F
theorem top_eq {m : Str → Option Value} {a : Str} {v : Value} (e : m a = some v) : (fun y => if y = a then some v else m y) = m := funext fun y => by
  split
  · rename_i q; rw [q, e]
  · rfl
theorem fr_cast {h₀ h : Heap} {L : Addr} {m m' : Str → Option Value} (F : Fr h₀ L h m) (e : ∀ y, m y = m' y) : Fr h₀ L h m' := (funext e : m = m') ▸ F
theorem ite_back {α : Type} {c : Prop} [Decidable c] {a b b' : α} (h : b = b') : (if c then a else b) = (if c then a else b') := by rw [h]
/-- the ledger's places are all different -/
def ND (ls : List (Addr × Obj)) : Prop := (ls.map (·.1)).Nodup
theorem perm_of {α : Type} {l l' : List α} (h : ∀ [DecidableEq α] (a : α), l.count a = l'.count a) : l.Perm l' := by
  classical
  exact List.perm_iff_count.mpr fun a => h a
theorem ND.perm {l l' : List (Addr × Obj)} (D : ND l) (p : l.Perm l') : ND l' := (p.map _).nodup D
theorem nperm {h₀ h : Heap} {L : Addr} {l l' : List (Addr × Obj)} (N : News h₀ L h l) (p : l.Perm l') : News h₀ L h l' := fun q hq => N q (p.symm.subset hq)
theorem allLt_mono {a b : Nat} (h : @LT.lt Nat _ a b) : ∀ {l : List (Addr × Obj)}, AllLt a l → AllLt b l
  | [], _ => trivial
  | _ :: _, x => ⟨Nat.lt_trans x.1 h, allLt_mono h x.2⟩
theorem ND.new {a : Addr} {o : Obj} {ls : List (Addr × Obj)} (D : ND ls) (h : AllLt a ls) : ND ((a, o) :: ls) := by
  refine List.nodup_cons.mpr ⟨fun q => ?_, D⟩
  obtain ⟨p, hp, e⟩ := List.mem_map.mp q
  have := allLt_mem h p hp
  dsimp only at e
  rw [e] at this
  exact Nat.lt_irrefl _ this
theorem nd_of {h₀ h : Heap} {L : Addr} {ls : List (Addr × Obj)} (N : News h₀ L h ls) (D : ND ls) : ND ls := D
theorem ND.far {l l' : List (Addr × Obj)} (D : ND (l ++ l')) : ∀ p ∈ l', ∀ q ∈ l, q.1 ≠ p.1 := fun p hp q hq => by
  unfold ND at D
  rw [List.map_append] at D
  exact (List.nodup_append.mp D).2.2 _ (List.mem_map_of_mem hq) _ (List.mem_map_of_mem hp)
theorem ND.mk {l l' : List (Addr × Obj)} (h1 : ND l) (h2 : ND l') (h3 : ∀ p ∈ l', ∀ q ∈ l, q.1 ≠ p.1) : ND (l ++ l') := by
  unfold ND
  rw [List.map_append]
  refine List.nodup_append.mpr ⟨h1, h2, fun a ha b hb => ?_⟩
  obtain ⟨p, hp, rfl⟩ := List.mem_map.mp ha
  obtain ⟨q, hq, rfl⟩ := List.mem_map.mp hb
  exact h3 q hq p hp
theorem ND.right {l l' : List (Addr × Obj)} (D : ND (l ++ l')) : ND l' := by
  unfold ND at D
  rw [List.map_append] at D
  exact (List.nodup_append.mp D).2.1
theorem ND.left {l l' : List (Addr × Obj)} (D : ND (l ++ l')) : ND l := by
  unfold ND at D
  rw [List.map_append] at D
  exact (List.nodup_append.mp D).1
theorem ND.upd {l l' : List (Addr × Obj)} (D : ND l) (e : l'.map (·.1) = l.map (·.1)) : ND l' := by unfold ND; rw [e]; exact D
theorem ND.ne {a b : Addr} {o o' : Obj} {l : List (Addr × Obj)} (D : ND ((a, o) :: l)) (m : (b, o') ∈ l) : @Ne Nat a b := fun e => (List.nodup_cons.mp D).1 (by
  show a ∈ l.map (·.1)
  have e' : a = b := e
  rw [e']
  exact List.mem_map_of_mem (f := fun q : Addr × Obj => q.1) m)
/-- a ledger without repetitions -/
theorem own_dedup {g h : Heap} {pre : List (Addr × Obj)} : ∀ {tl : List (Addr × Obj)}, Own g h (pre ++ tl) → ∃ tl', ND tl' ∧ (∀ p, p ∈ tl' ↔ p ∈ tl)
  | [], _ => ⟨[], List.nodup_nil, fun _ => Iff.rfl⟩
  | p :: tl, O => by
    obtain ⟨tl', h1, h2⟩ := own_dedup (pre := pre) (tl := tl) (O.sub fun q hq => by
      rcases List.mem_append.mp hq with h | h
      · exact List.mem_append_left _ h
      · exact List.mem_append_right _ (List.mem_cons_of_mem _ h))
    by_cases hm : p.1 ∈ tl'.map (·.1)
    · refine ⟨tl', h1, fun q => ⟨fun a => List.mem_cons_of_mem _ ((h2 q).mp a), fun a => ?_⟩⟩
      rcases List.mem_cons.mp a with rfl | a
      · obtain ⟨q', hq', e⟩ := List.mem_map.mp hm
        have m1 := (O.own q (List.mem_append_right _ (List.mem_cons_self ..))).1
        have m2 := (O.own q' (List.mem_append_right _ (List.mem_cons_of_mem _ ((h2 q').mp hq')))).1
        rw [e, m1] at m2
        have e2 : q'.2 = q.2 := (Option.some.inj m2).symm
        have : q' = q := Prod.ext e e2
        exact this ▸ hq'
      · exact (h2 q).mpr a
    · exact ⟨p :: tl', List.nodup_cons.mpr ⟨hm, h1⟩, fun q => by rw [List.mem_cons, List.mem_cons, h2 q]⟩
section
variable {w : World} {base : Heap} {mean : ExcName → Option Value} {mg mb : Str → Option Value} {s : Shared}  {R : Result → Shared → Prop}
/-- a call at the law: FP is the callee's -/
theorem lawCall {A A₀ : Around} {h₀ : Heap} {outer : List Env} {env : Env} {L : Addr} {m : Str → Option Value} {FP tl : List (Addr × Obj)} {c : Code}
    (B : Below A₀ base outer h₀) (F : Fr h₀ L s.heap m) (X : (hd.heap_39 w.params).In h₀) (T : Top topProg LOOSE mean mg mb h₀) (N : News h₀ L s.heap (FP ++ tl)) (D : ND (FP ++ tl))
    (hf : env.frame = some L) (hke : env.scope.kind = .function) (hA : A.frames = some (env :: outer))
    (k : ∀ g, Ctx w A base (env :: outer) g mean mg mb → Own g s.heap FP →
      (∀ h' FP', Own g h' FP' → ND FP' → Fr h₀ L h' m ∧ News h₀ L h' (FP' ++ tl) ∧ ND (FP' ++ tl)) →
      codeAny (model PR w) A c R s) :
    codeAny (model PR w) A c R s :=
  at_call B F X T N FP (fun p hp => List.mem_append_left _ hp) hf hke hA fun g C O back fz => k g C O fun h' FP' O' D' => by
    obtain ⟨F', N'⟩ := back h' FP' O'
    have far := D.far
    refine ⟨F', N' _ fun p hp => ?_, D'.mk D.right fun p hp q hq => ?_⟩
    · rcases List.mem_append.mp hp with h | h
      · exact .inl h
      · exact .inr ⟨List.mem_append_right _ h, far p h⟩
    · have h1 := fz p (List.mem_append_right _ hp) (far p hp)
      intro e
      have h2 := (O'.own q hq).2
      rw [e, h1] at h2
      cases h2
end
end

section
-- L1
local macro_rules | `(tactic| walk_at "no such key") => `(tactic| fail)
local macro_rules | `(tactic| walk_at "no such key") => `(tactic| fail)
local macro_rules | `(tactic| walk_at "no such key") => `(tactic| fail)
local macro_rules | `(tactic| walk_at "no such key") => `(tactic| fail)
open PySem PySem.W PySem.Calls PyProof.Rows
set_option Elab.async false
set_option maxRecDepth 100000
set_option linter.unusedVariables false
theorem bind_via {K : Frag} {a : Addr} {s' : Shared} {fd : FuncData} {args : Args} {binds : List (Str × Value)} {name qual : Str} {params : Arguments} {body : List Stmt} {scope : Scope} {dV kV doc pm cdv ct oc' oc : Value} {an od' od : Option Addr} {osl' osl : Array (Option Value)}
    (hk : K.lookup a = some ⟨oc', od', .func (fnOf name qual params body scope dV kV doc pm an cdv ct), osl'⟩) (hx : K.lookup a = some ⟨oc, od, .func fd, osl⟩) (h : BindsTo s' (fnOf name qual params body scope dV kV doc pm an cdv ct) args binds) : BindsTo s' fd args binds := by
  have q := Option.some.inj (hk.symm.trans hx)
  injection q with q1 q2 q3 q4
  injection q3 with q3
  exact q3 ▸ h
section
local macro_rules | `(tactic| walk_at "call ref") => `(tactic| (k_here; (with_reducible show wpAny _ _ (call (Value.ref 235) _ _) _ _ _); (with_reducible refine Hold.mk ?_)))
local macro_rules | `(tactic| walk_at "callWith ref") => `(tactic| (k_here; (with_reducible show wpAny _ _ (callWith (Value.ref 235) _ _) _ _ _); (with_reducible refine Hold.mk ?_)))
set_option maxHeartbeats 8000000 in
theorem tree_at {w : World} {A : Around} {h₀ base : Heap} {outer : List Env} {env : Env} {L : Addr} {mean : ExcName → Option Value} {mg mb : Str → Option Value} {s : Shared} {m : Str → Option Value} {Q : Value → Shared → Prop} {E : Value → Shared → Prop} {A₀ : Around}
   {n : Nat} {x : Bs} {tx tn : Tok} {f c ce d : Addr} {fo oc oe od : Obj} {B1 : List Bs} {tl : List (Addr × Obj)} {pos : List Value} {kw : List (Str × Value)}
   (B : Below A₀ base outer h₀) (X : (hd.heap_39 w.params).In h₀) (T : Top topProg LOOSE mean mg mb h₀) (F : Fr h₀ L s.heap m) (N : News h₀ L s.heap ([(f, fo), (c, oc), (ce, oe), (d, od)] ++ tl)) (D : ND ([(f, fo), (c, oc), (ce, oe), (d, od)] ++ tl))
   (hf : env.frame = some L) (hke : env.scope.kind = .function) (hA : A.frames = some (env :: outer)) (hh : A.handled = none) (hroom : A.depth + 15 < recursionLimit)
   (H : IsHash f c ce d fo oc oe) (hB : IsBook w od B1) (hl : B1.length < 100000) (hn1 : 1 ≤ n) (hn : n ≤ 32)
   (hbind : ∀ (s' : Shared) (tr : Addr) oc od fd osl, (hd.heap_39 w.params).In s'.heap → (hd.heap_39 w.params).lookup 151 = some ⟨oc, od, .func fd, osl⟩ → BindsTo s' fd ⟨.ref tr :: pos, kw⟩ [(Str.ofString "self", .ref tr), (Str.ofString "hash_of", .ref f), (Str.ofString "key_size", .int (n : Int) tn), (Str.ofString "default", .bytes x.toArray tx)])
   (hQ : ∀ (h' : Heap) (tk : Nat) (t1 t2 t3 t4 t5 t6 td trt : Tok) (tr dd db : Addr) (odb od' : Obj) (B' : List Bs) (kvs : List (Bs × Value)) (root : Bs), Fr h₀ L h' m →
     News h₀ L h' ([(tr, instObj 235 dd), (dd, treeD w t1 t2 t3 t4 t5 t6 tn td tx trt n x f db root), (db, odb), (f, fo), (c, oc), (ce, oe), (d, od')] ++ tl) → ND ([(tr, instObj 235 dd), (dd, treeD w t1 t2 t3 t4 t5 t6 tn td tx trt n x f db root), (db, odb), (f, fo), (c, oc), (ce, oe), (d, od')] ++ tl) →
     IsBook w od' B' → Ext (8 * n + 1) B1 B' → odb.IsDictOf (bytesKind PR w) kvs → DbV B' kvs → kvs.length ≤ 8 * n + 1 → Em x B' (8 * n) root → (∀ i, i ≤ 8 * n → ∃ e, Em x B' i e ∧ e ∈ kvs.map (·.1)) →
     ((@LT.lt Nat _ f tr ∧ @LT.lt Nat _ c tr ∧ @LT.lt Nat _ ce tr ∧ @LT.lt Nat _ d tr) ∧ (@LT.lt Nat _ f dd ∧ @LT.lt Nat _ c dd ∧ @LT.lt Nat _ ce dd ∧ @LT.lt Nat _ d dd) ∧ @LT.lt Nat _ dd tr) →
     (@LT.lt Nat _ tr db ∧ @LT.lt Nat _ dd db ∧ @LT.lt Nat _ f db ∧ @LT.lt Nat _ c db ∧ @LT.lt Nat _ ce db ∧ @LT.lt Nat _ d db) →
     Q (.ref tr) { s with heap := h', toks := tk }) :
   wpAny (model PR w) A (call (.ref 235) pos kw) Q E s := by
  w_on
  obtain ⟨nH1, nH2, nH3⟩ := H.2
  refine call_cls F X N (by k_is) (by k_is) (by k_is) fun tr dd h1 F1 N1 l1 l2 => ?_
  replace l1 := allLt_of l1
  have D1 : ND ((tr, instObj 235 dd) :: (dd, dictOf [] 0) :: ([(f, fo), (c, oc), (ce, oe), (d, od)] ++ tl)) := (D.new l1).new ⟨l2, allLt_mono l2 l1⟩
  replace N1 : News h₀ L h1 ([(tr, instObj 235 dd), (dd, dictOf [] 0), (f, fo), (c, oc), (ce, oe), (d, od)] ++ tl) := N1
  replace D1 : ND ([(tr, instObj 235 dd), (dd, dictOf [] 0), (f, fo), (c, oc), (ce, oe), (d, od)] ++ tl) := D1
  have l3 : @LT.lt Nat _ f dd ∧ @LT.lt Nat _ c dd ∧ @LT.lt Nat _ ce dd ∧ @LT.lt Nat _ d dd := ⟨l1.1, l1.2.1, l1.2.2.1, l1.2.2.2.1⟩
  have l2' : @LT.lt Nat _ dd tr := l2
  obtain ⟨la, lb, lc, ld⟩ := l3
  refine lawCall (s := { s with heap := h1 }) B F1 X T N1 D1 hf hke hA fun g C O back => ?_
  refine init_spec (s := { s with heap := h1 }) (n := n) (x := x) (tn := tn) (tx := tx) C O H hB (by k_room) hh hl hn hn1 ⟨by omega, by omega, by omega, by omega⟩ ⟨la, lb, lc, ld⟩ l2' (fun a b fd e hx => hbind { s with heap := h1 } tr a b fd e (C.X.keeps O.stays) hx) fun h' tk t1 t2 t3 t4 t5 t6 td trt db odb od' B' kvs root O' i1 i2 i3 i4 i5 i6 i7 i8 i9 => ?_
  obtain ⟨o1, o2, o3, o4, o5, o6⟩ := i9
  have D' : ND [(db, odb), (tr, instObj 235 dd), (dd, treeD w t1 t2 t3 t4 t5 t6 tn td tx trt n x f db root), (f, fo), (c, oc), (ce, oe), (d, od')] := by
    have h0 : ND [(tr, instObj 235 dd), (dd, treeD w t1 t2 t3 t4 t5 t6 tn td tx trt n x f db root), (f, fo), (c, oc), (ce, oe), (d, od')] := (D1.left).upd rfl
    exact h0.new (a := db) (o := odb) ⟨o1, o2, o3, o4, o5, o6, trivial⟩
  obtain ⟨F2, N2, D2⟩ := back h' _ O' D'
  refine ⟨rfl, hQ h' tk t1 t2 t3 t4 t5 t6 td trt tr dd db odb od' B' kvs root F2 (nperm N2 (by (refine perm_of ?_; intro _ kpa; simp only [List.count_cons, List.count_append, List.count_nil, List.append_assoc, List.cons_append, List.nil_append] <;> ac_rfl))) (D2.perm (by (refine perm_of ?_; intro _ kpa; simp only [List.count_cons, List.count_append, List.count_nil, List.append_assoc, List.cons_append, List.nil_append] <;> ac_rfl))) i1 i2 i3 i4 i5 i6 i7 ⟨⟨by omega, by omega, by omega, by omega⟩, ⟨la, lb, lc, ld⟩, l2'⟩ ⟨o1, o2, o3, o4, o5, o6⟩⟩
end
end

section
-- L2
open PySem PySem.W PySem.Calls PyProof.Rows
set_option Elab.async false
set_option maxRecDepth 100000
set_option linter.unusedVariables false
section
local macro_rules | `(tactic| walk_at "call ref") => `(tactic| (k_here; (with_reducible show wpAny _ _ (call (Value.ref 235) _ _) _ _ _); (with_reducible refine Hold.mk ?_)))
local macro_rules | `(tactic| walk_at "callWith ref") => `(tactic| (k_here; (with_reducible show wpAny _ _ (callWith (Value.ref 235) _ _) _ _ _); (with_reducible refine Hold.mk ?_)))
set_option maxHeartbeats 8000000 in
/-- the tree is made -/
theorem lawB1 {w : World} {h₀ : Heap} {L fa : Addr} {cd : Value} {mean : ExcName → Option Value} {mg mb : Str → Option Value} {s : Shared} {m : Str → Option Value} {Q : Flow → Shared → Prop} {E : Value → Shared → Prop}
   {n : Nat} {x : Bs} {tx tn : Tok} {f c ce d : Addr} {fo oc oe od : Obj} {B1 : List Bs} {tl : List (Addr × Obj)}
   (B : Below callerA h₀ [] h₀) (X : (hd.heap_39 w.params).In h₀) (T : Top topProg LOOSE mean mg mb h₀) (F : Fr h₀ L s.heap m) (N : News h₀ L s.heap ([(f, fo), (c, oc), (ce, oe), (d, od)] ++ tl)) (D : ND ([(f, fo), (c, oc), (ce, oe), (d, od)] ++ tl))
   (e1 : m (Str.ofString "size") = some (.int (n : Int) tn)) (e2 : m (Str.ofString "default") = some (.bytes x.toArray tx)) (e3 : m (Str.ofString "hash_of") = some (.ref f))
   (H : IsHash f c ce d fo oc oe) (hB : IsBook w od B1) (hl : B1.length ≤ 8 * n + 1) (hn1 : 1 ≤ n) (hn : n ≤ 32) (hxl : x.length ≤ 2)
   (cont : ∀ (s' : Shared) (t1 t2 t3 t4 t5 t6 td trt tn' tx' : Tok) (tr dd db : Addr) (odb od' : Obj) (B' : List Bs) (kvs : List (Bs × Value)) (root : Bs),
     (∃ h' tk, s' = { s with heap := h', toks := tk }) → Fr h₀ L s'.heap (fun zz => if zz = Str.ofString "tree" then some (.ref tr) else m zz) →
     News h₀ L s'.heap ([(tr, instObj 235 dd), (dd, treeD w t1 t2 t3 t4 t5 t6 tn' td tx' trt n x f db root), (db, odb), (f, fo), (c, oc), (ce, oe), (d, od')] ++ tl) →
     ND ([(tr, instObj 235 dd), (dd, treeD w t1 t2 t3 t4 t5 t6 tn' td tx' trt n x f db root), (db, odb), (f, fo), (c, oc), (ce, oe), (d, od')] ++ tl) →
     IsBook w od' B' → Ext (8 * n + 1) B1 B' → odb.IsDictOf (bytesKind PR w) kvs → DbV B' kvs → kvs.length ≤ 8 * n + 1 → Em x B' (8 * n) root → (∀ i, i ≤ 8 * n → ∃ e, Em x B' i e ∧ e ∈ kvs.map (·.1)) →
     ((@LT.lt Nat _ f tr ∧ @LT.lt Nat _ c tr ∧ @LT.lt Nat _ ce tr ∧ @LT.lt Nat _ d tr) ∧ (@LT.lt Nat _ f dd ∧ @LT.lt Nat _ c dd ∧ @LT.lt Nat _ ce dd ∧ @LT.lt Nat _ d dd) ∧ @LT.lt Nat _ dd tr) →
     (@LT.lt Nat _ tr db ∧ @LT.lt Nat _ dd db ∧ @LT.lt Nat _ f db ∧ @LT.lt Nat _ c db ∧ @LT.lt Nat _ ce db ∧ @LT.lt Nat _ d db) →
     wpAny (model PR w) (callerA.deeper (lawEnv L fa cd)) (execs (lawBody.drop 7) (lawEnv L fa cd)) Q E s') :
   wpAny (model PR w) (callerA.deeper (lawEnv L fa cd)) (execs (lawBody.drop 6) (lawEnv L fa cd)) Q E s := by
  w_on
  have hm := (congrArg (fun q : Str → Option Value => fun y => if y = Str.ofString "size" then some (.int (n : Int) tn) else if y = Str.ofString "default" then some (.bytes x.toArray tx) else q y) (top_eq e3)).trans ((congrArg (fun q : Str → Option Value => fun y => if y = Str.ofString "size" then some (.int (n : Int) tn) else q y) (top_eq e2)).trans (top_eq e1))
  replace F : Fr h₀ L s.heap (fun zz => if zz = Str.ofString "size" then some (.int (n : Int) tn) else if zz = Str.ofString "default" then some (.bytes x.toArray tx) else if zz = Str.ofString "hash_of" then some (.ref f) else m zz) := by
    rw [show (fun zz => if zz = Str.ofString "size" then some (.int (n : Int) tn) else if zz = Str.ofString "default" then some (.bytes x.toArray tx) else if zz = Str.ofString "hash_of" then some (.ref f) else m zz) = m from hm]
    exact F
  unfold lawEnv
  rw [show lawScope = Scope.mk _ _ _ _ _ from rfl, show lawBody.drop 6 = _ :: _ :: _ from rfl]
  by_cases h32 : n = 32
  · subst h32
    by_cases hx : x = []
    · subst hx
      k_steps
      unfold Hold
      refine' tree_at (n := 32) (x := []) B X T F N D rfl rfl (Around.frames_deeper (Below.stack B)) rfl ?room H hB ?len hn1 hn ?bind ?go
      case room => simp only [depth_deeper, depth_caller]; decide
      case len => omega
      case bind =>
        intro s' tr oc od fd osl Xs hx
        refine' bind_via ?hk hx ?hb
        case hk => k_is
        case hb => exact binds_K Xs rfl (by k_is) rfl rfl rfl
      case go =>
        intro h' tk t1 t2 t3 t4 t5 t6 td trt tr dd db odb od' B' kvs root F1 N1 D1 i1 i2 i3 i4 i5 i6 i7 i8 i9
        dsimp only
        walk1
        walk1
        dsimp only
        try (walk1; dsimp only)
        rename Fr _ _ _ _ => F2
        rename News _ _ _ _ => N2
        exact cont _ t1 t2 t3 t4 t5 t6 td trt _ _ tr dd db odb od' B' kvs root ⟨_, _, rfl⟩ (fr_cast F2 (by (intro y; (repeat (refine ite_back ?_)); exact congrFun hm y))) N2 D1 i1 i2 i3 i4 i5 i6 i7 i8 i9
    · k_steps
      unfold Hold
      refine' tree_at (n := 32) (x := x) B X T F N D rfl rfl (Around.frames_deeper (Below.stack B)) rfl ?room H hB ?len hn1 hn ?bind ?go
      case room => simp only [depth_deeper, depth_caller]; decide
      case len => omega
      case bind =>
        intro s' tr oc od fd osl Xs hx
        refine' bind_via ?hk hx ?hb
        case hk => k_is
        case hb => first | exact BindsTo.of_eq rfl | exact binds_K Xs rfl (by k_is) rfl rfl rfl
      case go =>
        intro h' tk t1 t2 t3 t4 t5 t6 td trt tr dd db odb od' B' kvs root F1 N1 D1 i1 i2 i3 i4 i5 i6 i7 i8 i9
        dsimp only
        walk1
        walk1
        dsimp only
        try (walk1; dsimp only)
        rename Fr _ _ _ _ => F2
        rename News _ _ _ _ => N2
        exact cont _ t1 t2 t3 t4 t5 t6 td trt _ _ tr dd db odb od' B' kvs root ⟨_, _, rfl⟩ (fr_cast F2 (by (intro y; (repeat (refine ite_back ?_)); exact congrFun hm y))) N2 D1 i1 i2 i3 i4 i5 i6 i7 i8 i9
  · k_steps
    unfold Hold
    refine' tree_at (n := n) (x := x) B X T F N D rfl rfl (Around.frames_deeper (Below.stack B)) rfl ?room H hB ?len hn1 hn ?bind ?go
    case room => simp only [depth_deeper, depth_caller]; decide
    case len => omega
    case bind =>
      intro s' tr oc od fd osl Xs hx
      refine' bind_via ?hk hx ?hb
      case hk => k_is
      case hb => first | exact BindsTo.of_eq rfl | exact binds_K Xs rfl (by k_is) rfl rfl rfl
    case go =>
      intro h' tk t1 t2 t3 t4 t5 t6 td trt tr dd db odb od' B' kvs root F1 N1 D1 i1 i2 i3 i4 i5 i6 i7 i8 i9
      dsimp only
      walk1
      walk1
      dsimp only
      try (walk1; dsimp only)
      rename Fr _ _ _ _ => F2
      rename News _ _ _ _ => N2
      exact cont _ t1 t2 t3 t4 t5 t6 td trt _ _ tr dd db odb od' B' kvs root ⟨_, _, rfl⟩ (fr_cast F2 (by (intro y; (repeat (refine ite_back ?_)); exact congrFun hm y))) N2 D1 i1 i2 i3 i4 i5 i6 i7 i8 i9
end
end

section
-- L3
local macro_rules | `(tactic| walk_at "no such key") => `(tactic| fail)
local macro_rules | `(tactic| walk_at "no such key") => `(tactic| fail)
local macro_rules | `(tactic| walk_at "no such key") => `(tactic| fail)
open PySem PySem.W PySem.Calls PyProof.Rows
set_option Elab.async false
set_option maxRecDepth 100000
set_option linter.unusedVariables false
theorem low_nat (k : Int) (n : Nat) : ∃ p : Nat, Int.fmod k (256 ^ Int.toNat (n : Int)) = (p : Int) ∧ p < 256 ^ n := by
  have e : ((256 : Int) ^ Int.toNat (n : Int)) = ((256 ^ n : Nat) : Int) := by simp
  rw [e]
  have h0 := fmod_lo k (n := ((256 ^ n : Nat) : Int)) (by have := Nat.pow_pos (n := n) (show 0 < 256 by decide); omega)
  have h1 := fmod_hi k (n := ((256 ^ n : Nat) : Int)) (by have := Nat.pow_pos (n := n) (show 0 < 256 by decide); omega)
  exact ⟨(Int.fmod k ((256 ^ n : Nat) : Int)).toNat, by omega, by omega⟩
theorem xor_lt : ∀ {k p q : Nat}, p < 2 ^ k → q < 2 ^ k → ∃ r : Nat, Builtin.bitXor (p : Int) (q : Int) = (r : Int) ∧ r < 2 ^ k
  | 0, p, q, hp, hq => by
    have h1 : p = 0 := by simpa using hp
    have h2 : q = 0 := by simpa using hq
    subst h1 h2
    have := xor_halves 0 0
    refine ⟨0, ?_, by simp⟩
    simp at this ⊢
    omega
  | k + 1, p, q, hp, hq => by
    obtain ⟨r, e, l⟩ := xor_lt (k := k) (p := p / 2) (q := q / 2) (by omega) (by omega)
    have := xor_halves (p : Int) (q : Int)
    have e3 : ((p : Int) / 2) = ((p / 2 : Nat) : Int) := by omega
    have e4 : ((q : Int) / 2) = ((q / 2 : Nat) : Int) := by omega
    rw [e3, e4, e] at this
    refine ⟨2 * r + (p + q) % 2, by rw [this]; omega, by omega⟩
theorem xor_nat {p n k : Nat} (hp : p < 256 ^ n) (hk : k < 8 * n) : ∃ q : Nat, Builtin.bitXor (p : Int) (1 * 2 ^ k) = (q : Int) ∧ q < 256 ^ n := by
  have e1 : ((1 : Int) * 2 ^ k) = ((2 ^ k : Nat) : Int) := by simp
  have hq : 2 ^ k < 2 ^ (8 * n) := Nat.pow_lt_pow_right (by decide) hk
  have e2 : 256 ^ n = 2 ^ (8 * n) := by rw [Nat.pow_mul]
  rw [e2] at hp ⊢
  rw [e1]
  exact xor_lt hp hq
section
local macro_rules | `(tactic| walk_at "call ref") => `(tactic| (k_here; (with_reducible show wpAny _ _ (call (Value.ref 291) _) _ _ _); (with_reducible refine Hold.mk ?_)))
local macro_rules | `(tactic| walk_at "exec For Tuple Subscript cons nil") => `(tactic| (with_reducible refine Hold.mk ?_))
set_option maxHeartbeats 8000000 in
/-- the root check, the three numbers, the first value -/
theorem lawB2 {w : World} {h₀ : Heap} {L fa : Addr} {cd : Value} {mean : ExcName → Option Value} {mg mb : Str → Option Value} {s : Shared} {m : Str → Option Value} {Q : Flow → Shared → Prop} {E : Value → Shared → Prop}
   {n : Nat} {x : Bs} {f tr dd db em nl : Addr} {t1 t2 t3 t4 t5 t6 td trt tx tn tn' tx' tdp : Tok} {tl : List (Addr × Obj)} {root eD : Bs} {vsE : List Value} {esE : List Bs} {cntE nc : Nat} {nvs : List Value} {ns : List Int}
   (B : Below callerA h₀ [] h₀) (X : (hd.heap_39 w.params).In h₀) (T : Top topProg LOOSE mean mg mb h₀) (F : Fr h₀ L s.heap m)
   (N : News h₀ L s.heap ([(tr, instObj 235 dd), (dd, treeD w t1 t2 t3 t4 t5 t6 tn' td tx' trt n x f db root), (em, listOf vsE.toArray cntE), (nl, listOf nvs.toArray nc)] ++ tl))
   (e1 : m (Str.ofString "tree") = some (.ref tr)) (e2 : m (Str.ofString "empty") = some (.ref em)) (e3 : m (Str.ofString "depth") = some (.int ((8 * n : Nat) : Int) tdp)) (e4 : m (Str.ofString "size") = some (.int (n : Int) tn)) (e5 : m (Str.ofString "numbers") = some (.ref nl)) (e6 : m (Str.ofString "default") = some (.bytes x.toArray tx)) (hxl : x.length ≤ 2) (D : ND ([(tr, instObj 235 dd), (dd, treeD w t1 t2 t3 t4 t5 t6 tn' td tx' trt n x f db root), (em, listOf vsE.toArray cntE), (nl, listOf nvs.toArray nc)] ++ tl))
   (hn1 : 1 ≤ n) (hn : n ≤ 32) (hE : BsAre vsE esE) (hEl : esE.length = 8 * n + 1) (hEr : esE[8 * n]? = some root) (hI : IntsAre nvs ns) (hnl : ns.length = 7)
   (cont : ∀ (h' : Heap) (tk : Nat) (tsp ta tb tc tv1 : Tok) (sp : Int) (p1 p2 p3 : Nat) (v1 v2 v3 : Bs) (gone2 gone3 : Bool) (kl hld dl a1 a2 a3 : Addr) (oN : Obj) (tb' tc' tv2 tv3 : Tok) (j1 j2 j3 j4 j5 : Addr) (o1 o2 o3 o4 o5 : Obj),
     Fr h₀ L h' (fun zz => if zz = Str.ofString "keys" then some (.ref kl) else if zz = Str.ofString "proof" then some (.none) else if zz = Str.ofString "held" then some (.ref hld) else if zz = Str.ofString "deeds" then some (.ref dl) else if zz = Str.ofString "opening" then some (.bytes v1.toArray tv1) else if zz = Str.ofString "third" then some (.int (p3 : Int) tc) else if zz = Str.ofString "second" then some (.int (p2 : Int) tb) else if zz = Str.ofString "first" then some (.int (p1 : Int) ta) else if zz = Str.ofString "span" then some (.int sp tsp) else m zz) →
     News h₀ L h' ((kl, listOf #[] 0) :: (hld, oN) :: (dl, listOf #[.ref a1, .ref a2, .ref a3] 0) :: (a3, tupOf [.int (p3 : Int) tc', .bytes v3.toArray tv3, .bool gone3]) :: (j1, o1) :: (j2, o2) :: (a2, tupOf [.int (p2 : Int) tb', .bytes v2.toArray tv2, .bool gone2]) :: (j3, o3) :: (j4, o4) :: (a1, tupOf [.int (p1 : Int) ta, .bytes v1.toArray tv1, .bool false]) :: (j5, o5) :: (tr, instObj 235 dd) :: (dd, treeD w t1 t2 t3 t4 t5 t6 tn' td tx' trt n x f db root) :: (em, listOf vsE.toArray cntE) :: (nl, listOf nvs.toArray nc) :: tl) →
     ND ((kl, listOf #[] 0) :: (hld, oN) :: (dl, listOf #[.ref a1, .ref a2, .ref a3] 0) :: (a3, tupOf [.int (p3 : Int) tc', .bytes v3.toArray tv3, .bool gone3]) :: (j1, o1) :: (j2, o2) :: (a2, tupOf [.int (p2 : Int) tb', .bytes v2.toArray tv2, .bool gone2]) :: (j3, o3) :: (j4, o4) :: (a1, tupOf [.int (p1 : Int) ta, .bytes v1.toArray tv1, .bool false]) :: (j5, o5) :: (tr, instObj 235 dd) :: (dd, treeD w t1 t2 t3 t4 t5 t6 tn' td tx' trt n x f db root) :: (em, listOf vsE.toArray cntE) :: (nl, listOf nvs.toArray nc) :: tl) →
     oN.IsDictOf (intKind PR w) [] → (hld == sysModules) = false →
     p1 < 256 ^ n → p2 < 256 ^ n → p3 < 256 ^ n → v1.length = 4 → (v2.length ≤ 64 ∧ v2.length ≠ 6) → (gone2 = true → v2 = x) → (v3.length ≤ 64 ∧ v3.length ≠ 6) → (gone3 = true → v3 = x) →
     wpAny (model PR w) (callerA.deeper (lawEnv L fa cd)) (exec lawFor (lawEnv L fa cd)) (fun f s' => match f with | .next => wpAny (model PR w) (callerA.deeper (lawEnv L fa cd)) (execs (lawBody.drop 18) (lawEnv L fa cd)) Q E s' | f => Q f s') E { s with heap := h', toks := tk }) :
   wpAny (model PR w) (callerA.deeper (lawEnv L fa cd)) (execs (lawBody.drop 7) (lawEnv L fa cd)) Q E s := by
  w_on
  have hm := (congrArg (fun q : Str → Option Value => (fun zz => if zz = Str.ofString "tree" then some (.ref tr) else if zz = Str.ofString "empty" then some (.ref em) else if zz = Str.ofString "depth" then some (.int ((8 * n : Nat) : Int) tdp) else if zz = Str.ofString "size" then some (.int (n : Int) tn) else q zz)) (Eq.trans (congrArg (fun q : Str → Option Value => (fun zz => if zz = Str.ofString "numbers" then some (.ref nl) else q zz)) (top_eq e6)) (top_eq e5))).trans ((congrArg (fun q : Str → Option Value => (fun zz => if zz = Str.ofString "tree" then some (.ref tr) else if zz = Str.ofString "empty" then some (.ref em) else if zz = Str.ofString "depth" then some (.int ((8 * n : Nat) : Int) tdp) else q zz)) (top_eq e4)).trans ((congrArg (fun q : Str → Option Value => (fun zz => if zz = Str.ofString "tree" then some (.ref tr) else if zz = Str.ofString "empty" then some (.ref em) else q zz)) (top_eq e3)).trans ((congrArg (fun q : Str → Option Value => (fun zz => if zz = Str.ofString "tree" then some (.ref tr) else q zz)) (top_eq e2)).trans (top_eq e1))))
  replace F : Fr h₀ L s.heap (fun zz => if zz = Str.ofString "tree" then some (.ref tr) else if zz = Str.ofString "empty" then some (.ref em) else if zz = Str.ofString "depth" then some (.int ((8 * n : Nat) : Int) tdp) else if zz = Str.ofString "size" then some (.int (n : Int) tn) else if zz = Str.ofString "numbers" then some (.ref nl) else if zz = Str.ofString "default" then some (.bytes x.toArray tx) else m zz) := fr_cast F fun y => (congrFun hm y).symm
  obtain ⟨tE, hEv⟩ := hE.get hEr
  have hEvl := hE.length
  unfold lawEnv
  rw [show lawScope = Scope.mk _ _ _ _ _ from rfl, show lawBody.drop 7 = _ :: _ :: _ from rfl]
  simp only [List.cons_append, List.nil_append] at N
  have hs0 := fmod_lo (List.getD ns (Int.toNat 2) 0) (n := ((8 * n : Nat) : Int)) (by omega)
  have hs1 := fmod_hi (List.getD ns (Int.toNat 2) 0) (n := ((8 * n : Nat) : Int)) (by omega)
  k_steps
  · simp at *
  rename _ ∧ _ ∧ _ ∧ _ ∧ AllLt _ _ => q1
  rename _ ∧ _ ∧ _ ∧ _ ∧ _ ∧ AllLt _ _ => q2
  rename _ ∧ _ ∧ _ ∧ _ ∧ _ ∧ _ ∧ AllLt _ _ => q3
  rename Fr _ _ _ _ => F2
  rename News _ _ _ _ => N2
  (try dsimp only at F2); (try dsimp only at N2)
  obtain ⟨p1, hp1, hp1l⟩ := low_nat (List.getD ns (Int.toNat 1) 0) n
  obtain ⟨p3, hp3, hp3l⟩ := low_nat (List.getD ns (Int.toNat 3) 0) n
  rw [hp1, hp3] at F2
  rw [hp1] at N2
  obtain ⟨p2, hp2, hp2l⟩ := xor_nat (k := Int.toNat (Int.fmod (List.getD ns (Int.toNat 2) 0) ↑(8 * n))) hp1l (by omega)
  rw [hp2] at F2 N2
  replace D := nd_of N2 (((D.new q1).new q2).new q3)
  clear q1 q2 q3
  unfold Hold
  refine wpAny_call (lawCall (FP := []) B F2 X T N2 D rfl rfl (Around.frames_deeper (Below.stack B)) fun g2 C2 O2 back => ?_)
  refine deed_spec C2 O2 (by simp only [depth_deeper, depth_caller]; decide) rfl hxl fun h3 tk3 l3 v2 tv2 gone2 O3 i1 i2 => ?_
  obtain ⟨F3, N3, D3⟩ := back h3 _ O3 (List.nodup_cons.mpr ⟨List.not_mem_nil, List.nodup_nil⟩)
  clear back F2 N2 D O3 C2 O2
  simp only [List.cons_append, List.nil_append, tupOf] at N3 D3
  dsimp only
  k_steps
  rename _ ∧ _ ∧ _ ∧ _ ∧ _ ∧ _ ∧ _ ∧ _ ∧ AllLt _ _ => q1
  rename _ ∧ _ ∧ _ ∧ _ ∧ _ ∧ _ ∧ _ ∧ _ ∧ _ ∧ AllLt _ _ => q2
  rename Fr _ _ _ _ => F2
  rename News _ _ _ _ => N2
  (try dsimp only at F2); (try dsimp only at N2)
  replace D3 := nd_of N2 ((D3.new q1).new q2)
  clear q1 q2
  unfold Hold
  refine wpAny_call (lawCall (FP := []) B F2 X T N2 D3 rfl rfl (Around.frames_deeper (Below.stack B)) fun g2 C2 O2 back => ?_)
  refine deed_spec C2 O2 (by simp only [depth_deeper, depth_caller]; decide) rfl hxl fun h4 tk4 l4 v3 tv3 gone3 O3 j1 j2 => ?_
  obtain ⟨F4, N4, D4⟩ := back h4 _ O3 (List.nodup_cons.mpr ⟨List.not_mem_nil, List.nodup_nil⟩)
  clear back F2 N2 D3 O3 C2 O2
  simp only [List.cons_append, List.nil_append, tupOf] at N4 D4
  dsimp only
  k_steps
  rename Fr _ _ _ _ => F2
  rename News _ _ _ _ => N2
  rename _ ∧ _ ∧ _ ∧ _ ∧ _ ∧ _ ∧ _ ∧ _ ∧ _ ∧ _ ∧ _ ∧ AllLt _ _ => q1
  rename _ ∧ _ ∧ _ ∧ _ ∧ _ ∧ _ ∧ _ ∧ _ ∧ _ ∧ _ ∧ _ ∧ _ ∧ AllLt _ _ => q2
  rename _ ∧ _ ∧ _ ∧ _ ∧ _ ∧ _ ∧ _ ∧ _ ∧ _ ∧ _ ∧ _ ∧ _ ∧ _ ∧ AllLt _ _ => q3
  rename _ ∧ _ ∧ _ ∧ _ ∧ _ ∧ _ ∧ _ ∧ _ ∧ _ ∧ _ ∧ _ ∧ _ ∧ _ ∧ _ ∧ AllLt _ _ => q4
  replace D4 := nd_of N2 ((((D4.new q1).new q2).new q3).new q4)
  have hDb := dict_nil (intKind PR w) hsN
  exact cont _ _ _ _ _ _ _ _ p1 p2 p3 [111, 110, 101, _] v2 v3 gone2 gone3 _ _ _ _ _ _ oN _ _ _ _ _ _ _ _ _ _ _ _ _ _ (fr_cast F2 (by (intro y; (repeat (refine ite_back ?_)); exact congrFun hm y))) N2 D4 hDb loN hp1l hp2l hp3l rfl i1 i2 j1 j2
end
end

section
-- LS
open PySem PySem.W PySem.Calls PyProof.Rows
set_option Elab.async false
set_option maxRecDepth 100000
set_option linter.unusedVariables false
/-- the body of the loop over the deeds -/
noncomputable def turnBody : List Stmt := match lawFor with
  | .For _ _ b _ _ => b
  | _ => []
theorem turnBody_len : turnBody.length = 7 := by rfl
theorem allNe_mem {d : Addr} : ∀ {l : List (Addr × Obj)}, AllNe d l → ∀ p ∈ l, p.1 ≠ d
  | [], _, _, hp => nomatch hp
  | q :: l, h, p, hp => by
    have h' : @Ne Nat q.1 d ∧ AllNe d l := h
    rcases List.mem_cons.mp hp with e | hp
    · rw [e]; exact h'.1
    · exact allNe_mem h'.2 p hp
theorem ND.head {a : Addr} {o : Obj} {ls : List (Addr × Obj)} (D : ND ((a, o) :: ls)) : AllNe a ls := allNe_of fun p hp e => (List.nodup_cons.mp D).1 (by
  show a ∈ ls.map (·.1)
  rw [← e]
  exact List.mem_map_of_mem (f := fun q : Addr × Obj => q.1) hp)
section
variable {α : Type} {a b c d e f g h i j k l m r : α} {tl : List α}
theorem pm_set : (k :: a :: b :: c :: d :: e :: f :: g :: m :: tl).Perm ([a, b, c, d, e, f, g] ++ (k :: m :: tl)) := by (refine perm_of ?_; intro _ kpa; simp only [List.count_cons, List.count_append, List.count_nil, List.append_assoc, List.cons_append, List.nil_append] <;> ac_rfl)
theorem pm_set' : (r :: a :: b :: c :: d :: e :: f :: g :: k :: m :: tl).Perm ([r, k, a, b, c, d, e, f, g, m] ++ tl) := by (refine perm_of ?_; intro _ kpa; simp only [List.count_cons, List.count_append, List.count_nil, List.append_assoc, List.cons_append, List.nil_append] <;> ac_rfl)
end
theorem nd_ne {a : Addr} {o : Obj} {ls : List (Addr × Obj)} (D : ND ls) (h : AllNe a ls) : ND ((a, o) :: ls) := by
  refine List.nodup_cons.mpr ⟨fun q => ?_, D⟩
  obtain ⟨p, hp, e⟩ := List.mem_map.mp q
  exact allNe_mem h p hp e
/-- what stands still behind the tree's making -/
structure Sta (n : Nat) (x : Bs) (f c ce d tr dd db em : Addr) (fo oc oe : Obj) (vsE : List Value) (esE B1 : List Bs) : Prop where
  H : IsHash f c ce d fo oc oe
  hn1 : 1 ≤ n
  hn : n ≤ 32
  hx : x.length ≤ 2
  na : (@LT.lt Nat _ f tr ∧ @LT.lt Nat _ c tr ∧ @LT.lt Nat _ ce tr ∧ @LT.lt Nat _ d tr) ∧ (@LT.lt Nat _ f dd ∧ @LT.lt Nat _ c dd ∧ @LT.lt Nat _ ce dd ∧ @LT.lt Nat _ d dd) ∧ @LT.lt Nat _ dd tr
  nb : @LT.lt Nat _ tr db ∧ @LT.lt Nat _ dd db ∧ @LT.lt Nat _ f db ∧ @LT.lt Nat _ c db ∧ @LT.lt Nat _ ce db ∧ @LT.lt Nat _ d db
  he : @LT.lt Nat _ f em ∧ @LT.lt Nat _ c em ∧ @LT.lt Nat _ ce em ∧ @LT.lt Nat _ d em
  hE1 : BsAre vsE esE
  hE2 : esE.length = 8 * n + 1
  hE3 : ∀ i e, esE[i]? = some e → Em x B1 i e
/-- the tree over the leaves v -/
structure TrS (w : World) (n : Nat) (v : Nat → Bs) (B1 B : List Bs) (od odb : Obj) (kvs : List (Bs × Value)) (root : Bs) : Prop where
  pre : B1 <+: B
  hB : IsBook w od B
  hD : odb.IsDictOf (bytesKind PR w) kvs
  hV : DbV B kvs
  hF : Full B v (8 * n) kvs
  hR : Nd B v (8 * n) 0 root
theorem TrS.mono {w : World} {n : Nat} {v : Nat → Bs} {B1 B B' : List Bs} {od od' odb : Obj} {kvs : List (Bs × Value)} {root : Bs} (t : TrS w n v B1 B od odb kvs root) (p : B <+: B') (hB' : IsBook w od' B') : TrS w n v B1 B' od' odb kvs root :=
  ⟨t.pre.trans p, hB', t.hD, t.hV.mono p, fun h k a b => let ⟨e, e1, e2⟩ := t.hF h k a b; ⟨e, e1.mono p, e2⟩, t.hR.mono p⟩
end

section
-- L4
open PySem PySem.W PySem.Calls PyProof.Rows
set_option Elab.async false
set_option maxRecDepth 100000
set_option linter.unusedVariables false
section
local macro_rules | `(tactic| walk_at "call ref") => `(tactic| (k_here; (first
  | (with_reducible show wpAny _ _ (call (Value.ref 246) _ _) _ _ _) | (with_reducible show wpAny _ _ (call (Value.ref 253) _ _) _ _ _) | (with_reducible show wpAny _ _ (call (Value.ref 260) _ _) _ _ _) | (with_reducible show wpAny _ _ (call (Value.ref 267) _ _) _ _ _)
  | (with_reducible show wpAny _ _ (call (Value.ref 235) _ _) _ _ _) | (with_reducible show wpAny _ _ (call (Value.ref 190) _ _) _ _ _) | (with_reducible show wpAny _ _ (call (Value.ref 204) _ _) _ _ _) | (with_reducible show wpAny _ _ (call (Value.ref 274) _ _) _ _ _)
  | (with_reducible show wpAny _ _ (call (Value.ref 279) _ _) _ _ _) | (with_reducible show wpAny _ _ (call (Value.ref 284) _ _) _ _ _) | (with_reducible show wpAny _ _ (call (Value.ref 176) _ _) _ _ _) | (with_reducible show wpAny _ _ (call (Value.ref 132) _ _) _ _ _)
  | (with_reducible show wpAny _ _ (call (Value.ref 129) _ _) _ _ _) | (with_reducible show wpAny _ _ (call (Value.ref 76) _ _) _ _ _) | (with_reducible show wpAny _ _ (call (Value.ref 291) _ _) _ _ _) | (with_reducible show wpAny _ _ (call (Value.ref 298) _ _) _ _ _)
  | (with_reducible show wpAny _ _ (call (Value.ref 305) _ _) _ _ _) | (with_reducible show wpAny _ _ (call (Value.ref 197) _ _) _ _ _) | (with_reducible show wpAny _ _ (call (Value.ref 232) _ _) _ _ _)); (with_reducible refine Hold.mk ?_)))
local macro_rules | `(tactic| walk_at "call builtin:int.to_bytes") => `(tactic| (k_here; k_dflt (refine to_big (by omega) (by omega) (by assumption) ?_; intro t' k')))
set_option maxHeartbeats 8000000 in
/-- the key, and the deed -/
theorem turnA
   {w : World} {h₀ : Heap} {L fa : Addr} {cd : Value} {mean : ExcName → Option Value} {mg mb : Str → Option Value} {s : Shared} {m : Str → Option Value} {Q : Flow → Shared → Prop} {E : Value → Shared → Prop}
   {n : Nat} {x : Bs} {f c ce d tr dd db em : Addr} {fo oc oe : Obj} {t1 t2 t3 t4 t5 tnT td txT : Tok} {vsE : List Value} {cntE : Nat} {esE B1 : List Bs}
   (B : Below callerA h₀ [] h₀) (X : (hd.heap_39 w.params).In h₀) (T : Top topProg LOOSE mean mg mb h₀) (S : Sta n x f c ce d tr dd db em fo oc oe vsE esE B1) (F : Fr h₀ L s.heap m)
   {p : Nat} {y : Bs} {gone : Bool} {v : Nat → Bs} {B0 : List Bs} {od odb : Obj} {kvs : List (Bs × Value)} {root : Bs} {kl : Addr} {vsK : List Value} {cntK : Nat} {tp tn ty t6 trt : Tok} {tl : List (Addr × Obj)}
   (R : TrS w n v B1 B0 od odb kvs root) (hBl : B0.length < 90000) (hkl : kvs.length ≤ 90000) (hK : vsK.length ≤ 5) (hp : p < 256 ^ n) (hy : y.length ≤ 64) (hg : gone = true → y = x)
   (N : News h₀ L s.heap ([(kl, listOf vsK.toArray cntK), (tr, instObj 235 dd), (dd, treeD w t1 t2 t3 t4 t5 t6 tnT td txT trt n x f db root), (db, odb), (f, fo), (c, oc), (ce, oe), (d, od), (em, listOf vsE.toArray cntE)] ++ tl)) (D : ND ([(kl, listOf vsK.toArray cntK), (tr, instObj 235 dd), (dd, treeD w t1 t2 t3 t4 t5 t6 tnT td txT trt n x f db root), (db, odb), (f, fo), (c, oc), (ce, oe), (d, od), (em, listOf vsE.toArray cntE)] ++ tl))
   (e1 : m (Str.ofString "number") = some (.int (p : Int) tp)) (e2 : m (Str.ofString "size") = some (.int (n : Int) tn)) (e3 : m (Str.ofString "keys") = some (.ref kl)) (e4 : m (Str.ofString "gone") = some (.bool gone)) (e5 : m (Str.ofString "tree") = some (.ref tr)) (e6 : m (Str.ofString "value") = some (.bytes y.toArray ty))
   (cont : ∀ (h' : Heap) (tk : Nat) (tkey t6' trt' : Tok) (cnt' : Nat) (rs : Addr) (vs : List Value) (es : List Bs) (root' : Bs) (odb' od' : Obj) (B' : List Bs) (kvs' : List (Bs × Value)),
     Fr h₀ L h' (fun zz => if zz = Str.ofString "told" then some (.ref rs) else if zz = Str.ofString "key" then some (.bytes (bts n (p : Int)).toArray tkey) else m zz) →
     News h₀ L h' ([(rs, tupOf vs), (kl, listOf (vsK ++ [Value.bytes (bts n (p : Int)).toArray tkey]).toArray cnt'), (tr, instObj 235 dd), (dd, treeD w t1 t2 t3 t4 t5 t6' tnT td txT trt' n x f db root'), (db, odb'), (f, fo), (c, oc), (ce, oe), (d, od'), (em, listOf vsE.toArray cntE)] ++ tl) → ND ([(rs, tupOf vs), (kl, listOf (vsK ++ [Value.bytes (bts n (p : Int)).toArray tkey]).toArray cnt'), (tr, instObj 235 dd), (dd, treeD w t1 t2 t3 t4 t5 t6' tnT td txT trt' n x f db root'), (db, odb'), (f, fo), (c, oc), (ce, oe), (d, od'), (em, listOf vsE.toArray cntE)] ++ tl) →
     TrS w n (upd v p y) B1 B' od' odb' kvs' root' → Ext (8 * n + 1) B0 B' → kvs'.length ≤ kvs.length + (8 * n + 1) → BsAre vs es → es.length = 8 * n → (∀ j e, es[j]? = some e → Nd B' (upd v p y) (8 * n - 1 - j) (p / 2 ^ (8 * n - 1 - j)) e) →
     wpAny (model PR w) (callerA.deeper (lawEnv L fa cd)) (execs (turnBody.drop 3) (lawEnv L fa cd)) Q E { s with heap := h', toks := tk }) :
   wpAny (model PR w) (callerA.deeper (lawEnv L fa cd)) (execs turnBody (lawEnv L fa cd)) Q E s := by
  w_on
  have hp' : (p : Int) < 256 ^ n := by exact_mod_cast hp
  have hn1 := S.hn1
  have hn := S.hn
  have hdec : dec (bts n (p : Int)) = p := by
    have := dec_bts (k := n) (n := (p : Int)) (by omega) hp'
    exact_mod_cast this
  have hblen := bts_len n (p : Int)
  have off : OwnOff tl [kl, tr, dd, db, f, c, ce, d, em] := fun q hq b hb => by
    have := D.far q hq
    simp only [List.forall_mem_cons] at this
    simp only [List.mem_cons, List.not_mem_nil, or_false] at hb
    rcases hb with rfl | rfl | rfl | rfl | rfl | rfl | rfl | rfl | rfl
    · exact this.1.symm
    · exact this.2.1.symm
    · exact this.2.2.1.symm
    · exact this.2.2.2.1.symm
    · exact this.2.2.2.2.1.symm
    · exact this.2.2.2.2.2.1.symm
    · exact this.2.2.2.2.2.2.1.symm
    · exact this.2.2.2.2.2.2.2.1.symm
    · exact this.2.2.2.2.2.2.2.2.1.symm
  have hm := ((congrArg (fun q : Str → Option Value => (fun zz => if zz = Str.ofString "number" then some (.int (p : Int) tp) else if zz = Str.ofString "size" then some (.int (n : Int) tn) else if zz = Str.ofString "keys" then some (.ref kl) else if zz = Str.ofString "gone" then some (.bool gone) else if zz = Str.ofString "tree" then some (.ref tr) else q zz)) (top_eq e6)).trans ((congrArg (fun q : Str → Option Value => (fun zz => if zz = Str.ofString "number" then some (.int (p : Int) tp) else if zz = Str.ofString "size" then some (.int (n : Int) tn) else if zz = Str.ofString "keys" then some (.ref kl) else if zz = Str.ofString "gone" then some (.bool gone) else q zz)) (top_eq e5)).trans ((congrArg (fun q : Str → Option Value => (fun zz => if zz = Str.ofString "number" then some (.int (p : Int) tp) else if zz = Str.ofString "size" then some (.int (n : Int) tn) else if zz = Str.ofString "keys" then some (.ref kl) else q zz)) (top_eq e4)).trans ((congrArg (fun q : Str → Option Value => (fun zz => if zz = Str.ofString "number" then some (.int (p : Int) tp) else if zz = Str.ofString "size" then some (.int (n : Int) tn) else q zz)) (top_eq e3)).trans ((congrArg (fun q : Str → Option Value => (fun zz => if zz = Str.ofString "number" then some (.int (p : Int) tp) else q zz)) (top_eq e2)).trans (top_eq e1))))))
  replace F : Fr h₀ L s.heap (fun zz => if zz = Str.ofString "number" then some (.int (p : Int) tp) else if zz = Str.ofString "size" then some (.int (n : Int) tn) else if zz = Str.ofString "keys" then some (.ref kl) else if zz = Str.ofString "gone" then some (.bool gone) else if zz = Str.ofString "tree" then some (.ref tr) else if zz = Str.ofString "value" then some (.bytes y.toArray ty) else m zz) := fr_cast F fun y => (congrFun hm y).symm
  unfold lawEnv
  rw [show lawScope = Scope.mk _ _ _ _ _ from rfl, show turnBody = _ :: _ :: _ from rfl]
  simp only [List.cons_append, List.nil_append] at N D
  have neK := D.head
  simp only [AllNe] at neK
  cases gone
  · k_steps
    rename Fr _ _ _ _ => F2
    rename News _ _ _ _ => N2
    rw [List.push_toArray] at N2
    unfold Hold
    have D2 := nd_of N2 (D.upd rfl)
    refine wpAny_call (lawCall B F2 X T (nperm N2 pm_set) (D2.perm pm_set) rfl rfl (Around.frames_deeper (Below.stack B)) fun g2 C2 O2 back => ?_)
    refine set_spec (n := n) C2 O2 S.H R.hB (by simp only [depth_deeper, depth_caller]; decide) rfl (by omega) hn hn1 hy (by omega) R.hD R.hV R.hF R.hR hblen S.na S.nb fun h3 tk3 rs vs es t6' trt' root' odb' od' B' kvs' O3 i1 i2 i3 i4 i5 i6 i7 i8 i9 i10 i11 => ?_
    rw [hdec] at i3 i9 i10
    obtain ⟨F3, N3, D3⟩ := back h3 _ O3 (((D2.perm pm_set).left.upd (l' := [(tr, instObj 235 dd), (dd, treeD w t1 t2 t3 t4 t5 t6' tnT td txT trt' n x f db root'), (db, odb'), (f, fo), (c, oc), (ce, oe), (d, od')]) rfl).new ⟨i11.1, i11.2.1, i11.2.2.1, i11.2.2.2.1, i11.2.2.2.2.1, i11.2.2.2.2.2.1, i11.2.2.2.2.2.2, trivial⟩)
    clear back N2 F2 D2 D
    dsimp only
    walk1
    dsimp only
    rename Fr _ _ _ _ => F4
    rename News _ _ _ _ => N4
    exact cont _ _ _ _ _ _ rs vs es root' odb' od' B' kvs' (fr_cast F4 (by (intro y; (repeat (refine ite_back ?_)); exact congrFun hm y))) (nperm N4 pm_set') (D3.perm pm_set') ⟨R.pre.trans i5.1, i4, i6, i7, i9, i10⟩ i5 i8 i1 i2 i3
  · have hyx := hg rfl
    subst hyx
    k_steps
    rename Fr _ _ _ _ => F2
    rename News _ _ _ _ => N2
    rw [List.push_toArray] at N2
    unfold Hold
    have D2 := nd_of N2 (D.upd rfl)
    refine wpAny_call (lawCall B F2 X T (nperm N2 pm_set) (D2.perm pm_set) rfl rfl (Around.frames_deeper (Below.stack B)) fun g2 C2 O2 back => ?_)
    refine delete_spec (n := n) C2 O2 S.H R.hB (by simp only [depth_deeper, depth_caller]; decide) rfl (by omega) hn hn1 hy (by omega) R.hD R.hV R.hF R.hR hblen S.na S.nb fun h3 tk3 rs vs es t6' trt' root' odb' od' B' kvs' O3 i1 i2 i3 i4 i5 i6 i7 i8 i9 i10 i11 => ?_
    rw [hdec] at i3 i9 i10
    obtain ⟨F3, N3, D3⟩ := back h3 _ O3 (((D2.perm pm_set).left.upd (l' := [(tr, instObj 235 dd), (dd, treeD w t1 t2 t3 t4 t5 t6' tnT td txT trt' n y f db root'), (db, odb'), (f, fo), (c, oc), (ce, oe), (d, od')]) rfl).new ⟨i11.1, i11.2.1, i11.2.2.1, i11.2.2.2.1, i11.2.2.2.2.1, i11.2.2.2.2.2.1, i11.2.2.2.2.2.2, trivial⟩)
    clear back N2 F2 D2 D
    dsimp only
    walk1
    dsimp only
    rename Fr _ _ _ _ => F4
    rename News _ _ _ _ => N4
    exact cont _ _ _ _ _ _ rs vs es root' odb' od' B' kvs' (fr_cast F4 (by (intro y; (repeat (refine ite_back ?_)); exact congrFun hm y))) (nperm N4 pm_set') (D3.perm pm_set') ⟨R.pre.trans i5.1, i4, i6, i7, i9, i10⟩ i5 i8 i1 i2 i3
end
end

section
-- L6
local macro_rules | `(tactic| walk_at "no such key") => `(tactic| fail)
local macro_rules | `(tactic| walk_at "no such key") => `(tactic| fail)
local macro_rules | `(tactic| walk_at "no such key") => `(tactic| fail)
open PySem PySem.W PySem.Calls PyProof.Rows
set_option Elab.async false
set_option maxRecDepth 100000
set_option linter.unusedVariables false
theorem pm_lv {α : Type} {h r a b c d e f g m : α} {tl : List α} : (h :: r :: a :: b :: c :: d :: e :: f :: g :: m :: tl).Perm ([h, m, d, e, f, g] ++ (r :: a :: b :: c :: tl)) := by (refine perm_of ?_; intro _ kpa; simp only [List.count_cons, List.count_append, List.count_nil, List.append_assoc, List.cons_append, List.nil_append] <;> ac_rfl)
theorem pm_way {α : Type} {l h r a b c d e f g m : α} {t2 tl : List α} : (l :: h :: m :: d :: e :: f :: g :: (t2 ++ r :: a :: b :: c :: tl)).Perm ((l :: t2) ++ (r :: h :: a :: b :: c :: d :: e :: f :: g :: m :: tl)) := by (refine perm_of ?_; intro _ kpa; simp only [List.count_cons, List.count_append, List.count_nil, List.append_assoc, List.cons_append, List.nil_append] <;> ac_rfl)
section
local macro_rules | `(tactic| walk_at "call ref") => `(tactic| (k_here; (first
  | (with_reducible show wpAny _ _ (call (Value.ref 246) _ _) _ _ _) | (with_reducible show wpAny _ _ (call (Value.ref 253) _ _) _ _ _) | (with_reducible show wpAny _ _ (call (Value.ref 260) _ _) _ _ _) | (with_reducible show wpAny _ _ (call (Value.ref 267) _ _) _ _ _)
  | (with_reducible show wpAny _ _ (call (Value.ref 235) _ _) _ _ _) | (with_reducible show wpAny _ _ (call (Value.ref 190) _ _) _ _ _) | (with_reducible show wpAny _ _ (call (Value.ref 204) _ _) _ _ _) | (with_reducible show wpAny _ _ (call (Value.ref 274) _ _) _ _ _)
  | (with_reducible show wpAny _ _ (call (Value.ref 279) _ _) _ _ _) | (with_reducible show wpAny _ _ (call (Value.ref 284) _ _) _ _ _) | (with_reducible show wpAny _ _ (call (Value.ref 176) _ _) _ _ _) | (with_reducible show wpAny _ _ (call (Value.ref 132) _ _) _ _ _)
  | (with_reducible show wpAny _ _ (call (Value.ref 129) _ _) _ _ _) | (with_reducible show wpAny _ _ (call (Value.ref 76) _ _) _ _ _) | (with_reducible show wpAny _ _ (call (Value.ref 291) _ _) _ _ _) | (with_reducible show wpAny _ _ (call (Value.ref 298) _ _) _ _ _)
  | (with_reducible show wpAny _ _ (call (Value.ref 305) _ _) _ _ _) | (with_reducible show wpAny _ _ (call (Value.ref 197) _ _) _ _ _) | (with_reducible show wpAny _ _ (call (Value.ref 232) _ _) _ _ _)); (with_reducible refine Hold.mk ?_)))
set_option hygiene false in
local macro_rules | `(tactic| walk_at "compareOp NotEq ref ref") => `(tactic| (k_here; k_dflt (refine' ne_tups ?hl ?hb ?hu ?e1 ?e2 ?_; (case hl => exact News.isTup (by k_asm) (by k_mem)); (case hb => exact News.isTup (by k_asm) (by k_mem)); (case hu => units_room); (case e1 => assumption); (case e2 => assumption))))
local macro_rules | `(tactic| walk_at "execs cons") => `(tactic| ((with_reducible show wpAny _ _ (execs (Stmt.If (Expr.Compare (Expr.Name ("proof" : Str) _) _ _ _) _ _ _ :: _) _) _ _ _); (with_reducible refine Hold.mk ?_)))
set_option maxHeartbeats 8000000 in
/-- the plain dict, its levels, the told hashes and the root -/
theorem turnB
   {w : World} {h₀ : Heap} {L fa : Addr} {cd : Value} {mean : ExcName → Option Value} {mg mb : Str → Option Value} {s : Shared} {m : Str → Option Value} {Q : Flow → Shared → Prop} {E : Value → Shared → Prop}
   {n : Nat} {x : Bs} {f c ce d tr dd db em : Addr} {fo oc oe : Obj} {t1 t2 t3 t4 t5 tnT td txT : Tok} {vsE : List Value} {cntE : Nat} {esE B1 : List Bs}
   (B : Below callerA h₀ [] h₀) (X : (hd.heap_39 w.params).In h₀) (T : Top topProg LOOSE mean mg mb h₀) (S : Sta n x f c ce d tr dd db em fo oc oe vsE esE B1) (F : Fr h₀ L s.heap m)
   {p : Nat} {y : Bs} {v0 : Nat → Bs} {B0 : List Bs} {od odb hobj : Obj} {kvs : List (Bs × Value)} {hk : List (Int × Value)} {root : Bs} {hld rs : Addr} {vs : List Value} {es : List Bs} {tp ty tdp t6 trt : Tok} {tl : List (Addr × Obj)}
   (R : TrS w n (upd v0 p y) B1 B0 od odb kvs root) (hBl : B0.length < 90000) (hp : p < 256 ^ n) (hHd : hobj.IsDictOf (intKind PR w) hk) (hHo : HeldOk hk x v0) (hHl : hk.length ≤ 2) (hHs : (hld == sysModules) = false)
   (hvs : BsAre vs es) (hes : es.length = 8 * n) (hnd : ∀ j e, es[j]? = some e → Nd B0 (upd v0 p y) (8 * n - 1 - j) (p / 2 ^ (8 * n - 1 - j)) e)
   (N : News h₀ L s.heap ([(hld, hobj), (rs, tupOf vs), (tr, instObj 235 dd), (dd, treeD w t1 t2 t3 t4 t5 t6 tnT td txT trt n x f db root), (db, odb), (f, fo), (c, oc), (ce, oe), (d, od), (em, listOf vsE.toArray cntE)] ++ tl)) (D : ND ([(hld, hobj), (rs, tupOf vs), (tr, instObj 235 dd), (dd, treeD w t1 t2 t3 t4 t5 t6 tnT td txT trt n x f db root), (db, odb), (f, fo), (c, oc), (ce, oe), (d, od), (em, listOf vsE.toArray cntE)] ++ tl))
   (e1 : m (Str.ofString "held") = some (.ref hld)) (e2 : m (Str.ofString "number") = some (.int (p : Int) tp)) (e3 : m (Str.ofString "value") = some (.bytes y.toArray ty)) (e4 : m (Str.ofString "depth") = some (.int ((8 * n : Nat) : Int) tdp)) (e5 : m (Str.ofString "empty") = some (.ref em)) (e6 : m (Str.ofString "hash_of") = some (.ref f)) (e7 : m (Str.ofString "told") = some (.ref rs)) (e8 : m (Str.ofString "tree") = some (.ref tr))
   (cont : ∀ (h' : Heap) (tk : Nat) (lv : Addr) (vsL : List Value) (cntL : Nat) (tlL junk : List (Addr × Obj)) (hobj' od' : Obj) (B' : List Bs),
     Fr h₀ L h' (fun zz => if zz = Str.ofString "levels" then some (.ref lv) else m zz) →
     News h₀ L h' ((lv, listOf vsL.toArray cntL) :: (tlL ++ ((hld, hobj') :: (rs, tupOf vs) :: (tr, instObj 235 dd) :: (dd, treeD w t1 t2 t3 t4 t5 t6 tnT td txT trt n x f db root) :: (db, odb) :: (f, fo) :: (c, oc) :: (ce, oe) :: (d, od') :: (em, listOf vsE.toArray cntE) :: (junk ++ tl)))) → ND ((lv, listOf vsL.toArray cntL) :: (tlL ++ ((hld, hobj') :: (rs, tupOf vs) :: (tr, instObj 235 dd) :: (dd, treeD w t1 t2 t3 t4 t5 t6 tnT td txT trt n x f db root) :: (db, odb) :: (f, fo) :: (c, oc) :: (ce, oe) :: (d, od') :: (em, listOf vsE.toArray cntE) :: (junk ++ tl)))) →
     TrS w n (upd v0 p y) B1 B' od' odb kvs root → Ext (3 * (8 * n + 1)) B0 B' → hobj'.IsDictOf (intKind PR w) (stored hk (p : Int) (.bytes y.toArray ty)) → LvsOk w B' (upd v0 p y) (stored hk (p : Int) (.bytes y.toArray ty)) (8 * n) vsL tlL →
     wpAny (model PR w) (callerA.deeper (lawEnv L fa cd)) (execs (turnBody.drop 6) (lawEnv L fa cd)) Q E { s with heap := h', toks := tk }) :
   wpAny (model PR w) (callerA.deeper (lawEnv L fa cd)) (execs (turnBody.drop 3) (lawEnv L fa cd)) Q E s := by
  w_on
  have hn1 := S.hn1
  have hn := S.hn
  have off : OwnOff tl [hld, rs, tr, dd, db, f, c, ce, d, em] := fun q hq b hb => by
    have := D.far q hq
    simp only [List.forall_mem_cons] at this
    simp only [List.mem_cons, List.not_mem_nil, or_false] at hb
    rcases hb with rfl | rfl | rfl | rfl | rfl | rfl | rfl | rfl | rfl | rfl
    · exact this.1.symm
    · exact this.2.1.symm
    · exact this.2.2.1.symm
    · exact this.2.2.2.1.symm
    · exact this.2.2.2.2.1.symm
    · exact this.2.2.2.2.2.1.symm
    · exact this.2.2.2.2.2.2.1.symm
    · exact this.2.2.2.2.2.2.2.1.symm
    · exact this.2.2.2.2.2.2.2.2.1.symm
    · exact this.2.2.2.2.2.2.2.2.2.1.symm

  have hm := ((congrArg (fun q : Str → Option Value => (fun zz => if zz = Str.ofString "held" then some (.ref hld) else if zz = Str.ofString "number" then some (.int (p : Int) tp) else if zz = Str.ofString "value" then some (.bytes y.toArray ty) else if zz = Str.ofString "depth" then some (.int ((8 * n : Nat) : Int) tdp) else if zz = Str.ofString "empty" then some (.ref em) else if zz = Str.ofString "hash_of" then some (.ref f) else if zz = Str.ofString "told" then some (.ref rs) else q zz)) (top_eq e8)).trans ((congrArg (fun q : Str → Option Value => (fun zz => if zz = Str.ofString "held" then some (.ref hld) else if zz = Str.ofString "number" then some (.int (p : Int) tp) else if zz = Str.ofString "value" then some (.bytes y.toArray ty) else if zz = Str.ofString "depth" then some (.int ((8 * n : Nat) : Int) tdp) else if zz = Str.ofString "empty" then some (.ref em) else if zz = Str.ofString "hash_of" then some (.ref f) else q zz)) (top_eq e7)).trans ((congrArg (fun q : Str → Option Value => (fun zz => if zz = Str.ofString "held" then some (.ref hld) else if zz = Str.ofString "number" then some (.int (p : Int) tp) else if zz = Str.ofString "value" then some (.bytes y.toArray ty) else if zz = Str.ofString "depth" then some (.int ((8 * n : Nat) : Int) tdp) else if zz = Str.ofString "empty" then some (.ref em) else q zz)) (top_eq e6)).trans ((congrArg (fun q : Str → Option Value => (fun zz => if zz = Str.ofString "held" then some (.ref hld) else if zz = Str.ofString "number" then some (.int (p : Int) tp) else if zz = Str.ofString "value" then some (.bytes y.toArray ty) else if zz = Str.ofString "depth" then some (.int ((8 * n : Nat) : Int) tdp) else q zz)) (top_eq e5)).trans ((congrArg (fun q : Str → Option Value => (fun zz => if zz = Str.ofString "held" then some (.ref hld) else if zz = Str.ofString "number" then some (.int (p : Int) tp) else if zz = Str.ofString "value" then some (.bytes y.toArray ty) else q zz)) (top_eq e4)).trans ((congrArg (fun q : Str → Option Value => (fun zz => if zz = Str.ofString "held" then some (.ref hld) else if zz = Str.ofString "number" then some (.int (p : Int) tp) else q zz)) (top_eq e3)).trans ((congrArg (fun q : Str → Option Value => (fun zz => if zz = Str.ofString "held" then some (.ref hld) else q zz)) (top_eq e2)).trans (top_eq e1))))))))
  replace F : Fr h₀ L s.heap (fun zz => if zz = Str.ofString "held" then some (.ref hld) else if zz = Str.ofString "number" then some (.int (p : Int) tp) else if zz = Str.ofString "value" then some (.bytes y.toArray ty) else if zz = Str.ofString "depth" then some (.int ((8 * n : Nat) : Int) tdp) else if zz = Str.ofString "empty" then some (.ref em) else if zz = Str.ofString "hash_of" then some (.ref f) else if zz = Str.ofString "told" then some (.ref rs) else if zz = Str.ofString "tree" then some (.ref tr) else m zz) := fr_cast F fun y => (congrFun hm y).symm
  unfold lawEnv
  rw [show lawScope = Scope.mk _ _ _ _ _ from rfl, show turnBody.drop 3 = _ :: _ :: _ from rfl]
  simp only [List.cons_append, List.nil_append] at N D
  have neK := D.head
  simp only [AllNe] at neK
  k_steps
  unfold Hold
  obtain ⟨he1, he2, he3, he4⟩ := S.he
  have D2 := nd_of NS (D.upd rfl)
  have hst : (stored hk (p : Int) (.bytes y.toArray ty)).length ≤ 3 := by
    have := stored_length_le hk (p : Int) (.bytes y.toArray ty)
    omega
  refine wpAny_call (lawCall B FS X T (nperm NS pm_lv) (D2.perm pm_lv) rfl rfl (Around.frames_deeper (Below.stack B)) fun g2 C2 O2 back => ?_)
  refine levels_spec (n := 8 * n) C2 O2 S.H R.hB (by simp only [depth_deeper, depth_caller]; decide) rfl (by omega) (by omega) hdS (hHo.put p y ty) hst hHs S.hE1 S.hE2 (fun i e he => (S.hE3 i e he).mono R.pre) (by refine ⟨?_, ?_, ?_, ?_, ?_⟩ <;> (refine neN ?_; omega)) (by refine ⟨?_, ?_, ?_, ?_⟩ <;> (refine neN ?_; omega)) fun h3 tk3 lv vsL cntL tl2 od' B' O3 i1 i2 i3 i4 i5 i6 => ?_
  obtain ⟨tl2', nd2, mem2⟩ := own_dedup O3
  have O4 : Own g2 h3 ([(lv, listOf vsL.toArray cntL), (hld, oS), (em, listOf vsE.toArray cntE), (f, fo), (c, oc), (ce, oe), (d, od')] ++ tl2') := O3.sub fun q hq => by
    rcases List.mem_append.mp hq with h | h
    · exact List.mem_append_left _ h
    · exact List.mem_append_right _ ((mem2 q).mp h)
  have Dh : ND [(lv, listOf vsL.toArray cntL), (hld, oS), (em, listOf vsE.toArray cntE), (f, fo), (c, oc), (ce, oe), (d, od')] := ((D2.perm pm_lv).left.upd (l' := [(hld, oS), (em, listOf vsE.toArray cntE), (f, fo), (c, oc), (ce, oe), (d, od')]) rfl).new ⟨i6.1, i6.2.1, i6.2.2.1, i6.2.2.2.1, i6.2.2.2.2.1, i6.2.2.2.2.2, trivial⟩
  have D4 := Dh.mk nd2 fun q hq r hr => (i5 q ((mem2 q).mp hq) r.1 (show r.1 ∈ [lv, hld, em, f, c, ce, d] from List.mem_map_of_mem (f := fun z : Addr × Obj => z.1) hr)).symm
  obtain ⟨F3, N3, D3⟩ := back h3 _ O4 D4
  have hLv : LvsOk w B' (upd v0 p y) (stored hk (p : Int) (.bytes y.toArray ty)) (8 * n) vsL tl2' := ⟨i3, fun i hi => let ⟨a, o, k, e1, e2, e3⟩ := i4 i hi; ⟨a, o, k, e1, (mem2 _).mpr e2, e3⟩⟩
  have R' : TrS w n (upd v0 p y) B1 B' od' odb kvs root := R.mono i2.1 i1
  clear back C2 O2 O3 O4 NS FS D2 D mem2 i4 i5 Dh D4 nd2
  simp only [List.cons_append, List.nil_append] at N3 D3
  dsimp only
  k_steps
  rename Fr _ _ _ _ => F4
  rename News _ _ _ _ => N4
  unfold Hold
  refine wpAny_call (lawCall B F4 X T (nperm N4 pm_way) (D3.perm pm_way) rfl rfl (Around.frames_deeper (Below.stack B)) fun g2 C2 O2 back => ?_)
  refine way_spec (n := 8 * n) (p := p) C2 O2 (by simp only [depth_deeper, depth_caller]; decide) rfl (by omega) hLv (by rw [at_stored, if_pos rfl]; rfl) fun h5 tk5 rt rs2 es2 O5 j1 j2 j3 j4 => ?_
  obtain ⟨F5, N5, D5⟩ := back h5 _ O5 ((D3.perm pm_way).left.new (allLt_of j4))
  have hes2 : es2 = es := nds_eq R'.hB.nodup j2 hes j3 fun j e hj => (hnd j e hj).mono i2.1
  subst hes2
  clear back C2 O2 O5 N4 F4 D3
  obtain ⟨a, o, kvT, ha1, ha2, ha3, ha4, ha5⟩ := hLv.2 (8 * n) (Nat.le_refl _)
  obtain ⟨u1, u2, hu⟩ := List.append_of_mem ha2
  obtain ⟨tz, hz⟩ : ∃ tz, valueAt kvT (0 : Int) = some (.bytes root.toArray tz) := by
    have hp0 : p / 2 ^ (8 * n) = 0 := Nat.div_eq_of_lt (by rw [Nat.pow_mul]; exact hp)
    have h1 := ha5.2 p (by rw [at_stored, if_pos rfl]; rfl)
    rw [hp0] at h1
    obtain ⟨yv, hyv⟩ := Option.isSome_iff_exists.mp h1
    obtain ⟨q, q0, e, t, e2, hNd⟩ := ha5.1 _ _ hyv
    have hq : q = 0 := by omega
    subst hq e2
    have := Nd.fn R'.hB.nodup hNd R'.hR
    subst this
    exact ⟨t, hyv⟩
  rw [hu] at N5 D5
  have N6 := nperm N5 (l' := (rt, tupOf rs2) :: (lv, listOf vsL.toArray cntL) :: (a, o) :: (rs, tupOf vs) :: (tr, instObj 235 dd) :: (dd, treeD w t1 t2 t3 t4 t5 t6 tnT td txT trt n x f db root) :: (u1 ++ (u2 ++ ((hld, oS) :: (db, odb) :: (f, fo) :: (c, oc) :: (ce, oe) :: (d, od') :: (em, listOf vsE.toArray cntE) :: tl)))) (by (refine perm_of ?_; intro _ kpa; simp only [List.count_cons, List.count_append, List.count_nil, List.append_assoc, List.cons_append, List.nil_append] <;> ac_rfl))
  have hvl := hLv.1
  clear N5
  dsimp only
  k_steps
  · rename _ = true => hbad
    simp at hbad
  · rename Fr _ _ _ _ => F7
    rename News _ _ _ _ => N7
    unfold Hold
    rw [hu] at hLv
    exact cont _ _ lv vsL cntL (u1 ++ (a, o) :: u2) [(rt, tupOf rs2)] oS od' B' (fr_cast F7 (by (intro y; (repeat (refine ite_back ?_)); exact congrFun hm y))) (nperm N7 (by (refine perm_of ?_; intro _ kpa; simp only [List.count_cons, List.count_append, List.count_nil, List.append_assoc, List.cons_append, List.nil_append] <;> ac_rfl))) (D5.perm (by (refine perm_of ?_; intro _ kpa; simp only [List.count_cons, List.count_append, List.count_nil, List.append_assoc, List.cons_append, List.nil_append] <;> ac_rfl))) R' i2 hdS hLv
end
end

section
-- L7
open PySem PySem.W PySem.Calls PyProof.Rows
set_option Elab.async false
set_option maxRecDepth 100000
set_option linter.unusedVariables false
theorem pm_br {α : Type} {a b c d e f g m : α} {tl : List α} : (a :: b :: c :: d :: e :: f :: g :: m :: tl).Perm ([a, b, c] ++ (d :: e :: f :: g :: m :: tl)) := by (refine perm_of ?_; intro _ kpa; simp only [List.count_cons, List.count_append, List.count_nil, List.append_assoc, List.cons_append, List.nil_append] <;> ac_rfl)
theorem pm_sd {α : Type} {r a b c d e f g m l : α} {t2 tl : List α} : (r :: a :: b :: c :: d :: e :: f :: g :: m :: l :: (t2 ++ tl)).Perm ((l :: m :: t2) ++ (r :: a :: b :: c :: d :: e :: f :: g :: tl)) := by (refine perm_of ?_; intro _ kpa; simp only [List.count_cons, List.count_append, List.count_nil, List.append_assoc, List.cons_append, List.nil_append] <;> ac_rfl)
theorem br_far {w : World} {g h : Heap} {br tr dd db f : Addr} {odb : Obj} {kvs : List (Bs × Value)} {x root : Bs} {vs : List Value} {t1 t2 t3 t4 t5 t6 tn td tx trt : Tok} {n : Nat}
    (O : Own g h [(br, tupOf vs), (tr, instObj 235 dd), (dd, treeD w t1 t2 t3 t4 t5 t6 tn td tx trt n x f db root), (db, odb)]) (hD : odb.IsDictOf (bytesKind PR w) kvs) : AllNe br [(tr, instObj 235 dd), (dd, treeD w t1 t2 t3 t4 t5 t6 tn td tx trt n x f db root), (db, odb)] := by
  have h1 := (O.own _ (List.mem_cons_self ..)).1
  refine allNe_of fun p hp e => ?_
  have h2 := (O.own p (List.mem_cons_of_mem _ hp)).1
  rw [e] at h2
  have h3 : p.2 = tupOf vs := Option.some.inj (h2.symm.trans h1)
  simp only [List.mem_cons, List.not_mem_nil, or_false] at hp
  rcases hp with rfl | rfl | rfl
  · exact absurd (congrArg Obj.cls h3) (by intro q; cases q)
  · exact absurd (congrArg Obj.data h3) (by intro q; cases q)
  · obtain ⟨es, ep, q1, q2, _⟩ := hD
    have h4 : odb = tupOf vs := h3
    rw [h4] at q1 q2
    first | (cases q1; done) | (cases q2; done) | (exact absurd q1 (by intro q; cases q)) | (exact absurd q2 (by intro q; cases q))
theorem pm_c1 {α : Type} {pb pf pd bl rt br a b c d e f g m l : α} {t2 tl : List α} : ([pb, pf, pd, bl] ++ rt :: br :: a :: b :: c :: d :: e :: f :: g :: m :: l :: (t2 ++ tl)).Perm (pf :: pd :: pb :: a :: b :: c :: d :: e :: f :: g :: m :: l :: (t2 ++ ([bl, rt, br] ++ tl))) := by (refine perm_of ?_; intro _ kpa; simp only [List.count_cons, List.count_append, List.count_nil, List.append_assoc, List.cons_append, List.nil_append] <;> ac_rfl)
section
local macro_rules | `(tactic| walk_at "call ref") => `(tactic| (k_here; (first
  | (with_reducible show wpAny _ _ (call (Value.ref 246) _ _) _ _ _) | (with_reducible show wpAny _ _ (call (Value.ref 253) _ _) _ _ _) | (with_reducible show wpAny _ _ (call (Value.ref 260) _ _) _ _ _) | (with_reducible show wpAny _ _ (call (Value.ref 267) _ _) _ _ _)
  | (with_reducible show wpAny _ _ (call (Value.ref 235) _ _) _ _ _) | (with_reducible show wpAny _ _ (call (Value.ref 190) _ _) _ _ _) | (with_reducible show wpAny _ _ (call (Value.ref 204) _ _) _ _ _) | (with_reducible show wpAny _ _ (call (Value.ref 274) _ _) _ _ _)
  | (with_reducible show wpAny _ _ (call (Value.ref 279) _ _) _ _ _) | (with_reducible show wpAny _ _ (call (Value.ref 284) _ _) _ _ _) | (with_reducible show wpAny _ _ (call (Value.ref 176) _ _) _ _ _) | (with_reducible show wpAny _ _ (call (Value.ref 132) _ _) _ _ _)
  | (with_reducible show wpAny _ _ (call (Value.ref 129) _ _) _ _ _) | (with_reducible show wpAny _ _ (call (Value.ref 76) _ _) _ _ _) | (with_reducible show wpAny _ _ (call (Value.ref 291) _ _) _ _ _) | (with_reducible show wpAny _ _ (call (Value.ref 298) _ _) _ _ _)
  | (with_reducible show wpAny _ _ (call (Value.ref 305) _ _) _ _ _) | (with_reducible show wpAny _ _ (call (Value.ref 197) _ _) _ _ _) | (with_reducible show wpAny _ _ (call (Value.ref 232) _ _) _ _ _)); (with_reducible refine Hold.mk ?_)))
set_option hygiene false in
local macro_rules | `(tactic| walk_at "compareOp NotEq ref ref") => `(tactic| (k_here; k_dflt (refine' ne_tups ?hl ?hb ?hu ?e1 ?e2 ?_; (case hl => exact News.isTup (by k_asm) (by k_mem)); (case hb => exact News.isTup (by k_asm) (by k_mem)); (case hu => units_room); (case e1 => assumption); (case e2 => assumption))))
set_option maxHeartbeats 8000000 in
/-- the first turn: the branch and the proof -/
theorem turnC1
   {w : World} {h₀ : Heap} {L fa : Addr} {cd : Value} {mean : ExcName → Option Value} {mg mb : Str → Option Value} {s : Shared} {m : Str → Option Value} {Q : Flow → Shared → Prop} {E : Value → Shared → Prop}
   {n : Nat} {x : Bs} {f c ce d tr dd db em : Addr} {fo oc oe : Obj} {t1 t2 t3 t4 t5 tnT td txT : Tok} {vsE : List Value} {cntE : Nat} {esE B1 : List Bs}
   (B : Below callerA h₀ [] h₀) (X : (hd.heap_39 w.params).In h₀) (T : Top topProg LOOSE mean mg mb h₀) (S : Sta n x f c ce d tr dd db em fo oc oe vsE esE B1) (F : Fr h₀ L s.heap m)
   {p : Nat} {y key : Bs} {v : Nat → Bs} {B0 : List Bs} {od odb : Obj} {kvs : List (Bs × Value)} {hk : List (Int × Value)} {root : Bs} {lv : Addr} {vsL : List Value} {cntL : Nat} {tp ty tkey tdp t6 trt : Tok} {tlL tl : List (Addr × Obj)}
   (R : TrS w n v B1 B0 od odb kvs root) (hBl : B0.length < 90000) (hkey : key.length = n) (hdec : dec key = p) (hHo : HeldOk hk x v) (hvy : v p = y) (hne : y ≠ [])
   (hLv : LvsOk w B0 v hk (8 * n) vsL tlL)
   (N : News h₀ L s.heap ([(tr, instObj 235 dd), (dd, treeD w t1 t2 t3 t4 t5 t6 tnT td txT trt n x f db root), (db, odb), (f, fo), (c, oc), (ce, oe), (d, od), (em, listOf vsE.toArray cntE)] ++ (lv, listOf vsL.toArray cntL) :: (tlL ++ tl))) (D : ND ([(tr, instObj 235 dd), (dd, treeD w t1 t2 t3 t4 t5 t6 tnT td txT trt n x f db root), (db, odb), (f, fo), (c, oc), (ce, oe), (d, od), (em, listOf vsE.toArray cntE)] ++ (lv, listOf vsL.toArray cntL) :: (tlL ++ tl)))
   (e1 : m (Str.ofString "proof") = some (.none)) (e2 : m (Str.ofString "tree") = some (.ref tr)) (e3 : m (Str.ofString "key") = some (.bytes key.toArray tkey)) (e4 : m (Str.ofString "levels") = some (.ref lv)) (e5 : m (Str.ofString "empty") = some (.ref em)) (e6 : m (Str.ofString "number") = some (.int (p : Int) tp)) (e7 : m (Str.ofString "depth") = some (.int ((8 * n : Nat) : Int) tdp)) (e8 : m (Str.ofString "value") = some (.bytes y.toArray ty)) (e9 : m (Str.ofString "hash_of") = some (.ref f))
   (cont : ∀ (h' : Heap) (tk : Nat) (br pf pd pb : Addr) (q1 q2 q3 q4 q5 q6 tnp tbp : Tok) (vsP : List Value) (esP : List Bs) (cntP : Nat) (junk : List (Addr × Obj)),
     Fr h₀ L h' (fun zz => if zz = Str.ofString "proof" then some (.ref pf) else if zz = Str.ofString "branch" then some (.ref br) else m zz) →
     News h₀ L h' ((pf, instObj 132 pd) :: (pd, proofD w q1 q2 q3 q4 q5 q6 tkey tnp ty tbp n key y pb f) :: (pb, listOf vsP.toArray cntP) :: (tr, instObj 235 dd) :: (dd, treeD w t1 t2 t3 t4 t5 t6 tnT td txT trt n x f db root) :: (db, odb) :: (f, fo) :: (c, oc) :: (ce, oe) :: (d, od) :: (em, listOf vsE.toArray cntE) :: (lv, listOf vsL.toArray cntL) :: (tlL ++ (junk ++ tl))) →
     ND ((pf, instObj 132 pd) :: (pd, proofD w q1 q2 q3 q4 q5 q6 tkey tnp ty tbp n key y pb f) :: (pb, listOf vsP.toArray cntP) :: (tr, instObj 235 dd) :: (dd, treeD w t1 t2 t3 t4 t5 t6 tnT td txT trt n x f db root) :: (db, odb) :: (f, fo) :: (c, oc) :: (ce, oe) :: (d, od) :: (em, listOf vsE.toArray cntE) :: (lv, listOf vsL.toArray cntL) :: (tlL ++ (junk ++ tl))) →
     BsAre vsP esP → esP.length = 8 * n → (∀ j e, esP[j]? = some e → Nd B0 v (8 * n - 1 - j) (sib p (8 * n - 1 - j)) e) →
     Q .next { s with heap := h', toks := tk }) :
   wpAny (model PR w) (callerA.deeper (lawEnv L fa cd)) (execs (turnBody.drop 6) (lawEnv L fa cd)) Q E s := by
  w_on
  have hn1 := S.hn1
  have hn := S.hn
  have hm := ((congrArg (fun q : Str → Option Value => (fun zz => if zz = Str.ofString "proof" then some (.none) else if zz = Str.ofString "tree" then some (.ref tr) else if zz = Str.ofString "key" then some (.bytes key.toArray tkey) else if zz = Str.ofString "levels" then some (.ref lv) else if zz = Str.ofString "empty" then some (.ref em) else if zz = Str.ofString "number" then some (.int (p : Int) tp) else if zz = Str.ofString "depth" then some (.int ((8 * n : Nat) : Int) tdp) else if zz = Str.ofString "value" then some (.bytes y.toArray ty) else q zz)) (top_eq e9)).trans ((congrArg (fun q : Str → Option Value => (fun zz => if zz = Str.ofString "proof" then some (.none) else if zz = Str.ofString "tree" then some (.ref tr) else if zz = Str.ofString "key" then some (.bytes key.toArray tkey) else if zz = Str.ofString "levels" then some (.ref lv) else if zz = Str.ofString "empty" then some (.ref em) else if zz = Str.ofString "number" then some (.int (p : Int) tp) else if zz = Str.ofString "depth" then some (.int ((8 * n : Nat) : Int) tdp) else q zz)) (top_eq e8)).trans ((congrArg (fun q : Str → Option Value => (fun zz => if zz = Str.ofString "proof" then some (.none) else if zz = Str.ofString "tree" then some (.ref tr) else if zz = Str.ofString "key" then some (.bytes key.toArray tkey) else if zz = Str.ofString "levels" then some (.ref lv) else if zz = Str.ofString "empty" then some (.ref em) else if zz = Str.ofString "number" then some (.int (p : Int) tp) else q zz)) (top_eq e7)).trans ((congrArg (fun q : Str → Option Value => (fun zz => if zz = Str.ofString "proof" then some (.none) else if zz = Str.ofString "tree" then some (.ref tr) else if zz = Str.ofString "key" then some (.bytes key.toArray tkey) else if zz = Str.ofString "levels" then some (.ref lv) else if zz = Str.ofString "empty" then some (.ref em) else q zz)) (top_eq e6)).trans ((congrArg (fun q : Str → Option Value => (fun zz => if zz = Str.ofString "proof" then some (.none) else if zz = Str.ofString "tree" then some (.ref tr) else if zz = Str.ofString "key" then some (.bytes key.toArray tkey) else if zz = Str.ofString "levels" then some (.ref lv) else q zz)) (top_eq e5)).trans ((congrArg (fun q : Str → Option Value => (fun zz => if zz = Str.ofString "proof" then some (.none) else if zz = Str.ofString "tree" then some (.ref tr) else if zz = Str.ofString "key" then some (.bytes key.toArray tkey) else q zz)) (top_eq e4)).trans ((congrArg (fun q : Str → Option Value => (fun zz => if zz = Str.ofString "proof" then some (.none) else if zz = Str.ofString "tree" then some (.ref tr) else q zz)) (top_eq e3)).trans ((congrArg (fun q : Str → Option Value => (fun zz => if zz = Str.ofString "proof" then some (.none) else q zz)) (top_eq e2)).trans (top_eq e1)))))))))
  replace F : Fr h₀ L s.heap (fun zz => if zz = Str.ofString "proof" then some (.none) else if zz = Str.ofString "tree" then some (.ref tr) else if zz = Str.ofString "key" then some (.bytes key.toArray tkey) else if zz = Str.ofString "levels" then some (.ref lv) else if zz = Str.ofString "empty" then some (.ref em) else if zz = Str.ofString "number" then some (.int (p : Int) tp) else if zz = Str.ofString "depth" then some (.int ((8 * n : Nat) : Int) tdp) else if zz = Str.ofString "value" then some (.bytes y.toArray ty) else if zz = Str.ofString "hash_of" then some (.ref f) else m zz) := fr_cast F fun y => (congrFun hm y).symm
  unfold lawEnv
  rw [show lawScope = Scope.mk _ _ _ _ _ from rfl, show turnBody.drop 6 = _ :: _ from rfl]
  generalize hX : (lv, listOf vsL.toArray cntL) :: (tlL ++ tl) = tX at N D
  simp only [List.cons_append, List.nil_append] at N D
  k_steps
  rename Fr _ _ _ _ => F2
  rename News _ _ _ _ => N2
  unfold Hold
  refine wpAny_call (lawCall B F2 X T (nperm N2 pm_br) (D.perm pm_br) rfl rfl (Around.frames_deeper (Below.stack B)) fun g2 C2 O2 back => ?_)
  refine branch_spec (n := n) C2 O2 (by simp only [depth_deeper, depth_caller]; decide) rfl (by omega) R.hB.nodup hn hn1 R.hD R.hV R.hF R.hR hkey (by rw [hdec, hvy]; exact hne) fun h3 tk3 br vsB esB O3 i1 i2 i3 => ?_
  rw [hdec] at i3
  obtain ⟨F3, N3, D3⟩ := back h3 _ O3 (nd_ne (D.perm pm_br).left (br_far O3 R.hD))
  clear back C2 O2 O3 F2 N2 D
  simp only [List.cons_append, List.nil_append] at N3 D3
  subst hX
  dsimp only
  generalize hX : (lv, listOf vsL.toArray cntL) :: (tlL ++ tl) = tX at N3 D3
  k_steps
  rename Fr _ _ _ _ => F4
  rename News _ _ _ _ => N4
  unfold Hold
  subst hX
  refine wpAny_call (lawCall B F4 X T (nperm N4 pm_sd) (D3.perm pm_sd) rfl rfl (Around.frames_deeper (Below.stack B)) fun g2 C2 O2 back => ?_)
  refine side_spec (n := 8 * n) (p := p) C2 O2 (by simp only [depth_deeper, depth_caller]; decide) rfl (by omega) hLv hHo S.hE1 S.hE2 (fun i e he => (S.hE3 i e he).mono R.pre) fun h5 tk5 rt rs2 es2 O5 j1 j2 j3 j4 => ?_
  obtain ⟨F5, N5, D5⟩ := back h5 _ O5 ((D3.perm pm_sd).left.new (allLt_of j4))
  have hes2 : es2 = esB := nds_eq R.hB.nodup j2 i2 j3 i3
  subst hes2
  clear back C2 O2 O5 N4 F4 D3
  replace N5 := nperm N5 (l' := (rt, tupOf rs2) :: (br, tupOf vsB) :: (tr, instObj 235 dd) :: ((dd, treeD w t1 t2 t3 t4 t5 t6 tnT td txT trt n x f db root) :: (db, odb) :: (f, fo) :: (c, oc) :: (ce, oe) :: (d, od) :: (em, listOf vsE.toArray cntE) :: (lv, listOf vsL.toArray cntL) :: (tlL ++ tl))) (by (refine perm_of ?_; intro _ kpa; simp only [List.count_cons, List.count_append, List.count_nil, List.append_assoc, List.cons_append, List.nil_append] <;> ac_rfl))
  replace D5 := D5.perm (l' := (rt, tupOf rs2) :: (br, tupOf vsB) :: (tr, instObj 235 dd) :: ((dd, treeD w t1 t2 t3 t4 t5 t6 tnT td txT trt n x f db root) :: (db, odb) :: (f, fo) :: (c, oc) :: (ce, oe) :: (d, od) :: (em, listOf vsE.toArray cntE) :: (lv, listOf vsL.toArray cntL) :: (tlL ++ tl))) (by (refine perm_of ?_; intro _ kpa; simp only [List.count_cons, List.count_append, List.count_nil, List.append_assoc, List.cons_append, List.nil_append] <;> ac_rfl))
  generalize hX : ((dd, treeD w t1 t2 t3 t4 t5 t6 tnT td txT trt n x f db root) :: (db, odb) :: (f, fo) :: (c, oc) :: (ce, oe) :: (d, od) :: (em, listOf vsE.toArray cntE) :: (lv, listOf vsL.toArray cntL) :: (tlL ++ tl)) = tX at N5 D5
  have hvl := i1.length
  dsimp only
  k_steps
  rename Fr _ _ _ _ => F6
  rename News _ _ _ _ => N6
  rename _ ∧ _ ∧ _ ∧ AllLt _ _ => qlt
  have D6 := nd_of N6 (D5.new qlt)
  unfold Hold
  refine call_cls F6 X N6 (by k_is) (by k_is) (by k_is) fun pf pd h7 F7 N7 l1 l2 => ?_
  replace l1 := allLt_of l1
  have l2' : @LT.lt Nat _ pd pf := l2
  have l3 : @LT.lt Nat _ _ pd := l1.1
  have D7 := nd_of N7 ((D6.new l1).new ⟨l2, allLt_mono l2 l1⟩)
  refine lawCall (FP := [(pf, instObj 132 pd), (pd, dictOf [] 0), (_, listOf vsB.toArray _)]) (s := { s with heap := h7, toks := tk5 }) B F7 X T N7 D7 rfl rfl (Around.frames_deeper (Below.stack B)) fun g2 C2 O2 back => ?_
  refine pinit_spec (n := n) C2 O2 (by k_room) rfl hn hn1 hkey (by omega) (by refine ⟨?_, ?_, ?_⟩ <;> (refine neN ?_; omega)) fun h8 tk8 q1 q2 q3 q4 q5 q6 tnp tbp pb cP O8 o8 => ?_
  obtain ⟨F8, N8, D8⟩ := back h8 _ O8 ((D7.left (l := [_, _, _]).upd (l' := [(pf, instObj 132 pd), (pd, proofD w q1 q2 q3 q4 q5 q6 tkey tnp ty tbp n key y pb f), (_, listOf vsB.toArray _)]) rfl).new ⟨o8.1, o8.2.1, o8.2.2, trivial⟩)
  clear back O2 C2 D7 N7 F7
  refine ⟨rfl, ?_⟩
  dsimp only
  k_steps
  rename Fr _ _ _ _ => F9
  rename News _ _ _ _ => N9
  subst hX
  refine cont _ _ br pf pd pb q1 q2 q3 q4 q5 q6 tnp tbp vsB es2 cP _ (fr_cast F9 (by (intro y; (repeat (refine ite_back ?_)); exact congrFun hm y))) (nperm N9 pm_c1) (D8.perm pm_c1) i1 i2 i3
end
end

section
-- L8
local macro_rules | `(tactic| walk_at "no such key") => `(tactic| fail)
local macro_rules | `(tactic| walk_at "no such key") => `(tactic| fail)
local macro_rules | `(tactic| walk_at "no such key") => `(tactic| fail)
open PySem PySem.W PySem.Calls PyProof.Rows
set_option Elab.async false
set_option maxRecDepth 100000
set_option linter.unusedVariables false
theorem nd_tail {p : Addr × Obj} {l : List (Addr × Obj)} (D : ND (p :: l)) : ND l := (List.nodup_cons.mp D).2
section
local macro_rules | `(tactic| walk_at "call ref") => `(tactic| (k_here; (first
  | (with_reducible show wpAny _ _ (call (Value.ref 246) _ _) _ _ _) | (with_reducible show wpAny _ _ (call (Value.ref 253) _ _) _ _ _) | (with_reducible show wpAny _ _ (call (Value.ref 260) _ _) _ _ _) | (with_reducible show wpAny _ _ (call (Value.ref 267) _ _) _ _ _)
  | (with_reducible show wpAny _ _ (call (Value.ref 235) _ _) _ _ _) | (with_reducible show wpAny _ _ (call (Value.ref 190) _ _) _ _ _) | (with_reducible show wpAny _ _ (call (Value.ref 204) _ _) _ _ _) | (with_reducible show wpAny _ _ (call (Value.ref 274) _ _) _ _ _)
  | (with_reducible show wpAny _ _ (call (Value.ref 279) _ _) _ _ _) | (with_reducible show wpAny _ _ (call (Value.ref 284) _ _) _ _ _) | (with_reducible show wpAny _ _ (call (Value.ref 176) _ _) _ _ _) | (with_reducible show wpAny _ _ (call (Value.ref 132) _ _) _ _ _)
  | (with_reducible show wpAny _ _ (call (Value.ref 129) _ _) _ _ _) | (with_reducible show wpAny _ _ (call (Value.ref 76) _ _) _ _ _) | (with_reducible show wpAny _ _ (call (Value.ref 291) _ _) _ _ _) | (with_reducible show wpAny _ _ (call (Value.ref 298) _ _) _ _ _)
  | (with_reducible show wpAny _ _ (call (Value.ref 305) _ _) _ _ _) | (with_reducible show wpAny _ _ (call (Value.ref 197) _ _) _ _ _) | (with_reducible show wpAny _ _ (call (Value.ref 232) _ _) _ _ _)); (with_reducible refine Hold.mk ?_)))
set_option maxHeartbeats 8000000 in
/-- a later turn: the proof is told -/
theorem turnC2
   {w : World} {h₀ : Heap} {L fa : Addr} {cd : Value} {mean : ExcName → Option Value} {mg mb : Str → Option Value} {s : Shared} {m : Str → Option Value} {Q : Flow → Shared → Prop} {E : Value → Shared → Prop}
   {n p p0 : Nat} {y key key0 y0 : Bs} {v0 : Nat → Bs} {Bp B0 : List Bs} {f pf pd pb rs : Addr} {vsP vs : List Value} {esP es : List Bs} {cntP : Nat} {q1 q2 q3 q4 q5 q6 tk0 tnp typ tbp tkey ty : Tok} {tl : List (Addr × Obj)}
   (B : Below callerA h₀ [] h₀) (X : (hd.heap_39 w.params).In h₀) (T : Top topProg LOOSE mean mg mb h₀) (F : Fr h₀ L s.heap m)
   (hn1 : 1 ≤ n) (hn : n ≤ 32) (hkey : key.length = n) (hdec : dec key = p) (hkey0 : key0.length = n) (hdec0 : dec key0 = p0) (hy0 : y0 = v0 p0)
   (hP1 : BsAre vsP esP) (hP2 : esP.length = 8 * n) (hP3 : ∀ j e, esP[j]? = some e → Nd Bp v0 (8 * n - 1 - j) (sib p0 (8 * n - 1 - j)) e) (hpre : Bp <+: B0)
   (hvs : BsAre vs es) (hes : es.length = 8 * n) (hnd : ∀ j e, es[j]? = some e → Nd B0 (upd v0 p y) (8 * n - 1 - j) (p / 2 ^ (8 * n - 1 - j)) e)
   (N : News h₀ L s.heap ([(pf, instObj 132 pd), (pd, proofD w q1 q2 q3 q4 q5 q6 tk0 tnp typ tbp n key0 y0 pb f), (pb, listOf vsP.toArray cntP), (rs, tupOf vs)] ++ tl))
   (D : ND ([(pf, instObj 132 pd), (pd, proofD w q1 q2 q3 q4 q5 q6 tk0 tnp typ tbp n key0 y0 pb f), (pb, listOf vsP.toArray cntP), (rs, tupOf vs)] ++ tl))
   (e1 : m (Str.ofString "proof") = some (.ref pf)) (e2 : m (Str.ofString "key") = some (.bytes key.toArray tkey)) (e3 : m (Str.ofString "value") = some (.bytes y.toArray ty)) (e4 : m (Str.ofString "told") = some (.ref rs))
   (cont : ∀ (h' : Heap) (tk : Nat) (q3' typ' : Tok) (vsP' : List Value) (esP' : List Bs),
     Fr h₀ L h' m →
     News h₀ L h' ([(pf, instObj 132 pd), (pd, proofD w q1 q2 q3' q4 q5 q6 tk0 tnp typ' tbp n key0 (upd v0 p y p0) pb f), (pb, listOf vsP'.toArray cntP), (rs, tupOf vs)] ++ tl) →
     ND ([(pf, instObj 132 pd), (pd, proofD w q1 q2 q3' q4 q5 q6 tk0 tnp typ' tbp n key0 (upd v0 p y p0) pb f), (pb, listOf vsP'.toArray cntP), (rs, tupOf vs)] ++ tl) →
     BsAre vsP' esP' → esP'.length = 8 * n → (∀ j e, esP'[j]? = some e → Nd B0 (upd v0 p y) (8 * n - 1 - j) (sib p0 (8 * n - 1 - j)) e) →
     Q .next { s with heap := h', toks := tk }) :
   wpAny (model PR w) (callerA.deeper (lawEnv L fa cd)) (execs (turnBody.drop 6) (lawEnv L fa cd)) Q E s := by
  w_on
  have hm := ((congrArg (fun q : Str → Option Value => (fun zz => if zz = Str.ofString "proof" then some (.ref pf) else if zz = Str.ofString "key" then some (.bytes key.toArray tkey) else if zz = Str.ofString "value" then some (.bytes y.toArray ty) else q zz)) (top_eq e4)).trans ((congrArg (fun q : Str → Option Value => (fun zz => if zz = Str.ofString "proof" then some (.ref pf) else if zz = Str.ofString "key" then some (.bytes key.toArray tkey) else q zz)) (top_eq e3)).trans ((congrArg (fun q : Str → Option Value => (fun zz => if zz = Str.ofString "proof" then some (.ref pf) else q zz)) (top_eq e2)).trans (top_eq e1))))
  replace F : Fr h₀ L s.heap (fun zz => if zz = Str.ofString "proof" then some (.ref pf) else if zz = Str.ofString "key" then some (.bytes key.toArray tkey) else if zz = Str.ofString "value" then some (.bytes y.toArray ty) else if zz = Str.ofString "told" then some (.ref rs) else m zz) := fr_cast F fun y => (congrFun hm y).symm
  unfold lawEnv
  rw [show lawScope = Scope.mk _ _ _ _ _ from rfl, show turnBody.drop 6 = _ :: _ from rfl]
  have D' := D
  simp only [List.cons_append, List.nil_append] at N D'
  have neK := D'.head
  have neK2 := (nd_tail D').head
  have neK3 := (nd_tail (nd_tail D')).head
  simp only [AllNe] at neK neK2 neK3
  k_steps
  rename Fr _ _ _ _ => F2
  rename News _ _ _ _ => N2
  unfold Hold
  refine wpAny_call (lawCall B F2 X T (nperm N2 (List.Perm.refl _)) D rfl rfl (Around.frames_deeper (Below.stack B)) fun g2 C2 O2 back => ?_)
  refine update_spec (n := n) C2 O2 (by simp only [depth_deeper, depth_caller]; decide) rfl hn hn1 hkey0 hkey (by rw [hP1.length, hP2]) (by rw [hvs.length, hes]) (by refine ⟨?_, ?_, ?_, ?_, ?_, ?_⟩ <;> (refine neN ?_; omega)) fun h3 tk3 q3' typ' y' vs' O3 i1 => ?_
  obtain ⟨F3, N3, D3⟩ := back h3 _ O3 (D.left.upd rfl)
  clear back C2 O2 O3 F2 N2
  have hy : y' = upd v0 p y p0 ∧ ∃ esP', BsAre vs' esP' ∧ esP'.length = 8 * n ∧ ∀ j e, esP'[j]? = some e → Nd B0 (upd v0 p y) (8 * n - 1 - j) (sib p0 (8 * n - 1 - j)) e := by
    rw [hdec, hdec0] at i1
    rcases i1 with ⟨k1, k2, k3⟩ | ⟨k1, k2, b, e, k3, k4, k5, k6, k7⟩
    · subst k1 k2 k3
      exact ⟨upd_same.symm, esP, hP1, hP2, own_branch hpre hP3⟩
    · refine ⟨by rw [k2, hy0, upd_other k1], ?_⟩
      have hlt : 8 * n - 1 - b < es.length := by omega
      obtain ⟨t, ht⟩ := hvs.get (List.getElem?_eq_getElem hlt)
      rw [k6] at ht
      have he := Option.some.inj ht
      subst he k7
      exact ⟨_, hP1.set _ _ _, by rw [List.length_set]; exact hP2, upd_branch hpre hP2 k3 k4 k5 hP3 hnd (List.getElem?_eq_getElem hlt)⟩
  obtain ⟨hy1, esP', hz1, hz2, hz3⟩ := hy
  subst hy1
  (try simp only [List.cons_append, List.nil_append] at N3)
  dsimp only
  k_steps
  rename Fr _ _ _ _ => F4
  rename News _ _ _ _ => N4
  exact cont _ _ q3' typ' vs' esP' (fr_cast F4 (by (intro y; (repeat (refine ite_back ?_)); exact congrFun hm y))) N4 D3 hz1 hz2 hz3
end
end

section
-- L9
open PySem PySem.W PySem.Calls PyProof.Rows
set_option Elab.async false
set_option maxRecDepth 100000
set_option linter.unusedVariables false
/-- names of the frame that stand -/
def Nm (l : List (Str × Value)) (m : Str → Option Value) : Prop := ∀ q ∈ l, m q.1 = some q.2
theorem Nm.put {l : List (Str × Value)} {m : Str → Option Value} (h : Nm l m) (b : Str) (u : Value) (hb : b ∉ l.map (·.1)) : Nm ((b, u) :: l) (fun zz => if zz = b then some u else m zz) := fun q hq => by
  rcases List.mem_cons.mp hq with rfl | hq
  · exact if_pos rfl
  · have hne : q.1 ≠ b := fun e => hb (e ▸ List.mem_map_of_mem (f := fun z : Str × Value => z.1) hq)
    show (if q.1 = b then some u else m q.1) = some q.2
    rw [if_neg hne]
    exact h q hq
theorem Nm.tail {l : List (Str × Value)} {m : Str → Option Value} {p : Str × Value} (h : Nm (p :: l) m) : Nm l m := fun q hq => h q (List.mem_cons_of_mem _ hq)
theorem Nm.sub {l l' : List (Str × Value)} {m : Str → Option Value} (h : Nm l m) (k : ∀ q ∈ l', q ∈ l) : Nm l' m := fun q hq => h q (k q hq)
theorem Nm.head {l : List (Str × Value)} {m : Str → Option Value} {a : Str} {u : Value} (h : Nm ((a, u) :: l) m) : m a = some u := h (a, u) (List.mem_cons_self ..)
/-- over a name that is not in the list -/
theorem Nm.set {l : List (Str × Value)} {m : Str → Option Value} (h : Nm l m) (b : Str) (u : Value) (hb : b ∉ l.map (·.1)) : Nm l (fun zz => if zz = b then some u else m zz) := (h.put b u hb).tail
theorem Nm.at {l : List (Str × Value)} {m : Str → Option Value} (h : Nm l m) (i : Nat) {a : Str} {u : Value} (e : l[i]? = some (a, u)) : m a = some u := h (a, u) (List.mem_of_getElem? e)
section
variable {α : Type} {pf pd pb rs kl hd lv lv0 br a b c d e f g m : α} {tL tL0 j j0 j2 keep tl : List α}
theorem pt_1a : (kl :: hd :: a :: b :: c :: d :: e :: f :: g :: m :: keep).Perm ([kl, a, b, c, d, e, f, g, m] ++ (hd :: keep)) := by (refine perm_of ?_; intro _ kpa; simp only [List.count_cons, List.count_append, List.count_nil, List.append_assoc, List.cons_append, List.nil_append] <;> ac_rfl)
theorem pt_1b : ([rs, kl, a, b, c, d, e, f, g, m] ++ (hd :: keep)).Perm ([hd, rs, a, b, c, d, e, f, g, m] ++ (kl :: keep)) := by (refine perm_of ?_; intro _ kpa; simp only [List.count_cons, List.count_append, List.count_nil, List.append_assoc, List.cons_append, List.nil_append] <;> ac_rfl)
theorem pt_1c : (lv :: (tL ++ (hd :: rs :: a :: b :: c :: d :: e :: f :: g :: m :: (j ++ (kl :: keep))))).Perm ([a, b, c, d, e, f, g, m] ++ lv :: (tL ++ (hd :: rs :: (j ++ kl :: keep)))) := by (refine perm_of ?_; intro _ kpa; simp only [List.count_cons, List.count_append, List.count_nil, List.append_assoc, List.cons_append, List.nil_append] <;> ac_rfl)
theorem pt_1d : (pf :: pd :: pb :: a :: b :: c :: d :: e :: f :: g :: m :: lv :: (tL ++ (j2 ++ (hd :: rs :: (j ++ kl :: keep))))).Perm (pf :: pd :: pb :: kl :: hd :: a :: b :: c :: d :: e :: f :: g :: m :: lv :: (tL ++ ((rs :: (j ++ j2)) ++ keep))) := by (refine perm_of ?_; intro _ kpa; simp only [List.count_cons, List.count_append, List.count_nil, List.append_assoc, List.cons_append, List.nil_append] <;> ac_rfl)
theorem pt_2a : (pf :: pd :: pb :: kl :: hd :: a :: b :: c :: d :: e :: f :: g :: m :: lv0 :: (tL0 ++ (j0 ++ keep))).Perm ([kl, a, b, c, d, e, f, g, m] ++ (pf :: pd :: pb :: hd :: lv0 :: (tL0 ++ (j0 ++ keep)))) := by (refine perm_of ?_; intro _ kpa; simp only [List.count_cons, List.count_append, List.count_nil, List.append_assoc, List.cons_append, List.nil_append] <;> ac_rfl)
theorem pt_2b : ([rs, kl, a, b, c, d, e, f, g, m] ++ (pf :: pd :: pb :: hd :: lv0 :: (tL0 ++ (j0 ++ keep)))).Perm ([hd, rs, a, b, c, d, e, f, g, m] ++ (kl :: pf :: pd :: pb :: lv0 :: (tL0 ++ (j0 ++ keep)))) := by (refine perm_of ?_; intro _ kpa; simp only [List.count_cons, List.count_append, List.count_nil, List.append_assoc, List.cons_append, List.nil_append] <;> ac_rfl)
theorem pt_2c : (lv :: (tL ++ (hd :: rs :: a :: b :: c :: d :: e :: f :: g :: m :: (j ++ (kl :: pf :: pd :: pb :: lv0 :: (tL0 ++ (j0 ++ keep))))))).Perm ([pf, pd, pb, rs] ++ (kl :: hd :: a :: b :: c :: d :: e :: f :: g :: m :: lv :: (tL ++ (j ++ lv0 :: (tL0 ++ (j0 ++ keep)))))) := by (refine perm_of ?_; intro _ kpa; simp only [List.count_cons, List.count_append, List.count_nil, List.append_assoc, List.cons_append, List.nil_append] <;> ac_rfl)
theorem pt_2d : ([pf, pd, pb, rs] ++ (kl :: hd :: a :: b :: c :: d :: e :: f :: g :: m :: lv :: (tL ++ (j ++ lv0 :: (tL0 ++ (j0 ++ keep)))))).Perm (pf :: pd :: pb :: kl :: hd :: a :: b :: c :: d :: e :: f :: g :: m :: lv :: (tL ++ ((rs :: (j ++ lv0 :: (tL0 ++ j0))) ++ keep))) := by (refine perm_of ?_; intro _ kpa; simp only [List.count_cons, List.count_append, List.count_nil, List.append_assoc, List.cons_append, List.nil_append] <;> ac_rfl)
end
/-- the state behind k turns -/
def After (w : World) (h₀ : Heap) (L : Addr) (n : Nat) (x : Bs) (f c ce d tr dd db em : Addr) (fo oc oe : Obj) (t1 t2 t3 t4 t5 tnT td txT : Tok) (vsE : List Value) (cntE : Nat) (B1 : List Bs) (hld kl : Addr) (p0 k : Nat) (v : Nat → Bs) (ks : List Nat)
    (m : Str → Option Value) (h : Heap) (keep : List (Addr × Obj)) : Prop :=
  ∃ (B : List Bs) (od odb hobj : Obj) (kvs : List (Bs × Value)) (root : Bs) (t6 trt : Tok) (hk : List (Int × Value)) (vsK : List Value) (cntK : Nat) (lv : Addr) (vsL : List Value) (cntL : Nat) (tlL junk : List (Addr × Obj))
    (pf pd pb : Addr) (q1 q2 q3 q4 q5 q6 tk0 tnp typ tbp : Tok) (vsP : List Value) (esP : List Bs) (cntP : Nat),
    News h₀ L h ((pf, instObj 132 pd) :: (pd, proofD w q1 q2 q3 q4 q5 q6 tk0 tnp typ tbp n (bts n (p0 : Int)) (v p0) pb f) :: (pb, listOf vsP.toArray cntP) :: (kl, listOf vsK.toArray cntK) :: (hld, hobj) :: (tr, instObj 235 dd) :: (dd, treeD w t1 t2 t3 t4 t5 t6 tnT td txT trt n x f db root) :: (db, odb) :: (f, fo) :: (c, oc) :: (ce, oe) :: (d, od) :: (em, listOf vsE.toArray cntE) :: (lv, listOf vsL.toArray cntL) :: (tlL ++ (junk ++ keep))) ∧
    ND ((pf, instObj 132 pd) :: (pd, proofD w q1 q2 q3 q4 q5 q6 tk0 tnp typ tbp n (bts n (p0 : Int)) (v p0) pb f) :: (pb, listOf vsP.toArray cntP) :: (kl, listOf vsK.toArray cntK) :: (hld, hobj) :: (tr, instObj 235 dd) :: (dd, treeD w t1 t2 t3 t4 t5 t6 tnT td txT trt n x f db root) :: (db, odb) :: (f, fo) :: (c, oc) :: (ce, oe) :: (d, od) :: (em, listOf vsE.toArray cntE) :: (lv, listOf vsL.toArray cntL) :: (tlL ++ (junk ++ keep))) ∧
    TrS w n v B1 B od odb kvs root ∧ B.length ≤ 600 + 1100 * k ∧ kvs.length ≤ 300 + 300 * k ∧ hobj.IsDictOf (intKind PR w) hk ∧ HeldOk hk x v ∧ hk.length ≤ k ∧ LvsOk w B v hk (8 * n) vsL tlL ∧
    BsAre vsP esP ∧ esP.length = 8 * n ∧ (∀ j e, esP[j]? = some e → Nd B v (8 * n - 1 - j) (sib p0 (8 * n - 1 - j)) e) ∧
    BsAre vsK (ks.map fun (q : Nat) => bts n (q : Int)) ∧ ks.length = k ∧ (∀ q ∈ ks, (valueAt hk (q : Int)).isSome = true) ∧ m (Str.ofString "proof") = some (.ref pf) ∧ m (Str.ofString "levels") = some (.ref lv)
theorem heldOk_nil {x : Bs} : HeldOk [] x (fun _ => x) := ⟨fun k y h => by simp [valueAt] at h, fun _ _ => rfl⟩
section
set_option maxHeartbeats 4000000 in
theorem turn1
   {w : World} {h₀ : Heap} {L fa : Addr} {cd : Value} {mean : ExcName → Option Value} {mg mb : Str → Option Value} {s : Shared} {m : Str → Option Value} {Q : Flow → Shared → Prop} {E : Value → Shared → Prop}
   {n : Nat} {x : Bs} {f c ce d tr dd db em : Addr} {fo oc oe : Obj} {t1 t2 t3 t4 t5 tnT td txT : Tok} {vsE : List Value} {cntE : Nat} {esE B1 : List Bs}
   (B : Below callerA h₀ [] h₀) (X : (hd.heap_39 w.params).In h₀) (T : Top topProg LOOSE mean mg mb h₀) (S : Sta n x f c ce d tr dd db em fo oc oe vsE esE B1) (F : Fr h₀ L s.heap m)
   {p : Nat} {y : Bs} {B0 : List Bs} {od odb hobj : Obj} {kvs : List (Bs × Value)} {root : Bs} {hld kl nl : Addr} {tn tx tdp ta tb tc tp ty t6 trt : Tok} {p1 p2 p3 : Nat} {keep : List (Addr × Obj)}
   (R : TrS w n (fun _ => x) B1 B0 od odb kvs root) (hBl : B0.length ≤ 600) (hkl : kvs.length ≤ 300) (hHd : hobj.IsDictOf (intKind PR w) []) (hHs : (hld == sysModules) = false)
   (hp : p < 256 ^ n) (hy : y.length ≤ 64) (hne : y ≠ [])
   (N : News h₀ L s.heap ((kl, listOf #[] 0) :: (hld, hobj) :: (tr, instObj 235 dd) :: (dd, treeD w t1 t2 t3 t4 t5 t6 tnT td txT trt n x f db root) :: (db, odb) :: (f, fo) :: (c, oc) :: (ce, oe) :: (d, od) :: (em, listOf vsE.toArray cntE) :: keep)) (D : ND ((kl, listOf #[] 0) :: (hld, hobj) :: (tr, instObj 235 dd) :: (dd, treeD w t1 t2 t3 t4 t5 t6 tnT td txT trt n x f db root) :: (db, odb) :: (f, fo) :: (c, oc) :: (ce, oe) :: (d, od) :: (em, listOf vsE.toArray cntE) :: keep))
   (nm : Nm ((Str.ofString "number", .int (p : Int) tp) :: (Str.ofString "value", .bytes y.toArray ty) :: (Str.ofString "gone", .bool false) :: (Str.ofString "proof", .none) :: [(Str.ofString "size", .int (n : Int) tn), (Str.ofString "default", .bytes x.toArray tx), (Str.ofString "depth", .int ((8 * n : Nat) : Int) tdp), (Str.ofString "hash_of", .ref f), (Str.ofString "empty", .ref em), (Str.ofString "tree", .ref tr), (Str.ofString "held", .ref hld), (Str.ofString "keys", .ref kl), (Str.ofString "numbers", .ref nl), (Str.ofString "first", .int (p1 : Int) ta), (Str.ofString "second", .int (p2 : Int) tb), (Str.ofString "third", .int (p3 : Int) tc)]) m)
   (cont : ∀ (h' : Heap) (tk : Nat) (m' : Str → Option Value), Fr h₀ L h' m' → After w h₀ L n x f c ce d tr dd db em fo oc oe t1 t2 t3 t4 t5 tnT td txT vsE cntE B1 hld kl p 1 (upd (fun _ => x) p y) [p] m' h' keep → Nm ((Str.ofString "number", .int (p : Int) tp) :: [(Str.ofString "size", .int (n : Int) tn), (Str.ofString "default", .bytes x.toArray tx), (Str.ofString "depth", .int ((8 * n : Nat) : Int) tdp), (Str.ofString "hash_of", .ref f), (Str.ofString "empty", .ref em), (Str.ofString "tree", .ref tr), (Str.ofString "held", .ref hld), (Str.ofString "keys", .ref kl), (Str.ofString "numbers", .ref nl), (Str.ofString "first", .int (p1 : Int) ta), (Str.ofString "second", .int (p2 : Int) tb), (Str.ofString "third", .int (p3 : Int) tc)]) m' →
     Q .next { s with heap := h', toks := tk }) :
   wpAny (model PR w) (callerA.deeper (lawEnv L fa cd)) (execs turnBody (lawEnv L fa cd)) Q E s := by
  have hp' : (p : Int) < 256 ^ n := by exact_mod_cast hp
  have hn := S.hn
  have hdec : dec (bts n (p : Int)) = p := by
    have := dec_bts (k := n) (n := (p : Int)) (by omega) hp'
    exact_mod_cast this
  refine turnA (vsK := []) (cntK := 0) (tl := (hld, hobj) :: keep) (gone := false) B X T S F R (by omega) (by omega) (by decide) hp hy (fun h => nomatch h) (nperm N pt_1a) (D.perm pt_1a) (nm.at 0 rfl) (nm.at 4 rfl) (nm.at 11 rfl) (nm.at 2 rfl) (nm.at 9 rfl) (nm.at 1 rfl)
    fun h1 tk1 tkey t6' trt' cnt1 rs vs es root1 odb1 od1 B2 kvs1 F1 N1 D1 R1 x1 k1 v1 v2 v3 => ?_
  replace nm := (nm.put (Str.ofString "key") (.bytes (bts n (p : Int)).toArray tkey) (by (simp only [List.map_cons, List.map_nil]; decide))).put (Str.ofString "told") (.ref rs) (by (simp only [List.map_cons, List.map_nil]; decide))
  have x1l := x1.2
  refine turnB (tl := (kl, listOf ([] ++ [Value.bytes (bts n (p : Int)).toArray tkey]).toArray cnt1) :: keep) (s := { s with heap := h1, toks := tk1 }) (v0 := fun _ => x) B X T S F1 R1 (by omega) hp hHd heldOk_nil (by decide) hHs v1 v2 v3 (nperm N1 pt_1b) (D1.perm pt_1b) (nm.at 12 rfl) (nm.at 2 rfl) (nm.at 3 rfl) (nm.at 8 rfl) (nm.at 10 rfl) (nm.at 9 rfl) (nm.at 0 rfl) (nm.at 11 rfl)
    fun h2 tk2 lv vsL cntL tlL junk hobj' od2 B3 F2 N2 D2 R2 x2 d2 l2 => ?_
  replace nm := nm.put (Str.ofString "levels") (.ref lv) (by (simp only [List.map_cons, List.map_nil]; decide))
  have x2l := x2.2
  refine turnC1 (tl := (hld, hobj') :: (rs, tupOf vs) :: (junk ++ (kl, listOf ([] ++ [Value.bytes (bts n (p : Int)).toArray tkey]).toArray cnt1) :: keep)) (p := p) (y := y) (key := bts n (p : Int)) (s := { s with heap := h2, toks := tk2 }) B X T S F2 R2 (by omega) (bts_len n _) hdec (heldOk_nil.put p y ty) upd_same hne l2 (nperm N2 pt_1c) (D2.perm pt_1c) (nm.at 6 rfl) (nm.at 12 rfl) (nm.at 2 rfl) (nm.at 0 rfl) (nm.at 11 rfl) (nm.at 3 rfl) (nm.at 9 rfl) (nm.at 4 rfl) (nm.at 10 rfl)
    fun h3 tk3 br pf pd pb q1 q2 q3 q4 q5 q6 tnp tbp vsP esP cntP junk2 F3 N3 D3 P1 P2 P3 => ?_
  have nm1 : Nm ((Str.ofString "levels", .ref lv) :: (Str.ofString "number", .int (p : Int) tp) :: [(Str.ofString "size", .int (n : Int) tn), (Str.ofString "default", .bytes x.toArray tx), (Str.ofString "depth", .int ((8 * n : Nat) : Int) tdp), (Str.ofString "hash_of", .ref f), (Str.ofString "empty", .ref em), (Str.ofString "tree", .ref tr), (Str.ofString "held", .ref hld), (Str.ofString "keys", .ref kl), (Str.ofString "numbers", .ref nl), (Str.ofString "first", .int (p1 : Int) ta), (Str.ofString "second", .int (p2 : Int) tb), (Str.ofString "third", .int (p3 : Int) tc)]) _ := nm.sub fun q hq => (by
    rcases List.mem_cons.mp hq with rfl | hq
    · exact List.mem_cons_self ..
    rcases List.mem_cons.mp hq with rfl | hq
    · exact List.mem_of_getElem? (i := 3) rfl
    · exact List.mem_cons_of_mem _ (List.mem_cons_of_mem _ (List.mem_cons_of_mem _ (List.mem_cons_of_mem _ (List.mem_cons_of_mem _ (List.mem_cons_of_mem _ (List.mem_cons_of_mem _ hq)))))))
  have nm2 := (nm1.set (Str.ofString "branch") (.ref br) (by (simp only [List.map_cons, List.map_nil]; decide))).put (Str.ofString "proof") (.ref pf) (by (simp only [List.map_cons, List.map_nil]; decide))
  refine cont h3 tk3 _ F3 ⟨B3, od2, odb1, hobj', kvs1, root1, t6', trt', stored [] (p : Int) (.bytes y.toArray ty), [] ++ [Value.bytes (bts n (p : Int)).toArray tkey], cnt1, lv, vsL, cntL, tlL, (rs, tupOf vs) :: (junk ++ junk2), pf, pd, pb, q1, q2, q3, q4, q5, q6, tkey, tnp, ty, tbp, vsP, esP, cntP,
    ?_, ?_, R2, by omega, by omega, d2, heldOk_nil.put p y ty, by have := stored_length_le ([] : List (Int × Value)) (p : Int) (.bytes y.toArray ty); simpa using this, l2, P1, P2, P3, .cons .nil, rfl, ?_, nm2.at 0 rfl, nm2.at 1 rfl⟩ nm2.tail.tail
  · have e : upd (fun _ => x) p y p = y := upd_same
    rw [e]
    exact nperm N3 pt_1d
  · have e : upd (fun _ => x) p y p = y := upd_same
    rw [e]
    exact D3.perm pt_1d
  · intro q hq
    rw [List.mem_singleton] at hq
    subst hq
    rw [at_stored, if_pos rfl]
    rfl
set_option maxHeartbeats 4000000 in
theorem turn2
   {w : World} {h₀ : Heap} {L fa : Addr} {cd : Value} {mean : ExcName → Option Value} {mg mb : Str → Option Value} {s : Shared} {m : Str → Option Value} {Q : Flow → Shared → Prop} {E : Value → Shared → Prop}
   {n : Nat} {x : Bs} {f c ce d tr dd db em : Addr} {fo oc oe : Obj} {t1 t2 t3 t4 t5 tnT td txT : Tok} {vsE : List Value} {cntE : Nat} {esE B1 : List Bs}
   (B : Below callerA h₀ [] h₀) (X : (hd.heap_39 w.params).In h₀) (T : Top topProg LOOSE mean mg mb h₀) (S : Sta n x f c ce d tr dd db em fo oc oe vsE esE B1) (F : Fr h₀ L s.heap m)
   {p p0 k : Nat} {y : Bs} {gone : Bool} {v : Nat → Bs} {ks : List Nat} {hld kl nl : Addr} {tn tx tdp ta tb tc tp ty : Tok} {p1 p2 p3 : Nat} {keep : List (Addr × Obj)}
   (Af : After w h₀ L n x f c ce d tr dd db em fo oc oe t1 t2 t3 t4 t5 tnT td txT vsE cntE B1 hld kl p0 k v ks m s.heap keep) (hk2 : k ≤ 2) (hHs : (hld == sysModules) = false) (hp0 : p0 < 256 ^ n)
   (hp : p < 256 ^ n) (hy : y.length ≤ 64) (hg : gone = true → y = x)
   (nm : Nm ((Str.ofString "number", .int (p : Int) tp) :: (Str.ofString "value", .bytes y.toArray ty) :: (Str.ofString "gone", .bool gone) :: [(Str.ofString "size", .int (n : Int) tn), (Str.ofString "default", .bytes x.toArray tx), (Str.ofString "depth", .int ((8 * n : Nat) : Int) tdp), (Str.ofString "hash_of", .ref f), (Str.ofString "empty", .ref em), (Str.ofString "tree", .ref tr), (Str.ofString "held", .ref hld), (Str.ofString "keys", .ref kl), (Str.ofString "numbers", .ref nl), (Str.ofString "first", .int (p1 : Int) ta), (Str.ofString "second", .int (p2 : Int) tb), (Str.ofString "third", .int (p3 : Int) tc)]) m)
   (cont : ∀ (h' : Heap) (tk : Nat) (m' : Str → Option Value), Fr h₀ L h' m' → After w h₀ L n x f c ce d tr dd db em fo oc oe t1 t2 t3 t4 t5 tnT td txT vsE cntE B1 hld kl p0 (k + 1) (upd v p y) (ks ++ [p]) m' h' keep → Nm ((Str.ofString "number", .int (p : Int) tp) :: [(Str.ofString "size", .int (n : Int) tn), (Str.ofString "default", .bytes x.toArray tx), (Str.ofString "depth", .int ((8 * n : Nat) : Int) tdp), (Str.ofString "hash_of", .ref f), (Str.ofString "empty", .ref em), (Str.ofString "tree", .ref tr), (Str.ofString "held", .ref hld), (Str.ofString "keys", .ref kl), (Str.ofString "numbers", .ref nl), (Str.ofString "first", .int (p1 : Int) ta), (Str.ofString "second", .int (p2 : Int) tb), (Str.ofString "third", .int (p3 : Int) tc)]) m' →
     Q .next { s with heap := h', toks := tk }) :
   wpAny (model PR w) (callerA.deeper (lawEnv L fa cd)) (execs turnBody (lawEnv L fa cd)) Q E s := by
  have hp' : (p : Int) < 256 ^ n := by exact_mod_cast hp
  have hp0' : (p0 : Int) < 256 ^ n := by exact_mod_cast hp0
  have hn := S.hn
  have hdec : dec (bts n (p : Int)) = p := by
    have := dec_bts (k := n) (n := (p : Int)) (by omega) hp'
    exact_mod_cast this
  have hdec0 : dec (bts n (p0 : Int)) = p0 := by
    have := dec_bts (k := n) (n := (p0 : Int)) (by omega) hp0'
    exact_mod_cast this
  obtain ⟨B0, od, odb, hobj, kvs, root, t6, trt, hk, vsK, cntK, lv0, vsL0, cntL0, tlL0, junk0, pf, pd, pb, q1, q2, q3, q4, q5, q6, tk0, tnp, typ, tbp, vsP, esP, cntP, N, D, R, bl, kvl, hHd, hHo, hHl, hLv0, P1, P2, P3, hK, hKl, hKs, nP, nL⟩ := Af
  have hKl2 : vsK.length = k := by rw [hK.length, List.length_map, hKl]
  refine turnA (vsK := vsK) (cntK := cntK) (tl := (pf, instObj 132 pd) :: (pd, proofD w q1 q2 q3 q4 q5 q6 tk0 tnp typ tbp n (bts n (p0 : Int)) (v p0) pb f) :: (pb, listOf vsP.toArray cntP) :: (hld, hobj) :: (lv0, listOf vsL0.toArray cntL0) :: (tlL0 ++ (junk0 ++ keep))) (gone := gone) B X T S F R (by omega) (by omega) (by omega) hp hy hg (nperm N pt_2a) (D.perm pt_2a) (nm.at 0 rfl) (nm.at 3 rfl) (nm.at 10 rfl) (nm.at 2 rfl) (nm.at 8 rfl) (nm.at 1 rfl)
    fun h1 tk1 tkey t6' trt' cnt1 rs vs es root1 odb1 od1 B2 kvs1 F1 N1 D1 R1 x1 k1 v1 v2 v3 => ?_
  have nmp : Nm [(Str.ofString "proof", .ref pf)] m := fun q hq => by
    rw [List.mem_singleton] at hq
    subst hq
    exact nP
  replace nmp := (nmp.set (Str.ofString "key") (.bytes (bts n (p : Int)).toArray tkey) (by (simp only [List.map_cons, List.map_nil]; decide))).set (Str.ofString "told") (.ref rs) (by (simp only [List.map_cons, List.map_nil]; decide))
  replace nm := (nm.put (Str.ofString "key") (.bytes (bts n (p : Int)).toArray tkey) (by (simp only [List.map_cons, List.map_nil]; decide))).put (Str.ofString "told") (.ref rs) (by (simp only [List.map_cons, List.map_nil]; decide))
  have x1l := x1.2
  refine turnB (tl := (kl, listOf (vsK ++ [Value.bytes (bts n (p : Int)).toArray tkey]).toArray cnt1) :: (pf, instObj 132 pd) :: (pd, proofD w q1 q2 q3 q4 q5 q6 tk0 tnp typ tbp n (bts n (p0 : Int)) (v p0) pb f) :: (pb, listOf vsP.toArray cntP) :: (lv0, listOf vsL0.toArray cntL0) :: (tlL0 ++ (junk0 ++ keep))) (s := { s with heap := h1, toks := tk1 }) (v0 := v) B X T S F1 R1 (by omega) hp hHd hHo (by omega) hHs v1 v2 v3 (nperm N1 pt_2b) (D1.perm pt_2b) (nm.at 11 rfl) (nm.at 2 rfl) (nm.at 3 rfl) (nm.at 7 rfl) (nm.at 9 rfl) (nm.at 8 rfl) (nm.at 0 rfl) (nm.at 10 rfl)
    fun h2 tk2 lv vsL cntL tlL junk hobj' od2 B3 F2 N2 D2 R2 x2 d2 l2 => ?_
  replace nm := nm.put (Str.ofString "levels") (.ref lv) (by (simp only [List.map_cons, List.map_nil]; decide))
  replace nmp := nmp.set (Str.ofString "levels") (.ref lv) (by (simp only [List.map_cons, List.map_nil]; decide))
  have x2l := x2.2
  refine turnC2 (tl := (kl, listOf (vsK ++ [Value.bytes (bts n (p : Int)).toArray tkey]).toArray cnt1) :: (hld, hobj') :: (tr, instObj 235 dd) :: (dd, treeD w t1 t2 t3 t4 t5 t6' tnT td txT trt' n x f db root1) :: (db, odb1) :: (f, fo) :: (c, oc) :: (ce, oe) :: (d, od2) :: (em, listOf vsE.toArray cntE) :: (lv, listOf vsL.toArray cntL) :: (tlL ++ (junk ++ (lv0, listOf vsL0.toArray cntL0) :: (tlL0 ++ (junk0 ++ keep))))) (p := p) (p0 := p0) (y := y) (v0 := v) (key := bts n (p : Int)) (s := { s with heap := h2, toks := tk2 }) B X T F2 S.hn1 hn (bts_len n _) hdec (bts_len n _) hdec0 rfl P1 P2 P3 (x1.1.trans x2.1) v1 v2 (fun j e hj => (v3 j e hj).mono x2.1) (nperm N2 pt_2c) (D2.perm pt_2c) (nmp.at 0 rfl) (nm.at 2 rfl) (nm.at 4 rfl) (nm.at 1 rfl)
    fun h3 tk3 q3' typ' vsP' esP' F3 N3 D3 Q1 Q2 Q3 => ?_
  have nm1 : Nm ((Str.ofString "number", .int (p : Int) tp) :: [(Str.ofString "size", .int (n : Int) tn), (Str.ofString "default", .bytes x.toArray tx), (Str.ofString "depth", .int ((8 * n : Nat) : Int) tdp), (Str.ofString "hash_of", .ref f), (Str.ofString "empty", .ref em), (Str.ofString "tree", .ref tr), (Str.ofString "held", .ref hld), (Str.ofString "keys", .ref kl), (Str.ofString "numbers", .ref nl), (Str.ofString "first", .int (p1 : Int) ta), (Str.ofString "second", .int (p2 : Int) tb), (Str.ofString "third", .int (p3 : Int) tc)]) _ := nm.sub fun q hq => (by
    rcases List.mem_cons.mp hq with rfl | hq
    · exact List.mem_of_getElem? (i := 3) rfl
    · exact List.mem_cons_of_mem _ (List.mem_cons_of_mem _ (List.mem_cons_of_mem _ (List.mem_cons_of_mem _ (List.mem_cons_of_mem _ (List.mem_cons_of_mem _ hq))))))
  refine cont h3 tk3 _ F3 ⟨B3, od2, odb1, hobj', kvs1, root1, t6', trt', stored hk (p : Int) (.bytes y.toArray ty), vsK ++ [Value.bytes (bts n (p : Int)).toArray tkey], cnt1, lv, vsL, cntL, tlL, (rs, tupOf vs) :: (junk ++ (lv0, listOf vsL0.toArray cntL0) :: (tlL0 ++ junk0)), pf, pd, pb, q1, q2, q3', q4, q5, q6, tk0, tnp, typ', tbp, vsP', esP', cntP,
    nperm N3 pt_2d, D3.perm pt_2d, R2, by omega, by omega, d2, hHo.put p y ty, by have := stored_length_le hk (p : Int) (.bytes y.toArray ty); omega, l2, Q1, Q2, Q3, by rw [List.map_append]; exact hK.append (.cons .nil), by rw [List.length_append, hKl]; rfl, ?_, nmp.at 0 rfl, nm.at 0 rfl⟩ nm1
  intro q hq
  rw [at_stored]
  split
  · rfl
  · rename_i hne
    rcases List.mem_append.mp hq with h | h
    · exact hKs q h
    · rw [List.mem_singleton] at h
      exact absurd (by rw [h]) hne
end
end

section
-- L10
open PySem PySem.W PySem.Calls PyProof.Rows
set_option Elab.async false
set_option maxRecDepth 100000
set_option linter.unusedVariables false
noncomputable def lawTarget : Expr := match lawFor with
  | .For t _ _ _ _ => t
  | _ => .Name (Str.ofString "") default
section
variable {α : Type} {pf pd pb kl hd lv a b c d e f g m i : α} {tL j keep tl : List α}
theorem pt_it : (pf :: pd :: pb :: kl :: hd :: a :: b :: c :: d :: e :: f :: g :: m :: lv :: (tL ++ (j ++ (i :: keep)))).Perm (i :: (pf :: pd :: pb :: kl :: hd :: a :: b :: c :: d :: e :: f :: g :: m :: lv :: (tL ++ (j ++ keep)))) := by (refine perm_of ?_; intro _ kpa; simp only [List.count_cons, List.count_append, List.count_nil, List.append_assoc, List.cons_append, List.nil_append] <;> ac_rfl)
end
/-- the iterator apart from the rest -/
theorem After.split {w : World} {h₀ : Heap} {L : Addr} {n : Nat} {x : Bs} {f c ce d tr dd db em : Addr} {fo oc oe : Obj} {t1 t2 t3 t4 t5 tnT td txT : Tok} {vsE : List Value} {cntE : Nat} {B1 : List Bs} {hld kl : Addr} {p0 k : Nat} {v : Nat → Bs} {ks : List Nat}
    {m : Str → Option Value} {h : Heap} {keep : List (Addr × Obj)} {I : Addr} {it : Obj}
    (Af : After w h₀ L n x f c ce d tr dd db em fo oc oe t1 t2 t3 t4 t5 tnT td txT vsE cntE B1 hld kl p0 k v ks m h ((I, it) :: keep)) :
    ∃ news, News h₀ L h ((I, it) :: news) ∧ ND ((I, it) :: news) ∧ (∀ q ∈ keep, q ∈ news) ∧
      (∀ h' it' m', News h₀ L h' ((I, it') :: news) → m' (Str.ofString "proof") = m (Str.ofString "proof") → m' (Str.ofString "levels") = m (Str.ofString "levels") → After w h₀ L n x f c ce d tr dd db em fo oc oe t1 t2 t3 t4 t5 tnT td txT vsE cntE B1 hld kl p0 k v ks m' h' ((I, it') :: keep)) ∧
      ∀ h' m', News h₀ L h' news → m' (Str.ofString "proof") = m (Str.ofString "proof") → m' (Str.ofString "levels") = m (Str.ofString "levels") → After w h₀ L n x f c ce d tr dd db em fo oc oe t1 t2 t3 t4 t5 tnT td txT vsE cntE B1 hld kl p0 k v ks m' h' keep := by
  obtain ⟨B0, od, odb, hobj, kvs, root, t6, trt, hk, vsK, cntK, lv0, vsL0, cntL0, tlL0, junk0, pf, pd, pb, q1, q2, q3, q4, q5, q6, tk0, tnp, typ, tbp, vsP, esP, cntP, N, D, R, bl, kvl, hHd, hHo, hHl, hLv0, P1, P2, P3, hK, hKl, hKs, nP, nL⟩ := Af
  refine ⟨_, nperm N pt_it, D.perm pt_it, fun q hq => ?_, fun h' it' m' N' e1 e2 => ?_, fun h' m' N' e1 e2 => ?_⟩
  · iterate 14 refine List.mem_cons_of_mem _ ?_
    exact List.mem_append_right _ (List.mem_append_right _ hq)
  · exact ⟨B0, od, odb, hobj, kvs, root, t6, trt, hk, vsK, cntK, lv0, vsL0, cntL0, tlL0, junk0, pf, pd, pb, q1, q2, q3, q4, q5, q6, tk0, tnp, typ, tbp, vsP, esP, cntP, nperm N' pt_it.symm, ((nd_of N' ((D.perm pt_it).upd rfl)).perm pt_it.symm), R, bl, kvl, hHd, hHo, hHl, hLv0, P1, P2, P3, hK, hKl, hKs, e1.trans nP, e2.trans nL⟩
  · exact ⟨B0, od, odb, hobj, kvs, root, t6, trt, hk, vsK, cntK, lv0, vsL0, cntL0, tlL0, junk0, pf, pd, pb, q1, q2, q3, q4, q5, q6, tk0, tnp, typ, tbp, vsP, esP, cntP, N', nd_tail (D.perm pt_it), R, bl, kvl, hHd, hHo, hHl, hLv0, P1, P2, P3, hK, hKl, hKs, e1.trans nP, e2.trans nL⟩
section
local macro_rules | `(tactic| walk_at "execs cons") => `(tactic| ((with_reducible show wpAny _ _ (execs (Stmt.Assign [Expr.Name ("key" : Str) _] _ _ :: _) _) _ _ _); (with_reducible refine Hold.mk ?_)))
local macro_rules | `(tactic| walk_at "exec For Tuple Subscript cons nil") => `(tactic| ((rename Fr _ _ _ _ => lF'); (with_unfolding_all refine' For_turns (hE := by assumption) lF' ?_; k_whole)))
set_option maxHeartbeats 8000000 in
theorem assign_deed {w : World} {h₀ : Heap} {L fa : Addr} {cd : Value} {mean : ExcName → Option Value} {mg mb : Str → Option Value} {s : Shared} {m : Str → Option Value} {Q : Unit → Shared → Prop} {E : Value → Shared → Prop}
   {p : Nat} {y : Bs} {gone : Bool} {a : Addr} {tp ty : Tok} {news : List (Addr × Obj)}
   (B : Below callerA h₀ [] h₀) (X : (hd.heap_39 w.params).In h₀) (T : Top topProg LOOSE mean mg mb h₀) (F : Fr h₀ L s.heap m) (N : News h₀ L s.heap news)
   (ha : (a, ({ cls := .type "tuple", data := .seq #[.int (p : Int) tp, .bytes y.toArray ty, .bool gone] } : Obj)) ∈ news)
   (h : ∀ h' tk, Fr h₀ L h' (fun zz => if zz = Str.ofString "gone" then some (.bool gone) else if zz = Str.ofString "value" then some (.bytes y.toArray ty) else if zz = Str.ofString "number" then some (.int (p : Int) tp) else m zz) → News h₀ L h' news → Q () { s with heap := h', toks := tk }) :
   wpAny (model PR w) (callerA.deeper (lawEnv L fa cd)) (assign lawTarget (lawEnv L fa cd) (.ref a)) Q E s := by
  w_on
  unfold lawEnv
  rw [show lawScope = Scope.mk _ _ _ _ _ from rfl, show lawTarget = Expr.Tuple _ _ _ from rfl]
  k_steps
  rename Fr _ _ _ _ => F2
  rename News _ _ _ _ => N2
  exact h _ _ F2 N2
end
section
variable {w : World} {h₀ : Heap} {L fa : Addr} {cd : Value} {mean : ExcName → Option Value} {mg mb : Str → Option Value} {s : Shared} {Q : Flow → Shared → Prop} {E : Value → Shared → Prop}
   {n : Nat} {x : Bs} {f c ce d tr dd db em : Addr} {fo oc oe : Obj} {t1 t2 t3 t4 t5 tnT td txT : Tok} {vsE : List Value} {cntE : Nat} {esE B1 : List Bs} {hld kl nl I ax : Addr} {lo : Obj} {tn tx tdp ta tb tc : Tok} {p0 p1 p2 p3 : Nat} {keep : List (Addr × Obj)}
/-- what is left of the loop, behind k turns -/
def Left (w : World) (h₀ : Heap) (L fa : Addr) (cd : Value) (s : Shared) (Q : Flow → Shared → Prop) (E : Value → Shared → Prop) (n : Nat) (x : Bs) (f c ce d tr dd db em : Addr) (fo oc oe : Obj) (t1 t2 t3 t4 t5 tnT td txT : Tok) (vsE : List Value) (cntE : Nat) (B1 : List Bs) (hld kl nl I ax : Addr) (lo : Obj) (tn tx tdp ta tb tc : Tok) (p0 p1 p2 p3 : Nat) (keep : List (Addr × Obj))
    (k pl : Nat) (tl : Tok) (v : Nat → Bs) (ks : List Nat) (r : List Itm) : Prop :=
  ∀ (h : Heap) (m : Str → Option Value) (news : List (Addr × Obj)) (it : Obj), Fr h₀ L h m → News h₀ L h ((I, it) :: news) → (∀ q ∈ keep, q ∈ news) →
    (∀ h' it' m', News h₀ L h' ((I, it') :: news) → m' (Str.ofString "proof") = m (Str.ofString "proof") → m' (Str.ofString "levels") = m (Str.ofString "levels") → After w h₀ L n x f c ce d tr dd db em fo oc oe t1 t2 t3 t4 t5 tnT td txT vsE cntE B1 hld kl p0 k v ks m' h' ((I, it') :: keep)) →
    (∀ h' m', News h₀ L h' news → m' (Str.ofString "proof") = m (Str.ofString "proof") → m' (Str.ofString "levels") = m (Str.ofString "levels") → After w h₀ L n x f c ce d tr dd db em fo oc oe t1 t2 t3 t4 t5 tnT td txT vsE cntE B1 hld kl p0 k v ks m' h' keep) →
    Nm ((Str.ofString "number", .int (pl : Int) tl) :: [(Str.ofString "size", .int (n : Int) tn), (Str.ofString "default", .bytes x.toArray tx), (Str.ofString "depth", .int ((8 * n : Nat) : Int) tdp), (Str.ofString "hash_of", .ref f), (Str.ofString "empty", .ref em), (Str.ofString "tree", .ref tr), (Str.ofString "held", .ref hld), (Str.ofString "keys", .ref kl), (Str.ofString "numbers", .ref nl), (Str.ofString "first", .int (p1 : Int) ta), (Str.ofString "second", .int (p2 : Int) tb), (Str.ofString "third", .int (p3 : Int) tc)]) m → ItemsRest PR w (callerA.deeper (lawEnv L fa cd)) E h₀ (lawEnv L fa cd) lawTarget turnBody Q s [(I, "list_iterator")] [(ax, lo)] r m news
theorem left_zero {k pl : Nat} {tl : Tok} {v : Nat → Bs} {ks : List Nat}
    (cont : ∀ (h' : Heap) (tk : Nat) (m' : Str → Option Value), Fr h₀ L h' m' → After w h₀ L n x f c ce d tr dd db em fo oc oe t1 t2 t3 t4 t5 tnT td txT vsE cntE B1 hld kl p0 k v ks m' h' keep → Nm ((Str.ofString "number", .int (pl : Int) tl) :: [(Str.ofString "size", .int (n : Int) tn), (Str.ofString "default", .bytes x.toArray tx), (Str.ofString "depth", .int ((8 * n : Nat) : Int) tdp), (Str.ofString "hash_of", .ref f), (Str.ofString "empty", .ref em), (Str.ofString "tree", .ref tr), (Str.ofString "held", .ref hld), (Str.ofString "keys", .ref kl), (Str.ofString "numbers", .ref nl), (Str.ofString "first", .int (p1 : Int) ta), (Str.ofString "second", .int (p2 : Int) tb), (Str.ofString "third", .int (p3 : Int) tc)]) m' → Q .next { s with heap := h', toks := tk }) :
    Left w h₀ L fa cd s Q E n x f c ce d tr dd db em fo oc oe t1 t2 t3 t4 t5 tnT td txT vsE cntE B1 hld kl nl I ax lo tn tx tdp ta tb tc p0 p1 p2 p3 keep k pl tl v ks [] := fun h m news it F N sub re1 re2 nm =>
  ItemsRest.zero fun h' tk F' N' => cont h' tk m F' (re2 h' m N' rfl rfl) nm
theorem off_of {it : Obj} {news : List (Addr × Obj)} (D : ND ((I, it) :: news)) : ∀ p ∈ news, ∀ q ∈ [(I, it)], p.1 ≠ q.1 := fun p hp q hq => by
  rw [List.mem_singleton] at hq
  subst hq
  exact (D.ne (b := p.1) (o' := p.2) hp).symm
set_option maxHeartbeats 4000000 in
theorem left_step {k pl p : Nat} {tl tp ty : Tok} {v : Nat → Bs} {ks : List Nat} {r : List Itm} {a : Addr} {y : Bs} {gone : Bool}
    (B : Below callerA h₀ [] h₀) (X : (hd.heap_39 w.params).In h₀) (T : Top topProg LOOSE mean mg mb h₀) (S : Sta n x f c ce d tr dd db em fo oc oe vsE esE B1)
    (hk2 : k ≤ 2) (hHs : (hld == sysModules) = false) (hp0 : p0 < 256 ^ n) (hp : p < 256 ^ n) (hy : y.length ≤ 64) (hg : gone = true → y = x)
    (ha : (a, tupOf [.int (p : Int) tp, .bytes y.toArray ty, .bool gone]) ∈ keep) (hax : (ax, lo) ∈ keep)
    (next : Left w h₀ L fa cd s Q E n x f c ce d tr dd db em fo oc oe t1 t2 t3 t4 t5 tnT td txT vsE cntE B1 hld kl nl I ax lo tn tx tdp ta tb tc p0 p1 p2 p3 keep (k + 1) p tp (upd v p y) (ks ++ [p]) r) :
    Left w h₀ L fa cd s Q E n x f c ce d tr dd db em fo oc oe t1 t2 t3 t4 t5 tnT td txT vsE cntE B1 hld kl nl I ax lo tn tx tdp ta tb tc p0 p1 p2 p3 keep k pl tl v ks (.val (.ref a) :: r) := fun h m news it F N sub re1 re2 nm => by
  refine ItemsRest.val fun h' tk F' => AllObj.cons fun it' hc => AllObj.nil fun N' => ?_
  refine assign_deed (s := { s with heap := h', toks := tk }) B X T F' N' (List.mem_append_right _ (sub _ ha)) fun h2 tk2 F2 N2 => ?_
  have nm2 := ((nm.tail.put (Str.ofString "number") (.int (p : Int) tp) (by (simp only [List.map_cons, List.map_nil]; decide))).put (Str.ofString "value") (.bytes y.toArray ty) (by (simp only [List.map_cons, List.map_nil]; decide))).put (Str.ofString "gone") (.bool gone) (by (simp only [List.map_cons, List.map_nil]; decide))
  refine turn2 (nl := nl) (tn := tn) (tx := tx) (tdp := tdp) (ta := ta) (tb := tb) (tc := tc) (tp := tp) (ty := ty) (p1 := p1) (p2 := p2) (p3 := p3) (s := { s with heap := h2, toks := tk2 }) (keep := (I, it') :: keep) B X T S F2 (re1 h2 it' _ N2 (by (show (if _ then _ else if _ then _ else if _ then _ else _) = _; rw [if_neg (by decide), if_neg (by decide), if_neg (by decide)])) (by (show (if _ then _ else if _ then _ else if _ then _ else _) = _; rw [if_neg (by decide), if_neg (by decide), if_neg (by decide)]))) hk2 hHs hp0 hp hy hg (nm2.sub fun q hq => ?_) fun h3 tk3 m3 F3 Af3 nm3 => ?_
  · rcases List.mem_cons.mp hq with rfl | hq
    · exact List.mem_of_getElem? (i := 2) rfl
    rcases List.mem_cons.mp hq with rfl | hq
    · exact List.mem_of_getElem? (i := 1) rfl
    rcases List.mem_cons.mp hq with rfl | hq
    · exact List.mem_of_getElem? (i := 0) rfl
    · exact List.mem_cons_of_mem _ (List.mem_cons_of_mem _ (List.mem_cons_of_mem _ hq))
  · obtain ⟨news3, N3, D3, sub3, re3, re4⟩ := Af3.split
    exact ⟨h3, tk3, m3, news3, rfl, F3, N3, off_of D3, ⟨sub3 _ hax, trivial⟩, next h3 m3 news3 it' F3 N3 sub3 re3 re4 nm3⟩
theorem pt_0 {α : Type} {kl hd a b c d e f g m i : α} {keep : List α} : ([i] ++ (kl :: hd :: a :: b :: c :: d :: e :: f :: g :: m :: keep)).Perm (kl :: hd :: a :: b :: c :: d :: e :: f :: g :: m :: (i :: keep)) := by (refine perm_of ?_; intro _ kpa; simp only [List.count_cons, List.count_append, List.count_nil, List.append_assoc, List.cons_append, List.nil_append] <;> ac_rfl)
set_option maxHeartbeats 4000000 in
theorem left_first {m : Str → Option Value} {p : Nat} {tp ty : Tok} {r : List Itm} {a : Addr} {y : Bs} {od odb hobj : Obj} {kvs : List (Bs × Value)} {root : Bs} {t6 trt : Tok} {B0 : List Bs}
    (B : Below callerA h₀ [] h₀) (X : (hd.heap_39 w.params).In h₀) (T : Top topProg LOOSE mean mg mb h₀) (S : Sta n x f c ce d tr dd db em fo oc oe vsE esE B1)
    (R : TrS w n (fun _ => x) B1 B0 od odb kvs root) (hBl : B0.length ≤ 600) (hkl : kvs.length ≤ 300) (hHd : hobj.IsDictOf (intKind PR w) []) (hHs : (hld == sysModules) = false) (hp : p < 256 ^ n) (hy : y.length ≤ 64) (hne : y ≠ [])
    (ha : (a, tupOf [.int (p : Int) tp, .bytes y.toArray ty, .bool false]) ∈ keep) (hax : (ax, lo) ∈ keep)
    (D : ND ((kl, listOf #[] 0) :: (hld, hobj) :: (tr, instObj 235 dd) :: (dd, treeD w t1 t2 t3 t4 t5 t6 tnT td txT trt n x f db root) :: (db, odb) :: (f, fo) :: (c, oc) :: (ce, oe) :: (d, od) :: (em, listOf vsE.toArray cntE) :: keep)) (lI : ∀ q ∈ ((kl, listOf #[] 0) :: (hld, hobj) :: (tr, instObj 235 dd) :: (dd, treeD w t1 t2 t3 t4 t5 t6 tnT td txT trt n x f db root) :: (db, odb) :: (f, fo) :: (c, oc) :: (ce, oe) :: (d, od) :: (em, listOf vsE.toArray cntE) :: keep), q.1 < I)
    (nm : Nm ((Str.ofString "proof", .none) :: [(Str.ofString "size", .int (n : Int) tn), (Str.ofString "default", .bytes x.toArray tx), (Str.ofString "depth", .int ((8 * n : Nat) : Int) tdp), (Str.ofString "hash_of", .ref f), (Str.ofString "empty", .ref em), (Str.ofString "tree", .ref tr), (Str.ofString "held", .ref hld), (Str.ofString "keys", .ref kl), (Str.ofString "numbers", .ref nl), (Str.ofString "first", .int (p1 : Int) ta), (Str.ofString "second", .int (p2 : Int) tb), (Str.ofString "third", .int (p3 : Int) tc)]) m)
    (next : Left w h₀ L fa cd s Q E n x f c ce d tr dd db em fo oc oe t1 t2 t3 t4 t5 tnT td txT vsE cntE B1 hld kl nl I ax lo tn tx tdp ta tb tc p p1 p2 p3 keep 1 p tp (upd (fun _ => x) p y) [p] r) :
    ItemsRest PR w (callerA.deeper (lawEnv L fa cd)) E h₀ (lawEnv L fa cd) lawTarget turnBody Q s [(I, "list_iterator")] [(ax, lo)] (.val (.ref a) :: r) m ((kl, listOf #[] 0) :: (hld, hobj) :: (tr, instObj 235 dd) :: (dd, treeD w t1 t2 t3 t4 t5 t6 tnT td txT trt n x f db root) :: (db, odb) :: (f, fo) :: (c, oc) :: (ce, oe) :: (d, od) :: (em, listOf vsE.toArray cntE) :: keep) := by
  refine ItemsRest.val fun h' tk F' => AllObj.cons fun it' hc => AllObj.nil fun N' => ?_
  have ha2 : (a, tupOf [.int (p : Int) tp, .bytes y.toArray ty, .bool false]) ∈ ((kl, listOf #[] 0) :: (hld, hobj) :: (tr, instObj 235 dd) :: (dd, treeD w t1 t2 t3 t4 t5 t6 tnT td txT trt n x f db root) :: (db, odb) :: (f, fo) :: (c, oc) :: (ce, oe) :: (d, od) :: (em, listOf vsE.toArray cntE) :: keep) := by
    iterate 10 refine List.mem_cons_of_mem _ ?_
    exact ha
  refine assign_deed (s := { s with heap := h', toks := tk }) B X T F' N' (List.mem_append_right _ ha2) fun h2 tk2 F2 N2 => ?_
  have nm2 := ((nm.put (Str.ofString "number") (.int (p : Int) tp) (by (simp only [List.map_cons, List.map_nil]; decide))).put (Str.ofString "value") (.bytes y.toArray ty) (by (simp only [List.map_cons, List.map_nil]; decide))).put (Str.ofString "gone") (.bool false) (by (simp only [List.map_cons, List.map_nil]; decide))
  have D2 := (D.new (a := I) (o := it') (allLt_of lI)).perm pt_0
  refine turn1 (nl := nl) (tn := tn) (tx := tx) (tdp := tdp) (ta := ta) (tb := tb) (tc := tc) (tp := tp) (ty := ty) (p1 := p1) (p2 := p2) (p3 := p3) (s := { s with heap := h2, toks := tk2 }) (keep := (I, it') :: keep) B X T S F2 R hBl hkl hHd hHs hp hy hne (nperm N2 pt_0) D2 (nm2.sub fun q hq => ?_) fun h3 tk3 m3 F3 Af3 nm3 => ?_
  · rcases List.mem_cons.mp hq with rfl | hq
    · exact List.mem_of_getElem? (i := 2) rfl
    rcases List.mem_cons.mp hq with rfl | hq
    · exact List.mem_of_getElem? (i := 1) rfl
    rcases List.mem_cons.mp hq with rfl | hq
    · exact List.mem_of_getElem? (i := 0) rfl
    · exact List.mem_cons_of_mem _ (List.mem_cons_of_mem _ (List.mem_cons_of_mem _ hq))
  · obtain ⟨news3, N3, D3, sub3, re3, re4⟩ := Af3.split
    exact ⟨h3, tk3, m3, news3, rfl, F3, N3, off_of D3, ⟨sub3 _ hax, trivial⟩, next h3 m3 news3 it' F3 N3 sub3 re3 re4 nm3⟩
end
end

section
-- L11
local macro_rules | `(tactic| walk_at "no such key") => `(tactic| fail)
local macro_rules | `(tactic| walk_at "no such key") => `(tactic| fail)
local macro_rules | `(tactic| walk_at "no such key") => `(tactic| fail)
open PySem PySem.W PySem.Calls PyProof.Rows
set_option Elab.async false
set_option maxRecDepth 100000
set_option linter.unusedVariables false
section
variable {α : Type} {nw dl a1 a2 a3 kl hd a b c d e f g m : α} {tl : List α}
theorem pt_l : (nw :: dl :: a1 :: a2 :: a3 :: kl :: hd :: a :: b :: c :: d :: e :: f :: g :: m :: tl).Perm (kl :: hd :: a :: b :: c :: d :: e :: f :: g :: m :: ([nw, dl, a1, a2, a3] ++ tl)) := by (refine perm_of ?_; intro _ kpa; simp only [List.count_cons, List.count_append, List.count_nil, List.append_assoc, List.cons_append, List.nil_append] <;> ac_rfl)
theorem mm_l : ∀ q ∈ [nw, dl, a1, a2, a3], q ∈ (kl :: hd :: a :: b :: c :: d :: e :: f :: g :: m :: ([nw, dl, a1, a2, a3] ++ tl)) := fun q hq => by
  iterate 10 refine List.mem_cons_of_mem _ ?_
  exact List.mem_append_left _ hq
theorem mk_l : ∀ q ∈ [nw, dl, a1, a2, a3], q ∈ ([nw, dl, a1, a2, a3] ++ tl) := fun q hq => List.mem_append_left _ hq
end
section
local macro_rules | `(tactic| walk_at "exec For Tuple Subscript cons nil") => `(tactic| ((rename Fr _ _ _ _ => lF'); (with_unfolding_all refine' For_turns (hE := by assumption) lF' ?_; k_whole)))
set_option maxHeartbeats 8000000 in
theorem lawLoop
   {w : World} {h₀ : Heap} {L fa : Addr} {cd : Value} {mean : ExcName → Option Value} {mg mb : Str → Option Value} {s : Shared} {m : Str → Option Value} {Q : Flow → Shared → Prop} {E : Value → Shared → Prop}
   {n : Nat} {x : Bs} {f c ce d tr dd db em : Addr} {fo oc oe : Obj} {t1 t2 t3 t4 t5 tnT td txT : Tok} {vsE : List Value} {cntE : Nat} {esE B1 : List Bs}
   (B : Below callerA h₀ [] h₀) (X : (hd.heap_39 w.params).In h₀) (T : Top topProg LOOSE mean mg mb h₀) (S : Sta n x f c ce d tr dd db em fo oc oe vsE esE B1) (F : Fr h₀ L s.heap m)
   {v1 v2 v3 : Bs} {gone2 gone3 : Bool} {B0 : List Bs} {od odb hobj : Obj} {kvs : List (Bs × Value)} {root : Bs} {hld kl nl dl a1 a2 a3 : Addr} {tn tx tdp ta tb tc tv1 tb' tc' tv2 tv3 t6 trt : Tok} {p1 p2 p3 : Nat} {tl : List (Addr × Obj)}
   (hE : PassesOwn (model PR w) (callerA.deeper (lawEnv L fa cd)) (lawEnv L fa cd) E)
   (R : TrS w n (fun _ => x) B1 B0 od odb kvs root) (hBl : B0.length ≤ 600) (hkl : kvs.length ≤ 300) (hHd : hobj.IsDictOf (intKind PR w) []) (hHs : (hld == sysModules) = false)
   (hp1 : p1 < 256 ^ n) (hp2 : p2 < 256 ^ n) (hp3 : p3 < 256 ^ n) (hv1 : v1.length = 4) (hv2 : v2.length ≤ 64 ∧ v2.length ≠ 6) (hg2 : gone2 = true → v2 = x) (hv3 : v3.length ≤ 64 ∧ v3.length ≠ 6) (hg3 : gone3 = true → v3 = x)
   (N : News h₀ L s.heap ((dl, listOf #[.ref a1, .ref a2, .ref a3] 0) :: (a1, tupOf [.int (p1 : Int) ta, .bytes v1.toArray tv1, .bool false]) :: (a2, tupOf [.int (p2 : Int) tb', .bytes v2.toArray tv2, .bool gone2]) :: (a3, tupOf [.int (p3 : Int) tc', .bytes v3.toArray tv3, .bool gone3]) :: (kl, listOf #[] 0) :: (hld, hobj) :: (tr, instObj 235 dd) :: (dd, treeD w t1 t2 t3 t4 t5 t6 tnT td txT trt n x f db root) :: (db, odb) :: (f, fo) :: (c, oc) :: (ce, oe) :: (d, od) :: (em, listOf vsE.toArray cntE) :: tl))
   (D : ND ((dl, listOf #[.ref a1, .ref a2, .ref a3] 0) :: (a1, tupOf [.int (p1 : Int) ta, .bytes v1.toArray tv1, .bool false]) :: (a2, tupOf [.int (p2 : Int) tb', .bytes v2.toArray tv2, .bool gone2]) :: (a3, tupOf [.int (p3 : Int) tc', .bytes v3.toArray tv3, .bool gone3]) :: (kl, listOf #[] 0) :: (hld, hobj) :: (tr, instObj 235 dd) :: (dd, treeD w t1 t2 t3 t4 t5 t6 tnT td txT trt n x f db root) :: (db, odb) :: (f, fo) :: (c, oc) :: (ce, oe) :: (d, od) :: (em, listOf vsE.toArray cntE) :: tl))
   (nm : Nm ((Str.ofString "deeds", .ref dl) :: (Str.ofString "proof", .none) :: [(Str.ofString "size", .int (n : Int) tn), (Str.ofString "default", .bytes x.toArray tx), (Str.ofString "depth", .int ((8 * n : Nat) : Int) tdp), (Str.ofString "hash_of", .ref f), (Str.ofString "empty", .ref em), (Str.ofString "tree", .ref tr), (Str.ofString "held", .ref hld), (Str.ofString "keys", .ref kl), (Str.ofString "numbers", .ref nl), (Str.ofString "first", .int (p1 : Int) ta), (Str.ofString "second", .int (p2 : Int) tb), (Str.ofString "third", .int (p3 : Int) tc)]) m)
   (cont : ∀ (h' : Heap) (tk : Nat) (m' : Str → Option Value) (k pl : Nat) (tpl : Tok) (v : Nat → Bs) (ks : List Nat) (J : List (Addr × Obj)), Fr h₀ L h' m' → After w h₀ L n x f c ce d tr dd db em fo oc oe t1 t2 t3 t4 t5 tnT td txT vsE cntE B1 hld kl p1 k v ks m' h' (J ++ tl) →
     Nm ((Str.ofString "number", .int (pl : Int) tpl) :: [(Str.ofString "size", .int (n : Int) tn), (Str.ofString "default", .bytes x.toArray tx), (Str.ofString "depth", .int ((8 * n : Nat) : Int) tdp), (Str.ofString "hash_of", .ref f), (Str.ofString "empty", .ref em), (Str.ofString "tree", .ref tr), (Str.ofString "held", .ref hld), (Str.ofString "keys", .ref kl), (Str.ofString "numbers", .ref nl), (Str.ofString "first", .int (p1 : Int) ta), (Str.ofString "second", .int (p2 : Int) tb), (Str.ofString "third", .int (p3 : Int) tc)]) m' → (n ≤ 8 → ks = [p1, p2, p3] ∧ pl = p3) → (8 < n → ks = [p1, p2] ∧ pl = p2) → k ≤ 3 → (∀ q, (v q).length ≤ 64 ∧ (v q).length ≠ 6) → Q .next { s with heap := h', toks := tk }) :
   wpAny (model PR w) (callerA.deeper (lawEnv L fa cd)) (exec lawFor (lawEnv L fa cd)) Q E s := by
  w_on
  have e1 := nm.at 0 rfl
  have e2 := nm.at 2 rfl
  have hn := S.hn
  have hxl := S.hx
  have hne : v1 ≠ [] := fun e => by rw [e] at hv1; exact absurd hv1 (by decide)
  have hm := ((congrArg (fun q : Str → Option Value => (fun zz => if zz = Str.ofString "deeds" then some (.ref dl) else q zz)) (top_eq e2)).trans (top_eq e1))
  replace F : Fr h₀ L s.heap (fun zz => if zz = Str.ofString "deeds" then some (.ref dl) else if zz = Str.ofString "size" then some (.int (n : Int) tn) else m zz) := fr_cast F fun y => (congrFun hm y).symm
  have hvs1 : ∀ q, ((fun _ => x : Nat → Bs) q).length ≤ 64 ∧ ((fun _ => x : Nat → Bs) q).length ≠ 6 := fun q => ⟨by show x.length ≤ 64; omega, by show x.length ≠ 6; omega⟩
  have hupd : ∀ (v : Nat → Bs) (p : Nat) (y : Bs), (∀ q, (v q).length ≤ 64 ∧ (v q).length ≠ 6) → (y.length ≤ 64 ∧ y.length ≠ 6) → ∀ q, (upd v p y q).length ≤ 64 ∧ (upd v p y q).length ≠ 6 := fun v p y h h' q => by
    unfold upd
    split
    · exact h'
    · exact h q
  have hE' := hE
  unfold lawEnv at hE' ⊢
  rw [show lawScope = Scope.mk _ _ _ _ _ from rfl] at hE' ⊢
  rw [show lawFor = Stmt.For _ _ _ _ _ from rfl]
  generalize hX : (kl, listOf #[] 0) :: (hld, hobj) :: (tr, instObj 235 dd) :: (dd, treeD w t1 t2 t3 t4 t5 t6 tnT td txT trt n x f db root) :: (db, odb) :: (f, fo) :: (c, oc) :: (ce, oe) :: (d, od) :: (em, listOf vsE.toArray cntE) :: tl = tX at N D
  by_cases h8 : n ≤ 8
  · k_steps
    rename Fr _ _ _ _ => F2
    rename News _ _ _ _ => N2
    rename _ ∧ _ ∧ _ ∧ _ ∧ AllLt _ _ => qlt
    replace D := nd_of N2 (D.new qlt)
    subst hX
    refine iter_listTurns (target := lawTarget) (body := turnBody) (env := lawEnv L fa cd) (vs := [.ref a1, .ref a2, .ref a3]) rfl (fr_cast F2 fun y => congrFun hm y) (nperm N2 pt_l) (mm_l _ (List.mem_cons_self ..)) rfl rfl fun I lI => ?_
    refine left_first (nl := nl) (tn := tn) (tx := tx) (tdp := tdp) (ta := ta) (tb := tb) (tc := tc) (p1 := p1) (p2 := p2) (p3 := p3) B X T S R hBl hkl hHd hHs hp1 (by omega) hne (mk_l _ (List.mem_of_getElem? (i := 2) rfl)) (mk_l _ (List.mem_cons_self ..)) (D.perm pt_l) lI nm.tail ?_
    refine left_step B X T S (by decide) hHs hp1 hp2 hv2.1 hg2 (mk_l _ (List.mem_of_getElem? (i := 3) rfl)) (mk_l _ (List.mem_cons_self ..)) ?_
    refine left_step B X T S (by decide) hHs hp1 hp3 hv3.1 hg3 (mk_l _ (List.mem_of_getElem? (i := 4) rfl)) (mk_l _ (List.mem_cons_self ..)) ?_
    exact left_zero fun h' tk m' F3 Af nm3 => cont h' tk m' 3 p3 tc' _ _ [_, _, _, _, _] F3 Af nm3 (fun _ => ⟨rfl, rfl⟩) (fun h => absurd h8 (by omega)) (by decide) (hupd _ _ _ (hupd _ _ _ (hupd _ _ _ hvs1 (by omega)) hv2) hv3)
  · k_steps
    rename Fr _ _ _ _ => F2
    rename News _ _ _ _ => N2
    rename _ ∧ _ ∧ _ ∧ _ ∧ AllLt _ _ => qlt
    replace D := nd_of N2 (D.new qlt)
    subst hX
    refine iter_listTurns (target := lawTarget) (body := turnBody) (env := lawEnv L fa cd) (vs := [.ref a1, .ref a2]) rfl (fr_cast F2 fun y => congrFun hm y) (nperm N2 pt_l) (mm_l _ (List.mem_cons_self ..)) rfl rfl fun I lI => ?_
    refine left_first (nl := nl) (tn := tn) (tx := tx) (tdp := tdp) (ta := ta) (tb := tb) (tc := tc) (p1 := p1) (p2 := p2) (p3 := p3) B X T S R hBl hkl hHd hHs hp1 (by omega) hne (mk_l _ (List.mem_of_getElem? (i := 2) rfl)) (mk_l _ (List.mem_cons_self ..)) (D.perm pt_l) lI nm.tail ?_
    refine left_step B X T S (by decide) hHs hp1 hp2 hv2.1 hg2 (mk_l _ (List.mem_of_getElem? (i := 3) rfl)) (mk_l _ (List.mem_cons_self ..)) ?_
    exact left_zero fun h' tk m' F3 Af nm3 => cont h' tk m' 2 p2 tb' _ _ [_, _, _, _, _] F3 Af nm3 (fun h => absurd h h8) (fun _ => ⟨rfl, rfl⟩) (by decide) (hupd _ _ _ (hupd _ _ _ hvs1 (by omega)) hv2)
end
end

section
-- LD0
open PySem PySem.W PySem.Calls PyProof.Rows
set_option Elab.async false
set_option maxRecDepth 100000
set_option linter.unusedVariables false
section
variable {w : World} {mean : ExcName → Option Value} {mg mb : Str → Option Value} {s : Shared} {R : Result → Shared → Prop}
/-- a call at the law whose callee turns the ground (it holds a try) -/
theorem lawCallS {A A₀ : Around} {h₀ : Heap} {env : Env} {L : Addr} {m : Str → Option Value} {FP tl : List (Addr × Obj)} {c : Code}
    (B : Below A₀ h₀ [] h₀) (F : Fr h₀ L s.heap m) (X : (hd.heap_39 w.params).In h₀) (T : Top topProg LOOSE mean mg mb h₀) (N : News h₀ L s.heap (FP ++ tl)) (D : ND (FP ++ tl))
    (hf : env.frame = some L) (hke : env.scope.kind = .function) (hA : A.frames = some [env])
    (k : ∀ g, Ctx w A h₀ [env] g mean mg mb → KtsDicts ([env].filterMap (·.frame)) g → Own g s.heap FP →
      (∀ h' g' FP', KtsTurn ([env].filterMap (·.frame)) g g' → Own g' h' FP' → ND FP' → Fr h₀ L h' m ∧ News h₀ L h' (FP' ++ tl) ∧ ND (FP' ++ tl)) →
      codeAny (model PR w) A c R s) :
    codeAny (model PR w) A c R s := by
  have NF : News h₀ L s.heap FP := fun p hp => N p (List.mem_append_left _ hp)
  obtain ⟨FG, BG, st, _⟩ := groundX (A := A) (R := R) B F NF hA hf hke
  have efs : [env].filterMap (·.frame) = [L] := by simp [hf]
  obtain ⟨oL, es, ep, hL, hLd, hLk, hLf⟩ := FG.ns
  have far := D.far
  refine k (hideAll s.heap (FP.map (·.1))) ⟨BG, X.keeps fun b o e => st b o e, T.keeps fun b o e => st b o e⟩ (fun b hb => ?_) ⟨fun b o e => of_hideAll _ e, Nat.le_of_eq (hideAll_size _ _), fun p hp => ⟨(NF p hp).1, hideAll_none _ (List.mem_map_of_mem hp)⟩⟩ (fun h' g' FP' TN O' D' => ?_)
  · rw [efs, List.mem_singleton] at hb
    subst hb
    first | exact ⟨oL, es, ep, hL, hLd⟩ | exact ⟨oL, es, ep, hL, hLd.2⟩
  · obtain ⟨sl, hsl⟩ := TN.frame L oL hL (by rw [efs]; exact List.mem_singleton.mpr rfl)
    have ns : ∀ b, b ≠ L → b ∉ [env].filterMap (·.frame) := fun b hb q => by
      rw [efs, List.mem_singleton] at q
      exact hb q
    have fz : ∀ p ∈ tl, g'.get? p.1 = some p.2 := fun p hp => TN.other _ _ (hideAll_get _ (N p (List.mem_append_right _ hp)).1 fun q => by
      obtain ⟨q', hq, e⟩ := List.mem_map.mp q
      exact far p hp q' hq e) (ns _ (N p (List.mem_append_right _ hp)).2.1)
    refine ⟨⟨⟨{ oL with slots := sl }, es, ep, O'.stays _ _ hsl, hLd, hLk, hLf⟩, fun b o e => O'.stays _ _ (TN.other _ _ (st _ _ e) (ns b (Nat.ne_of_lt (Nat.lt_of_lt_of_le (Heap.lt_size e) F.above)))), F.above⟩, fun p hp => ?_, D'.mk D.right fun p hp q hq => ?_⟩
    · rcases List.mem_append.mp hp with h | h
      · refine ⟨(O'.own p h).1, fun q => ?_, ?_⟩
        · have := (O'.own p h).2; rw [q, hsl] at this; cases this
        · cases q : h₀.get? p.1 with
          | none => rfl
          | some o =>
            have h1 := TN.other _ _ (st _ _ q) (ns p.1 (Nat.ne_of_lt (Nat.lt_of_lt_of_le (Heap.lt_size q) F.above)))
            have := (O'.own p h).2
            rw [h1] at this; cases this
      · exact ⟨O'.stays _ _ (fz p h), (N p (List.mem_append_right _ h)).2⟩
    · intro e
      have h1 := fz p hp
      have h2 := (O'.own q hq).2
      rw [e, h1] at h2
      cases h2
/-- a call at the law, with what stays frozen -/
theorem lawCallF {A A₀ : Around} {base h₀ : Heap} {outer : List Env} {env : Env} {L : Addr} {m : Str → Option Value} {FP tl : List (Addr × Obj)} {c : Code}
    (B : Below A₀ base outer h₀) (F : Fr h₀ L s.heap m) (X : (hd.heap_39 w.params).In h₀) (T : Top topProg LOOSE mean mg mb h₀) (N : News h₀ L s.heap (FP ++ tl)) (D : ND (FP ++ tl))
    (hf : env.frame = some L) (hke : env.scope.kind = .function) (hA : A.frames = some (env :: outer))
    (k : ∀ g, Ctx w A base (env :: outer) g mean mg mb → Own g s.heap FP → (∀ p ∈ tl, g.get? p.1 = some p.2) →
      (∀ h' FP', Own g h' FP' → ND FP' → Fr h₀ L h' m ∧ News h₀ L h' (FP' ++ tl) ∧ ND (FP' ++ tl)) →
      codeAny (model PR w) A c R s) :
    codeAny (model PR w) A c R s :=
  at_call B F X T N FP (fun p hp => List.mem_append_left _ hp) hf hke hA fun g C O back fz => k g C O (fun p hp => fz p (List.mem_append_right _ hp) (D.far p hp)) fun h' FP' O' D' => by
    obtain ⟨F', N'⟩ := back h' FP' O'
    have far := D.far
    refine ⟨F', N' _ fun p hp => ?_, D'.mk D.right fun p hp q hq => ?_⟩
    · rcases List.mem_append.mp hp with h | h
      · exact .inl h
      · exact .inr ⟨List.mem_append_right _ h, far p h⟩
    · have h1 := fz p (List.mem_append_right _ hp) (far p hp)
      intro e
      have h2 := (O'.own q hq).2
      rw [e, h1] at h2
      cases h2
end
end

section
-- LD1
local macro_rules | `(tactic| walk_at "no such key") => `(tactic| fail)
local macro_rules | `(tactic| walk_at "no such key") => `(tactic| fail)
local macro_rules | `(tactic| walk_at "no such key") => `(tactic| fail)
local macro_rules | `(tactic| walk_at "no such key") => `(tactic| fail)
local macro_rules | `(tactic| walk_at "no such key") => `(tactic| fail)
open PySem PySem.W PySem.Calls PyProof.Rows
set_option Elab.async false
set_option maxRecDepth 100000
set_option linter.unusedVariables false
section
variable {α : Type} {pf pd pb kl hd lv rt a b c d e f g m : α} {tL tl : List α}
theorem pd_1 : (pf :: pd :: pb :: kl :: hd :: a :: b :: c :: d :: e :: f :: g :: m :: lv :: (tL ++ tl)).Perm ((lv :: m :: tL) ++ (pf :: pd :: pb :: kl :: hd :: a :: b :: c :: d :: e :: f :: g :: tl)) := by (refine perm_of ?_; intro _ kpa; simp only [List.count_cons, List.count_append, List.count_nil, List.append_assoc, List.cons_append, List.nil_append] <;> ac_rfl)
theorem pd_2 : ((rt :: lv :: m :: tL) ++ (pf :: pd :: pb :: kl :: hd :: a :: b :: c :: d :: e :: f :: g :: tl)).Perm (pf :: pd :: pb :: rt :: kl :: hd :: a :: b :: d :: e :: f :: g :: (c :: m :: lv :: (tL ++ tl))) := by (refine perm_of ?_; intro _ kpa; simp only [List.count_cons, List.count_append, List.count_nil, List.append_assoc, List.cons_append, List.nil_append] <;> ac_rfl)
theorem pd_3 {α : Type} {t2 t1 pf pd pb rt kl hd a b d e f g : α} {tl : List α} : (t2 :: t1 :: pf :: pd :: pb :: rt :: kl :: hd :: a :: b :: d :: e :: f :: g :: tl).Perm ([d, e, f, g] ++ (t2 :: t1 :: pf :: pd :: pb :: rt :: kl :: hd :: a :: b :: tl)) := by (refine perm_of ?_; intro _ kpa; simp only [List.count_cons, List.count_append, List.count_nil, List.append_assoc, List.cons_append, List.nil_append] <;> ac_rfl)
theorem pd_4 {α : Type} {t2 t1 pf pd pb rt kl hd a b d e f g db em lv : α} {tL tl : List α} : (d :: e :: f :: g :: t2 :: t1 :: pf :: pd :: pb :: rt :: kl :: hd :: a :: b :: db :: em :: lv :: (tL ++ tl)).Perm (rt :: kl :: hd :: a :: b :: db :: d :: e :: f :: g :: em :: ((t2 :: t1 :: pf :: pd :: pb :: lv :: tL) ++ tl)) := by (refine perm_of ?_; intro _ kpa; simp only [List.count_cons, List.count_append, List.count_nil, List.append_assoc, List.cons_append, List.nil_append] <;> ac_rfl)
end
section
local macro_rules | `(tactic| walk_at "call ref") => `(tactic| (k_here; (first
  | (with_reducible show wpAny _ _ (call (Value.ref 246) _ _) _ _ _) | (with_reducible show wpAny _ _ (call (Value.ref 253) _ _) _ _ _) | (with_reducible show wpAny _ _ (call (Value.ref 260) _ _) _ _ _) | (with_reducible show wpAny _ _ (call (Value.ref 267) _ _) _ _ _)
  | (with_reducible show wpAny _ _ (call (Value.ref 235) _ _) _ _ _) | (with_reducible show wpAny _ _ (call (Value.ref 190) _ _) _ _ _) | (with_reducible show wpAny _ _ (call (Value.ref 204) _ _) _ _ _) | (with_reducible show wpAny _ _ (call (Value.ref 274) _ _) _ _ _)
  | (with_reducible show wpAny _ _ (call (Value.ref 279) _ _) _ _ _) | (with_reducible show wpAny _ _ (call (Value.ref 284) _ _) _ _ _) | (with_reducible show wpAny _ _ (call (Value.ref 176) _ _) _ _ _) | (with_reducible show wpAny _ _ (call (Value.ref 132) _ _) _ _ _)
  | (with_reducible show wpAny _ _ (call (Value.ref 129) _ _) _ _ _) | (with_reducible show wpAny _ _ (call (Value.ref 76) _ _) _ _ _) | (with_reducible show wpAny _ _ (call (Value.ref 291) _ _) _ _ _) | (with_reducible show wpAny _ _ (call (Value.ref 298) _ _) _ _ _)
  | (with_reducible show wpAny _ _ (call (Value.ref 305) _ _) _ _ _) | (with_reducible show wpAny _ _ (call (Value.ref 197) _ _) _ _ _) | (with_reducible show wpAny _ _ (call (Value.ref 232) _ _) _ _ _)); (with_reducible refine Hold.mk ?_)))
set_option hygiene false in
local macro_rules | `(tactic| walk_at "compareOp NotEq ref ref") => `(tactic| (k_here; k_dflt (refine' ne_tups ?hl ?hb ?hu ?e1 ?e2 ?_; (case hl => exact News.isTup (by k_asm) (by k_mem)); (case hb => exact News.isTup (by k_asm) (by k_mem)); (case hu => units_room); (case e1 => assumption); (case e2 => assumption))))
local macro_rules | `(tactic| walk_at "execs cons") => `(tactic| ((with_reducible show wpAny _ _ (execs (Stmt.If (Expr.UnaryOp _ (Expr.Call (Expr.Name ("_law_read" : Str) _) _ _ _) _) _ _ _ :: _) _) _ _ _); (with_reducible refine Hold.mk ?_)))
set_option maxHeartbeats 8000000 in
/-- the root, the siblings and the proof -/
theorem lawD1
   {w : World} {h₀ : Heap} {L fa : Addr} {cd : Value} {mean : ExcName → Option Value} {mg mb : Str → Option Value} {s : Shared} {m : Str → Option Value} {Q : Flow → Shared → Prop} {E : Value → Shared → Prop}
   {n : Nat} {x : Bs} {f c ce d tr dd db em : Addr} {fo oc oe : Obj} {t1 t2 t3 t4 t5 tnT td txT : Tok} {vsE : List Value} {cntE : Nat} {esE B1 : List Bs}
   (B : Below callerA h₀ [] h₀) (X : (hd.heap_39 w.params).In h₀) (T : Top topProg LOOSE mean mg mb h₀) (S : Sta n x f c ce d tr dd db em fo oc oe vsE esE B1) (F : Fr h₀ L s.heap m)
   {p0 : Nat} {v : Nat → Bs} {B0 : List Bs} {od odb hobj : Obj} {kvs : List (Bs × Value)} {hk : List (Int × Value)} {root : Bs} {hld kl lv pf pd pb : Addr} {vsL vsK vsP : List Value} {esP : List Bs} {cntL cntK cntP : Nat} {ta tdp tK t6 trt q1 q2 q3 q4 q5 q6 tk0 tnp typ tbp : Tok} {tlL tl : List (Addr × Obj)}
   (R : TrS w n v B1 B0 od odb kvs root) (hBl : B0.length ≤ 5000) (hHd : hobj.IsDictOf (intKind PR w) hk) (hHo : HeldOk hk x v) (hLv : LvsOk w B0 v hk (8 * n) vsL tlL)
   (P1 : BsAre vsP esP) (P2 : esP.length = 8 * n) (P3 : ∀ j e, esP[j]? = some e → Nd B0 v (8 * n - 1 - j) (sib p0 (8 * n - 1 - j)) e)
   (hK0 : vsK[0]? = some (.bytes (bts n (p0 : Int)).toArray tK)) (hKl : vsK.length ≤ 5) (hK1 : 1 ≤ vsK.length) (hH0 : (valueAt hk (p0 : Int)).isSome = true) (hp0 : p0 < 256 ^ n)
   (N : News h₀ L s.heap ((pf, instObj 132 pd) :: (pd, proofD w q1 q2 q3 q4 q5 q6 tk0 tnp typ tbp n (bts n (p0 : Int)) (v p0) pb f) :: (pb, listOf vsP.toArray cntP) :: (kl, listOf vsK.toArray cntK) :: (hld, hobj) :: (tr, instObj 235 dd) :: (dd, treeD w t1 t2 t3 t4 t5 t6 tnT td txT trt n x f db root) :: (db, odb) :: (f, fo) :: (c, oc) :: (ce, oe) :: (d, od) :: (em, listOf vsE.toArray cntE) :: (lv, listOf vsL.toArray cntL) :: (tlL ++ tl)))
   (D : ND ((pf, instObj 132 pd) :: (pd, proofD w q1 q2 q3 q4 q5 q6 tk0 tnp typ tbp n (bts n (p0 : Int)) (v p0) pb f) :: (pb, listOf vsP.toArray cntP) :: (kl, listOf vsK.toArray cntK) :: (hld, hobj) :: (tr, instObj 235 dd) :: (dd, treeD w t1 t2 t3 t4 t5 t6 tnT td txT trt n x f db root) :: (db, odb) :: (f, fo) :: (c, oc) :: (ce, oe) :: (d, od) :: (em, listOf vsE.toArray cntE) :: (lv, listOf vsL.toArray cntL) :: (tlL ++ tl)))
   (e1 : m (Str.ofString "tree") = some (.ref tr)) (e2 : m (Str.ofString "levels") = some (.ref lv)) (e3 : m (Str.ofString "empty") = some (.ref em)) (e4 : m (Str.ofString "first") = some (.int (p0 : Int) ta)) (e5 : m (Str.ofString "depth") = some (.int ((8 * n : Nat) : Int) tdp)) (e6 : m (Str.ofString "proof") = some (.ref pf)) (e7 : m (Str.ofString "keys") = some (.ref kl)) (e8 : m (Str.ofString "held") = some (.ref hld))
   (cont : ∀ (h' : Heap) (tk : Nat) (sd : Addr) (vsS : List Value) (esS : List Bs) (od' : Obj) (B' : List Bs) (troot : Tok) (junk : List (Addr × Obj)),
     Fr h₀ L h' (fun zz => if zz = Str.ofString "side" then some (.ref sd) else if zz = Str.ofString "root" then some (.bytes root.toArray troot) else m zz) →
     News h₀ L h' ((sd, tupOf vsS) :: (kl, listOf vsK.toArray cntK) :: (hld, hobj) :: (tr, instObj 235 dd) :: (dd, treeD w t1 t2 t3 t4 t5 t6 tnT td txT trt n x f db root) :: (db, odb) :: (f, fo) :: (c, oc) :: (ce, oe) :: (d, od') :: (em, listOf vsE.toArray cntE) :: (junk ++ tl)) → ND ((sd, tupOf vsS) :: (kl, listOf vsK.toArray cntK) :: (hld, hobj) :: (tr, instObj 235 dd) :: (dd, treeD w t1 t2 t3 t4 t5 t6 tnT td txT trt n x f db root) :: (db, odb) :: (f, fo) :: (c, oc) :: (ce, oe) :: (d, od') :: (em, listOf vsE.toArray cntE) :: (junk ++ tl)) →
     TrS w n v B1 B' od' odb kvs root → Ext (8 * n + 1) B0 B' → BsAre vsS esS → esS.length = 8 * n → (∀ j e, esS[j]? = some e → Nd B' v (8 * n - 1 - j) (sib p0 (8 * n - 1 - j)) e) →
     wpAny (model PR w) (callerA.deeper (lawEnv L fa cd)) (execs (lawBody.drop 21) (lawEnv L fa cd)) Q E { s with heap := h', toks := tk }) :
   wpAny (model PR w) (callerA.deeper (lawEnv L fa cd)) (execs (lawBody.drop 18) (lawEnv L fa cd)) Q E s := by
  w_on
  have hn1 := S.hn1
  have hn := S.hn
  have hm := ((congrArg (fun q : Str → Option Value => (fun zz => if zz = Str.ofString "tree" then some (.ref tr) else if zz = Str.ofString "levels" then some (.ref lv) else if zz = Str.ofString "empty" then some (.ref em) else if zz = Str.ofString "first" then some (.int (p0 : Int) ta) else if zz = Str.ofString "depth" then some (.int ((8 * n : Nat) : Int) tdp) else if zz = Str.ofString "proof" then some (.ref pf) else if zz = Str.ofString "keys" then some (.ref kl) else q zz)) (top_eq e8)).trans ((congrArg (fun q : Str → Option Value => (fun zz => if zz = Str.ofString "tree" then some (.ref tr) else if zz = Str.ofString "levels" then some (.ref lv) else if zz = Str.ofString "empty" then some (.ref em) else if zz = Str.ofString "first" then some (.int (p0 : Int) ta) else if zz = Str.ofString "depth" then some (.int ((8 * n : Nat) : Int) tdp) else if zz = Str.ofString "proof" then some (.ref pf) else q zz)) (top_eq e7)).trans ((congrArg (fun q : Str → Option Value => (fun zz => if zz = Str.ofString "tree" then some (.ref tr) else if zz = Str.ofString "levels" then some (.ref lv) else if zz = Str.ofString "empty" then some (.ref em) else if zz = Str.ofString "first" then some (.int (p0 : Int) ta) else if zz = Str.ofString "depth" then some (.int ((8 * n : Nat) : Int) tdp) else q zz)) (top_eq e6)).trans ((congrArg (fun q : Str → Option Value => (fun zz => if zz = Str.ofString "tree" then some (.ref tr) else if zz = Str.ofString "levels" then some (.ref lv) else if zz = Str.ofString "empty" then some (.ref em) else if zz = Str.ofString "first" then some (.int (p0 : Int) ta) else q zz)) (top_eq e5)).trans ((congrArg (fun q : Str → Option Value => (fun zz => if zz = Str.ofString "tree" then some (.ref tr) else if zz = Str.ofString "levels" then some (.ref lv) else if zz = Str.ofString "empty" then some (.ref em) else q zz)) (top_eq e4)).trans ((congrArg (fun q : Str → Option Value => (fun zz => if zz = Str.ofString "tree" then some (.ref tr) else if zz = Str.ofString "levels" then some (.ref lv) else q zz)) (top_eq e3)).trans ((congrArg (fun q : Str → Option Value => (fun zz => if zz = Str.ofString "tree" then some (.ref tr) else q zz)) (top_eq e2)).trans (top_eq e1))))))))
  replace F : Fr h₀ L s.heap (fun zz => if zz = Str.ofString "tree" then some (.ref tr) else if zz = Str.ofString "levels" then some (.ref lv) else if zz = Str.ofString "empty" then some (.ref em) else if zz = Str.ofString "first" then some (.int (p0 : Int) ta) else if zz = Str.ofString "depth" then some (.int ((8 * n : Nat) : Int) tdp) else if zz = Str.ofString "proof" then some (.ref pf) else if zz = Str.ofString "keys" then some (.ref kl) else if zz = Str.ofString "held" then some (.ref hld) else m zz) := fr_cast F fun y => (congrFun hm y).symm
  obtain ⟨tv0, hv0⟩ : ∃ t, valueAt hk (p0 : Int) = some (.bytes (v p0).toArray t) := by
    obtain ⟨yv, hyv⟩ := Option.isSome_iff_exists.mp hH0
    obtain ⟨q, hq, t, e⟩ := hHo.1 _ _ hyv
    have : q = p0 := by omega
    subst this
    exact ⟨t, by rw [hyv, e]⟩
  unfold lawEnv
  rw [show lawScope = Scope.mk _ _ _ _ _ from rfl, show lawBody.drop 18 = _ :: _ :: _ from rfl]
  k_steps
  rename Fr _ _ _ _ => F2
  rename News _ _ _ _ => N2
  unfold Hold
  refine wpAny_call (lawCall B F2 X T (nperm N2 pd_1) (D.perm pd_1) rfl rfl (Around.frames_deeper (Below.stack B)) fun g2 C2 O2 back => ?_)
  refine side_spec (n := 8 * n) (p := p0) C2 O2 (by simp only [depth_deeper, depth_caller]; decide) rfl (by omega) hLv hHo S.hE1 S.hE2 (fun i e he => (S.hE3 i e he).mono R.pre) fun h5 tk5 rt rs2 es2 O5 j1 j2 j3 j4 => ?_
  obtain ⟨F5, N5, D5⟩ := back h5 _ O5 ((D.perm pd_1).left.new (allLt_of j4))
  have hes2 : es2 = esP := nds_eq R.hB.nodup j2 P2 j3 P3
  subst hes2
  have hPl := P1.length
  have hRl := j1.length
  clear back C2 O2 O5 N2 F2
  replace N5 := nperm N5 pd_2
  replace D5 := D5.perm pd_2
  generalize hX : ((db, odb) :: (em, listOf vsE.toArray cntE) :: (lv, listOf vsL.toArray cntL) :: (tlL ++ tl)) = tX at N5 D5
  dsimp only
  k_steps
  all_goals first
    | (rename _ = true => hbad; simp at hbad; done)
    | skip
  rename Fr _ _ _ _ => F6
  rename News _ _ _ _ => N6
  rename _ ∧ _ ∧ _ ∧ _ ∧ _ ∧ _ ∧ _ ∧ _ ∧ _ ∧ _ ∧ _ ∧ _ ∧ AllLt _ _ => qa
  rename _ ∧ _ ∧ _ ∧ _ ∧ _ ∧ _ ∧ _ ∧ _ ∧ _ ∧ _ ∧ _ ∧ _ ∧ _ ∧ AllLt _ _ => qb
  have D6 := nd_of N6 ((D5.new qa).new qb)
  unfold Hold
  refine wpAny_call ?_
  refine' lawCallF ?B F6 ?X ?T (nperm N6 pd_3) (D6.perm pd_3) ?hf ?hke ?hA ?k
  case B => assumption
  case X => assumption
  case T => assumption
  case hA => exact Around.frames_deeper (Below.stack (by assumption))
  case hf => exact rfl
  case hke => exact rfl
  intro g2 C2 O2 fz back
  have htD := fz _ (List.mem_cons_self ..)
  refine calc_spec (n := n) (vs := vsP) (es := es2) C2 O2 S.H R.hB htD P1 P2 (fun e he => ?_) (by k_room) rfl (by omega) hn hn1 (bts_len n _) fun h7 tk7 e te od' B' O7 i1 i2 i3 => ?_
  · obtain ⟨j, hj, he2⟩ := List.getElem_of_mem he
    exact (P3 j e (by rw [List.getElem?_eq_getElem hj, he2])).len
  obtain ⟨F7, N7, D7⟩ := back h7 _ O7 ((D6.perm pd_3).left.upd rfl)
  have hdec : dec (bts n (p0 : Int)) = p0 := by
    have := dec_bts (k := n) (n := (p0 : Int)) (by omega) (by exact_mod_cast hp0)
    exact_mod_cast this
  have her : e = root := by
    rw [hdec] at i3
    have h1 := ch_nd (v := v) rfl P2 (fun j e hj => (P3 j e hj).mono i2.1) (Nat.le_refl _) i3
    rw [Nat.div_eq_of_lt (by rw [Nat.pow_mul]; exact hp0)] at h1
    exact Nd.fn i1.nodup h1 (R.hR.mono i2.1)
  subst her
  clear back C2 O2 fz htD O7 N6 F6
  simp only [List.cons_append, List.nil_append] at N7
  dsimp only
  k_steps
  all_goals first
    | (rename _ = true => hbad; simp at hbad; done)
    | skip
  rename Fr _ _ _ _ => F9
  rename News _ _ _ _ => N9
  unfold Hold
  subst hX
  exact cont _ _ rt rs2 es2 od' B' _ _ (fr_cast F9 (by (intro y; (repeat (refine ite_back ?_)); exact congrFun hm y))) (nperm N9 pd_4) (D7.perm pd_4) (R.mono i2.1 i1) i2 j1 P2 (fun j e hj => (P3 j e hj).mono i2.1)
end
end

section
-- LE0
open PySem PySem.W PySem.Calls PyProof.Rows
set_option Elab.async false
set_option maxRecDepth 100000
set_option linter.unusedVariables false
/-- a turned inner ground gives a turned outer ground -/
theorem turn_out {fs : List Addr} {g gi gi' h' : Heap} {L : Addr} {FP : List (Addr × Obj)} (hst : ∀ b o, g.get? b = some o → gi.get? b = some o) (hL : ∀ b, g.get? b ≠ none → b ≠ L) (D : KtsDicts fs g) (T : KtsTurn (L :: fs) gi gi') (O : Own gi' h' FP)
    (hsz : g.objs.size ≤ gi.objs.size) (hFP : ∀ p ∈ FP, g.get? p.1 = none) : ∃ g', KtsTurn fs g g' ∧ Own g' h' FP := by
  have hfs : ∀ b ∈ fs, ∃ o, g.get? b = some o := fun b hb => let ⟨o, _, _, h, _⟩ := D b hb; ⟨o, h⟩
  obtain ⟨T2, k2⟩ := kts_turn_at (g := g) (h := h') hfs (fun b o e m => O.stays _ _ (T.other _ _ (hst _ _ e) (fun q => by
    rcases List.mem_cons.mp q with q | q
    · exact hL b (by rw [e]; exact fun z => nomatch z) q
    · exact m q))) (fun b o e m => by
    obtain ⟨sl, hs⟩ := T.up (hst _ _ e)
    exact ⟨sl, O.stays _ _ hs⟩)
  exact ⟨_, T2, k2, by rw [T2.size]; exact Nat.le_trans (Nat.le_trans hsz (Nat.le_of_eq T.size.symm)) O.size, fun p hp => ⟨(O.own p hp).1, T2.none_ _ (hFP p hp)⟩⟩
section
variable {w : World} {mean : ExcName → Option Value} {mg mb : Str → Option Value} {s : Shared} {R : Result → Shared → Prop}
theorem at_callG {A A₀ : Around} {base h₀ : Heap} {outer : List Env} {env : Env} {L : Addr} {m : Str → Option Value} {FP : List (Addr × Obj)} {c : Code}
    (B : Below A₀ base outer h₀) (F : Fr h₀ L s.heap m) (X : (hd.heap_39 w.params).In h₀) (T : Top topProg LOOSE mean mg mb h₀) (N : News h₀ L s.heap FP) (Dg : KtsDicts (outer.filterMap (·.frame)) h₀)
    (hf : env.frame = some L) (hke : env.scope.kind = .function) (hA : A.frames = some (env :: outer))
    (k : ∀ g, Ctx w A base (env :: outer) g mean mg mb → KtsDicts ((env :: outer).filterMap (·.frame)) g → Own g s.heap FP → (env :: outer).filterMap (·.frame) = L :: outer.filterMap (·.frame) → (∀ b o, h₀.get? b = some o → g.get? b = some o) → h₀.objs.size ≤ g.objs.size →
      codeAny (model PR w) A c R s) :
    codeAny (model PR w) A c R s := by
  obtain ⟨FG, BG, st, _⟩ := groundX (A := A) (R := R) B F N hA hf hke
  have efs : (env :: outer).filterMap (·.frame) = L :: outer.filterMap (·.frame) := by simp [hf]
  obtain ⟨oL, es, ep, hL, hLd, hLk, hLf⟩ := FG.ns
  refine k (hideAll s.heap (FP.map (·.1))) ⟨BG, X.keeps fun b o e => st b o e, T.keeps fun b o e => st b o e⟩ (fun b hb => ?_) ⟨fun b o e => of_hideAll _ e, Nat.le_of_eq (hideAll_size _ _), fun p hp => ⟨(N p hp).1, hideAll_none _ (List.mem_map_of_mem hp)⟩⟩ efs (fun b o e => st b o e) (Nat.le_trans F.above (Nat.le_of_lt (Heap.lt_size hL)))
  rw [efs] at hb
  rcases List.mem_cons.mp hb with q | q
  · subst q
    exact ⟨oL, es, ep, hL, hLd⟩
  · obtain ⟨o, es, n, h1, h2⟩ := Dg b q
    exact ⟨o, es, n, st _ _ h1, h2⟩
end
section
local macro_rules | `(tactic| walk_at "call ref") => `(tactic| (k_here; (first
  | (with_reducible show wpAny _ _ (call (Value.ref 246) _ _) _ _ _) | (with_reducible show wpAny _ _ (call (Value.ref 253) _ _) _ _ _) | (with_reducible show wpAny _ _ (call (Value.ref 260) _ _) _ _ _) | (with_reducible show wpAny _ _ (call (Value.ref 267) _ _) _ _ _)
  | (with_reducible show wpAny _ _ (call (Value.ref 235) _ _) _ _ _) | (with_reducible show wpAny _ _ (call (Value.ref 190) _ _) _ _ _) | (with_reducible show wpAny _ _ (call (Value.ref 204) _ _) _ _ _) | (with_reducible show wpAny _ _ (call (Value.ref 274) _ _) _ _ _)
  | (with_reducible show wpAny _ _ (call (Value.ref 279) _ _) _ _ _) | (with_reducible show wpAny _ _ (call (Value.ref 284) _ _) _ _ _) | (with_reducible show wpAny _ _ (call (Value.ref 176) _ _) _ _ _) | (with_reducible show wpAny _ _ (call (Value.ref 132) _ _) _ _ _)
  | (with_reducible show wpAny _ _ (call (Value.ref 129) _ _) _ _ _) | (with_reducible show wpAny _ _ (call (Value.ref 76) _ _) _ _ _) | (with_reducible show wpAny _ _ (call (Value.ref 291) _ _) _ _ _) | (with_reducible show wpAny _ _ (call (Value.ref 298) _ _) _ _ _)
  | (with_reducible show wpAny _ _ (call (Value.ref 305) _ _) _ _ _) | (with_reducible show wpAny _ _ (call (Value.ref 197) _ _) _ _ _) | (with_reducible show wpAny _ _ (call (Value.ref 232) _ _) _ _ _)); (with_reducible refine Hold.mk ?_)))
set_option maxHeartbeats 8000000 in
theorem contains_spec {w : World} {A : Around} {base g : Heap} {fr : List Env} {mean : ExcName → Option Value} {mg mb : Str → Option Value} {s : Shared} {R : Result → Shared → Prop}
    {f tr dd db : Addr} {odb : Obj} {B : List Bs} {x root key : Bs} {kvs : List (Bs × Value)} {v : Nat → Bs} {t1 t2 t3 t4 t5 t6 tn td tx trt tkey : Tok} {n : Nat}
    (C : Ctx w A base fr g mean mg mb) (XB : (hd.heap_39 w.params).In base) (TB : Top topProg LOOSE mean mg mb base) (D : KtsDicts (fr.filterMap (·.frame)) g) (O : Own g s.heap [(tr, instObj 235 dd), (dd, treeD w t1 t2 t3 t4 t5 t6 tn td tx trt n x f db root), (db, odb)])
    (hroom : A.depth + 25 < recursionLimit) (hh : A.handled = none) (hlen : B.length < 1000000) (hBn : B.Nodup) (hn : n ≤ 32) (hn1 : 1 ≤ n)
    (hD : odb.IsDictOf (bytesKind PR w) kvs) (hV : DbV B kvs) (hF : Full B v (8 * n) kvs) (hR : Nd B v (8 * n) 0 root) (hk : key.length = n)
    (hQ : ∀ h' tk g', KtsTurn (fr.filterMap (·.frame)) g g' → Own g' h' [(tr, instObj 235 dd), (dd, treeD w t1 t2 t3 t4 t5 t6 tn td tx trt n x f db root), (db, odb)] → R (.ok (.ret (.bool (!(v (dec key)).isEmpty)))) { s with heap := h', toks := tk }) :
    codeAny (model PR w) A (.call (.ref 232) ⟨[.ref tr, .bytes key.toArray tkey], []⟩) R s := by
  obtain ⟨X', T', B'⟩ : (hd.heap_39 w.params).In g ∧ Top topProg LOOSE mean mg mb g ∧ Below A base fr g := ⟨C.X, C.T, C.B⟩
  w_on
  refine' enter (binds := [(Str.ofString "self", .ref tr), (Str.ofString "key", .bytes key.toArray tkey)]) C O ?k6 ?k7 ?k8 ?k9 ?kB ?c5 ?c2 ?c3 ?c4 ?_
  (case k6 => k_is)
  (case k7 => k_is)
  (case k8 => k_room)
  (case k9 => exact BindsTo.of_eq rfl)
  (case kB => exact locs rfl)
  (case c5 => decide)
  (case c2 => exact rfl)
  (case c3 => exact rfl)
  (case c4 => exact rfl)
  intro L' h₁ F' N' lt'
  (try k_fold)
  k_steps
  rename Fr _ _ _ _ => F2
  rename News _ _ _ _ => N2
  unfold Hold
  refine wpAny_call ?_
  refine' at_callG ?B F2 ?X ?T N2 D ?hf ?hke ?hA ?k
  case B => assumption
  case X => assumption
  case T => assumption
  case hA => exact Around.frames_deeper (Below.stack (by assumption))
  case hf => exact rfl
  case hke => exact rfl
  intro g2 C2 D2 O2 efs st hsz
  refine exists_spec (n := n) C2 XB TB D2 O2 (by k_room) hh hlen hBn hn hn1 hD hV hF hR hk fun h3 tk3 g3 T3 O3 => ?_
  rw [efs] at T3
  obtain ⟨g', T4, O4⟩ := turn_out st (fun b hb e => by
    subst e
    exact hb (kts_self F2)) D T3 O3 hsz fun p hp => (N2 p hp).2.2
  dsimp only
  k_steps
  show R (.ok (.ret (.bool _))) _
  exact hQ _ _ g' T4 O4
end
end

section
-- LE1
local macro_rules | `(tactic| walk_at "no such key") => `(tactic| fail)
local macro_rules | `(tactic| walk_at "no such key") => `(tactic| fail)
open PySem PySem.W PySem.Calls PyProof.Rows
set_option Elab.async false
set_option maxRecDepth 100000
set_option linter.unusedVariables false
/-- the body of the if on small keys -/
noncomputable def ifBody : List Stmt := match lawBody.drop 22 with
  | .If _ b _ _ :: _ => b
  | _ => []
theorem ifBody_len : ifBody.length = 9 := by rfl
theorem bad_eq {l : Bs} (h : ((!l.isEmpty) != (l.toArray.toList != (#[] : Array UInt8).toList)) = true) : False := by cases l <;> simp at h
theorem held_at {hk : List (Int × Value)} {x : Bs} {v : Nat → Bs} (h : HeldOk hk x v) {p : Nat} (e : (valueAt hk (p : Int)).isSome = true) : ∃ t, valueAt hk (p : Int) = some (.bytes (v p).toArray t) := by
  obtain ⟨yv, hyv⟩ := Option.isSome_iff_exists.mp e
  obtain ⟨q, hq, t, e2⟩ := h.1 _ _ hyv
  have : q = p := by omega
  subst this
  exact ⟨t, by rw [hyv, e2]⟩
theorem dec_key {n p : Nat} (h : p < 256 ^ n) : dec (bts n (p : Int)) = p := by
  have := dec_bts (k := n) (n := (p : Int)) (by omega) (by exact_mod_cast h)
  exact_mod_cast this
section
local macro_rules | `(tactic| walk_at "call ref") => `(tactic| (k_here; (first
  | (with_reducible show wpAny _ _ (call (Value.ref 246) _ _) _ _ _) | (with_reducible show wpAny _ _ (call (Value.ref 253) _ _) _ _ _) | (with_reducible show wpAny _ _ (call (Value.ref 260) _ _) _ _ _) | (with_reducible show wpAny _ _ (call (Value.ref 267) _ _) _ _ _)
  | (with_reducible show wpAny _ _ (call (Value.ref 235) _ _) _ _ _) | (with_reducible show wpAny _ _ (call (Value.ref 190) _ _) _ _ _) | (with_reducible show wpAny _ _ (call (Value.ref 204) _ _) _ _ _) | (with_reducible show wpAny _ _ (call (Value.ref 274) _ _) _ _ _)
  | (with_reducible show wpAny _ _ (call (Value.ref 279) _ _) _ _ _) | (with_reducible show wpAny _ _ (call (Value.ref 284) _ _) _ _ _) | (with_reducible show wpAny _ _ (call (Value.ref 176) _ _) _ _ _) | (with_reducible show wpAny _ _ (call (Value.ref 132) _ _) _ _ _)
  | (with_reducible show wpAny _ _ (call (Value.ref 129) _ _) _ _ _) | (with_reducible show wpAny _ _ (call (Value.ref 76) _ _) _ _ _) | (with_reducible show wpAny _ _ (call (Value.ref 291) _ _) _ _ _) | (with_reducible show wpAny _ _ (call (Value.ref 298) _ _) _ _ _)
  | (with_reducible show wpAny _ _ (call (Value.ref 305) _ _) _ _ _) | (with_reducible show wpAny _ _ (call (Value.ref 197) _ _) _ _ _) | (with_reducible show wpAny _ _ (call (Value.ref 232) _ _) _ _ _)); (with_reducible refine Hold.mk ?_)))
local macro_rules | `(tactic| walk_at "execs cons") => `(tactic| ((with_reducible show wpAny _ _ (execs (Stmt.If (Expr.Compare (Expr.Name ("size" : Str) _) _ _ _) _ _ _ :: _) _) _ _ _); (with_reducible refine Hold.mk ?_)))
local macro_rules | `(tactic| walk_at "execs cons") => `(tactic| ((with_reducible show wpAny _ _ (execs (Stmt.Assign [Expr.Name ("unheld" : Str) _] _ _ :: _) _) _ _ _); (with_reducible refine Hold.mk ?_)))
set_option maxHeartbeats 8000000 in
/-- the first key is read -/
theorem lawD2
   {w : World} {h₀ : Heap} {L fa : Addr} {cd : Value} {mean : ExcName → Option Value} {mg mb : Str → Option Value} {s : Shared} {m : Str → Option Value} {Q : Flow → Shared → Prop} {E : Value → Shared → Prop}
   {n : Nat} {x : Bs} {f c ce d tr dd db em : Addr} {fo oc oe : Obj} {t1 t2 t3 t4 t5 tnT td txT : Tok} {vsE : List Value} {cntE : Nat} {esE B1 : List Bs}
   (B : Below callerA h₀ [] h₀) (X : (hd.heap_39 w.params).In h₀) (T : Top topProg LOOSE mean mg mb h₀) (S : Sta n x f c ce d tr dd db em fo oc oe vsE esE B1) (F : Fr h₀ L s.heap m)
   {p0 : Nat} {v : Nat → Bs} {B0 : List Bs} {od odb hobj : Obj} {kvs : List (Bs × Value)} {hk : List (Int × Value)} {root : Bs} {hld kl : Addr} {vsK : List Value} {cntK : Nat} {ta tK t6 trt : Tok} {tl : List (Addr × Obj)}
   (R : TrS w n v B1 B0 od odb kvs root) (hBl : B0.length ≤ 9000) (hHd : hobj.IsDictOf (intKind PR w) hk) (hHo : HeldOk hk x v)
   (hK0 : vsK[0]? = some (.bytes (bts n (p0 : Int)).toArray tK)) (hKl : vsK.length ≤ 5) (hK1 : 1 ≤ vsK.length) (hH0 : (valueAt hk (p0 : Int)).isSome = true) (hp0 : p0 < 256 ^ n)
   (N : News h₀ L s.heap ((tr, instObj 235 dd) :: (dd, treeD w t1 t2 t3 t4 t5 t6 tnT td txT trt n x f db root) :: (db, odb) :: (f, fo) :: (c, oc) :: (ce, oe) :: (d, od) :: (em, listOf vsE.toArray cntE) :: (kl, listOf vsK.toArray cntK) :: (hld, hobj) :: tl))
   (D : ND ((tr, instObj 235 dd) :: (dd, treeD w t1 t2 t3 t4 t5 t6 tnT td txT trt n x f db root) :: (db, odb) :: (f, fo) :: (c, oc) :: (ce, oe) :: (d, od) :: (em, listOf vsE.toArray cntE) :: (kl, listOf vsK.toArray cntK) :: (hld, hobj) :: tl))
   (e1 : m (Str.ofString "tree") = some (.ref tr)) (e2 : m (Str.ofString "keys") = some (.ref kl)) (e3 : m (Str.ofString "held") = some (.ref hld)) (e4 : m (Str.ofString "first") = some (.int (p0 : Int) ta))
   (cont : ∀ (h' : Heap) (tk : Nat), Fr h₀ L h' m → News h₀ L h' ((tr, instObj 235 dd) :: (dd, treeD w t1 t2 t3 t4 t5 t6 tnT td txT trt n x f db root) :: (db, odb) :: (f, fo) :: (c, oc) :: (ce, oe) :: (d, od) :: (em, listOf vsE.toArray cntE) :: (kl, listOf vsK.toArray cntK) :: (hld, hobj) :: tl) →
     wpAny (model PR w) (callerA.deeper (lawEnv L fa cd)) (execs (lawBody.drop 22) (lawEnv L fa cd)) Q E { s with heap := h', toks := tk }) :
   wpAny (model PR w) (callerA.deeper (lawEnv L fa cd)) (execs (lawBody.drop 21) (lawEnv L fa cd)) Q E s := by
  w_on
  have hn1 := S.hn1
  have hn := S.hn
  have hm := ((congrArg (fun q : Str → Option Value => (fun zz => if zz = Str.ofString "tree" then some (.ref tr) else if zz = Str.ofString "keys" then some (.ref kl) else if zz = Str.ofString "held" then some (.ref hld) else q zz)) (top_eq e4)).trans ((congrArg (fun q : Str → Option Value => (fun zz => if zz = Str.ofString "tree" then some (.ref tr) else if zz = Str.ofString "keys" then some (.ref kl) else q zz)) (top_eq e3)).trans ((congrArg (fun q : Str → Option Value => (fun zz => if zz = Str.ofString "tree" then some (.ref tr) else q zz)) (top_eq e2)).trans (top_eq e1))))
  replace F : Fr h₀ L s.heap (fun zz => if zz = Str.ofString "tree" then some (.ref tr) else if zz = Str.ofString "keys" then some (.ref kl) else if zz = Str.ofString "held" then some (.ref hld) else if zz = Str.ofString "first" then some (.int (p0 : Int) ta) else m zz) := fr_cast F fun y => (congrFun hm y).symm
  obtain ⟨tv0, hv0⟩ := held_at hHo hH0
  have hdec := dec_key hp0
  unfold lawEnv
  rw [show lawScope = Scope.mk _ _ _ _ _ from rfl, show lawBody.drop 21 = _ :: _ :: _ from rfl]
  k_steps
  rename Fr _ _ _ _ => F2
  rename News _ _ _ _ => N2
  unfold Hold
  refine wpAny_call (lawCallS (FP := [(tr, instObj 235 dd), (dd, treeD w t1 t2 t3 t4 t5 t6 tnT td txT trt n x f db root), (db, odb)]) B F2 X T N2 D rfl rfl (Around.frames_deeper (Below.stack B)) fun g2 C2 K2 O2 back => ?_)
  refine read_spec (n := n) (v := v) C2 X T K2 O2 (by simp only [depth_deeper, depth_caller]; decide) rfl (by omega) R.hB.nodup hn hn1 R.hD R.hV R.hF R.hR (bts_len n _) (by rw [hdec]) fun h3 tk3 g3 T3 O3 => ?_
  obtain ⟨F3, N3, D3⟩ := back h3 g3 _ T3 O3 ((ND.left (l := [(tr, instObj 235 dd), (dd, treeD w t1 t2 t3 t4 t5 t6 tnT td txT trt n x f db root), (db, odb)]) D).upd rfl)
  clear back C2 K2 O2 T3 O3 N2 F2
  simp only [List.cons_append, List.nil_append] at N3
  dsimp only
  k_steps
  rename Fr _ _ _ _ => F4
  rename News _ _ _ _ => N4
  unfold Hold
  exact cont _ _ (fr_cast F4 (by (intro y; (repeat (refine ite_back ?_)); exact congrFun hm y))) N4
set_option maxHeartbeats 8000000 in
/-- the second key and the last -/
theorem lawE1
   {w : World} {h₀ : Heap} {L fa : Addr} {cd : Value} {mean : ExcName → Option Value} {mg mb : Str → Option Value} {s : Shared} {m : Str → Option Value} {Q : Flow → Shared → Prop} {E : Value → Shared → Prop}
   {n : Nat} {x : Bs} {f c ce d tr dd db em : Addr} {fo oc oe : Obj} {t1 t2 t3 t4 t5 tnT td txT : Tok} {vsE : List Value} {cntE : Nat} {esE B1 : List Bs}
   (B : Below callerA h₀ [] h₀) (X : (hd.heap_39 w.params).In h₀) (T : Top topProg LOOSE mean mg mb h₀) (S : Sta n x f c ce d tr dd db em fo oc oe vsE esE B1) (F : Fr h₀ L s.heap m)
   {p1 p2 p3 : Nat} {v : Nat → Bs} {B0 : List Bs} {od odb hobj : Obj} {kvs : List (Bs × Value)} {hk : List (Int × Value)} {root : Bs} {hld kl : Addr} {cntK : Nat} {tb tpl tk1 tk2 tk3 t6 trt : Tok} {tl : List (Addr × Obj)}
   (R : TrS w n v B1 B0 od odb kvs root) (hBl : B0.length ≤ 9000) (hHd : hobj.IsDictOf (intKind PR w) hk) (hHo : HeldOk hk x v)
   (hH2 : (valueAt hk (p2 : Int)).isSome = true) (hH3 : (valueAt hk (p3 : Int)).isSome = true) (hp2 : p2 < 256 ^ n) (hp3 : p3 < 256 ^ n)
   (N : News h₀ L s.heap ((tr, instObj 235 dd) :: (dd, treeD w t1 t2 t3 t4 t5 t6 tnT td txT trt n x f db root) :: (db, odb) :: (f, fo) :: (c, oc) :: (ce, oe) :: (d, od) :: (em, listOf vsE.toArray cntE) :: (kl, listOf #[.bytes (bts n (p1 : Int)).toArray tk1, .bytes (bts n (p2 : Int)).toArray tk2, .bytes (bts n (p3 : Int)).toArray tk3] cntK) :: (hld, hobj) :: tl))
   (D : ND ((tr, instObj 235 dd) :: (dd, treeD w t1 t2 t3 t4 t5 t6 tnT td txT trt n x f db root) :: (db, odb) :: (f, fo) :: (c, oc) :: (ce, oe) :: (d, od) :: (em, listOf vsE.toArray cntE) :: (kl, listOf #[.bytes (bts n (p1 : Int)).toArray tk1, .bytes (bts n (p2 : Int)).toArray tk2, .bytes (bts n (p3 : Int)).toArray tk3] cntK) :: (hld, hobj) :: tl))
   (e1 : m (Str.ofString "tree") = some (.ref tr)) (e2 : m (Str.ofString "keys") = some (.ref kl)) (e3 : m (Str.ofString "held") = some (.ref hld)) (e4 : m (Str.ofString "second") = some (.int (p2 : Int) tb)) (e5 : m (Str.ofString "number") = some (.int (p3 : Int) tpl))
   (cont : ∀ (h' : Heap) (tk : Nat), Fr h₀ L h' m → News h₀ L h' ((tr, instObj 235 dd) :: (dd, treeD w t1 t2 t3 t4 t5 t6 tnT td txT trt n x f db root) :: (db, odb) :: (f, fo) :: (c, oc) :: (ce, oe) :: (d, od) :: (em, listOf vsE.toArray cntE) :: (kl, listOf #[.bytes (bts n (p1 : Int)).toArray tk1, .bytes (bts n (p2 : Int)).toArray tk2, .bytes (bts n (p3 : Int)).toArray tk3] cntK) :: (hld, hobj) :: tl) →
     wpAny (model PR w) (callerA.deeper (lawEnv L fa cd)) (execs (ifBody.drop 2) (lawEnv L fa cd)) Q E { s with heap := h', toks := tk }) :
   wpAny (model PR w) (callerA.deeper (lawEnv L fa cd)) (execs ifBody (lawEnv L fa cd)) Q E s := by
  w_on
  have hn1 := S.hn1
  have hn := S.hn
  have hm := ((congrArg (fun q : Str → Option Value => (fun zz => if zz = Str.ofString "tree" then some (.ref tr) else if zz = Str.ofString "keys" then some (.ref kl) else if zz = Str.ofString "held" then some (.ref hld) else if zz = Str.ofString "second" then some (.int (p2 : Int) tb) else q zz)) (top_eq e5)).trans ((congrArg (fun q : Str → Option Value => (fun zz => if zz = Str.ofString "tree" then some (.ref tr) else if zz = Str.ofString "keys" then some (.ref kl) else if zz = Str.ofString "held" then some (.ref hld) else q zz)) (top_eq e4)).trans ((congrArg (fun q : Str → Option Value => (fun zz => if zz = Str.ofString "tree" then some (.ref tr) else if zz = Str.ofString "keys" then some (.ref kl) else q zz)) (top_eq e3)).trans ((congrArg (fun q : Str → Option Value => (fun zz => if zz = Str.ofString "tree" then some (.ref tr) else q zz)) (top_eq e2)).trans (top_eq e1)))))
  replace F : Fr h₀ L s.heap (fun zz => if zz = Str.ofString "tree" then some (.ref tr) else if zz = Str.ofString "keys" then some (.ref kl) else if zz = Str.ofString "held" then some (.ref hld) else if zz = Str.ofString "second" then some (.int (p2 : Int) tb) else if zz = Str.ofString "number" then some (.int (p3 : Int) tpl) else m zz) := fr_cast F fun y => (congrFun hm y).symm
  obtain ⟨tv2, hv2⟩ := held_at hHo hH2
  obtain ⟨tv3, hv3⟩ := held_at hHo hH3
  have hdec2 := dec_key hp2
  have hdec3 := dec_key hp3
  unfold lawEnv
  rw [show lawScope = Scope.mk _ _ _ _ _ from rfl, show ifBody = _ :: _ :: _ from rfl]
  k_steps
  rename Fr _ _ _ _ => F2
  rename News _ _ _ _ => N2
  unfold Hold
  refine wpAny_call (lawCallS (FP := [(tr, instObj 235 dd), (dd, treeD w t1 t2 t3 t4 t5 t6 tnT td txT trt n x f db root), (db, odb)]) B F2 X T N2 D rfl rfl (Around.frames_deeper (Below.stack B)) fun g2 C2 K2 O2 back => ?_)
  refine read_spec (n := n) (v := v) C2 X T K2 O2 (by simp only [depth_deeper, depth_caller]; decide) rfl (by omega) R.hB.nodup hn hn1 R.hD R.hV R.hF R.hR (bts_len n _) (by rw [hdec2]) fun h3 tk3 g3 T3 O3 => ?_
  obtain ⟨F3, N3, D3⟩ := back h3 g3 _ T3 O3 ((ND.left (l := [(tr, instObj 235 dd), (dd, treeD w t1 t2 t3 t4 t5 t6 tnT td txT trt n x f db root), (db, odb)]) D).upd rfl)
  clear back C2 K2 O2 T3 O3 N2 F2
  simp only [List.cons_append, List.nil_append] at N3
  dsimp only
  k_steps
  rename Fr _ _ _ _ => F2
  rename News _ _ _ _ => N2
  unfold Hold
  refine wpAny_call (lawCallS (FP := [(tr, instObj 235 dd), (dd, treeD w t1 t2 t3 t4 t5 t6 tnT td txT trt n x f db root), (db, odb)]) B F2 X T N2 D rfl rfl (Around.frames_deeper (Below.stack B)) fun g2 C2 K2 O2 back => ?_)
  refine exists_spec (n := n) (v := v) C2 X T K2 O2 (by simp only [depth_deeper, depth_caller]; decide) rfl (by omega) R.hB.nodup hn hn1 R.hD R.hV R.hF R.hR (bts_len n _)  fun h3 tk3 g3 T3 O3 => ?_
  obtain ⟨F3, N3, D3⟩ := back h3 g3 _ T3 O3 ((ND.left (l := [(tr, instObj 235 dd), (dd, treeD w t1 t2 t3 t4 t5 t6 tnT td txT trt n x f db root), (db, odb)]) D).upd rfl)
  clear back C2 K2 O2 T3 O3 N2 F2
  simp only [List.cons_append, List.nil_append] at N3
  rw [hdec2]
  dsimp only
  k_steps
  · exact (bad_eq (by assumption)).elim
  rename Fr _ _ _ _ => F2
  rename News _ _ _ _ => N2
  unfold Hold
  refine wpAny_call (lawCallS (FP := [(tr, instObj 235 dd), (dd, treeD w t1 t2 t3 t4 t5 t6 tnT td txT trt n x f db root), (db, odb)]) B F2 X T N2 D rfl rfl (Around.frames_deeper (Below.stack B)) fun g2 C2 K2 O2 back => ?_)
  refine contains_spec (n := n) (v := v) C2 X T K2 O2 (by simp only [depth_deeper, depth_caller]; decide) rfl (by omega) R.hB.nodup hn hn1 R.hD R.hV R.hF R.hR (bts_len n _) fun h3 tk3 g3 T3 O3 => ?_
  obtain ⟨F3, N3, D3⟩ := back h3 g3 _ T3 O3 ((ND.left (l := [(tr, instObj 235 dd), (dd, treeD w t1 t2 t3 t4 t5 t6 tnT td txT trt n x f db root), (db, odb)]) D).upd rfl)
  clear back C2 K2 O2 T3 O3 N2 F2
  simp only [List.cons_append, List.nil_append] at N3
  rw [hdec3]
  dsimp only
  k_steps
  · exact (bad_eq (by assumption)).elim
  rename Fr _ _ _ _ => F4
  rename News _ _ _ _ => N4
  unfold Hold
  exact cont _ _ (fr_cast F4 (by (intro y; (repeat (refine ite_back ?_)); exact congrFun hm y))) N4
end
end

section
-- LE2
local macro_rules | `(tactic| walk_at "no such key") => `(tactic| fail)
local macro_rules | `(tactic| walk_at "no such key") => `(tactic| fail)
local macro_rules | `(tactic| walk_at "no such key") => `(tactic| fail)
local macro_rules | `(tactic| walk_at "no such key") => `(tactic| fail)
local macro_rules | `(tactic| walk_at "no such key") => `(tactic| fail)
local macro_rules | `(tactic| walk_at "no such key") => `(tactic| fail)
open PySem PySem.W PySem.Calls PyProof.Rows
set_option Elab.async false
set_option maxRecDepth 100000
set_option linter.unusedVariables false
theorem held_get {hk : List (Int × Value)} {x : Bs} {v : Nat → Bs} (h : HeldOk hk x v) (p : Nat) (tx : Tok) : ∃ t, (valueAt hk (p : Int)).getD (.bytes x.toArray tx) = .bytes (v p).toArray t := by
  cases e : valueAt hk (p : Int) with
  | none => exact ⟨tx, by rw [h.2 p e]; rfl⟩
  | some y =>
    obtain ⟨t, ht⟩ := held_at h (p := p) (by rw [e]; rfl)
    rw [e] at ht
    exact ⟨t, by rw [Option.getD_some]; exact Option.some.inj ht⟩
section
local macro_rules | `(tactic| walk_at "call ref") => `(tactic| (k_here; (first
  | (with_reducible show wpAny _ _ (call (Value.ref 246) _ _) _ _ _) | (with_reducible show wpAny _ _ (call (Value.ref 253) _ _) _ _ _) | (with_reducible show wpAny _ _ (call (Value.ref 260) _ _) _ _ _) | (with_reducible show wpAny _ _ (call (Value.ref 267) _ _) _ _ _)
  | (with_reducible show wpAny _ _ (call (Value.ref 235) _ _) _ _ _) | (with_reducible show wpAny _ _ (call (Value.ref 190) _ _) _ _ _) | (with_reducible show wpAny _ _ (call (Value.ref 204) _ _) _ _ _) | (with_reducible show wpAny _ _ (call (Value.ref 274) _ _) _ _ _)
  | (with_reducible show wpAny _ _ (call (Value.ref 279) _ _) _ _ _) | (with_reducible show wpAny _ _ (call (Value.ref 284) _ _) _ _ _) | (with_reducible show wpAny _ _ (call (Value.ref 176) _ _) _ _ _) | (with_reducible show wpAny _ _ (call (Value.ref 132) _ _) _ _ _)
  | (with_reducible show wpAny _ _ (call (Value.ref 129) _ _) _ _ _) | (with_reducible show wpAny _ _ (call (Value.ref 76) _ _) _ _ _) | (with_reducible show wpAny _ _ (call (Value.ref 291) _ _) _ _ _) | (with_reducible show wpAny _ _ (call (Value.ref 298) _ _) _ _ _)
  | (with_reducible show wpAny _ _ (call (Value.ref 305) _ _) _ _ _) | (with_reducible show wpAny _ _ (call (Value.ref 197) _ _) _ _ _) | (with_reducible show wpAny _ _ (call (Value.ref 232) _ _) _ _ _)); (with_reducible refine Hold.mk ?_)))
local macro_rules | `(tactic| walk_at "execs cons") => `(tactic| ((with_reducible show wpAny _ _ (execs (Stmt.If (Expr.Compare (Expr.Call (Expr.Name ("calc_root" : Str) _) _ _ _) _ _ _) _ _ _ :: _) _) _ _ _); (with_reducible refine Hold.mk ?_)))
local macro_rules | `(tactic| walk_at "call builtin:int.to_bytes") => `(tactic| (k_here; k_dflt (refine to_big (by omega) (by omega) (by assumption) ?_; intro t' k')))
local macro_rules | `(tactic| walk_at "compareOp NotIn int ref") => `(tactic| (k_here; k_dflt (refine kdg_notin (knd := intKind _ _) (by k_asm) (by k_mem) (by k_asm) (by k_asm) (intKind_is _ _ _ _) _ (by first | exact isSome_of (by assumption) | exact isNone_of (by assumption)) ?_)))
set_option maxHeartbeats 8000000 in
/-- a number that is not held -/
theorem lawE2
   {w : World} {h₀ : Heap} {L fa : Addr} {cd : Value} {mean : ExcName → Option Value} {mg mb : Str → Option Value} {s : Shared} {m : Str → Option Value} {Q : Flow → Shared → Prop} {E : Value → Shared → Prop}
   {n : Nat} {x : Bs} {f c ce d tr dd db em : Addr} {fo oc oe : Obj} {t1 t2 t3 t4 t5 tnT td txT : Tok} {vsE : List Value} {cntE : Nat} {esE B1 : List Bs}
   (B : Below callerA h₀ [] h₀) (X : (hd.heap_39 w.params).In h₀) (T : Top topProg LOOSE mean mg mb h₀) (S : Sta n x f c ce d tr dd db em fo oc oe vsE esE B1) (F : Fr h₀ L s.heap m)
   {p3 : Nat} {v : Nat → Bs} {B0 : List Bs} {od odb hobj : Obj} {kvs : List (Bs × Value)} {hk : List (Int × Value)} {root : Bs} {hld : Addr} {tc tx tn t6 trt : Tok} {tl : List (Addr × Obj)}
   (R : TrS w n v B1 B0 od odb kvs root) (hBl : B0.length ≤ 9000) (hHd : hobj.IsDictOf (intKind PR w) hk) (hHo : HeldOk hk x v) (hHs : (hld == sysModules) = false) (hp3 : p3 < 256 ^ n)
   (N : News h₀ L s.heap ((tr, instObj 235 dd) :: (dd, treeD w t1 t2 t3 t4 t5 t6 tnT td txT trt n x f db root) :: (db, odb) :: (f, fo) :: (c, oc) :: (ce, oe) :: (d, od) :: (em, listOf vsE.toArray cntE) :: (hld, hobj) :: tl))
   (D : ND ((tr, instObj 235 dd) :: (dd, treeD w t1 t2 t3 t4 t5 t6 tnT td txT trt n x f db root) :: (db, odb) :: (f, fo) :: (c, oc) :: (ce, oe) :: (d, od) :: (em, listOf vsE.toArray cntE) :: (hld, hobj) :: tl))
   (e1 : m (Str.ofString "third") = some (.int (p3 : Int) tc)) (e2 : m (Str.ofString "held") = some (.ref hld)) (e3 : m (Str.ofString "default") = some (.bytes x.toArray tx)) (e4 : m (Str.ofString "tree") = some (.ref tr)) (e5 : m (Str.ofString "size") = some (.int (n : Int) tn))
   (cont : ∀ (h' : Heap) (tk : Nat) (u1 u2 : Value), Fr h₀ L h' (fun zz => if zz = Str.ofString "due" then some (u2) else if zz = Str.ofString "unheld" then some (u1) else m zz) → News h₀ L h' ((tr, instObj 235 dd) :: (dd, treeD w t1 t2 t3 t4 t5 t6 tnT td txT trt n x f db root) :: (db, odb) :: (f, fo) :: (c, oc) :: (ce, oe) :: (d, od) :: (em, listOf vsE.toArray cntE) :: (hld, hobj) :: tl) →
     wpAny (model PR w) (callerA.deeper (lawEnv L fa cd)) (execs (ifBody.drop 5) (lawEnv L fa cd)) Q E { s with heap := h', toks := tk }) :
   wpAny (model PR w) (callerA.deeper (lawEnv L fa cd)) (execs (ifBody.drop 2) (lawEnv L fa cd)) Q E s := by
  w_on
  have hn1 := S.hn1
  have hn := S.hn
  have hm := ((congrArg (fun q : Str → Option Value => (fun zz => if zz = Str.ofString "third" then some (.int (p3 : Int) tc) else if zz = Str.ofString "held" then some (.ref hld) else if zz = Str.ofString "default" then some (.bytes x.toArray tx) else if zz = Str.ofString "tree" then some (.ref tr) else q zz)) (top_eq e5)).trans ((congrArg (fun q : Str → Option Value => (fun zz => if zz = Str.ofString "third" then some (.int (p3 : Int) tc) else if zz = Str.ofString "held" then some (.ref hld) else if zz = Str.ofString "default" then some (.bytes x.toArray tx) else q zz)) (top_eq e4)).trans ((congrArg (fun q : Str → Option Value => (fun zz => if zz = Str.ofString "third" then some (.int (p3 : Int) tc) else if zz = Str.ofString "held" then some (.ref hld) else q zz)) (top_eq e3)).trans ((congrArg (fun q : Str → Option Value => (fun zz => if zz = Str.ofString "third" then some (.int (p3 : Int) tc) else q zz)) (top_eq e2)).trans (top_eq e1)))))
  replace F : Fr h₀ L s.heap (fun zz => if zz = Str.ofString "third" then some (.int (p3 : Int) tc) else if zz = Str.ofString "held" then some (.ref hld) else if zz = Str.ofString "default" then some (.bytes x.toArray tx) else if zz = Str.ofString "tree" then some (.ref tr) else if zz = Str.ofString "size" then some (.int (n : Int) tn) else m zz) := fr_cast F fun y => (congrFun hm y).symm
  have p2n : 256 ^ n = 2 ^ (8 * n) := by rw [Nat.pow_mul]
  have p2i : (256 : Int) ^ n = ((256 ^ n : Nat) : Int) := by simp
  have hbig : 4 ≤ 2 ^ (8 * n) := Nat.le_trans (by decide) (Nat.pow_le_pow_right (by decide) (show 2 ≤ 8 * n by omega))
  obtain ⟨r1, hr1, lr1⟩ := xor_lt (k := 8 * n) (p := p3) (q := 1) (by omega) (by omega)
  obtain ⟨r3, hr3, lr3⟩ := xor_lt (k := 8 * n) (p := p3) (q := 3) (by omega) (by omega)
  obtain ⟨tg1, hg1⟩ := held_get hHo r1 tx
  obtain ⟨tg3, hg3⟩ := held_get hHo r3 tx
  have hb1 : Builtin.bitXor (p3 : Int) 1 < 256 ^ n := by
    have := hr1
    have e : ((1 : Nat) : Int) = 1 := rfl
    rw [e] at this
    rw [this, p2i, p2n]
    omega
  have hb3 : Builtin.bitXor (p3 : Int) 3 < 256 ^ n := by
    have := hr3
    have e : ((3 : Nat) : Int) = 3 := rfl
    rw [e] at this
    rw [this, p2i, p2n]
    omega
  replace hr1 : Builtin.bitXor (p3 : Int) 1 = (r1 : Int) := hr1
  replace hr3 : Builtin.bitXor (p3 : Int) 3 = (r3 : Int) := hr3
  rw [← hr1] at hg1
  rw [← hr3] at hg3
  have hdec1 : dec (bts n (Builtin.bitXor (p3 : Int) 1)) = r1 := by rw [hr1]; exact dec_key (by omega)
  have hdec3 : dec (bts n (Builtin.bitXor (p3 : Int) 3)) = r3 := by rw [hr3]; exact dec_key (by omega)
  unfold lawEnv
  rw [show lawScope = Scope.mk _ _ _ _ _ from rfl, show ifBody.drop 2 = _ :: _ :: _ from rfl]
  cases hc : valueAt hk (Builtin.bitXor (p3 : Int) 1) with
  | none =>
    k_steps
    rename Fr _ _ _ _ => F2
    rename News _ _ _ _ => N2
    unfold Hold
    refine wpAny_call (lawCallS (FP := [(tr, instObj 235 dd), (dd, treeD w t1 t2 t3 t4 t5 t6 tnT td txT trt n x f db root), (db, odb)]) B F2 X T N2 D rfl rfl (Around.frames_deeper (Below.stack B)) fun g2 C2 K2 O2 back => ?_)
    refine read_spec (n := n) (v := v) C2 X T K2 O2 (by simp only [depth_deeper, depth_caller]; decide) rfl (by omega) R.hB.nodup hn hn1 R.hD R.hV R.hF R.hR (bts_len n _) (by rw [hdec1]) fun h3 tk3 g3 T3 O3 => ?_
    obtain ⟨F3, N3, D3⟩ := back h3 g3 _ T3 O3 ((ND.left (l := [(tr, instObj 235 dd), (dd, treeD w t1 t2 t3 t4 t5 t6 tnT td txT trt n x f db root), (db, odb)]) D).upd rfl)
    clear back C2 K2 O2 T3 O3 N2 F2
    simp only [List.cons_append, List.nil_append] at N3
    dsimp only
    k_steps
    rename Fr _ _ _ _ => F4
    rename News _ _ _ _ => N4
    unfold Hold
    exact cont _ _ _ _ (fr_cast F4 (by (intro y; (repeat (refine ite_back ?_)); exact congrFun hm y))) N4
  | some y1 =>
    k_steps
    rename Fr _ _ _ _ => F2
    rename News _ _ _ _ => N2
    unfold Hold
    refine wpAny_call (lawCallS (FP := [(tr, instObj 235 dd), (dd, treeD w t1 t2 t3 t4 t5 t6 tnT td txT trt n x f db root), (db, odb)]) B F2 X T N2 D rfl rfl (Around.frames_deeper (Below.stack B)) fun g2 C2 K2 O2 back => ?_)
    refine read_spec (n := n) (v := v) C2 X T K2 O2 (by simp only [depth_deeper, depth_caller]; decide) rfl (by omega) R.hB.nodup hn hn1 R.hD R.hV R.hF R.hR (bts_len n _) (by rw [hdec3]) fun h3 tk3 g3 T3 O3 => ?_
    obtain ⟨F3, N3, D3⟩ := back h3 g3 _ T3 O3 ((ND.left (l := [(tr, instObj 235 dd), (dd, treeD w t1 t2 t3 t4 t5 t6 tnT td txT trt n x f db root), (db, odb)]) D).upd rfl)
    clear back C2 K2 O2 T3 O3 N2 F2
    simp only [List.cons_append, List.nil_append] at N3
    dsimp only
    k_steps
    rename Fr _ _ _ _ => F4
    rename News _ _ _ _ => N4
    unfold Hold
    exact cont _ _ _ _ (fr_cast F4 (by (intro y; (repeat (refine ite_back ?_)); exact congrFun hm y))) N4
end
end

section
-- LE3
open PySem PySem.W PySem.Calls PyProof.Rows
set_option Elab.async false
set_option maxRecDepth 100000
set_option linter.unusedVariables false
section
variable {prog : Program} {w : World} {A : Around} {E : Value → Shared → Prop} {s : Shared} {h₀ : Heap} {L : Addr} {m : Str → Option Value} {news : List (Addr × Obj)}
theorem slice_tuple_frI {value slice : PySem.Expr} {t : Addr} {vs : List Value} {a : Nat} {k : Int} {u : Tok} {Q : Value → Shared → Prop}
    (F : Fr h₀ L s.heap m) (N : News h₀ L s.heap news) (ht : IsTup s.heap t vs.toArray) (hk : k = (a : Int)) (h1 : 1 ≤ a) (ha : a ≤ vs.length) (hsz : vs.length ≤ 100000)
    (h : ∀ D h', Fr h₀ L h' m → News h₀ L h' ((D, tupOf (vs.drop a)) :: news) → (∀ p ∈ news, p.1 < D) → Q (.ref D) { s with heap := h' })
    (hs : subscripted slice false (.ref t) (.ref s.heap.objs.size) = operate [.ref s.heap.objs.size, .ref t] (getItem (.ref t) (.ref s.heap.objs.size)) := by with_unfolding_all rfl)
    (hg : ∀ r, letTemporaryGo value (.ref t) r = pure () := by intro _; with_unfolding_all rfl) :
    wpAny (model prog w) A (subscriptTail value slice (.ref t) (.ref s.heap.objs.size)) Q E { s with heap := s.heap.push { cls := .type "slice", data := .fields #[.int k u, .none, .none] } } := by
  subst hk
  exact slice_tuple_fr F N ht h1 ha hsz h hs hg
theorem add_tup {t b : Addr} {vs ws : List Value} {Q : Value → Shared → Prop} (F : Fr h₀ L s.heap m) (N : News h₀ L s.heap news) (D : ND news) (mt : (t, tupOf vs) ∈ news) (mb : (b, tupOf ws) ∈ news) (hz : vs.length + ws.length ≤ 16384)
    (h : ∀ D' h' pre, Fr h₀ L h' m → News h₀ L h' (news ++ pre) → ND (news ++ pre) → (D', tupOf (vs ++ ws)) ∈ (t, tupOf vs) :: (b, tupOf ws) :: pre → Q (.ref D') { s with heap := h' }) : wpAny (model prog w) A (binaryOp .Add (.ref t) (.ref b)) Q E s := by
  have ht := News.isTup N mt
  have hb := News.isTup N mb
  by_cases hv : vs = []
  · subst hv
    exact kde_addT0 F N ht hb rfl hz (h b s.heap [] F (by rw [List.append_nil]; exact N) (by rw [List.append_nil]; exact D) (List.mem_cons_of_mem _ (List.mem_cons_self ..)))
  · by_cases hw : ws = []
    · subst hw
      exact kde_addT1 F N ht hb hv rfl hz (h t s.heap [] F (by rw [List.append_nil]; exact N) (by rw [List.append_nil]; exact D) (by rw [List.append_nil]; exact List.mem_cons_self ..))
    · exact kde_addT F N ht hb hv hw hz rfl fun D' h' F' N' lt => h D' h' [(D', tupOf (vs ++ ws))] F' (nperm (l := (D', tupOf (vs ++ ws)) :: news) N' (List.perm_append_comm (l₁ := [(D', tupOf (vs ++ ws))]) (l₂ := news))) ((D.new (o := tupOf (vs ++ ws)) (allLt_of lt)).perm (List.perm_append_comm (l₁ := [(D', tupOf (vs ++ ws))]) (l₂ := news))) (List.mem_cons_of_mem _ (List.mem_cons_of_mem _ (List.mem_cons_self ..)))
theorem pe_1 {α : Type} {s2 d1 s1 a b c d : α} {r : List α} : (s2 :: d1 :: s1 :: a :: b :: c :: d :: r).Perm ([a, b, c, d] ++ (s2 :: d1 :: s1 :: r)) := by (refine perm_of ?_; intro _ kpa; simp only [List.count_cons, List.count_append, List.count_nil, List.append_assoc, List.cons_append, List.nil_append] <;> ac_rfl)
theorem pe_2 {α : Type} {s2 d1 s1 a b c d sd kl hd nl : α} {tl p1 p2 : List α} : (a :: b :: c :: d :: s2 :: d1 :: s1 :: sd :: kl :: hd :: nl :: ((tl ++ p1) ++ p2)).Perm ([a, b, c, d] ++ (s2 :: d1 :: s1 :: (p1 ++ p2)) ++ (sd :: kl :: hd :: nl :: tl)) := by (refine perm_of ?_; intro _ kpa; simp only [List.count_cons, List.count_append, List.count_nil, List.append_assoc, List.cons_append, List.nil_append] <;> ac_rfl)
theorem set_parts {es : List Bs} {i : Nat} {y : Bs} (h : i < es.length) : es.take i ++ [y] ++ es.drop (i + 1) = es.set i y := by
  rw [List.set_eq_take_append_cons_drop, if_pos h, List.append_assoc]
  rfl
/-- a node's text has not six octets -/
theorem nd_no6 {B : List Bs} {v : Nat → Bs} (hb : B.length < 1000000) (hv : ∀ q, (v q).length ≠ 6) {t e : Bs} (ht : t.length = 6) (hs : Hs B t e) : ∀ {h p : Nat}, ¬ Nd B v h p e
  | 0, p, x => by
    have := Hs.inj hb hs x
    subst this
    exact hv _ ht
  | h + 1, p, ⟨l, r, a, b, c⟩ => by
    have := Hs.inj hb hs c
    subst this
    rw [List.length_append, a.len, b.len] at ht
    exact absurd ht (by decide)
end
section
local macro_rules | `(tactic| walk_at "call ref") => `(tactic| (k_here; (first
  | (with_reducible show wpAny _ _ (call (Value.ref 246) _ _) _ _ _) | (with_reducible show wpAny _ _ (call (Value.ref 253) _ _) _ _ _) | (with_reducible show wpAny _ _ (call (Value.ref 260) _ _) _ _ _) | (with_reducible show wpAny _ _ (call (Value.ref 267) _ _) _ _ _)
  | (with_reducible show wpAny _ _ (call (Value.ref 235) _ _) _ _ _) | (with_reducible show wpAny _ _ (call (Value.ref 190) _ _) _ _ _) | (with_reducible show wpAny _ _ (call (Value.ref 204) _ _) _ _ _) | (with_reducible show wpAny _ _ (call (Value.ref 274) _ _) _ _ _)
  | (with_reducible show wpAny _ _ (call (Value.ref 279) _ _) _ _ _) | (with_reducible show wpAny _ _ (call (Value.ref 284) _ _) _ _ _) | (with_reducible show wpAny _ _ (call (Value.ref 176) _ _) _ _ _) | (with_reducible show wpAny _ _ (call (Value.ref 132) _ _) _ _ _)
  | (with_reducible show wpAny _ _ (call (Value.ref 129) _ _) _ _ _) | (with_reducible show wpAny _ _ (call (Value.ref 76) _ _) _ _ _) | (with_reducible show wpAny _ _ (call (Value.ref 291) _ _) _ _ _) | (with_reducible show wpAny _ _ (call (Value.ref 298) _ _) _ _ _)
  | (with_reducible show wpAny _ _ (call (Value.ref 305) _ _) _ _ _) | (with_reducible show wpAny _ _ (call (Value.ref 197) _ _) _ _ _) | (with_reducible show wpAny _ _ (call (Value.ref 232) _ _) _ _ _)); (with_reducible refine Hold.mk ?_)))
set_option hygiene false in
local macro_rules | `(tactic| walk_at "subscriptTail") => `(tactic| (k_here; (with_reducible show wpAny _ _ (subscriptTail _ (Expr.Slice (some _) none none _) (Value.ref _) (Value.ref _)) _ _ _); (with_reducible rename Fr _ _ _ _ => F'); (with_reducible rename News _ _ _ _ => N'); k_dflt (refine slice_tuple_frI (a := at_ + 1) (s := ⟨_, _, _, _, _⟩) F' N' (News.isTup N' (by k_mem)) (by omega) (by omega) (by omega) (by omega) ?_); intro sD sH sF sN sL; (try k_lt sL); (try k_sweep)))
set_option hygiene false in
local macro_rules | `(tactic| walk_at "subscriptTail") => `(tactic| (k_here; (with_reducible show wpAny _ _ (subscriptTail _ (Expr.Slice none (some _) none _) (Value.ref _) (Value.ref _)) _ _ _); (with_reducible rename Fr _ _ _ _ => F'); (with_reducible rename News _ _ _ _ => N'); k_dflt (refine slice_tuple_to (b := at_) (s := ⟨_, _, _, _, _⟩) F' N' (News.isTup N' (by k_mem)) (by omega) (by omega) (by omega) ?_); intro sD sH sF sN sL; (try k_lt sL); (try k_sweep)))
set_option maxHeartbeats 8000000 in
/-- calc_root, right and spoilt -/
theorem lawE3
   {w : World} {h₀ : Heap} {L fa : Addr} {cd : Value} {mean : ExcName → Option Value} {mg mb : Str → Option Value} {s : Shared} {m : Str → Option Value} {Q : Flow → Shared → Prop} {E : Value → Shared → Prop}
   {n : Nat} {x : Bs} {f c ce d tr dd db em : Addr} {fo oc oe : Obj} {t1 t2 t3 t4 t5 tnT td txT : Tok} {vsE : List Value} {cntE : Nat} {esE B1 : List Bs}
   (B : Below callerA h₀ [] h₀) (X : (hd.heap_39 w.params).In h₀) (T : Top topProg LOOSE mean mg mb h₀) (S : Sta n x f c ce d tr dd db em fo oc oe vsE esE B1) (F : Fr h₀ L s.heap m)
   {p0 : Nat} {v : Nat → Bs} {B0 : List Bs} {od odb hobj : Obj} {kvs : List (Bs × Value)} {hk : List (Int × Value)} {root : Bs} {hld kl sd nl : Addr} {vsK vsS nvs : List Value} {esS : List Bs} {ns : List Int} {cntK nc : Nat} {ta tK troot tdp t6 trt : Tok} {tl : List (Addr × Obj)}
   (R : TrS w n v B1 B0 od odb kvs root) (hBl : B0.length ≤ 9000) (hHd : hobj.IsDictOf (intKind PR w) hk) (hHo : HeldOk hk x v) (hvl : ∀ q, (v q).length ≤ 64 ∧ (v q).length ≠ 6)
   (S1 : BsAre vsS esS) (S2 : esS.length = 8 * n) (S3 : ∀ j e, esS[j]? = some e → Nd B0 v (8 * n - 1 - j) (sib p0 (8 * n - 1 - j)) e)
   (hK0 : vsK[0]? = some (.bytes (bts n (p0 : Int)).toArray tK)) (hKl : vsK.length ≤ 5) (hK1 : 1 ≤ vsK.length) (hH0 : (valueAt hk (p0 : Int)).isSome = true) (hp0 : p0 < 256 ^ n) (hI : IntsAre nvs ns) (hnl : ns.length = 7)
   (N : News h₀ L s.heap ([(f, fo), (c, oc), (ce, oe), (d, od)] ++ (sd, tupOf vsS) :: (kl, listOf vsK.toArray cntK) :: (hld, hobj) :: (nl, listOf nvs.toArray nc) :: tl))
   (D : ND ([(f, fo), (c, oc), (ce, oe), (d, od)] ++ (sd, tupOf vsS) :: (kl, listOf vsK.toArray cntK) :: (hld, hobj) :: (nl, listOf nvs.toArray nc) :: tl))
   (e1 : m (Str.ofString "keys") = some (.ref kl)) (e2 : m (Str.ofString "held") = some (.ref hld)) (e3 : m (Str.ofString "first") = some (.int (p0 : Int) ta)) (e4 : m (Str.ofString "side") = some (.ref sd)) (e5 : m (Str.ofString "hash_of") = some (.ref f)) (e6 : m (Str.ofString "root") = some (.bytes root.toArray troot)) (e7 : m (Str.ofString "numbers") = some (.ref nl)) (e8 : m (Str.ofString "depth") = some (.int ((8 * n : Nat) : Int) tdp))
   (cont : ∀ (h' : Heap) (tk : Nat) (u1 u2 : Value) (od' : Obj) (B' : List Bs) (junk : List (Addr × Obj)), Fr h₀ L h' (fun zz => if zz = Str.ofString "spoilt" then some (u2) else if zz = Str.ofString "at" then some (u1) else m zz) → IsBook w od' B' →
     News h₀ L h' ([(f, fo), (c, oc), (ce, oe), (d, od')] ++ junk ++ ((sd, tupOf vsS) :: (kl, listOf vsK.toArray cntK) :: (hld, hobj) :: (nl, listOf nvs.toArray nc) :: tl)) →
     ND ([(f, fo), (c, oc), (ce, oe), (d, od')] ++ junk ++ ((sd, tupOf vsS) :: (kl, listOf vsK.toArray cntK) :: (hld, hobj) :: (nl, listOf nvs.toArray nc) :: tl)) →
     Q .next { s with heap := h', toks := tk }) :
   wpAny (model PR w) (callerA.deeper (lawEnv L fa cd)) (execs (ifBody.drop 5) (lawEnv L fa cd)) Q E s := by
  w_on
  have hn1 := S.hn1
  have hn := S.hn
  obtain ⟨nH1, nH2, nH3⟩ := S.H.2
  have hm := ((congrArg (fun q : Str → Option Value => (fun zz => if zz = Str.ofString "keys" then some (.ref kl) else if zz = Str.ofString "held" then some (.ref hld) else if zz = Str.ofString "first" then some (.int (p0 : Int) ta) else if zz = Str.ofString "side" then some (.ref sd) else if zz = Str.ofString "hash_of" then some (.ref f) else if zz = Str.ofString "root" then some (.bytes root.toArray troot) else if zz = Str.ofString "numbers" then some (.ref nl) else q zz)) (top_eq e8)).trans ((congrArg (fun q : Str → Option Value => (fun zz => if zz = Str.ofString "keys" then some (.ref kl) else if zz = Str.ofString "held" then some (.ref hld) else if zz = Str.ofString "first" then some (.int (p0 : Int) ta) else if zz = Str.ofString "side" then some (.ref sd) else if zz = Str.ofString "hash_of" then some (.ref f) else if zz = Str.ofString "root" then some (.bytes root.toArray troot) else q zz)) (top_eq e7)).trans ((congrArg (fun q : Str → Option Value => (fun zz => if zz = Str.ofString "keys" then some (.ref kl) else if zz = Str.ofString "held" then some (.ref hld) else if zz = Str.ofString "first" then some (.int (p0 : Int) ta) else if zz = Str.ofString "side" then some (.ref sd) else if zz = Str.ofString "hash_of" then some (.ref f) else q zz)) (top_eq e6)).trans ((congrArg (fun q : Str → Option Value => (fun zz => if zz = Str.ofString "keys" then some (.ref kl) else if zz = Str.ofString "held" then some (.ref hld) else if zz = Str.ofString "first" then some (.int (p0 : Int) ta) else if zz = Str.ofString "side" then some (.ref sd) else q zz)) (top_eq e5)).trans ((congrArg (fun q : Str → Option Value => (fun zz => if zz = Str.ofString "keys" then some (.ref kl) else if zz = Str.ofString "held" then some (.ref hld) else if zz = Str.ofString "first" then some (.int (p0 : Int) ta) else q zz)) (top_eq e4)).trans ((congrArg (fun q : Str → Option Value => (fun zz => if zz = Str.ofString "keys" then some (.ref kl) else if zz = Str.ofString "held" then some (.ref hld) else q zz)) (top_eq e3)).trans ((congrArg (fun q : Str → Option Value => (fun zz => if zz = Str.ofString "keys" then some (.ref kl) else q zz)) (top_eq e2)).trans (top_eq e1))))))))
  replace F : Fr h₀ L s.heap (fun zz => if zz = Str.ofString "keys" then some (.ref kl) else if zz = Str.ofString "held" then some (.ref hld) else if zz = Str.ofString "first" then some (.int (p0 : Int) ta) else if zz = Str.ofString "side" then some (.ref sd) else if zz = Str.ofString "hash_of" then some (.ref f) else if zz = Str.ofString "root" then some (.bytes root.toArray troot) else if zz = Str.ofString "numbers" then some (.ref nl) else if zz = Str.ofString "depth" then some (.int ((8 * n : Nat) : Int) tdp) else m zz) := fr_cast F fun y => (congrFun hm y).symm
  obtain ⟨tv0, hv0⟩ := held_at hHo hH0
  have hdec := dec_key hp0
  have hSl := S1.length
  have hs0 := fmod_lo (List.getD ns (Int.toNat 2) 0) (n := ((8 * n : Nat) : Int)) (by omega)
  have hs1 := fmod_hi (List.getD ns (Int.toNat 2) 0) (n := ((8 * n : Nat) : Int)) (by omega)
  obtain ⟨at_, hat⟩ : ∃ a : Nat, Int.fmod (List.getD ns (Int.toNat 2) 0) ((8 * n : Nat) : Int) = (a : Int) := ⟨_, (Int.toNat_of_nonneg hs0).symm⟩
  have hatl : at_ < 8 * n := by omega
  unfold lawEnv
  rw [show lawScope = Scope.mk _ _ _ _ _ from rfl, show ifBody.drop 5 = _ :: _ :: _ from rfl]
  k_steps
  rename Fr _ _ _ _ => F2
  rename News _ _ _ _ => N2
  unfold Hold
  refine wpAny_call (lawCallF (FP := [(f, fo), (c, oc), (ce, oe), (d, od)]) B F2 X T N2 D rfl rfl (Around.frames_deeper (Below.stack B)) fun g2 C2 O2 fz back => ?_)
  have h32 : ∀ e ∈ esS, e.length = 32 := fun e he => by
    obtain ⟨j, hj, he2⟩ := List.getElem_of_mem he
    exact (S3 j e (by rw [List.getElem?_eq_getElem hj, he2])).len
  refine calc_spec (n := n) (vs := vsS) (es := esS) C2 O2 S.H R.hB (fz _ (List.mem_cons_self ..)) S1 S2 h32 (by simp only [depth_deeper, depth_caller]; decide) rfl (by omega) hn hn1 (bts_len n _) fun h7 tk7 e te od2 B2 O7 i1 i2 i3 => ?_
  obtain ⟨F7, N7, D7⟩ := back h7 _ O7 ((ND.left (l := [(f, fo), (c, oc), (ce, oe), (d, od)]) D).upd rfl)
  rw [hdec] at i3
  have her : e = root := by
    have h1 := ch_nd (v := v) rfl S2 (fun j e hj => (S3 j e hj).mono i2.1) (Nat.le_refl _) i3
    rw [Nat.div_eq_of_lt (by rw [Nat.pow_mul]; exact hp0)] at h1
    exact Nd.fn i1.nodup h1 (R.hR.mono i2.1)
  subst her
  have i2l := i2.2
  clear back C2 O2 fz O7 N2 F2
  simp only [List.cons_append, List.nil_append] at N7 D7
  have Dd := (nd_tail (nd_tail (nd_tail D7))).head
  have Df : @Ne Nat f d ∧ @Ne Nat c d ∧ @Ne Nat ce d := by
    have q := D7.head
    have q2 := (nd_tail D7).head
    have q3 := (nd_tail (nd_tail D7)).head
    simp only [AllNe] at q q2 q3
    exact ⟨q.2.2.1.symm, q2.2.1.symm, q3.1.symm⟩
  simp only [AllNe] at Dd
  have off : OwnOff tl [f, c, ce, d] := fun q hq b hb => by
    have := (ND.far (l := [(f, fo), (c, oc), (ce, oe), (d, od2)]) (l' := (sd, tupOf vsS) :: (kl, listOf vsK.toArray cntK) :: (hld, hobj) :: (nl, listOf nvs.toArray nc) :: tl) D7) q (List.mem_cons_of_mem _ (List.mem_cons_of_mem _ (List.mem_cons_of_mem _ (List.mem_cons_of_mem _ hq))))
    simp only [List.forall_mem_cons] at this
    simp only [List.mem_cons, List.not_mem_nil, or_false] at hb
    rcases hb with rfl | rfl | rfl | rfl
    · exact this.1.symm
    · exact this.2.1.symm
    · exact this.2.2.1.symm
    · exact this.2.2.2.1.symm
  have hH := S.H
  dsimp only
  k_steps
  · rename _ = true => hbad
    simp at hbad
  rename Fr _ _ _ _ => F3
  rename News _ _ _ _ => N3
  rename _ ∧ _ ∧ _ ∧ _ ∧ _ ∧ _ ∧ _ ∧ _ ∧ _ ∧ AllLt _ _ => qa
  have D8 := nd_of N3 ((((ND.upd (l' := [(f, fo), (c, oc), (ce, oe), (d, od')] ++ (sd, tupOf vsS) :: (kl, listOf vsK.toArray cntK) :: (hld, hobj) :: (nl, listOf nvs.toArray nc) :: tl) D7 rfl)).new sL).new qa)
  refine add_tup F3 N3 D8 (List.mem_cons_of_mem _ (List.mem_cons_self ..)) (List.mem_cons_self ..) (by simp only [List.length_take, List.length_cons, List.length_nil]; omega) fun dA hA pre1 F4 N4 D9 mA => ?_
  clear N3 F3 D8 D7
  simp only [List.cons_append] at N4 D9
  obtain ⟨tlA, htA⟩ : ∃ z, tl ++ pre1 = z := ⟨_, rfl⟩
  rw [htA] at N4 D9
  dsimp only
  k_steps
  rename Fr _ _ _ _ => F5
  rename News _ _ _ _ => N5
  have D10 := nd_of N5 (D9.new sL)
  have mA2 := mA
  refine add_tup (vs := vsS.take at_ ++ [Value.bytes y'.toArray tv']) F5 N5 D10 (t := dA) (List.mem_cons_of_mem _ ?mt) (List.mem_cons_self ..) (by simp only [List.length_append, List.length_take, List.length_drop, List.length_cons, List.length_nil]; omega) fun dB hB2 pre2 F6 N6 D11 mB => ?_
  case mt =>
    rcases List.mem_cons.mp mA with q | q
    · rw [q]; exact List.mem_cons_of_mem _ (List.mem_cons_self ..)
    rcases List.mem_cons.mp q with q | q
    · rw [q]; exact List.mem_cons_self ..
    · have : (dA, tupOf (vsS.take at_ ++ [Value.bytes y'.toArray tv'])) ∈ tlA := by rw [← htA]; exact List.mem_append_right _ q
      iterate 10 refine List.mem_cons_of_mem _ ?_
      exact this
  clear N5 F5 D10
  simp only [List.cons_append] at N6 D11
  dsimp only
  k_steps
  rename Fr _ _ _ _ => F8
  rename News _ _ _ _ => N8
  have D12 := nd_of N8 D11
  unfold Hold
  refine wpAny_call (lawCallF (FP := [(f, fo), (c, oc), (ce, oe), (d, od')]) B F8 X T (nperm N8 pe_1) (D12.perm pe_1) rfl rfl (Around.frames_deeper (Below.stack B)) fun g2 C2 O2 fz back => ?_)
  have hset := set_parts (es := esS) (i := at_) (y := y') (by omega)
  have hSp : BsAre (vsS.take at_ ++ [Value.bytes y'.toArray tv'] ++ vsS.drop (at_ + 1)) (esS.set at_ y') := by
    rw [← hset]
    exact ((S1.take at_).append (.cons .nil)).append (S1.drop (at_ + 1))
  have h32' : ∀ z ∈ esS.set at_ y', z.length = 32 := fun z hz => by
    rcases List.mem_or_eq_of_mem_set hz with q | q
    · exact h32 z q
    · rw [q]; exact hL'
  refine calc_spec (n := n) (es := esS.set at_ y') C2 O2 S.H hB' (fz (dB, tupOf (vsS.take at_ ++ [Value.bytes y'.toArray tv'] ++ vsS.drop (at_ + 1))) ?mem) hSp (by rw [List.length_set]; exact S2) h32' (by simp only [depth_deeper, depth_caller]; decide) rfl (by omega) hn hn1 (bts_len n _) fun h9 tk9 e2 te2 od4 B4 O9 k1 k2 k3 => ?_
  case mem =>
    rcases List.mem_cons.mp mB with q | q
    · rw [q]
      rcases List.mem_cons.mp mA with q | q
      · rw [q]; exact List.mem_cons_of_mem _ (List.mem_cons_of_mem _ (List.mem_cons_self ..))
      rcases List.mem_cons.mp q with q | q
      · rw [q]; exact List.mem_cons_of_mem _ (List.mem_cons_self ..)
      · have : (dA, tupOf (vsS.take at_ ++ [Value.bytes y'.toArray tv'])) ∈ tlA := by rw [← htA]; exact List.mem_append_right _ q
        iterate 7 refine List.mem_cons_of_mem _ ?_
        exact List.mem_append_left _ this
    rcases List.mem_cons.mp q with q | q
    · rw [q]; exact List.mem_cons_self ..
    · iterate 7 refine List.mem_cons_of_mem _ ?_
      exact List.mem_append_right _ q
  obtain ⟨F9, N9, D13⟩ := back h9 _ O9 ((ND.left (l := [(f, fo), (c, oc), (ce, oe), (d, od')]) (D12.perm pe_1)).upd rfl)
  rw [hdec] at k3
  have k2l := k2.2
  have hne : e2 ≠ e := fun q => by
    subst q
    have hB4 : B4.length < 1000000 := by omega
    refine (ch_spoilt k1.nodup hB4 (es := esS) (es' := esS.set at_ y') (at_ := at_) (by rw [List.length_set]) (by omega) (fun j hj => by rw [List.getElem?_set_ne (by omega)]) (fun q => ?_) h32 h32' (i := 8 * n) (by omega) (i3.mono (hE'.1.trans k2.1)) k3).2 (by omega) rfl
    rw [List.getElem?_set_self (by omega)] at q
    have hnd := S3 at_ y' q.symm
    exact nd_no6 (by omega) (fun r => (hvl r).2) (t := [115, 112, 111, 105, 108, 116]) rfl hH' (hnd.mono (i2.1.trans hE'.1))
  clear back C2 O2 fz O9 N8 F8
  simp only [List.cons_append, List.nil_append] at N9
  dsimp only
  k_steps
  subst htA
  exact cont _ _ _ _ od4 B4 _ (fr_cast F9 (by (intro y; (repeat (refine ite_back ?_)); exact congrFun hm y))) k1 (nperm N9 pe_2) (D13.perm pe_2)
end
end

section
-- LE4
local macro_rules | `(tactic| walk_at "no such key") => `(tactic| fail)
local macro_rules | `(tactic| walk_at "no such key") => `(tactic| fail)
local macro_rules | `(tactic| walk_at "no such key") => `(tactic| fail)
local macro_rules | `(tactic| walk_at "no such key") => `(tactic| fail)
open PySem PySem.W PySem.Calls PyProof.Rows
set_option Elab.async false
set_option maxRecDepth 100000
set_option linter.unusedVariables false
section
variable {α : Type} {a b c d e f g m sd kl hl nl : α} {tl j : List α}
theorem pf_1 : (a :: b :: c :: d :: e :: f :: g :: m :: sd :: kl :: hl :: nl :: tl).Perm (a :: b :: c :: d :: e :: f :: g :: m :: kl :: hl :: (sd :: nl :: tl)) := by (refine perm_of ?_; intro _ kpa; simp only [List.count_cons, List.count_append, List.count_nil, List.append_assoc, List.cons_append, List.nil_append] <;> ac_rfl)
theorem pf_2 : (a :: b :: c :: d :: e :: f :: g :: m :: kl :: hl :: (sd :: nl :: tl)).Perm (a :: b :: c :: d :: e :: f :: g :: m :: hl :: (kl :: sd :: nl :: tl)) := by (refine perm_of ?_; intro _ kpa; simp only [List.count_cons, List.count_append, List.count_nil, List.append_assoc, List.cons_append, List.nil_append] <;> ac_rfl)
theorem pf_3 : (a :: b :: c :: d :: e :: f :: g :: m :: hl :: (kl :: sd :: nl :: tl)).Perm ([d, e, f, g] ++ sd :: kl :: hl :: nl :: (a :: b :: c :: m :: tl)) := by (refine perm_of ?_; intro _ kpa; simp only [List.count_cons, List.count_append, List.count_nil, List.append_assoc, List.cons_append, List.nil_append] <;> ac_rfl)
theorem pf_4 : ([d, e, f, g] ++ j ++ (sd :: kl :: hl :: nl :: (a :: b :: c :: m :: tl))).Perm (a :: b :: c :: d :: e :: f :: g :: m :: sd :: kl :: hl :: nl :: (j ++ tl)) := by (refine perm_of ?_; intro _ kpa; simp only [List.count_cons, List.count_append, List.count_nil, List.append_assoc, List.cons_append, List.nil_append] <;> ac_rfl)
theorem pf_5 : (a :: b :: c :: d :: e :: f :: g :: m :: sd :: kl :: hl :: nl :: tl).Perm ([a, b, sd] ++ kl :: hl :: (c :: d :: e :: f :: g :: m :: nl :: tl)) := by (refine perm_of ?_; intro _ kpa; simp only [List.count_cons, List.count_append, List.count_nil, List.append_assoc, List.cons_append, List.nil_append] <;> ac_rfl)
theorem pf_6 : (sd :: kl :: hl :: a :: b :: c :: d :: e :: f :: g :: m :: tl).Perm (a :: b :: c :: d :: e :: f :: g :: m :: kl :: hl :: (sd :: tl)) := by (refine perm_of ?_; intro _ kpa; simp only [List.count_cons, List.count_append, List.count_nil, List.append_assoc, List.cons_append, List.nil_append] <;> ac_rfl)
theorem pf_7 : (a :: b :: c :: d :: e :: f :: g :: m :: kl :: hl :: (sd :: (j ++ nl :: tl))).Perm (a :: b :: c :: d :: e :: f :: g :: m :: sd :: kl :: hl :: nl :: (j ++ tl)) := by (refine perm_of ?_; intro _ kpa; simp only [List.count_cons, List.count_append, List.count_nil, List.append_assoc, List.cons_append, List.nil_append] <;> ac_rfl)
end
section
local macro_rules | `(tactic| walk_at "call ref") => `(tactic| (k_here; (first
  | (with_reducible show wpAny _ _ (call (Value.ref 246) _ _) _ _ _) | (with_reducible show wpAny _ _ (call (Value.ref 253) _ _) _ _ _) | (with_reducible show wpAny _ _ (call (Value.ref 260) _ _) _ _ _) | (with_reducible show wpAny _ _ (call (Value.ref 267) _ _) _ _ _)
  | (with_reducible show wpAny _ _ (call (Value.ref 235) _ _) _ _ _) | (with_reducible show wpAny _ _ (call (Value.ref 190) _ _) _ _ _) | (with_reducible show wpAny _ _ (call (Value.ref 204) _ _) _ _ _) | (with_reducible show wpAny _ _ (call (Value.ref 274) _ _) _ _ _)
  | (with_reducible show wpAny _ _ (call (Value.ref 279) _ _) _ _ _) | (with_reducible show wpAny _ _ (call (Value.ref 284) _ _) _ _ _) | (with_reducible show wpAny _ _ (call (Value.ref 176) _ _) _ _ _) | (with_reducible show wpAny _ _ (call (Value.ref 132) _ _) _ _ _)
  | (with_reducible show wpAny _ _ (call (Value.ref 129) _ _) _ _ _) | (with_reducible show wpAny _ _ (call (Value.ref 76) _ _) _ _ _) | (with_reducible show wpAny _ _ (call (Value.ref 291) _ _) _ _ _) | (with_reducible show wpAny _ _ (call (Value.ref 298) _ _) _ _ _)
  | (with_reducible show wpAny _ _ (call (Value.ref 305) _ _) _ _ _) | (with_reducible show wpAny _ _ (call (Value.ref 197) _ _) _ _ _) | (with_reducible show wpAny _ _ (call (Value.ref 232) _ _) _ _ _)); (with_reducible refine Hold.mk ?_)))
local macro_rules | `(tactic| walk_at "execs cons") => `(tactic| ((with_reducible show wpAny _ _ (execs (Stmt.If (Expr.UnaryOp _ (Expr.Call (Expr.Name ("_law_read" : Str) _) _ _ _) _) _ _ _ :: _) _) _ _ _); (with_reducible refine Hold.mk ?_)))
set_option maxHeartbeats 8000000 in
/-- the last statement -/
theorem lawD5
   {w : World} {h₀ : Heap} {L fa : Addr} {cd : Value} {mean : ExcName → Option Value} {mg mb : Str → Option Value} {s : Shared} {m : Str → Option Value} {Q : Flow → Shared → Prop} {E : Value → Shared → Prop}
   {n : Nat} {x : Bs} {f c ce d tr dd db em : Addr} {fo oc oe : Obj} {t1 t2 t3 t4 t5 tnT td txT : Tok} {vsE : List Value} {cntE : Nat} {esE B1 : List Bs}
   (B : Below callerA h₀ [] h₀) (X : (hd.heap_39 w.params).In h₀) (T : Top topProg LOOSE mean mg mb h₀) (S : Sta n x f c ce d tr dd db em fo oc oe vsE esE B1) (F : Fr h₀ L s.heap m)
   {p0 : Nat} {v : Nat → Bs} {hobj : Obj} {hk : List (Int × Value)} {root : Bs} {hld kl sd : Addr} {vsK vsS : List Value} {cntK : Nat} {ta tK t6 trt : Tok} {tl : List (Addr × Obj)}
   (hHd : hobj.IsDictOf (intKind PR w) hk) (hHo : HeldOk hk x v) (hSl : vsS.length = 8 * n)
   (hK0 : vsK[0]? = some (.bytes (bts n (p0 : Int)).toArray tK)) (hKl : vsK.length ≤ 5) (hK1 : 1 ≤ vsK.length) (hH0 : (valueAt hk (p0 : Int)).isSome = true)
   (N : News h₀ L s.heap ([(tr, instObj 235 dd), (dd, treeD w t1 t2 t3 t4 t5 t6 tnT td txT trt n x f db root), (sd, tupOf vsS)] ++ (kl, listOf vsK.toArray cntK) :: (hld, hobj) :: tl))
   (D : ND ([(tr, instObj 235 dd), (dd, treeD w t1 t2 t3 t4 t5 t6 tnT td txT trt n x f db root), (sd, tupOf vsS)] ++ (kl, listOf vsK.toArray cntK) :: (hld, hobj) :: tl))
   (e1 : m (Str.ofString "tree") = some (.ref tr)) (e2 : m (Str.ofString "keys") = some (.ref kl)) (e3 : m (Str.ofString "side") = some (.ref sd)) (e4 : m (Str.ofString "held") = some (.ref hld)) (e5 : m (Str.ofString "first") = some (.int (p0 : Int) ta)) (e6 : m (Str.ofString "hash_of") = some (.ref f))
   (cont : ∀ (h' : Heap) (tk : Nat), Fr h₀ L h' m → News h₀ L h' ([(tr, instObj 235 dd), (dd, treeD w t1 t2 t3 t4 t5 t6 tnT td txT trt n x f db root), (sd, tupOf vsS)] ++ (kl, listOf vsK.toArray cntK) :: (hld, hobj) :: tl) →
     Q (.ret (.bool true)) { s with heap := h', toks := tk }) :
   wpAny (model PR w) (callerA.deeper (lawEnv L fa cd)) (execs (lawBody.drop 23) (lawEnv L fa cd)) Q E s := by
  w_on
  have hn1 := S.hn1
  have hn := S.hn
  have hm := ((congrArg (fun q : Str → Option Value => (fun zz => if zz = Str.ofString "tree" then some (.ref tr) else if zz = Str.ofString "keys" then some (.ref kl) else if zz = Str.ofString "side" then some (.ref sd) else if zz = Str.ofString "held" then some (.ref hld) else if zz = Str.ofString "first" then some (.int (p0 : Int) ta) else q zz)) (top_eq e6)).trans ((congrArg (fun q : Str → Option Value => (fun zz => if zz = Str.ofString "tree" then some (.ref tr) else if zz = Str.ofString "keys" then some (.ref kl) else if zz = Str.ofString "side" then some (.ref sd) else if zz = Str.ofString "held" then some (.ref hld) else q zz)) (top_eq e5)).trans ((congrArg (fun q : Str → Option Value => (fun zz => if zz = Str.ofString "tree" then some (.ref tr) else if zz = Str.ofString "keys" then some (.ref kl) else if zz = Str.ofString "side" then some (.ref sd) else q zz)) (top_eq e4)).trans ((congrArg (fun q : Str → Option Value => (fun zz => if zz = Str.ofString "tree" then some (.ref tr) else if zz = Str.ofString "keys" then some (.ref kl) else q zz)) (top_eq e3)).trans ((congrArg (fun q : Str → Option Value => (fun zz => if zz = Str.ofString "tree" then some (.ref tr) else q zz)) (top_eq e2)).trans (top_eq e1))))))
  replace F : Fr h₀ L s.heap (fun zz => if zz = Str.ofString "tree" then some (.ref tr) else if zz = Str.ofString "keys" then some (.ref kl) else if zz = Str.ofString "side" then some (.ref sd) else if zz = Str.ofString "held" then some (.ref hld) else if zz = Str.ofString "first" then some (.int (p0 : Int) ta) else if zz = Str.ofString "hash_of" then some (.ref f) else m zz) := fr_cast F fun y => (congrFun hm y).symm
  obtain ⟨tv0, hv0⟩ := held_at hHo hH0
  unfold lawEnv
  rw [show lawScope = Scope.mk _ _ _ _ _ from rfl, show lawBody.drop 23 = [Stmt.Return (some (Expr.Call _ _ _ _)) _] from rfl]
  simp only [List.cons_append, List.nil_append] at N

  k_steps
  rename Fr _ _ _ _ => F2
  rename News _ _ _ _ => N2
  unfold Hold
  refine wpAny_call (lawCallS (FP := [(tr, instObj 235 dd), (dd, treeD w t1 t2 t3 t4 t5 t6 tnT td txT trt n x f db root), (sd, tupOf vsS)]) B F2 X T N2 D rfl rfl (Around.frames_deeper (Below.stack B)) fun g2 C2 K2 O2 back => ?_)
  refine refused_spec (B := []) (n := n) C2 X T K2 O2 (by simp only [depth_deeper, depth_caller]; decide) rfl hn hn1 (bts_len n _) hSl fun h3 tk3 g3 T3 O3 => ?_
  obtain ⟨F3, N3, D3⟩ := back h3 g3 _ T3 O3 ((ND.left (l := [(tr, instObj 235 dd), (dd, treeD w t1 t2 t3 t4 t5 t6 tnT td txT trt n x f db root), (sd, tupOf vsS)]) D).upd rfl)
  clear back C2 K2 O2 T3 O3 N2 F2
  exact cont _ _ (fr_cast F3 fun y => congrFun hm y) N3
end
end

section
-- LE5
open PySem PySem.W PySem.Calls PyProof.Rows
set_option Elab.async false
set_option maxRecDepth 100000
set_option linter.unusedVariables false
section
local macro_rules | `(tactic| walk_at "call ref") => `(tactic| (k_here; (first
  | (with_reducible show wpAny _ _ (call (Value.ref 246) _ _) _ _ _) | (with_reducible show wpAny _ _ (call (Value.ref 253) _ _) _ _ _) | (with_reducible show wpAny _ _ (call (Value.ref 260) _ _) _ _ _) | (with_reducible show wpAny _ _ (call (Value.ref 267) _ _) _ _ _)
  | (with_reducible show wpAny _ _ (call (Value.ref 235) _ _) _ _ _) | (with_reducible show wpAny _ _ (call (Value.ref 190) _ _) _ _ _) | (with_reducible show wpAny _ _ (call (Value.ref 204) _ _) _ _ _) | (with_reducible show wpAny _ _ (call (Value.ref 274) _ _) _ _ _)
  | (with_reducible show wpAny _ _ (call (Value.ref 279) _ _) _ _ _) | (with_reducible show wpAny _ _ (call (Value.ref 284) _ _) _ _ _) | (with_reducible show wpAny _ _ (call (Value.ref 176) _ _) _ _ _) | (with_reducible show wpAny _ _ (call (Value.ref 132) _ _) _ _ _)
  | (with_reducible show wpAny _ _ (call (Value.ref 129) _ _) _ _ _) | (with_reducible show wpAny _ _ (call (Value.ref 76) _ _) _ _ _) | (with_reducible show wpAny _ _ (call (Value.ref 291) _ _) _ _ _) | (with_reducible show wpAny _ _ (call (Value.ref 298) _ _) _ _ _)
  | (with_reducible show wpAny _ _ (call (Value.ref 305) _ _) _ _ _) | (with_reducible show wpAny _ _ (call (Value.ref 197) _ _) _ _ _) | (with_reducible show wpAny _ _ (call (Value.ref 232) _ _) _ _ _)); (with_reducible refine Hold.mk ?_)))
local macro_rules | `(tactic| walk_at "execs cons") => `(tactic| ((with_reducible show wpAny _ _ (execs (Stmt.If (Expr.UnaryOp _ (Expr.Call (Expr.Name ("_law_read" : Str) _) _ _ _) _) _ _ _ :: _) _) _ _ _); (with_reducible refine Hold.mk ?_)))
local macro_rules | `(tactic| walk_at "execs cons") => `(tactic| ((with_reducible show wpAny _ _ (execs (Stmt.Return _ _ :: _) _) _ _ _); (with_reducible refine Hold.mk ?_)))
set_option maxHeartbeats 8000000 in
/-- the if on small keys -/
theorem lawD4
   {w : World} {h₀ : Heap} {L fa : Addr} {cd : Value} {mean : ExcName → Option Value} {mg mb : Str → Option Value} {s : Shared} {m : Str → Option Value} {Q : Flow → Shared → Prop} {E : Value → Shared → Prop}
   {n : Nat} {x : Bs} {f c ce d tr dd db em : Addr} {fo oc oe : Obj} {t1 t2 t3 t4 t5 tnT td txT : Tok} {vsE : List Value} {cntE : Nat} {esE B1 : List Bs}
   (B : Below callerA h₀ [] h₀) (X : (hd.heap_39 w.params).In h₀) (T : Top topProg LOOSE mean mg mb h₀) (S : Sta n x f c ce d tr dd db em fo oc oe vsE esE B1) (F : Fr h₀ L s.heap m)
   {p1 p2 p3 pl : Nat} {v : Nat → Bs} {ks : List Nat} {B0 : List Bs} {od odb hobj : Obj} {kvs : List (Bs × Value)} {hk : List (Int × Value)} {root : Bs} {hld kl sd nl : Addr} {vsK vsS nvs : List Value} {esS : List Bs} {ns : List Int} {cntK nc : Nat} {tn tx tdp ta tb tc tpl troot t6 trt : Tok} {tl : List (Addr × Obj)}
   (R : TrS w n v B1 B0 od odb kvs root) (hBl : B0.length ≤ 9000) (hHd : hobj.IsDictOf (intKind PR w) hk) (hHo : HeldOk hk x v) (hHs : (hld == sysModules) = false) (hvl : ∀ q, (v q).length ≤ 64 ∧ (v q).length ≠ 6)
   (S1 : BsAre vsS esS) (S2 : esS.length = 8 * n) (S3 : ∀ j e, esS[j]? = some e → Nd B0 v (8 * n - 1 - j) (sib p1 (8 * n - 1 - j)) e)
   (hK : BsAre vsK (ks.map fun (q : Nat) => bts n (q : Int))) (hKs : ∀ q ∈ ks, (valueAt hk (q : Int)).isSome = true) (h8a : n ≤ 8 → ks = [p1, p2, p3] ∧ pl = p3) (hp1 : p1 < 256 ^ n) (hp2 : p2 < 256 ^ n) (hp3 : p3 < 256 ^ n) (hI : IntsAre nvs ns) (hnl : ns.length = 7)
   (N : News h₀ L s.heap ((tr, instObj 235 dd) :: (dd, treeD w t1 t2 t3 t4 t5 t6 tnT td txT trt n x f db root) :: (db, odb) :: (f, fo) :: (c, oc) :: (ce, oe) :: (d, od) :: (em, listOf vsE.toArray cntE) :: (sd, tupOf vsS) :: (kl, listOf vsK.toArray cntK) :: (hld, hobj) :: (nl, listOf nvs.toArray nc) :: tl))
   (D : ND ((tr, instObj 235 dd) :: (dd, treeD w t1 t2 t3 t4 t5 t6 tnT td txT trt n x f db root) :: (db, odb) :: (f, fo) :: (c, oc) :: (ce, oe) :: (d, od) :: (em, listOf vsE.toArray cntE) :: (sd, tupOf vsS) :: (kl, listOf vsK.toArray cntK) :: (hld, hobj) :: (nl, listOf nvs.toArray nc) :: tl))
   (nm : Nm ((Str.ofString "side", .ref sd) :: (Str.ofString "root", .bytes root.toArray troot) :: (Str.ofString "number", .int (pl : Int) tpl) :: [(Str.ofString "size", .int (n : Int) tn), (Str.ofString "default", .bytes x.toArray tx), (Str.ofString "depth", .int ((8 * n : Nat) : Int) tdp), (Str.ofString "hash_of", .ref f), (Str.ofString "empty", .ref em), (Str.ofString "tree", .ref tr), (Str.ofString "held", .ref hld), (Str.ofString "keys", .ref kl), (Str.ofString "numbers", .ref nl), (Str.ofString "first", .int (p1 : Int) ta), (Str.ofString "second", .int (p2 : Int) tb), (Str.ofString "third", .int (p3 : Int) tc)]) m)
   (cont : ∀ (h' : Heap) (tk : Nat) (m' : Str → Option Value) (od' : Obj) (junk : List (Addr × Obj)), Fr h₀ L h' m' → Nm ((Str.ofString "side", .ref sd) :: (Str.ofString "root", .bytes root.toArray troot) :: (Str.ofString "number", .int (pl : Int) tpl) :: [(Str.ofString "size", .int (n : Int) tn), (Str.ofString "default", .bytes x.toArray tx), (Str.ofString "depth", .int ((8 * n : Nat) : Int) tdp), (Str.ofString "hash_of", .ref f), (Str.ofString "empty", .ref em), (Str.ofString "tree", .ref tr), (Str.ofString "held", .ref hld), (Str.ofString "keys", .ref kl), (Str.ofString "numbers", .ref nl), (Str.ofString "first", .int (p1 : Int) ta), (Str.ofString "second", .int (p2 : Int) tb), (Str.ofString "third", .int (p3 : Int) tc)]) m' →
     News h₀ L h' ((tr, instObj 235 dd) :: (dd, treeD w t1 t2 t3 t4 t5 t6 tnT td txT trt n x f db root) :: (db, odb) :: (f, fo) :: (c, oc) :: (ce, oe) :: (d, od') :: (em, listOf vsE.toArray cntE) :: (sd, tupOf vsS) :: (kl, listOf vsK.toArray cntK) :: (hld, hobj) :: (nl, listOf nvs.toArray nc) :: (junk ++ tl)) →
     ND ((tr, instObj 235 dd) :: (dd, treeD w t1 t2 t3 t4 t5 t6 tnT td txT trt n x f db root) :: (db, odb) :: (f, fo) :: (c, oc) :: (ce, oe) :: (d, od') :: (em, listOf vsE.toArray cntE) :: (sd, tupOf vsS) :: (kl, listOf vsK.toArray cntK) :: (hld, hobj) :: (nl, listOf nvs.toArray nc) :: (junk ++ tl)) →
     wpAny (model PR w) (callerA.deeper (lawEnv L fa cd)) (execs (lawBody.drop 23) (lawEnv L fa cd)) Q E { s with heap := h', toks := tk }) :
   wpAny (model PR w) (callerA.deeper (lawEnv L fa cd)) (execs (lawBody.drop 22) (lawEnv L fa cd)) Q E s := by
  w_on
  have hn1 := S.hn1
  have hn := S.hn
  have e1 := nm.at 3 rfl
  have hm := (top_eq e1)
  replace F : Fr h₀ L s.heap (fun zz => if zz = Str.ofString "size" then some (.int (n : Int) tn) else m zz) := fr_cast F fun y => (congrFun hm y).symm
  unfold lawEnv
  rw [show lawScope = Scope.mk _ _ _ _ _ from rfl, show lawBody.drop 22 = _ :: _ :: _ from rfl]
  by_cases h8 : n ≤ 8
  · obtain ⟨hks, hpl⟩ := h8a h8
    subst hks hpl
    simp only [List.map_cons, List.map_nil] at hK
    cases hK with
    | cons hK => cases hK with
      | cons hK => cases hK with
        | cons hK => cases hK with
          | nil =>
            k_steps
            rename Fr _ _ _ _ => F2
            rename News _ _ _ _ => N2
            unfold Hold
            refine lawE1 (p1 := p1) (p2 := p2) (p3 := pl) (tl := (sd, tupOf vsS) :: (nl, listOf nvs.toArray nc) :: tl) B X T S (fr_cast F2 (by (intro y; (repeat (refine ite_back ?_)); exact congrFun hm y))) R hBl hHd hHo (hKs _ (List.mem_of_getElem? (i := 1) rfl)) (hKs _ (List.mem_of_getElem? (i := 2) rfl)) hp2 hp3 (nperm N2 pf_1) (D.perm pf_1) (nm.at 8 rfl) (nm.at 10 rfl) (nm.at 9 rfl) (nm.at 13 rfl) (nm.at 2 rfl) fun h3 tk3 F3 N3 => ?_
            have D3 := nd_of N3 (D.perm pf_1)
            refine lawE2 (p3 := pl) B X T S F3 R hBl hHd hHo hHs hp3 (nperm N3 pf_2) (D3.perm pf_2) (nm.at 14 rfl) (nm.at 9 rfl) (nm.at 4 rfl) (nm.at 8 rfl) (nm.at 3 rfl) fun h4 tk4 u1 u2 F4 N4 => ?_
            have D4 := nd_of N4 (D3.perm pf_2)
            have nm2 := (nm.set (Str.ofString "unheld") u1 (by (simp only [List.map_cons, List.map_nil]; decide))).set (Str.ofString "due") u2 (by (simp only [List.map_cons, List.map_nil]; decide))
            refine lawE3 (t1 := t1) (t2 := t2) (t3 := t3) (t4 := t4) (t5 := t5) (tnT := tnT) (td := td) (txT := txT) (cntE := cntE) (t6 := t6) (trt := trt) (p0 := p1) (tl := _) B X T S F4 R hBl hHd hHo hvl S1 S2 S3 (tK := _) rfl (by simp) (by simp) (hKs _ (List.mem_of_getElem? (i := 0) rfl)) hp1 hI hnl (nperm N4 pf_3) (D4.perm pf_3) (nm2.at 10 rfl) (nm2.at 9 rfl) (nm2.at 12 rfl) (nm2.at 0 rfl) (nm2.at 6 rfl) (nm2.at 1 rfl) (nm2.at 11 rfl) (nm2.at 5 rfl) fun h5 tk5 u3 u4 od' B' junk F5 hB5 N5 D5 => ?_
            have nm3 := (nm2.set (Str.ofString "at") u3 (by (simp only [List.map_cons, List.map_nil]; decide))).set (Str.ofString "spoilt") u4 (by (simp only [List.map_cons, List.map_nil]; decide))
            exact cont h5 tk5 _ od' junk F5 nm3 (nperm N5 pf_4) (D5.perm pf_4)
  · k_steps
    rename Fr _ _ _ _ => F2
    rename News _ _ _ _ => N2
    unfold Hold
    exact cont _ _ m od [] (fr_cast F2 (by (intro y; (repeat (refine ite_back ?_)); exact congrFun hm y))) nm N2 D
set_option maxHeartbeats 8000000 in
/-- from behind the loop to the end -/
theorem lawEnd
   {w : World} {h₀ : Heap} {L fa : Addr} {cd : Value} {mean : ExcName → Option Value} {mg mb : Str → Option Value} {s : Shared} {m : Str → Option Value} {Q : Flow → Shared → Prop} {E : Value → Shared → Prop}
   {n : Nat} {x : Bs} {f c ce d tr dd db em : Addr} {fo oc oe : Obj} {t1 t2 t3 t4 t5 tnT td txT : Tok} {vsE : List Value} {cntE : Nat} {esE B1 : List Bs}
   (B : Below callerA h₀ [] h₀) (X : (hd.heap_39 w.params).In h₀) (T : Top topProg LOOSE mean mg mb h₀) (S : Sta n x f c ce d tr dd db em fo oc oe vsE esE B1) (F : Fr h₀ L s.heap m)
   {p1 p2 p3 pl k : Nat} {v : Nat → Bs} {ks : List Nat} {hld kl nl : Addr} {nvs : List Value} {ns : List Int} {nc : Nat} {tn tx tdp ta tb tc tpl : Tok} {J tl : List (Addr × Obj)}
   (Af : After w h₀ L n x f c ce d tr dd db em fo oc oe t1 t2 t3 t4 t5 tnT td txT vsE cntE B1 hld kl p1 k v ks m s.heap (J ++ (nl, listOf nvs.toArray nc) :: tl)) (hk3 : k ≤ 3) (hHs : (hld == sysModules) = false) (hvl : ∀ q, (v q).length ≤ 64 ∧ (v q).length ≠ 6)
   (h8a : n ≤ 8 → ks = [p1, p2, p3] ∧ pl = p3) (h8b : 8 < n → ks = [p1, p2] ∧ pl = p2) (hp1 : p1 < 256 ^ n) (hp2 : p2 < 256 ^ n) (hp3 : p3 < 256 ^ n) (hI : IntsAre nvs ns) (hnl : ns.length = 7)
   (nm : Nm ((Str.ofString "number", .int (pl : Int) tpl) :: [(Str.ofString "size", .int (n : Int) tn), (Str.ofString "default", .bytes x.toArray tx), (Str.ofString "depth", .int ((8 * n : Nat) : Int) tdp), (Str.ofString "hash_of", .ref f), (Str.ofString "empty", .ref em), (Str.ofString "tree", .ref tr), (Str.ofString "held", .ref hld), (Str.ofString "keys", .ref kl), (Str.ofString "numbers", .ref nl), (Str.ofString "first", .int (p1 : Int) ta), (Str.ofString "second", .int (p2 : Int) tb), (Str.ofString "third", .int (p3 : Int) tc)]) m)
   (cont : ∀ (h' : Heap) (tk : Nat) (m' : Str → Option Value) (ls : List (Addr × Obj)), Fr h₀ L h' m' → News h₀ L h' ls → (∀ q ∈ tl, q ∈ ls) → Q (.ret (.bool true)) { s with heap := h', toks := tk }) :
   wpAny (model PR w) (callerA.deeper (lawEnv L fa cd)) (execs (lawBody.drop 18) (lawEnv L fa cd)) Q E s := by
  have hn := S.hn
  obtain ⟨B0, od, odb, hobj, kvs, root, t6, trt, hk, vsK, cntK, lv, vsL, cntL, tlL, junk, pf, pd, pb, q1, q2, q3, q4, q5, q6, tk0, tnp, typ, tbp, vsP, esP, cntP, N, D, R, bl, kvl, hHd, hHo, hHl, hLv, P1, P2, P3, hK, hKl, hKs, nP, nL⟩ := Af
  obtain ⟨r, hr⟩ : ∃ r, ks = p1 :: r ∧ r.length ≤ 2 := by
    by_cases h8 : n ≤ 8
    · exact ⟨[p2, p3], (h8a h8).1, Nat.le_refl 2⟩
    · exact ⟨[p2], (h8b (by omega)).1, Nat.le_succ 1⟩
  have hr2 := hr.2
  obtain ⟨tK, hK0⟩ : ∃ tK, vsK[0]? = some (.bytes (bts n (p1 : Int)).toArray tK) := hK.get (by rw [hr.1]; rfl)
  have hKl2 := hK.length
  rw [hr.1] at hKl2
  simp only [List.map_cons, List.length_cons, List.length_map] at hKl2
  have hH0 : (valueAt hk (p1 : Int)).isSome = true := hKs p1 (by rw [hr.1]; exact List.mem_cons_self ..)
  refine lawD1 (p0 := p1) (tl := junk ++ (J ++ (nl, listOf nvs.toArray nc) :: tl)) B X T S F R (by omega) hHd hHo hLv P1 P2 P3 hK0 (by omega) (by omega) hH0 hp1 N D (nm.at 6 rfl) nL (nm.at 5 rfl) (nm.at 10 rfl) (nm.at 3 rfl) nP (nm.at 8 rfl) (nm.at 7 rfl)
    fun h1 tk1 sd vsS esS od1 B2 troot junk1 F1 N1 D1 R1 x1 S1 S2 S3 => ?_
  have nm1 := (nm.put (Str.ofString "root") (.bytes root.toArray troot) (by (simp only [List.map_cons, List.map_nil]; decide))).put (Str.ofString "side") (.ref sd) (by (simp only [List.map_cons, List.map_nil]; decide))
  have x1l := x1.2
  refine lawD2 (s := { s with heap := h1, toks := tk1 }) (p0 := p1) (tl := (sd, tupOf vsS) :: (junk1 ++ (junk ++ (J ++ (nl, listOf nvs.toArray nc) :: tl)))) B X T S F1 R1 (by omega) hHd hHo hK0 (by omega) (by omega) hH0 hp1 (nperm N1 pf_6) (D1.perm pf_6) (nm1.at 8 rfl) (nm1.at 10 rfl) (nm1.at 9 rfl) (nm1.at 12 rfl) fun h2 tk2 F2 N2 => ?_
  have D2 := nd_of N2 (D1.perm pf_6)
  have e3 : junk1 ++ (junk ++ (J ++ (nl, listOf nvs.toArray nc) :: tl)) = (junk1 ++ (junk ++ J)) ++ (nl, listOf nvs.toArray nc) :: tl := by simp only [List.append_assoc]
  rw [e3] at N2 D2
  refine lawD4 (s := { s with heap := h2, toks := tk2 }) (p1 := p1) (p2 := p2) (p3 := p3) (pl := pl) (tl := junk1 ++ (junk ++ J) ++ tl) B X T S F2 R1 (by omega) hHd hHo hHs hvl S1 S2 S3 hK hKs h8a hp1 hp2 hp3 hI hnl (nperm N2 pf_7) (D2.perm pf_7) nm1 fun h3 tk3 m3 od3 junk3 F3 nm3 N3 D3 => ?_
  refine lawD5 (s := { s with heap := h3, toks := tk3 }) (vsE := vsE) (cntE := cntE) (p0 := p1) (v := v) (tl := (db, odb) :: (f, fo) :: (c, oc) :: (ce, oe) :: (d, od3) :: (em, listOf vsE.toArray cntE) :: (nl, listOf nvs.toArray nc) :: (junk3 ++ (junk1 ++ (junk ++ J) ++ tl))) B X T S F3 hHd hHo (by rw [S1.length, S2]) hK0 (by omega) (by omega) hH0 (nperm N3 pf_5) (D3.perm pf_5) (nm3.at 8 rfl) (nm3.at 10 rfl) (nm3.at 0 rfl) (nm3.at 9 rfl) (nm3.at 12 rfl) (nm3.at 6 rfl) fun h4 tk4 F4 N4 => ?_
  exact cont h4 tk4 m3 _ F4 N4 fun q hq => by
    iterate 12 refine List.mem_cons_of_mem _ ?_
    exact List.mem_append_right _ (List.mem_append_right _ hq)
end
end

section
-- L12
open PySem PySem.W PySem.Calls PyProof.Rows
set_option Elab.async false
set_option maxRecDepth 100000
set_option linter.unusedVariables false
section
variable {α : Type} {em f c ce d t5 nl tr dd db kl hd dl a3 j1 j2 a2 j3 j4 a1 j5 : α} {tl : List α}
theorem pj_1 : [em, f, c, ce, d, t5, nl].Perm ([f, c, ce, d] ++ [em, t5, nl]) := by (refine perm_of ?_; intro _ kpa; simp only [List.count_cons, List.count_append, List.count_nil, List.append_assoc, List.cons_append, List.nil_append] <;> ac_rfl)
theorem pj_2 : ([tr, dd, db, f, c, ce, d] ++ [em, t5, nl]).Perm ([tr, dd, em, nl] ++ [db, f, c, ce, d, t5]) := by (refine perm_of ?_; intro _ kpa; simp only [List.count_cons, List.count_append, List.count_nil, List.append_assoc, List.cons_append, List.nil_append] <;> ac_rfl)
theorem pj_3 : (kl :: hd :: dl :: a3 :: j1 :: j2 :: a2 :: j3 :: j4 :: a1 :: j5 :: tr :: dd :: em :: nl :: [db, f, c, ce, d, t5]).Perm (dl :: a1 :: a2 :: a3 :: kl :: hd :: tr :: dd :: db :: f :: c :: ce :: d :: em :: (nl :: [t5, j1, j2, j3, j4, j5])) := by (refine perm_of ?_; intro _ kpa; simp only [List.count_cons, List.count_append, List.count_nil, List.append_assoc, List.cons_append, List.nil_append] <;> ac_rfl)
end
theorem full_em {x : Bs} {B : List Bs} {D : Nat} {kvs : List (Bs × Value)} (h : ∀ i, i ≤ D → ∃ e, Em x B i e ∧ e ∈ kvs.map (·.1)) : Full B (fun _ => x) D kvs := fun i n hi _ => by
  obtain ⟨e, e1, e2⟩ := h i hi
  exact ⟨e, Nd.of_em (fun _ _ => rfl) e1, e2⟩
set_option maxHeartbeats 8000000 in
/-- the law from its second statement on -/
theorem lawAll {w : World} {h₀ : Heap} {L fa nl : Addr} {cd : Value} {mean : ExcName → Option Value} {mg mb : Str → Option Value} {s : Shared} {m : Str → Option Value} {Q : Flow → Shared → Prop} {E : Value → Shared → Prop} {nvs : List Value} {ns : List Int} {nc : Nat}
   (B : Below callerA h₀ [] h₀) (X : (hd.heap_39 w.params).In h₀) (T : Top topProg LOOSE mean mg mb h₀) (hcd : CodeHd h₀ 259 255) (F : Fr h₀ L s.heap (fun y => if y = Str.ofString "numbers" then some (.ref nl) else m y)) (N : News h₀ L s.heap [(nl, listOf nvs.toArray nc), (255, tabObj #[])])
   (hI : IntsAre nvs ns) (hl : ns.length = 7) (hnl : @Ne Nat nl 255) (hE : PassesOwn (model PR w) (callerA.deeper (lawEnv L fa cd)) (lawEnv L fa cd) E)
   (cont : ∀ (h' : Heap) (tk : Nat) (m' : Str → Option Value) (ls : List (Addr × Obj)) (ps : Array Value), Fr h₀ L h' m' → News h₀ L h' ls → (255, tabObj ps) ∈ ls → Q (.ret (.bool true)) { s with heap := h', toks := tk }) :
   wpAny (model PR w) (callerA.deeper (lawEnv L fa cd)) (execs (lawBody.drop 1) (lawEnv L fa cd)) Q E s := by
  refine lawA B X T hcd F N hI hl hnl fun s1 n x tx tn td f c ce d em fo oc oe od B1 vsE esE cntE ps hs1 F1 N1 H hB1 hBl hE1 hE2 hE3 hn1 hn hxl o => ?_
  obtain ⟨h1, tk1, rfl⟩ := hs1
  obtain ⟨o1, o2, o3, o4, o5, o6⟩ := o
  have nm0 : Nm [] m := fun q hq => nomatch hq
  have nm1 := (((((nm0.put (Str.ofString "numbers") (.ref nl) (by (simp only [List.map_cons, List.map_nil]; decide))).put (Str.ofString "size") (.int (n : Int) tn) (by (simp only [List.map_cons, List.map_nil]; decide))).put (Str.ofString "default") (.bytes x.toArray tx) (by (simp only [List.map_cons, List.map_nil]; decide))).put (Str.ofString "depth") (.int ((8 * n : Nat) : Int) td) (by (simp only [List.map_cons, List.map_nil]; decide))).put (Str.ofString "hash_of") (.ref f) (by (simp only [List.map_cons, List.map_nil]; decide))).put (Str.ofString "empty") (.ref em) (by (simp only [List.map_cons, List.map_nil]; decide))
  have D1 : ND [(em, listOf vsE.toArray cntE), (f, fo), (c, oc), (ce, oe), (d, od), (255, tabObj ps), (nl, listOf nvs.toArray nc)] := by
    have h1 : ND [((255 : Addr), tabObj ps), (nl, listOf nvs.toArray nc)] := nd_ne (nd_ne List.nodup_nil trivial) ⟨hnl, trivial⟩
    have h2 := h1.new (a := d) (o := od) ⟨o6, o5, trivial⟩
    have h3 := h2.new (a := ce) (o := oe) ⟨o1, allLt_mono o1 ⟨o6, o5, trivial⟩⟩
    have h4 := h3.new (a := c) (o := oc) ⟨o2, allLt_mono o2 ⟨o1, allLt_mono o1 ⟨o6, o5, trivial⟩⟩⟩
    have h5 := h4.new (a := f) (o := fo) ⟨o3, allLt_mono o3 ⟨o2, allLt_mono o2 ⟨o1, allLt_mono o1 ⟨o6, o5, trivial⟩⟩⟩⟩
    exact h5.new (a := em) (o := listOf vsE.toArray cntE) ⟨o4, allLt_mono o4 ⟨o3, allLt_mono o3 ⟨o2, allLt_mono o2 ⟨o1, allLt_mono o1 ⟨o6, o5, trivial⟩⟩⟩⟩⟩
  refine lawB1 (n := n) (x := x) (tl := [(em, listOf vsE.toArray cntE), (255, tabObj ps), (nl, listOf nvs.toArray nc)]) B X T F1 (nperm N1 pj_1) (D1.perm pj_1) (nm1.at 4 rfl) (nm1.at 3 rfl) (nm1.at 1 rfl) H hB1 hBl hn1 hn hxl
    fun s2 t1 t2 t3 t4 t5 t6 tdT trt tnT txT tr dd db odb od2 B2 kvs root hs2 F2 N2 D2 i1 i2 i3 i4 i5 i6 i7 i8 i9 => ?_
  obtain ⟨h2, tk2, rfl⟩ := hs2
  have nm2 := nm1.put (Str.ofString "tree") (.ref tr) (by (simp only [List.map_cons, List.map_nil]; decide))
  have i2l := i2.2
  have S : Sta n x f c ce d tr dd db em fo oc oe vsE esE B1 := ⟨H, hn1, hn, hxl, i8, i9, ⟨o4, Nat.lt_trans o3 o4, Nat.lt_trans o2 (Nat.lt_trans o3 o4), Nat.lt_trans o1 (Nat.lt_trans o2 (Nat.lt_trans o3 o4))⟩, hE1, hE2, hE3⟩
  have R : TrS w n (fun _ => x) B1 B2 od2 odb kvs root := ⟨i2.1, i1, i3, i4, full_em i7, Nd.of_em (fun _ _ => rfl) i6⟩
  have hEr : esE[8 * n]? = some root := by
    have h := List.getElem?_eq_getElem (l := esE) (i := 8 * n) (by omega)
    rw [h]
    exact congrArg some (Em.fn i1.nodup ((hE3 _ _ h).mono i2.1) i6)
  refine lawB2 (eD := []) (n := n) (x := x) (tl := [(db, odb), (f, fo), (c, oc), (ce, oe), (d, od2), (255, tabObj ps)]) B X T F2 (nperm N2 pj_2) (nm2.at 0 rfl) (nm2.at 1 rfl) (nm2.at 3 rfl) (nm2.at 5 rfl) (nm2.at 6 rfl) (nm2.at 4 rfl) hxl (D2.perm pj_2) hn1 hn hE1 hE2 hEr hI hl
    fun h3 tk3 tsp ta tb tc tv1 sp p1 p2 p3 v1 v2 v3 gone2 gone3 kl hld dl a1 a2 a3 oN tb' tc' tv2 tv3 j1 j2 j3 j4 j5 x1 x2 x3 x4 x5 F3 N3 D3 k1 k2 k3 k4 k5 k6 k7 k8 k9 k10 => ?_
  have nm3 := ((((((((nm2.put (Str.ofString "span") (.int sp tsp) (by (simp only [List.map_cons, List.map_nil]; decide))).put (Str.ofString "first") (.int (p1 : Int) ta) (by (simp only [List.map_cons, List.map_nil]; decide))).put (Str.ofString "second") (.int (p2 : Int) tb) (by (simp only [List.map_cons, List.map_nil]; decide))).put (Str.ofString "third") (.int (p3 : Int) tc) (by (simp only [List.map_cons, List.map_nil]; decide))).put (Str.ofString "opening") (.bytes v1.toArray tv1) (by (simp only [List.map_cons, List.map_nil]; decide))).put (Str.ofString "deeds") (.ref dl) (by (simp only [List.map_cons, List.map_nil]; decide))).put (Str.ofString "held") (.ref hld) (by (simp only [List.map_cons, List.map_nil]; decide))).put (Str.ofString "proof") .none (by (simp only [List.map_cons, List.map_nil]; decide))).put (Str.ofString "keys") (.ref kl) (by (simp only [List.map_cons, List.map_nil]; decide))
  have nm4 : Nm ((Str.ofString "deeds", .ref dl) :: (Str.ofString "proof", .none) :: [(Str.ofString "size", .int (n : Int) tn), (Str.ofString "default", .bytes x.toArray tx), (Str.ofString "depth", .int ((8 * n : Nat) : Int) td), (Str.ofString "hash_of", .ref f), (Str.ofString "empty", .ref em), (Str.ofString "tree", .ref tr), (Str.ofString "held", .ref hld), (Str.ofString "keys", .ref kl), (Str.ofString "numbers", .ref nl), (Str.ofString "first", .int (p1 : Int) ta), (Str.ofString "second", .int (p2 : Int) tb), (Str.ofString "third", .int (p3 : Int) tc)]) _ := nm3.sub fun q hq => by
    simp only [List.mem_cons, List.not_mem_nil, or_false] at hq ⊢
    rcases hq with h | h | h | h | h | h | h | h | h | h | h | h | h | h <;> simp [h]
  refine lawLoop (nl := nl) (tl := (nl, listOf nvs.toArray nc) :: [(255, tabObj ps), (j1, x1), (j2, x2), (j3, x3), (j4, x4), (j5, x5)]) (s := { s with heap := h3, toks := tk3 }) B X T S F3 hE R (by omega) (by omega) k1 k2 k3 k4 k5 k6 k7 k8 k9 k10 (nperm N3 pj_3) (D3.perm pj_3) nm4
    fun h4 tk4 m4 k pl tpl v ks J F4 Af nm5 g1 g2 g3 g4 => ?_
  exact lawEnd (s := { s with heap := h4, toks := tk4 }) B X T S F4 Af g3 k2 g4 g1 g2 k3 k4 k5 hI hl nm5 fun h5 tk5 m5 ls F5 N5 sub => cont h5 tk5 m5 ls ps F5 N5 (sub _ (List.mem_cons_self ..))
end
end Mine
end

section
-- MZ
local macro_rules | `(tactic| walk_at "no such key") => `(tactic| fail)
local macro_rules | `(tactic| walk_at "no such key") => `(tactic| fail)
local macro_rules | `(tactic| walk_at "no such key") => `(tactic| fail)
local macro_rules | `(tactic| walk_at "no such key") => `(tactic| fail)
open PySem PySem.W PySem.Calls PyProof.Rows
set_option Elab.async false
set_option maxRecDepth 100000
set_option linter.unusedVariables false
section
open Mine
local macro_rules | `(tactic| walk_at "execs cons") => `(tactic| ((with_reducible show wpAny _ _ (execs (Stmt.Assign [Expr.Name ("size" : Str) _] _ _ :: _) _) _ _ _); (with_reducible refine Hold.mk ?_)))
set_option maxHeartbeats 8000000 in
theorem PySem.Challenge.cw_gp5032_01_holds : PySem.Challenge.rw_gp5032_01.Holds := by
  w_on
  exact hd (by
    k_go0
    all_goals (try k_fold)
    k_steps
    rename Fr _ _ _ _ => F2
    rename News _ _ _ _ => N2
    rename CodeHd _ _ _ => hcd2
    rename IntsAre _ _ => hI2
    rename Below _ _ _ _ => B2
    rename Frag.In _ _ => X2
    rename Top _ _ _ _ _ _ => T2
    have N3 := kst_newsOf N2 (l' := [(_, PySem.W.listOf _ 0), (255, PySem.W.tabObj #[])]) (by k_allIn)
    unfold Hold
    refine lawAll B2 X2 T2 hcd2 F2 N3 hI2 ?hl ?hnl ?hE ?cont
    case hl =>
      rw [List.length_append]
      omega
    case hnl =>
      refine neN ?_
      omega
    case hE => first | passes_own | with_unfolding_all passes_own
    case cont =>
      intro h' tk m' ls ps F5 N5 m5
      have N6 := kst_newsOf N5 (l' := [(255, PySem.W.tabObj ps)]) (fun p hp => by
        rw [List.mem_singleton.mp hp]
        exact m5)
      clear N5 m5 N3 N2 F2
      dsimp only
      k_steps)
end
end
