import PyProof.Rows.All
import Wide.All
import OpenK.AllK
import Wide.FinOn
import PyProof.SliceMore
import PyProof.StrLawsTight
import PyProof.StrLawsFrom
import PyProof.StrLawsIdx
import PyProof.P3In
import PySem.Challenge.RW_ti0025_01
open PySem PySem.W PySem.Calls PySem.Spec PyProof.Rows
set_option Elab.async false
namespace Mine
set_option maxRecDepth 100000
set_option maxHeartbeats 8000000
set_option linter.unusedVariables false
/-- the text less its own names -/
def vw : Program := { PySem.Challenge.pw_ti0025_01 with main := { PySem.Challenge.pw_ti0025_01.main with body := (PySem.Challenge.pw_ti0025_01.main.body.drop 1).take 7 ++ ((PySem.Challenge.pw_ti0025_01.main.body.drop 9).take 2 ++ ((PySem.Challenge.pw_ti0025_01.main.body.drop 12).take 9 ++ PySem.Challenge.pw_ti0025_01.main.body.drop 22)) } }
theorem said0 : looksOpen PySem.Challenge.rw_ti0025_01.row.prog = true := by
  unfold looksOpen
  simp only [Bool.and_eq_true, and_assoc]
  repeat' (first | refine ⟨?_, ?_⟩ | decide +kernel)
theorem said1 : PySem.Challenge.rw_ti0025_01.row.wellSaid = true := by
  unfold OpenRow.wellSaid OpenRow.partSaid
  simp only [Bool.and_eq_true, and_assoc]
  refine ⟨said0, ?_⟩
  repeat' (first | refine ⟨?_, ?_⟩ | decide +kernel)
theorem said : PySem.Challenge.rw_ti0025_01.wellSaid = true := by
  unfold OpenLaw.wellSaid
  simp only [Bool.and_eq_true, and_assoc]
  refine ⟨said1, ?_⟩
  repeat' (first | refine ⟨?_, ?_⟩ | decide +kernel)
-- the head by the kernel alone: the looks and the run without twins of the program's constants
local macro_rules | `(tactic| o_law) => `(tactic| refine holds_law said fun _ => ?_)
set_option hygiene false in
local macro_rules | `(tactic| o_head $H:term) => `(tactic| (refine holds_open (q := vw) (loose := []) (Xt := fun s => xlAt vw [] s && recOk (RowW.records (OpenRow.toRowW (OpenLaw.row PySem.Challenge.rw_ti0025_01))) s) (XP := XL vw []) (Yf := Hook.obs $H) (Ya := Hook.val $H) (YP := Hook.says $H) (N := 1756) ?hl (Hook.of $H) (Hook.keeps $H) (fun s e => xl_of s (Bool.and_eq_true_iff.mp e).1) XL.keeps (by rfl) (by rfl) (by rfl) (fun s e => recFacts_of (Bool.and_eq_true_iff.mp e).2) (by rfl) (by first | assumption | decide +kernel) (by decide +kernel) ⟨rfl, rfl, rfl, rfl, rfl, by decide +kernel⟩ ?hw ?hc; (case hl => (intro w; kernel_rfl))))
open_top hd for PySem.Challenge.rw_ti0025_01

theorem topOff : True := by
  w_top off
  trivial

noncomputable abbrev Pr : Program := PySem.Challenge.rw_ti0025_01.row.prog
noncomputable abbrev LL : List Str := looseW vw [] ++ List.map (fun x => x.name) (recsOf vw) ++ List.map (fun x => x.fst) (litsOf vw) ++ List.map (fun x => x.name) (clssOf vw (looseW vw []))

/-- the second heap holds all that the first holds -/
def Ext (h h' : Heap) : Prop := ∀ b o, h.get? b = some o → h'.get? b = some o
theorem Ext.refl (h : Heap) : Ext h h := fun _ _ e => e
theorem Ext.trans {a b c : Heap} (x : Ext a b) (y : Ext b c) : Ext a c := fun _ _ e => y _ _ (x _ _ e)
theorem Ext.none {a b : Heap} (x : Ext a b) {p : Addr} (e : b.get? p = none) : a.get? p = none := by
  cases q : a.get? p with
  | none => rfl
  | some o => rw [x _ _ q] at e; cases e
theorem GSub.ext {a b : Heap} (x : GSub a b []) : Ext a b := fun _ _ e => x _ _ e (fun h => nomatch h)
theorem GSub.of_ext {a b : Heap} (x : Ext a b) : GSub a b [] := fun _ _ e _ => x _ _ e

theorem Ext.list {h h' : Heap} (k : Ext h h') {l : Addr} {items : Array Value} (x : h.IsList l items) : h'.IsList l items := let ⟨o, ho, r⟩ := x; ⟨o, k l o ho, r⟩

/-- where a call may be made: the frames, the written part, the room; T: what of the heap may be turned (hidden from the base) -/
def Site (w : World) (A : Around) (h : Heap) (T : List (Addr × Obj)) (d u : Nat) : Prop :=
  ∃ (dp un : Nat) (gd : Option (List Code)) (cn : Str) (cs : Scope) (a : Addr) (ccd : Value) (cl : List (Str × Addr)) (outer : List Env) (A₀ : Around) (base h₀ : Heap) (L : Addr) (m : Str → Option Value) (mean : ExcName → Option Value) (mg mb : Str → Option Value),
    A = ktrTop dp un gd cn cs L a ccd cl outer ∧ Below A₀ base outer h₀ ∧ Fr h₀ L h m ∧ (hd.heap_1 w.params).In h₀ ∧ News h₀ L h T ∧ Top topProg LL mean mg mb h₀ ∧ cs.kind = .function ∧ dp + d < recursionLimit ∧ un + u < cLine

/-- the contract of a call: P of the heap before; it keeps all that stood but T's, turns T to T' (of a letter that the call picks), and gives back what R says (of the heap that the call began with, less T, and the heap at its end) -/
def CallsX {α : Type} (w : World) (f : Addr) (d u : Nat) (vs : List Value) (T : List (Addr × Obj)) (T' : α → List (Addr × Obj)) (P : Heap → Prop) (R : α → Heap → Heap → Value → Prop) : Prop :=
  ∀ (A : Around) (s : Shared) (Q E : Value → Shared → Prop), Site w A s.heap T d u → P s.heap →
    (∀ x r h' tk' g, GSub s.heap g (T.map (·.1)) → Ext g h' → (∀ p ∈ T' x, h'.get? p.1 = some p.2) → R x g h' r → Q r { s with heap := h', toks := tk' }) →
    wpAny (model Pr w) A (call (.ref f) vs) Q E s

abbrev CallsT (w : World) (f : Addr) (d u : Nat) (vs : List Value) (T T' : List (Addr × Obj)) (P : Heap → Prop) (R : Heap → Heap → Value → Prop) : Prop := CallsX (α := Unit) w f d u vs T (fun _ => T') P (fun _ => R)

/-- the same for a call that turns nothing -/
abbrev Calls (w : World) (f : Addr) (d u : Nat) (vs : List Value) (P : Heap → Prop) (R : Heap → Heap → Value → Prop) : Prop := CallsT w f d u vs [] [] P R

section
variable {w : World} {f : Addr} {d u : Nat} {vs : List Value} {P : Heap → Prop} {R : Heap → Heap → Value → Prop} {dp un : Nat} {gd : Option (List Code)} {cn : Str} {cs : Scope} {a : Addr} {ccd : Value} {cl : List (Str × Addr)} {outer : List Env} {A₀ : Around} {base h₀ : Heap} {L : Addr} {m : Str → Option Value} {mean : ExcName → Option Value} {mg mb : Str → Option Value} {news : List (Addr × Obj)} {s : Shared} {Q E : Value → Shared → Prop}
theorem Calls.use
    (C : Calls w f d u vs P R) (B : Below A₀ base outer h₀) (F : Fr h₀ L s.heap m) (X : (hd.heap_1 w.params).In h₀) (N : News h₀ L s.heap news) (T : Top topProg LL mean mg mb h₀) (hk : cs.kind = .function) (hd : dp + d < recursionLimit) (hu : un + u < cLine) (hP : P s.heap)
    (h : ∀ r h' tk' g, Ext s.heap g → Ext g h' → R g h' r → Fr h₀ L h' m → News h₀ L h' news → Q r { s with heap := h', toks := tk' }) :
    wpAny (model Pr w) (ktrTop dp un gd cn cs L a ccd cl outer) (call (.ref f) vs) Q E s := by
  refine C _ _ _ _ ⟨dp, un, gd, cn, cs, a, ccd, cl, outer, A₀, base, h₀, L, m, mean, mg, mb, rfl, B, F, X, News.nil, T, hk, hd, hu⟩ hP fun _ r h' tk' g e1 e2 _ hR => ?_
  have x := (GSub.ext e1).trans e2
  exact h r h' tk' g (GSub.ext e1) e2 hR (F.keeps x) (N.grown x)

theorem CallsX.use {α : Type} {TT : List (Addr × Obj)} {TT' : α → List (Addr × Obj)} {R : α → Heap → Heap → Value → Prop}
    (C : CallsX w f d u vs TT TT' P R) (B : Below A₀ base outer h₀) (F : Fr h₀ L s.heap m) (X : (hd.heap_1 w.params).In h₀) (N : News h₀ L s.heap news) (T : Top topProg LL mean mg mb h₀) (hk : cs.kind = .function) (hd : dp + d < recursionLimit) (hu : un + u < cLine) (hP : P s.heap)
    (hsub : ∀ p ∈ TT, p ∈ news) (hTT : ∀ x, (TT' x).map (·.1) = TT.map (·.1))
    (h : ∀ x r h' tk' g, GSub s.heap g (TT.map (·.1)) → Ext g h' → R x g h' r → Fr h₀ L h' m → (∀ rest, (∀ p ∈ rest, p ∈ news ∧ p.1 ∉ TT.map (·.1)) → News h₀ L h' (TT' x ++ rest)) → Q r { s with heap := h', toks := tk' }) :
    wpAny (model Pr w) (ktrTop dp un gd cn cs L a ccd cl outer) (call (.ref f) vs) Q E s := by
  refine C _ _ _ _ ⟨dp, un, gd, cn, cs, a, ccd, cl, outer, A₀, base, h₀, L, m, mean, mg, mb, rfl, B, F, X, (fun p hp => N p (hsub p hp)), T, hk, hd, hu⟩ hP fun x r h' tk' g e1 e2 e3 hR => ?_
  have up : ∀ b o, b ∉ TT.map (·.1) → s.heap.get? b = some o → h'.get? b = some o := fun b o hb e => e2 _ _ (e1 b o e hb)
  have at' : ∀ b ∈ TT.map (·.1), b ≠ L ∧ h₀.get? b = none := fun b hb => by
    obtain ⟨p, hp, rfl⟩ := List.mem_map.mp hb
    exact (N p (hsub p hp)).2
  have k0 : ∀ b o, h₀.get? b = some o → h'.get? b = some o := fun b o e => up b o (fun hb => by rw [(at' b hb).2] at e; cases e) (F.keep b o e)
  refine h x r h' tk' g e1 e2 hR ⟨F.ns.at' fun o e => up _ o (fun hb => (at' _ hb).1 rfl) e, k0, F.above⟩ fun rest hr p hp => ?_
  rcases List.mem_append.mp hp with hp | hp
  · have hb : p.1 ∈ TT.map (·.1) := hTT x ▸ List.mem_map_of_mem hp
    exact ⟨e3 p hp, at' _ hb⟩
  · exact ⟨up _ _ (hr p hp).2 (N p (hr p hp).1).1, (N p (hr p hp).1).2⟩
end

/-- results -/
def RBool (b : Bool) : Heap → Heap → Value → Prop := fun _ _ r => r = .bool b
def RInt (i : Int) : Heap → Heap → Value → Prop := fun _ _ r => ∃ t, r = .int i t
def RStr (x : Str) : Heap → Heap → Value → Prop := fun _ _ r => ∃ t, r = .str x t
def RNone : Heap → Heap → Value → Prop := fun _ _ r => r = .none
/-- a new list -/
def RList (S : List Value → Prop) : Heap → Heap → Value → Prop := fun g h' r => ∃ a vs n, r = .ref a ∧ g.get? a = none ∧ h'.get? a = some ({ cls := .type "list", data := .seq vs.toArray n } : Obj) ∧ S vs

def fillDummy (_ : OpenLaw) (_ : Params → Frag) : Prop := True


theorem fill1 : fillDummy PySem.Challenge.rw_ti0025_01 hd.heap_1 := by
  k_fill
  trivial

section
variable {prog : Program} {w : World} {A A₀ : Around} {s : Shared} {K : Frag} {L : Addr} {h₀ base : Heap} {m mg mb : Str → Option Value} {news : List (Addr × Obj)} {p : Program} {loose : List Str} {mean : ExcName → Option Value}
theorem code_nestG {env : Env} {outer : List Env} {R : Result → Shared → Prop} {name qual : Str} {params : Arguments} {body : List Stmt} {scope : Scope} {cl : List (Str × Addr)} {doc pm ctv : Value} {c' : Addr} {f : Addr} {args : Args} {binds : List (Str × Value)}
    (B : Below A₀ base outer h₀) (F : Fr h₀ L s.heap m) (X₀ : K.In h₀) (N : News h₀ L s.heap news) (T : Top p loose mean mg mb h₀) (hA : A.frames = some (env :: outer)) (hf : env.frame = some L) (hke : env.scope.kind = .function)
    (ho : (f, fnMade name qual params body scope cl doc pm c' ctv) ∈ news) (hcd : s.heap.CodeRec (.ref c') qual) (hroom : A.depth < recursionLimit)
    (hbind : BindsTo s (fnX name qual params body scope cl .none .none doc pm none (.ref c') ctv) args binds) (hloc : ∀ y ∈ binds, scope.names.lookup y.1 = some .local)
    (h : ∀ g L' h₁, Fr h₀ L g m → Fr g L' h₁ (fun y => binds.reverse.lookup y) → News g L' h₁ news → Below A base (env :: outer) g → K.In g → Top p loose mean mg mb g → GSub s.heap g (news.map (·.1)) →
      wpAny (model prog w) (A.deeper (envX qual scope L' f (.ref c') cl)) (execs body (envX qual scope L' f (.ref c') cl))
        (fun fl s' => LeaveK h₀ L m g R (match fl with | .ret v => v | _ => .none) s')
        (fun e s' => wpAny (model prog w) (A.deeper (envX qual scope L' f (.ref c') cl)) (leaving (envX qual scope L' f (.ref c') cl) e) (fun _ s'' => R (.error e) s'') (fun e' s'' => R (.error e') s'') s')
        { s with heap := h₁, toks := s.toks + binds.length })
    (hco : scope.isCoroutine = false) (hgen : scope.isGenerator = false) (hk : scope.kind = .function)
    (hcell : ∀ x ∈ scope.names, x.2 ≠ .cell) : codeAny (model prog w) A (.call (.ref f) args) R s := by
  obtain ⟨FG, BG, st, lv⟩ := groundX (R := R) B F N hA hf hke
  refine codeAny_call_def (fd := fnX name qual params body scope cl .none .none doc pm none (.ref c') ctv) (body := body) (binds := binds) hroom (N _ ho).1 rfl (T.nolimit.keeps F.keep) hcd rfl hbind hcell hloc (fun h₁ hns hk₁ => ?_) hco hgen hk
  exact wpAny_mono (h _ s.heap.objs.size h₁ FG ⟨hns, fun b o e => hk₁ b o (of_hideAll _ e), Nat.le_of_eq (hideAll_size _ _)⟩
    (fun p hp => ⟨hk₁ _ _ (N p hp).1, Nat.ne_of_lt (Heap.lt_size (N p hp).1), hideAll_none _ (List.mem_map_of_mem hp)⟩) BG (X₀.keeps st) (T.keeps st) (fun b o e n => hideAll_get _ e n)) (fun fl s' hl => lv _ _ hl) fun _ _ y => y
theorem code_defCG {env : Env} {outer : List Env} {R : Result → Shared → Prop} {name qual : Str} {params : Arguments} {body : List Stmt} {scope : Scope} {dV kV doc pm cdv ct oc : Value} {an od : Option Addr} {osl : Array (Option Value)} {f : Addr} {args : Args} {binds : List (Str × Value)}
    (B : Below A₀ base outer h₀) (F : Fr h₀ L s.heap m) (X₀ : K.In h₀) (N : News h₀ L s.heap news) (T : Top p loose mean mg mb h₀) (hA : A.frames = some (env :: outer)) (hf : env.frame = some L) (hke : env.scope.kind = .function)
    (ho : K.lookup f = some ⟨oc, od, .func (fnOf name qual params body scope dV kV doc pm an cdv ct), osl⟩) (hcd : codeIn K cdv qual = true) (hroom : A.depth < recursionLimit)
    (hbind : BindsTo s (fnOf name qual params body scope dV kV doc pm an cdv ct) args binds) (hkind : (binds.all fun y => scope.names.lookup y.1 == some .local || scope.names.lookup y.1 == some .cell) = true)
    (hnd : ((cellsFrom 0 scope.names []).map (·.1)).Nodup)
    (h : ∀ g L' h₁ tk cells, Fr h₀ L g m → Fr g L' h₁ (bindL (envOfC qual scope L' f cdv).kindOf binds fun _ => none) → News g L' h₁ (cells ++ news) →
      CellsAre (bindC (envOfC qual scope L' f cdv).kindOf binds fun _ => none) (cellsFrom (L' + 1) scope.names []) cells → Below A base (env :: outer) g → K.In g → Top p loose mean mg mb g → (∀ p ∈ news, p.1 < L') → GSub s.heap g (news.map (·.1)) →
      wpAny (model prog w) (A.deeper (envOfC qual scope L' f cdv)) (execs body (envOfC qual scope L' f cdv))
        (fun fl s' => LeaveK h₀ L m g R (match fl with | .ret v => v | _ => .none) s')
        (fun e s' => wpAny (model prog w) (A.deeper (envOfC qual scope L' f cdv)) (leaving (envOfC qual scope L' f cdv) e) (fun _ s'' => R (.error e) s'') (fun e' s'' => R (.error e') s'') s')
        { s with heap := h₁, toks := tk })
    (hco : scope.isCoroutine = false) (hgen : scope.isGenerator = false) (hk : scope.kind = .function) : codeAny (model prog w) A (.call (.ref f) args) R s := by
  obtain ⟨FG, BG, st, lv⟩ := groundX (R := R) B F N hA hf hke
  refine codeAny_call_function hroom ((X₀.keeps F.keep) _ _ ho) rfl hco hgen rfl (codeRec_of (X₀.keeps F.keep) hcd) (hbind _ _ _ _ ?_)
  refine wpAny_newFunctionEnv_cells hk (kindsX hkind _) fun env' he s' x => ?_
  subst he
  refine ⟨(T.nolimit.keeps F.keep).keeps x.toInCall.keep, codeAny_func ?_⟩
  obtain ⟨h₁, tk, rfl, _⟩ := x.done
  have up := x.toInCall.keep
  obtain ⟨cells, NC, Y⟩ := Cl.news (h₀ := s.heap) (Nat.le_refl _) fun n c hm => ⟨x.cell n c (lookup_of_mem_nodup (cellsFrom_names scope.names 0 (s.heap.objs.size + 1) [] [] rfl ▸ hnd) hm), x.above n c hm⟩
  have NN : News (hideAll s.heap (news.map (·.1))) s.heap.objs.size h₁ (cells ++ news) := by
    intro q hq
    rcases List.mem_append.mp hq with h1 | h1
    · have z := NC q h1
      exact ⟨z.1, z.2.1, Ext.none (fun b o e => of_hideAll _ e) z.2.2⟩
    · have z := (N q h1).1
      exact ⟨up _ _ z, Nat.ne_of_lt (Heap.lt_size z), hideAll_none _ (List.mem_map_of_mem h1)⟩
  have FF : Fr (hideAll s.heap (news.map (·.1))) s.heap.objs.size h₁ _ := ⟨x.toInCall.ns, fun b o e => up b o (of_hideAll _ e), Nat.le_of_eq (hideAll_size _ _)⟩
  exact wpAny_mono (h _ _ h₁ tk cells FG FF NN Y BG (X₀.keeps st) (T.keeps st) (fun q hq => Heap.lt_size (N q hq).1) fun b o e nm => hideAll_get _ e nm) (fun _ _ hl => lv _ _ hl) fun _ _ y => y
end


theorem fdiv_pow {x : Int} (s : Nat) : x.fdiv (2 ^ s) = x / 2 ^ s := Int.fdiv_eq_ediv_of_nonneg x (Int.le_of_lt (Int.pow_pos (by decide)))
theorem cast_pow (s : Nat) : ((2 ^ s : Nat) : Int) = 2 ^ s := by rw [Int.natCast_pow]; rfl
theorem pow_pos' (s : Nat) : (0 : Int) < 2 ^ s := Int.pow_pos (by decide)

theorem bitAnd_nat (a b : Nat) : Builtin.bitAnd (a : Int) (b : Int) = ((a &&& b : Nat) : Int) := by
  simp [Builtin.bitAnd]

theorem nat_and_mask (x k : Nat) : x &&& (2 ^ k - 1) = x % 2 ^ k := Nat.and_two_pow_sub_one_eq_mod x k
theorem and_mask {x : Int} (h : 0 ≤ x) (k : Nat) : Builtin.bitAnd x (2 ^ k - 1) = x % 2 ^ k := by
  obtain ⟨a, rfl⟩ := Int.eq_ofNat_of_zero_le h
  have e : (2 ^ k - 1 : Int) = ((2 ^ k - 1 : Nat) : Int) := by
    have : 1 ≤ 2 ^ k := Nat.one_le_two_pow
    rw [Int.ofNat_sub this, cast_pow]; rfl
  rw [e, bitAnd_nat, nat_and_mask, Int.natCast_emod, cast_pow]
theorem nat_and_high (x s : Nat) : x &&& (x / 2 ^ s * 2 ^ s) = x / 2 ^ s * 2 ^ s := by
  rw [← Nat.shiftRight_eq_div_pow, ← Nat.shiftLeft_eq]
  apply Nat.eq_of_testBit_eq
  intro i
  simp only [Nat.testBit_and, Nat.testBit_shiftLeft, Nat.testBit_shiftRight]
  by_cases h : s ≤ i
  · simp [h, Nat.add_sub_cancel' h]
  · simp [h]
theorem xor_low {x : Int} (h : 0 ≤ x) (s : Nat) : Builtin.bitXor x (x / 2 ^ s * 2 ^ s) = x % 2 ^ s := by
  obtain ⟨a, rfl⟩ := Int.eq_ofNat_of_zero_le h
  have e : ((a : Int) / 2 ^ s * 2 ^ s) = ((a / 2 ^ s * 2 ^ s : Nat) : Int) := by
    rw [Int.natCast_mul, Int.natCast_ediv, cast_pow]
  rw [bitXor_and, e, bitAnd_nat, nat_and_high, ← e]
  have := Int.emod_add_mul_ediv (a : Int) (2 ^ s)
  have h2 : (2 ^ s : Int) * ((a : Int) / 2 ^ s) = (a : Int) / 2 ^ s * 2 ^ s := Int.mul_comm _ _
  omega
theorem nat_and_disj (a b k : Nat) (hb : b < 2 ^ k) : (a * 2 ^ k) &&& b = 0 := by
  rw [← Nat.shiftLeft_eq]
  apply Nat.eq_of_testBit_eq
  intro i
  simp only [Nat.testBit_and, Nat.testBit_shiftLeft, Nat.zero_testBit]
  by_cases h : k ≤ i
  · have : b.testBit i = false := Nat.testBit_lt_two_pow (Nat.lt_of_lt_of_le hb (Nat.pow_le_pow_right (by decide) h))
    simp [this]
  · simp [h]
theorem bitOr_eq (x y : Int) : Builtin.bitOr x y = x + y - Builtin.bitAnd x y := by
  have h := bitXor_and x y
  unfold Builtin.bitXor at h
  omega
theorem or_add {a b : Int} (ha : 0 ≤ a) (hb : 0 ≤ b) (k : Nat) (hk : b < 2 ^ k) : Builtin.bitOr (a * 2 ^ k) b = a * 2 ^ k + b := by
  obtain ⟨a, rfl⟩ := Int.eq_ofNat_of_zero_le ha
  obtain ⟨b, rfl⟩ := Int.eq_ofNat_of_zero_le hb
  have hk' : b < 2 ^ k := by rw [← cast_pow] at hk; exact Int.ofNat_lt.mp hk
  have e : ((a : Int) * 2 ^ k) = ((a * 2 ^ k : Nat) : Int) := by rw [Int.natCast_mul, cast_pow]
  rw [bitOr_eq, e, bitAnd_nat, nat_and_disj a b k hk']; simp

/-- the digits of x by 2 ^ n, the lowest first, k of them -/
def digs (n : Nat) : Nat → Int → List Int
  | 0, _ => []
  | k + 1, x => x % 2 ^ n :: digs n k (x / 2 ^ n)
theorem digs_length (n : Nat) : ∀ k x, (digs n k x).length = k
  | 0, _ => rfl
  | k + 1, x => by rw [digs, List.length_cons, digs_length n k]
theorem pow_add' (a b : Nat) : (2 : Int) ^ (a + b) = 2 ^ a * 2 ^ b := Int.pow_add ..
theorem emod_emod_pow (x : Int) (a b : Nat) : x % 2 ^ (a + b) % 2 ^ a = x % 2 ^ a := Int.emod_emod_of_dvd _ (by rw [pow_add']; exact Int.dvd_mul_right ..)
theorem ediv_pow (x : Int) (a b : Nat) : x / 2 ^ a / 2 ^ b = x / 2 ^ (a + b) := by rw [pow_add', Int.ediv_ediv_of_nonneg (Int.le_of_lt (pow_pos' a))]
theorem emod_div_pow (x : Int) (a b : Nat) : x % 2 ^ (a + b) / 2 ^ a = x / 2 ^ a % 2 ^ b := by
  have hA := pow_pos' a
  have hB := pow_pos' b
  have hAB : (0 : Int) < 2 ^ a * 2 ^ b := Int.mul_pos hA hB
  have e1 := Int.emod_add_mul_ediv x (2 ^ a * 2 ^ b)
  have e2 := Int.emod_add_mul_ediv (x / 2 ^ a) (2 ^ b)
  have e3 : x / 2 ^ a / 2 ^ b = x / (2 ^ a * 2 ^ b) := by rw [← pow_add', ediv_pow]
  rw [e3] at e2
  rw [pow_add']
  generalize x / (2 ^ a * 2 ^ b) = q at *
  have e4 : x % (2 ^ a * 2 ^ b) = x + 2 ^ a * (2 ^ b * -q) := by
    rw [← Int.mul_assoc, Int.mul_neg]; omega
  rw [e4, Int.add_mul_ediv_left _ _ (Int.ne_of_gt hA), Int.mul_neg]
  omega
theorem digs_split (n : Nat) : ∀ i j x, digs n (i + j) x = digs n i (x % 2 ^ (n * i)) ++ digs n j (x / 2 ^ (n * i))
  | 0, j, x => by simp [digs]
  | i + 1, j, x => by
    have e : n * (i + 1) = n + n * i := by rw [Nat.mul_succ, Nat.add_comm]
    rw [show i + 1 + j = (i + j) + 1 by omega, digs, digs_split n i j, digs, List.cons_append, e, emod_emod_pow, emod_div_pow, ediv_pow]
theorem digs_one {n : Nat} {x : Int} (h0 : 0 ≤ x) (h : x < 2 ^ n) : digs n 1 x = [x] := by
  simp only [digs]; rw [Int.emod_eq_of_lt h0 h]

/-- the number that the digits ds make, the lowest first -/
def val (n : Nat) : List Int → Int
  | [] => 0
  | d :: r => d + 2 ^ n * val n r
theorem val_append (n : Nat) : ∀ a b, val n (a ++ b) = val n a + 2 ^ (n * a.length) * val n b
  | [], b => by simp [val]
  | d :: a, b => by
    rw [List.cons_append, val, val, val_append n a b, List.length_cons, show n * (a.length + 1) = n + n * a.length by rw [Nat.mul_succ, Nat.add_comm], pow_add', Int.mul_add, Int.mul_assoc, Int.add_assoc]

/-- the middle -/
theorem mid_facts {lo hi k : Nat} (h1 : hi ≤ lo + (k + 1)) (h2 : lo < hi) (h3 : lo + 1 ≠ hi) : lo < (lo + hi) / 2 ∧ (lo + hi) / 2 < hi ∧ (lo + hi) / 2 ≤ lo + k ∧ hi ≤ (lo + hi) / 2 + k ∧ hi - (lo + hi) / 2 + ((lo + hi) / 2 - lo) = hi - lo := by omega
theorem mid_le {lo hi : Nat} (h : lo < hi) : lo ≤ (lo + hi) / 2 ∧ (lo + hi) / 2 ≤ hi := by omega
theorem room_d {dp k L : Nat} (h : dp + (k + 1 + 1) < L) : dp + 1 + (k + 1) < L := by omega
theorem room_u {un k L : Nat} (h : un + (8 * (k + 1) + 20) < L) : un + 3 + (8 * k + 20) < L := by omega
/-- a stretch filled with the digits of x -/
def filled (n : Nat) (x : Int) (lo hi : Nat) (ns : List Int) : List Int := ns.take lo ++ (digs n (hi - lo) x ++ ns.drop hi)
theorem filled_length {n : Nat} {x : Int} {lo hi : Nat} {ns : List Int} (h1 : lo ≤ hi) (h2 : hi ≤ ns.length) : (filled n x lo hi ns).length = ns.length := by
  unfold filled
  rw [List.length_append, List.length_append, digs_length, List.length_take, List.length_drop]; omega
theorem filled_two {n : Nat} {x : Int} {lo mid hi : Nat} {ns : List Int} (h1 : lo ≤ mid) (h2 : mid ≤ hi) (h3 : hi ≤ ns.length) :
    filled n (x / 2 ^ (n * (mid - lo))) mid hi (filled n (x % 2 ^ (n * (mid - lo))) lo mid ns) = filled n x lo hi ns := by
  have e : hi - lo = (mid - lo) + (hi - mid) := by omega
  have l1 : (ns.take lo).length = lo := by rw [List.length_take]; omega
  have l2 : (digs n (mid - lo) (x % 2 ^ (n * (mid - lo)))).length = mid - lo := digs_length ..
  unfold filled
  rw [e, digs_split]
  rw [← List.append_assoc (ns.take lo), List.take_append_of_le_length (by rw [List.length_append, l1, l2]; omega), List.take_of_length_le (by rw [List.length_append, l1, l2]; omega)]
  rw [List.drop_append, List.drop_of_length_le (by rw [List.length_append, l1, l2]; omega), List.nil_append, List.length_append, l1, l2, List.drop_drop]
  rw [show mid + (hi - (lo + (mid - lo))) = hi by omega]
  simp only [List.append_assoc]
theorem filled_one {n : Nat} {x : Int} {lo : Nat} {ns : List Int} (h0 : 0 ≤ x) (h : x < 2 ^ n) (hl : lo < ns.length) : filled n x lo (lo + 1) ns = ns.set lo x := by
  unfold filled
  rw [show lo + 1 - lo = 1 by omega, digs_one h0 h, List.set_eq_take_append_cons_drop, if_pos hl]; rfl
theorem filled_all {n : Nat} {x : Int} {ns : List Int} {k : Nat} (h : k = ns.length) : filled n x 0 k ns = digs n k x := by
  subst h; simp [filled]

/-- a stretch of a list -/
def seg (ns : List Int) (lo hi : Nat) : List Int := (ns.drop lo).take (hi - lo)
theorem seg_length {ns : List Int} {lo hi : Nat} (h1 : lo ≤ hi) (h2 : hi ≤ ns.length) : (seg ns lo hi).length = hi - lo := by
  unfold seg; rw [List.length_take, List.length_drop]; omega
theorem seg_append {ns : List Int} {lo mid hi : Nat} (h1 : lo ≤ mid) (h2 : mid ≤ hi) : seg ns lo hi = seg ns lo mid ++ seg ns mid hi := by
  unfold seg
  rw [show hi - lo = (mid - lo) + (hi - mid) by omega, List.take_add, List.drop_drop, show lo + (mid - lo) = mid by omega]
theorem seg_val {n : Nat} {ns : List Int} {lo mid hi : Nat} (h1 : lo ≤ mid) (h2 : mid ≤ hi) (h3 : hi ≤ ns.length) :
    val n (seg ns lo hi) = val n (seg ns mid hi) * 2 ^ (n * (mid - lo)) + val n (seg ns lo mid) := by
  rw [seg_append h1 h2, val_append, seg_length h1 (by omega), Int.mul_comm]; omega
theorem seg_one {n : Nat} {ns : List Int} {lo : Nat} (h : lo < ns.length) : val n (seg ns lo (lo + 1)) = ns.getD lo 0 := by
  unfold seg
  rw [show lo + 1 - lo = 1 by omega, List.drop_eq_getElem_cons h, List.take_succ_cons, List.take_zero, val, val, Int.mul_zero, Int.add_zero, List.getD_eq_getElem?_getD, List.getElem?_eq_getElem h]; rfl
theorem seg_all {ns : List Int} {k : Nat} (h : k = ns.length) : seg ns 0 k = ns := by subst h; simp [seg]
theorem seg_mem {ns : List Int} {lo hi : Nat} {d : Int} (h : d ∈ seg ns lo hi) : d ∈ ns := List.mem_of_mem_drop (List.mem_of_mem_take h)
theorem intBits_two_pow (n : Nat) : Builtin.Int.intBits (2 ^ n) ≤ n + 1 := by
  rw [intBits_le_iff, ← cast_pow, Int.natAbs_natCast]; exact Nat.pow_lt_pow_right (by decide) (Nat.lt_succ_self n)
theorem val_bits {n B : Nat} : ∀ {l : List Int}, (∀ d ∈ l, Builtin.Int.intBits d ≤ B) → Builtin.Int.intBits (val n l) ≤ B + (n + 2) * l.length
  | [], _ => Nat.zero_le _
  | d :: r, h => by
    have h1 := h d (.head _)
    have h2 := val_bits (n := n) (l := r) fun x hx => h x (.tail _ hx)
    have h3 := intBits_mul_le (intBits_two_pow n) h2
    have h4 := intBits_add_le h1 h3
    rw [val, List.length_cons]
    refine Nat.le_trans h4 ?_
    rw [Nat.mul_succ]; omega

theorem fill2 : fillDummy PySem.Challenge.rw_ti0025_01 hd.heap_1 := by
  k_fill
  trivial
-- a def without cells; a def with cells; a def made in a def
local macro_rules | `(tactic| tb_start) => `(tactic| (refine' code_defG ?k1 ?k2 ?k3 ?k4 ?k5 ?kA ?kF ?kK ?k6 ?k7 ?k8 ?k9 ?kB ?_ ?c2 ?c3 ?c4 ?c5; (case kA => exact rfl); (case kF => exact rfl); (case kK => assumption); (case k1 => k_asm); (case k2 => k_asm); (case k3 => k_asm); (case k4 => k_asm); (case k5 => k_asm); (case k6 => k_is); (case k7 => k_is); (case k8 => exact Nat.lt_of_le_of_lt (Nat.le_add_right _ _) (by assumption)); (case k9 => exact BindsTo.of_eq rfl); (case c5 => decide); (case kB => exact locs rfl); (case c2 => exact rfl); (case c3 => exact rfl); (case c4 => exact rfl); k_whole))
local macro_rules | `(tactic| tb_rel) => `(tactic| (refine' code_defCG ?k1 ?k2 ?k3 ?k4 ?k5 ?kA ?kF ?kK ?k6 ?k7 ?k8 ?k9 ?kB ?kD ?_ ?c2 ?c3 ?c4; (case kA => exact rfl); (case kF => exact rfl); (case kK => assumption); (case k1 => k_asm); (case k2 => k_asm); (case k3 => k_asm); (case k4 => k_asm); (case k5 => k_asm); (case k6 => k_is); (case k7 => k_is); (case k8 => exact Nat.lt_of_le_of_lt (Nat.le_add_right _ _) (by assumption)); (case k9 => exact BindsTo.of_eq rfl); (case kB => exact rfl); (case kD => decide +kernel); (case c2 => exact rfl); (case c3 => exact rfl); (case c4 => exact rfl); k_whole))
theorem rec_cast {h : Heap} {c : Addr} {q q' : Str} (x : h.CodeRec (.ref c) q') (e : q' = q) : h.CodeRec (.ref c) q := e ▸ x
local macro_rules | `(tactic| top_raise0) => `(tactic| (refine' code_nestG ?k1 ?k2 ?k3 ?k4 ?k5 ?kA ?kF ?kK ?k6 ?k7 ?k8 ?k9 ?kB ?_ ?c2 ?c3 ?c4 ?c5; (case kA => exact rfl); (case kF => exact rfl); (case kK => assumption); (case k1 => k_asm); (case k2 => k_asm); (case k3 => k_asm); (case k4 => k_asm); (case k5 => k_asm); (case k6 => k_mem); (case k7 => with_reducible assumption); (case k8 => exact Nat.lt_of_le_of_lt (Nat.le_add_right _ _) (by assumption)); (case k9 => exact BindsTo.of_eq rfl); (case c5 => decide); (case kB => exact locs rfl); (case c2 => exact rfl); (case c3 => exact rfl); (case c4 => exact rfl); k_whole))
-- shifts whose sizes the facts tell
local macro_rules | `(tactic| walk_at "binaryOp LShift int int") => `(tactic| (k_here; refine lshift_int ?h1 ?h2 ?_; (case h1 => first | assumption | omega); (case h2 => first | assumption | omega)))
local macro_rules | `(tactic| walk_at "binaryOp RShift int int") => `(tactic| (k_here; refine rshift_int ?h1 ?_; (case h1 => first | assumption | omega)))

theorem rec_gsub {h g : Heap} {c : Addr} {q : Str} {adr : List Addr} (x : h.CodeRec (.ref c) q) (G : GSub h g adr) (hc : c ∉ adr) : g.CodeRec (.ref c) q := by
  obtain ⟨c', o, vs, t, e, h1, r⟩ := x
  cases e
  exact ⟨c, o, vs, t, rfl, G _ _ h1 hc, r⟩
theorem rec_lt {h : Heap} {c : Addr} {q : Str} (x : h.CodeRec (.ref c) q) : c < h.objs.size := by
  obtain ⟨c', o, vs, t, e, h1, r⟩ := x
  cases e
  exact Heap.lt_size h1
theorem abstr1 {g : Heap} {L : Addr} {h : Heap} {f : Addr} {fo : Obj} {rest : List (Addr × Obj)} (N : News g L h ((f, fo) :: rest)) {C : Prop} (k : ∀ fo', fo' = fo → News g L h ((f, fo') :: rest) → C) : C := k fo rfl N

/-- the code object of the inner def -/
abbrev q30 : Str := Str.ofString "_int2digits.<locals>.inner"
/-- the table of the inner defs' code objects, the one made -/
abbrev hit30 (c : Addr) : Array Value := #[rawInt 32, rawInt 4, .ref c]

/-- how many digits -/
def nDigs (a : Int) (n : Nat) : Nat := (Builtin.Int.intBits a + n - 1) / n

def inParams (o : Obj) : Arguments := match o.data with
  | .func fd => (match fd.body with | .stmts (_ :: .FunctionDef _ a _ _ _ _ _ _ _ _ :: _) => a | _ => default)
  | _ => default
def inBody (o : Obj) : List Stmt := match o.data with
  | .func fd => (match fd.body with | .stmts (_ :: .FunctionDef _ _ b _ _ _ _ _ _ _ :: _) => b | _ => default)
  | _ => default
def inScope (o : Obj) : Scope := match o.data with
  | .func fd => (match fd.body with | .stmts (_ :: .FunctionDef _ _ _ _ _ _ s _ _ _ :: _) => s | _ => default)
  | _ => default

theorem off_of {c a1 a2 a3 a4 a5 : Nat} (h1 : c ≠ a1) (h2 : c ≠ a2) (h3 : c ≠ a3) (h4 : c ≠ a4) (h5 : c ≠ a5) : c ∉ [a1, a2, a3, a4, a5] := by
  simp only [List.mem_cons, List.not_mem_nil, or_false]; omega
theorem lk_elim {K : Frag} {a : Addr} {o' : Obj} {C : Obj → Prop} (h' : K.lookup a = some o') (k : C o') : ∀ o, K.lookup a = some o → C o := fun o h => by rw [h'] at h; cases h; exact k
theorem i2d_inner {w : World} : ∀ (o35 : Obj), (hd.heap_1 w.params).lookup 35 = some o35 → ∀ {f c ca ci cn D : Addr} {fo oa oi on : Obj} {dcz pmz ctz : Value} {n : Int} {t2 : Tok}
    (hfo : fo = fnMade (Str.ofString "inner") q30 (inParams o35) (inBody o35) (inScope o35) [(Str.ofString "n", cn), (Str.ofString "inner", ci), (Str.ofString "a_digits", ca)] dcz pmz c ctz)
    (da : oa.data = .cell (some (.ref D))) (di : oi.data = .cell (some (.ref f))) (dn : on.data = .cell (some (.int n t2))) (hn : 1 ≤ n)
    (o1 : @LT.lt Nat _ cn D) (o2 : @LT.lt Nat _ ci D) (o3 : @LT.lt Nat _ ca D) (o4 : @LT.lt Nat _ D f) (oc : c ∉ [D, f, ci, ca, cn])
    (k : Nat) (x loI hiI : Int) (lo hi : Nat) (t3 t4 t5 : Tok) (vs : List Value) (ns : List Int), IntsAre vs ns → loI = (lo : Int) → hiI = (hi : Int) → hi ≤ lo + k → lo < hi → hi ≤ ns.length → ns.length ≤ 1000000 → n.toNat * ns.length ≤ 1000000 → Builtin.Int.intBits x ≤ 1000000 → 0 ≤ x → x < 2 ^ (n.toNat * (hi - lo)) →
      CallsX (α := List Value) w f (k+1) (8*k+20) [.int x t3, .int loI t4, .int hiI t5] ((D, W.listOf vs.toArray 0) :: [(f, fo), (ci, oi), (ca, oa), (cn, on)]) (fun vs' => (D, W.listOf vs'.toArray 0) :: [(f, fo), (ci, oi), (ca, oa), (cn, on)]) (fun h => h.CodeRec (.ref c) q30) (fun vs' g h' r => r = .none ∧ IntsAre vs' (filled n.toNat x lo hi ns)) := by
  refine' lk_elim ?h ?_
  case h => k_is
  intro f c ca ci cn D fo oa oi on dcz pmz ctz n t2 hfo da di dn hn o1 o2 o3 o4 oc
  dsimp only [inParams, inBody, inScope] at hfo
  subst hfo
  intro k
  induction k with
  | zero => intros; omega
  | succ k ih =>
    intro x loI hiI lo hi t3 t4 t5 vs ns hI elo ehi hk1 hk2 hk3 hlen hk4 hxb hx0 hx1
    intro A s Q E hS hP hret
    obtain ⟨dp, un, gd, cn', cs, fa, ccd, cl, outer, A₀, base, h₀, L, m, mean, mg, mb, rfl, B, F, X, N, T, hk, hd, hu⟩ := hS
    obtain ⟨ml, mh⟩ := mid_le hk2
    have hmid : (loI + hiI).fdiv (2 ^ Int.toNat 1) = (((lo + hi) / 2 : Nat) : Int) := by
      rw [elo, ehi, fdiv_pow]; show ((lo : Int) + hi) / 2 = _; omega
    have hsh : ((loI + hiI).fdiv (2 ^ Int.toNat 1) - loI) * n = ((n.toNat * ((lo + hi) / 2 - lo) : Nat) : Int) := by
      rw [hmid, elo, Int.natCast_mul, Int.natCast_sub ml, Int.mul_comm, Int.toNat_of_nonneg (by omega)]
    have hs0 : 0 ≤ ((loI + hiI).fdiv (2 ^ Int.toNat 1) - loI) * n := by rw [hsh]; exact Int.natCast_nonneg _
    have hs1 : ((loI + hiI).fdiv (2 ^ Int.toNat 1) - loI) * n ≤ 1000000 := by
      rw [hsh]
      have : n.toNat * ((lo + hi) / 2 - lo) ≤ n.toNat * ns.length := Nat.mul_le_mul_left _ (Nat.le_trans (Nat.sub_le _ _) (Nat.le_trans mh hk3))
      exact Int.ofNat_le.mpr (Nat.le_trans this hk4)
    have hS : (((loI + hiI).fdiv (2 ^ Int.toNat 1) - loI) * n).toNat = n.toNat * ((lo + hi) / 2 - lo) := by rw [hsh]; rfl
    have hlow : Builtin.bitXor x (x.fdiv (2 ^ (((loI + hiI).fdiv (2 ^ Int.toNat 1) - loI) * n).toNat) * 2 ^ (((loI + hiI).fdiv (2 ^ Int.toNat 1) - loI) * n).toNat) = x % 2 ^ (n.toNat * ((lo + hi) / 2 - lo)) := by
      rw [hS, fdiv_pow, xor_low hx0]
    have hup : x.fdiv (2 ^ (((loI + hiI).fdiv (2 ^ Int.toNat 1) - loI) * n).toNat) = x / 2 ^ (n.toNat * ((lo + hi) / 2 - lo)) := by rw [hS, fdiv_pow]
    have hl0 : 0 ≤ x % 2 ^ (n.toNat * ((lo + hi) / 2 - lo)) := Int.emod_nonneg _ (Int.ne_of_gt (pow_pos' _))
    have hl1 : x % 2 ^ (n.toNat * ((lo + hi) / 2 - lo)) < 2 ^ (n.toNat * ((lo + hi) / 2 - lo)) := Int.emod_lt_of_pos _ (pow_pos' _)
    have hl2 : x % 2 ^ (n.toNat * ((lo + hi) / 2 - lo)) ≤ x := by
      have e := Int.emod_add_mul_ediv x (2 ^ (n.toNat * ((lo + hi) / 2 - lo)))
      have e2 : 0 ≤ 2 ^ (n.toNat * ((lo + hi) / 2 - lo)) * (x / 2 ^ (n.toNat * ((lo + hi) / 2 - lo))) := Int.mul_nonneg (Int.le_of_lt (pow_pos' _)) (Int.ediv_nonneg hx0 (Int.le_of_lt (pow_pos' _)))
      omega
    have hu0 : 0 ≤ x / 2 ^ (n.toNat * ((lo + hi) / 2 - lo)) := Int.ediv_nonneg hx0 (Int.le_of_lt (pow_pos' _))
    have hu1 : lo + 1 ≠ hi → x / 2 ^ (n.toNat * ((lo + hi) / 2 - lo)) < 2 ^ (n.toNat * (hi - (lo + hi) / 2)) := fun hne => by
      refine Int.ediv_lt_of_lt_mul (pow_pos' _) ?_
      rw [← pow_add', ← Nat.mul_add, (mid_facts hk1 hk2 hne).2.2.2.2]; exact hx1
    have hu2 : Builtin.Int.intBits (x / 2 ^ (n.toNat * ((lo + hi) / 2 - lo))) ≤ 1000000 := by rw [← hup]; exact intBits_fdiv_le hxb
    have hl3 : Builtin.Int.intBits (x % 2 ^ (n.toNat * ((lo + hi) / 2 - lo))) ≤ 1000000 := intBits_le_of_natAbs (by omega) hxb
    have hsz : (Builtin.Int.intBits (x.fdiv (2 ^ (((loI + hiI).fdiv (2 ^ Int.toNat 1) - loI) * n).toNat)) : Int) + ((loI + hiI).fdiv (2 ^ Int.toNat 1) - loI) * n ≤ 2 ^ 27 := by
      have := intBits_fdiv_le (y := (2 ^ (((loI + hiI).fdiv (2 ^ Int.toNat 1) - loI) * n).toNat)) hxb
      omega
    have hP1 : s.heap.CodeRec (.ref c) q30 := hP
    refine wpAny_call ?_
    k_dflt top_raise0
    intro g' L' h' FG' F' N' B' X' T' GS'
    (try dsimp only)
    k_fold
    have hPg : g'.CodeRec (.ref c) q30 := rec_gsub hP GS' oc
    have codeHd' : CodeHd g' 34 30 := codeHd_of_K X' (by kernel_rfl)
    k_steps
    · rename Fr g' L' _ _ => F5
      rename News h₀ L _ _ => kN5
      rename IntsAre (vs.set _ _) _ => hi5
      have e : hi = lo + 1 := by omega
      have hx2 : x < 2 ^ n.toNat := by rw [show hi - lo = 1 by omega, Nat.mul_one] at hx1; exact hx1
      exact hret _ _ _ _ g' GS' F5.keep (fun p hp => (kN5 p hp).1) ⟨rfl, by rw [e, filled_one hx0 hx2 (by omega)]; rw [show loI.toNat = lo by omega] at hi5 ⊢; exact hi5⟩
    · rename_i F5 N5
      rename_i hne
      have hne' : lo + 1 ≠ hi := by omega
      obtain ⟨m1, m2, m3, m4, _⟩ := mid_facts hk1 hk2 hne'
      have m5 := Nat.le_trans (Nat.le_of_lt m2) hk3
      refine' CallsX.use (ih _ _ _ lo ((lo + hi) / 2) _ _ _ vs ns hI elo hmid ?_ ?_ ?_ hlen hk4 ?_ ?_ ?_) B' F5 X' N5 T' rfl ?_ ?_ (hPg.keeps F5.keep) (fun _ h => h) (fun _ => rfl) ?_
      · exact m3
      · exact m1
      · exact m5
      · rw [hlow]; exact hl3
      · rw [hlow]; exact hl0
      · rw [hlow]; exact hl1
      · exact room_d hd
      · exact room_u hu
      intro vs1 r1 h1 tk1 g1 G1 E1 hR1 F1 N1
      obtain ⟨rfl, hI1⟩ := hR1
      rw [hlow] at hI1
      have N1 := N1 [] (fun _ h => nomatch h)
      simp only [List.append_nil] at N1
      k_steps
      refine' CallsX.use (ih _ _ _ ((lo + hi) / 2) hi _ _ _ vs1 _ hI1 hmid ehi ?_ ?_ ?_ ?_ ?_ ?_ ?_ ?_) B' F1 X' N1 T' rfl ?_ ?_ (hPg.keeps F1.keep) (fun _ h => h) (fun _ => rfl) ?_
      · exact m4
      · exact m2
      · rw [filled_length ml m5]; exact hk3
      · rw [filled_length ml m5]; exact hlen
      · rw [filled_length ml m5]; exact hk4
      · rw [hup]; exact hu2
      · rw [hup]; exact hu0
      · rw [hup]; exact hu1 hne'
      · exact room_d hd
      · exact room_u hu
      intro vs2 r2 h2 tk2 g2 G2 E2 hR2 F2 N2
      obtain ⟨rfl, hI2⟩ := hR2
      rw [hup, filled_two ml mh hk3] at hI2
      have N2 := N2 [] (fun _ h => nomatch h)
      simp only [List.append_nil] at N2
      k_steps
      rename Fr g' L' _ _ => F5
      rename News h₀ L _ _ => kN5
      exact hret _ _ _ _ g' GS' F5.keep (fun p hp => (kN5 p hp).1) ⟨rfl, hI2⟩

theorem nDigs_bits {a : Int} {n : Nat} (hn : 1 ≤ n) : Builtin.Int.intBits a ≤ n * nDigs a n := by
  unfold nDigs
  have := Nat.div_add_mod (Builtin.Int.intBits a + n - 1) n
  have h2 := Nat.mod_lt (Builtin.Int.intBits a + n - 1) (show n > 0 by omega)
  omega
theorem i2d_miss {w : World} {a n : Int} {t1 t2 : Tok} (hn : 1 ≤ n) (hn2 : n ≤ 20000) (ha : 0 ≤ a) (hK : nDigs a n.toNat ≤ 40) :
    CallsX (α := Addr) w 35 45 400 [.int a t1, .int n t2] [(30, tabObj #[])] (fun c => [(30, tabObj (hit30 c))]) (fun _ => True)
      (fun c g h' r => h'.CodeRec (.ref c) q30 ∧ g.get? c = none ∧ RList (fun vs => IntsAre vs (digs n.toNat (nDigs a n.toNat) a)) g h' r) := by
  intro A s Q E hS hP hret
  obtain ⟨dp, un, gd, cn, cs, fa, ccd, cl, outer, A₀, base, h₀, L, m, mean, mg, mb, rfl, B, F, X, N, T, hk, hd, hu⟩ := hS
  have codeHd : CodeHd h₀ 34 30 := codeHd_of_K X (by kernel_rfl)
  have hKe : ((Builtin.Int.intBits a : Int) + n - 1).fdiv n = (nDigs a n.toNat : Int) := by
    have e : n = (n.toNat : Int) := (Int.toNat_of_nonneg (by omega)).symm
    rw [Int.fdiv_eq_ediv_of_nonneg _ (by omega)]
    unfold nDigs
    rw [Int.natCast_ediv, Int.ofNat_sub (by omega)]
    rw [Int.natCast_add, ← e]; rfl
  have hK1 : 0 ≤ ((Builtin.Int.intBits a : Int) + n - 1).fdiv n := by omega
  have hK2 : ((Builtin.Int.intBits a : Int) + n - 1).fdiv n ≤ 40 := by omega
  refine wpAny_call ?_
  k_dflt tb_rel
  intro g' L' h' tk' cells' FG' F' N' Y' B' X' T' l1 GS'; (try k_lt l1); k_cells Y'; (try simp only [List.cons_append, List.nil_append] at N'); (try dsimp only); (try k_fold)
  have codeHd' : CodeHd g' 34 30 := codeHd_of_K X' (by kernel_rfl)
  k_steps
  · rename_i o1 o2 on dz1 dz2 dn lz hz1 lz1 D hz2 iz nz sz ez1 ez2 ez3 lz2 hz3 oa da f c oc vsc tc ctz dcz hz4 tkz doc dname lz4 lz5 hz6 oi F9 N9 di anz
    have dn' : on.data = .cell (some (.int n t2)) := dn
    have hcd : hz6.CodeRec (.ref c) q30 := rec_cast (codeRec_news N9 (by k_mem) doc dname) (by kernel_rfl)
    clear dz1 dz2 dn
    have hnz : nz = nDigs a n.toNat := by omega
    have hnl : (List.replicate (((Builtin.Int.intBits a : Int) + n - 1).fdiv n).toNat [(0 : Int)]).flatten.length = nz := ez1
    have hbits : Builtin.Int.intBits a ≤ n.toNat * nz := by
      rw [hnz]; exact nDigs_bits (by omega)
    have hnb : n.toNat * nz ≤ 1000000 := Nat.le_trans (Nat.mul_le_mul (show n.toNat ≤ 20000 by omega) (show nz ≤ 40 by omega)) (by decide)
    have ha1 : a < 2 ^ (n.toNat * nz) := by
      have := intBits_le_iff.mp hbits
      rw [← cast_pow]; omega
    have hnz0 : 0 < nz := by
      rcases Nat.eq_zero_or_pos nz with e | e
      · rw [e, Nat.mul_zero, Int.pow_zero] at ha1; omega
      · exact e
    refine abstr1 N9 fun fo hfo N8 => ?_
    have oc9 : c ∉ [D, f, L' + 1 + 1 + 1, L' + 1 + 1, L' + 1] := off_of (by omega) (by omega) (by omega) (by omega) (by omega)
    refine' CallsX.use (i2d_inner (w := w) _ (by k_is) (f := f) (c := c) (D := D) (ci := L' + 1 + 1 + 1) (ca := L' + 1 + 1) (cn := L' + 1) (fo := fo) (dcz := dcz) (pmz := (mg (Str.ofString "__name__")).getD Value.none) (ctz := ctz) (hfo.trans (by kernel_rfl)) da di dn' hn (by omega) (by omega) (by omega) (by omega) oc9 nz a 0 nz 0 nz _ _ _ _ _ iz rfl rfl (by omega) hnz0 (by omega) (by omega) (by rw [hnl]; exact hnb) (by omega) ha (by rw [Nat.sub_zero]; exact ha1)) B' F9 X' N8 T' rfl ?_ ?_ hcd
      (List.forall_mem_cons.mpr ⟨by k_mem, List.forall_mem_cons.mpr ⟨by k_mem, List.forall_mem_cons.mpr ⟨by k_mem, List.forall_mem_cons.mpr ⟨by k_mem, List.forall_mem_cons.mpr ⟨by k_mem, List.forall_mem_nil _⟩⟩⟩⟩⟩) (fun _ => rfl) ?_
    · show dp + 1 + (nz + 1) < _; omega
    · show un + 3 + (8 * nz + 20) < _; omega
    intro vs1 r1 h1 tk1 g1 G1 E1 hR1 F1 N1
    obtain ⟨rfl, hI1⟩ := hR1
    rw [filled_all hnl.symm, hnz] at hI1
    have hcd1 := (rec_gsub hcd G1 oc9).keeps E1
    have N1 := N1 [(30, tabObj (hit30 c))] (List.forall_mem_cons.mpr ⟨⟨by k_mem, off_of (c := 30) (a1 := D) (a2 := f) (a3 := L' + 1 + 1 + 1) (a4 := L' + 1 + 1) (a5 := L' + 1) (by omega) (by omega) (by omega) (by omega) (by omega)⟩, List.forall_mem_nil _⟩)
    simp only [List.cons_append, List.nil_append] at N1
    k_steps
    rename Fr g' L' h1 _ => F5
    exact hret c _ _ _ g' GS' F5.keep (List.forall_mem_cons.mpr ⟨(N1 (30, tabObj (hit30 c)) (by k_mem)).1, List.forall_mem_nil _⟩) ⟨hcd1, (N9 (c, oc) (by k_mem)).2.2, D, vs1, 0, rfl, (N9 (D, _) (by k_mem)).2.2, (N1 (D, _) (by k_mem)).1, hI1⟩
  · rename_i o1 o2 on dz1 dz2 dn lz hz1 lz1 D hz2 iz nz sz ez1 ez2 ez3 lz2 hz3 oa da f c oc vsc tc ctz dcz hz4 tkz doc dname lz4 lz5 hz6 oi F9 N9 di anz kF kN kz1 kz2
    have hcd : hz6.CodeRec (.ref c) q30 := rec_cast (codeRec_news N9 (by k_mem) doc dname) (by kernel_rfl)
    have h0 : nDigs a n.toNat = 0 := by
      rw [anz]; unfold nDigs
      exact Nat.div_eq_of_lt (by show 0 + n.toNat - 1 < n.toNat; omega)
    have hI1 : IntsAre (List.replicate (((Builtin.Int.intBits a : Int) + n - 1).fdiv n).toNat [Value.int 0 tk']).flatten (digs n.toNat (nDigs a n.toNat) a) := by
      rw [hKe, h0]; exact .nil
    exact hret c _ _ _ g' GS' F9.keep (List.forall_mem_cons.mpr ⟨(N9 (30, tabObj (hit30 c)) (by k_mem)).1, List.forall_mem_nil _⟩) ⟨hcd, (N9 (c, oc) (by k_mem)).2.2, D, _, 0, rfl, (N9 (D, _) (by k_mem)).2.2, (N9 (D, _) (by k_mem)).1, hI1⟩
theorem i2d_hit {w : World} {a n : Int} {t1 t2 : Tok} {c : Addr} (hn : 1 ≤ n) (hn2 : n ≤ 20000) (ha : 0 ≤ a) (hK : nDigs a n.toNat ≤ 40) :
    CallsT w 35 45 400 [.int a t1, .int n t2] [(30, tabObj (hit30 c))] [(30, tabObj (hit30 c))] (fun h => h.CodeRec (.ref c) q30 ∧ @Ne Nat c 30)
      (RList (fun vs => IntsAre vs (digs n.toNat (nDigs a n.toNat) a))) := by
  intro A s Q E hS hP hret
  obtain ⟨dp, un, gd, cn, cs, fa, ccd, cl, outer, A₀, base, h₀, L, m, mean, mg, mb, rfl, B, F, X, N, T, hk, hd, hu⟩ := hS
  have codeHd : CodeHd h₀ 34 30 := codeHd_of_K X (by kernel_rfl)
  have hKe : ((Builtin.Int.intBits a : Int) + n - 1).fdiv n = (nDigs a n.toNat : Int) := by
    have e : n = (n.toNat : Int) := (Int.toNat_of_nonneg (by omega)).symm
    rw [Int.fdiv_eq_ediv_of_nonneg _ (by omega)]
    unfold nDigs
    rw [Int.natCast_ediv, Int.ofNat_sub (by omega)]
    rw [Int.natCast_add, ← e]; rfl
  have hK1 : 0 ≤ ((Builtin.Int.intBits a : Int) + n - 1).fdiv n := by omega
  have hK2 : ((Builtin.Int.intBits a : Int) + n - 1).fdiv n ≤ 40 := by omega
  refine wpAny_call ?_
  k_dflt tb_rel
  intro g' L' h' tk' cells' FG' F' N' Y' B' X' T' l1 GS'; (try k_lt l1); k_cells Y'; (try simp only [List.cons_append, List.nil_append] at N'); (try dsimp only); (try k_fold)
  have codeHd' : CodeHd g' 34 30 := codeHd_of_K X' (by kernel_rfl)
  have hPg : g'.CodeRec (.ref c) q30 := rec_gsub hP.1 GS' (fun h => by rcases List.mem_cons.mp h with e | h; exact hP.2 e; cases h)
  have hcl := rec_lt hPg
  have hcL := F'.above
  have hcL' : @LT.lt Nat _ c L' := Nat.lt_of_lt_of_le hcl hcL
  clear hcl hcL
  k_steps
  · rename_i o1 o2 on dz1 dz2 dn lz hz1 lz1 D hz2 iz nz sz ez1 ez2 ez3 lz2 hz3 oa da f ctz dcz hz4 tkz lz4 hz6 oi F9 N9 di anz
    have dn' : on.data = .cell (some (.int n t2)) := dn
    have hcd : hz6.CodeRec (.ref c) q30 := hPg.keeps F9.keep
    clear dz1 dz2 dn
    have hnz : nz = nDigs a n.toNat := by omega
    have hnl : (List.replicate (((Builtin.Int.intBits a : Int) + n - 1).fdiv n).toNat [(0 : Int)]).flatten.length = nz := ez1
    have hbits : Builtin.Int.intBits a ≤ n.toNat * nz := by
      rw [hnz]; exact nDigs_bits (by omega)
    have hnb : n.toNat * nz ≤ 1000000 := Nat.le_trans (Nat.mul_le_mul (show n.toNat ≤ 20000 by omega) (show nz ≤ 40 by omega)) (by decide)
    have ha1 : a < 2 ^ (n.toNat * nz) := by
      have := intBits_le_iff.mp hbits
      rw [← cast_pow]; omega
    have hnz0 : 0 < nz := by
      rcases Nat.eq_zero_or_pos nz with e | e
      · rw [e, Nat.mul_zero, Int.pow_zero] at ha1; omega
      · exact e
    refine abstr1 N9 fun fo hfo N8 => ?_
    have oc9 : c ∉ [D, f, L' + 1 + 1 + 1, L' + 1 + 1, L' + 1] := off_of (by omega) (by omega) (by omega) (by omega) (by omega)
    refine' CallsX.use (i2d_inner (w := w) _ (by k_is) (f := f) (c := c) (D := D) (ci := L' + 1 + 1 + 1) (ca := L' + 1 + 1) (cn := L' + 1) (fo := fo) (dcz := dcz) (pmz := (mg (Str.ofString "__name__")).getD Value.none) (ctz := ctz) (hfo.trans (by kernel_rfl)) da di dn' hn (by omega) (by omega) (by omega) (by omega) oc9 nz a 0 nz 0 nz _ _ _ _ _ iz rfl rfl (by omega) hnz0 (by omega) (by omega) (by rw [hnl]; exact hnb) (by omega) ha (by rw [Nat.sub_zero]; exact ha1)) B' F9 X' N8 T' rfl ?_ ?_ hcd
      (List.forall_mem_cons.mpr ⟨by k_mem, List.forall_mem_cons.mpr ⟨by k_mem, List.forall_mem_cons.mpr ⟨by k_mem, List.forall_mem_cons.mpr ⟨by k_mem, List.forall_mem_cons.mpr ⟨by k_mem, List.forall_mem_nil _⟩⟩⟩⟩⟩) (fun _ => rfl) ?_
    · show dp + 1 + (nz + 1) < _; omega
    · show un + 3 + (8 * nz + 20) < _; omega
    intro vs1 r1 h1 tk1 g1 G1 E1 hR1 F1 N1
    obtain ⟨rfl, hI1⟩ := hR1
    rw [filled_all hnl.symm, hnz] at hI1
    have N1 := N1 [(30, tabObj (hit30 c))] (List.forall_mem_cons.mpr ⟨⟨by k_mem, off_of (c := 30) (a1 := D) (a2 := f) (a3 := L' + 1 + 1 + 1) (a4 := L' + 1 + 1) (a5 := L' + 1) (by omega) (by omega) (by omega) (by omega) (by omega)⟩, List.forall_mem_nil _⟩)
    simp only [List.cons_append, List.nil_append] at N1
    k_steps
    rename Fr g' L' h1 _ => F5
    exact hret () _ _ _ g' GS' F5.keep (List.forall_mem_cons.mpr ⟨(N1 (30, tabObj (hit30 c)) (by k_mem)).1, List.forall_mem_nil _⟩) ⟨D, vs1, 0, rfl, (N9 (D, _) (by k_mem)).2.2, (N1 (D, _) (by k_mem)).1, hI1⟩
  · rename_i o1 o2 on dz1 dz2 dn lz hz1 lz1 D hz2 iz nz sz ez1 ez2 ez3 lz2 hz3 oa da f ctz dcz hz4 tkz lz4 hz6 oi F9 N9 di anz kF kN kz1 kz2
    have h0 : nDigs a n.toNat = 0 := by
      rw [anz]; unfold nDigs
      exact Nat.div_eq_of_lt (by show 0 + n.toNat - 1 < n.toNat; omega)
    have hI1 : IntsAre (List.replicate (((Builtin.Int.intBits a : Int) + n - 1).fdiv n).toNat [Value.int 0 tk']).flatten (digs n.toNat (nDigs a n.toNat) a) := by
      rw [hKe, h0]; exact .nil
    exact hret () _ _ _ g' GS' F9.keep (List.forall_mem_cons.mpr ⟨(N9 (30, tabObj (hit30 c)) (by k_mem)).1, List.forall_mem_nil _⟩) ⟨D, _, 0, rfl, (N9 (D, _) (by k_mem)).2.2, (N9 (D, _) (by k_mem)).1, hI1⟩

theorem fill3 : fillDummy PySem.Challenge.rw_ti0025_01 hd.heap_1 := by
  k_fill
  trivial
-- a def without cells; a def with cells; a def made in a def
local macro_rules | `(tactic| tb_start) => `(tactic| (refine' code_defG ?k1 ?k2 ?k3 ?k4 ?k5 ?kA ?kF ?kK ?k6 ?k7 ?k8 ?k9 ?kB ?_ ?c2 ?c3 ?c4 ?c5; (case kA => exact rfl); (case kF => exact rfl); (case kK => assumption); (case k1 => k_asm); (case k2 => k_asm); (case k3 => k_asm); (case k4 => k_asm); (case k5 => k_asm); (case k6 => k_is); (case k7 => k_is); (case k8 => exact Nat.lt_of_le_of_lt (Nat.le_add_right _ _) (by assumption)); (case k9 => exact BindsTo.of_eq rfl); (case c5 => decide); (case kB => exact locs rfl); (case c2 => exact rfl); (case c3 => exact rfl); (case c4 => exact rfl); k_whole))
local macro_rules | `(tactic| tb_rel) => `(tactic| (refine' code_defCG ?k1 ?k2 ?k3 ?k4 ?k5 ?kA ?kF ?kK ?k6 ?k7 ?k8 ?k9 ?kB ?kD ?_ ?c2 ?c3 ?c4; (case kA => exact rfl); (case kF => exact rfl); (case kK => assumption); (case k1 => k_asm); (case k2 => k_asm); (case k3 => k_asm); (case k4 => k_asm); (case k5 => k_asm); (case k6 => k_is); (case k7 => k_is); (case k8 => exact Nat.lt_of_le_of_lt (Nat.le_add_right _ _) (by assumption)); (case k9 => exact BindsTo.of_eq rfl); (case kB => exact rfl); (case kD => decide +kernel); (case c2 => exact rfl); (case c3 => exact rfl); (case c4 => exact rfl); k_whole))
local macro_rules | `(tactic| top_raise0) => `(tactic| (refine' code_nestG ?k1 ?k2 ?k3 ?k4 ?k5 ?kA ?kF ?kK ?k6 ?k7 ?k8 ?k9 ?kB ?_ ?c2 ?c3 ?c4 ?c5; (case kA => exact rfl); (case kF => exact rfl); (case kK => assumption); (case k1 => k_asm); (case k2 => k_asm); (case k3 => k_asm); (case k4 => k_asm); (case k5 => k_asm); (case k6 => k_mem); (case k7 => with_reducible assumption); (case k8 => exact Nat.lt_of_le_of_lt (Nat.le_add_right _ _) (by assumption)); (case k9 => exact BindsTo.of_eq rfl); (case c5 => decide); (case kB => exact locs rfl); (case c2 => exact rfl); (case c3 => exact rfl); (case c4 => exact rfl); k_whole))
-- shifts whose sizes the facts tell
local macro_rules | `(tactic| walk_at "binaryOp LShift int int") => `(tactic| (k_here; refine lshift_int ?h1 ?h2 ?_; (case h1 => first | assumption | omega); (case h2 => first | assumption | omega)))
local macro_rules | `(tactic| walk_at "binaryOp RShift int int") => `(tactic| (k_here; refine rshift_int ?h1 ?_; (case h1 => first | assumption | omega)))

/-- the code object of the inner def -/
abbrev q37 : Str := Str.ofString "_digits2int.<locals>.inner"
abbrev hit37 (c : Addr) : Array Value := #[rawInt 47, rawInt 4, .ref c]
def in0Params (o : Obj) : Arguments := match o.data with
  | .func fd => (match fd.body with | .stmts (.FunctionDef _ a _ _ _ _ _ _ _ _ :: _) => a | _ => default)
  | _ => default
def in0Body (o : Obj) : List Stmt := match o.data with
  | .func fd => (match fd.body with | .stmts (.FunctionDef _ _ b _ _ _ _ _ _ _ :: _) => b | _ => default)
  | _ => default
def in0Scope (o : Obj) : Scope := match o.data with
  | .func fd => (match fd.body with | .stmts (.FunctionDef _ _ _ _ _ _ s _ _ _ :: _) => s | _ => default)
  | _ => default
theorem off4 {c a1 a2 a3 a4 : Nat} (h1 : c ≠ a1) (h2 : c ≠ a2) (h3 : c ≠ a3) (h4 : c ≠ a4) : c ∉ [a1, a2, a3, a4] := by
  simp only [List.mem_cons, List.not_mem_nil, or_false]; omega
theorem list_gsub {h g : Heap} {l : Addr} {its : Array Value} {adr : List Addr} (x : h.IsList l its) (G : GSub h g adr) (hc : l ∉ adr) : g.IsList l its := let ⟨o, ho, r⟩ := x; ⟨o, G _ _ ho hc, r⟩
theorem list_lt {h : Heap} {l : Addr} {its : Array Value} (x : h.IsList l its) : l < h.objs.size := let ⟨_, ho, _⟩ := x; Heap.lt_size ho

theorem d2i_inner {w : World} : ∀ (o42 : Obj), (hd.heap_1 w.params).lookup 42 = some o42 → ∀ {f c cd ci cn l : Addr} {fo od oi on : Obj} {dcz pmz ctz : Value} {n : Int} {t2 : Tok} {vs : List Value} {ns : List Int}
    (hfo : fo = fnMade (Str.ofString "inner") q37 (in0Params o42) (in0Body o42) (in0Scope o42) [(Str.ofString "n", cn), (Str.ofString "inner", ci), (Str.ofString "digits", cd)] dcz pmz c ctz)
    (dd : od.data = .cell (some (.ref l))) (di : oi.data = .cell (some (.ref f))) (dn : on.data = .cell (some (.int n t2))) (hn : 1 ≤ n)
    (oc : c ∉ [f, ci, cd, cn]) (ol : l ∉ [f, ci, cd, cn]) (hI : IntsAre vs ns) (hlen : ns.length ≤ 1000000) (hn4 : n.toNat * ns.length ≤ 1000000) (hB : ∀ d ∈ ns, Builtin.Int.intBits d ≤ 1000000)
    (k : Nat) (loI hiI : Int) (lo hi : Nat) (t4 t5 : Tok), loI = (lo : Int) → hiI = (hi : Int) → hi ≤ lo + k → lo < hi → hi ≤ ns.length →
      CallsT w f (k+1) (8*k+20) [.int loI t4, .int hiI t5] [(f, fo), (ci, oi), (cd, od), (cn, on)] [(f, fo), (ci, oi), (cd, od), (cn, on)] (fun h => h.CodeRec (.ref c) q37 ∧ h.IsList l vs.toArray) (RInt (val n.toNat (seg ns lo hi))) := by
  refine' lk_elim ?h ?_
  case h => k_is
  intro f c cd ci cn l fo od oi on dcz pmz ctz n t2 vs ns hfo dd di dn hn oc ol hI hlen hn4 hB
  dsimp only [in0Params, in0Body, in0Scope] at hfo
  subst hfo
  intro k
  induction k with
  | zero => intros; omega
  | succ k ih =>
    intro loI hiI lo hi t4 t5 elo ehi hk1 hk2 hk3
    intro A s Q E hS hP hret
    obtain ⟨dp, un, gd, cn', cs, fa, ccd, cl, outer, A₀, base, h₀, L, m, mean, mg, mb, rfl, B, F, X, N, T, hk, hd, hu⟩ := hS
    obtain ⟨ml, mh⟩ := mid_le hk2
    have hmid : (loI + hiI).fdiv (2 ^ Int.toNat 1) = (((lo + hi) / 2 : Nat) : Int) := by
      rw [elo, ehi, fdiv_pow]; show ((lo : Int) + hi) / 2 = _; omega
    have hsh : ((loI + hiI).fdiv (2 ^ Int.toNat 1) - loI) * n = ((n.toNat * ((lo + hi) / 2 - lo) : Nat) : Int) := by
      rw [hmid, elo, Int.natCast_mul, Int.natCast_sub ml, Int.mul_comm, Int.toNat_of_nonneg (by omega)]
    have hs0 : 0 ≤ ((loI + hiI).fdiv (2 ^ Int.toNat 1) - loI) * n := by rw [hsh]; exact Int.natCast_nonneg _
    have hs1 : ((loI + hiI).fdiv (2 ^ Int.toNat 1) - loI) * n ≤ 1000000 := by
      rw [hsh]
      have : n.toNat * ((lo + hi) / 2 - lo) ≤ n.toNat * ns.length := Nat.mul_le_mul_left _ (Nat.le_trans (Nat.sub_le _ _) (Nat.le_trans mh hk3))
      exact Int.ofNat_le.mpr (Nat.le_trans this hn4)
    have hS : (((loI + hiI).fdiv (2 ^ Int.toNat 1) - loI) * n).toNat = n.toNat * ((lo + hi) / 2 - lo) := by rw [hsh]; rfl
    have hsz : (Builtin.Int.intBits (val n.toNat (seg ns ((lo + hi) / 2) hi)) : Int) + ((loI + hiI).fdiv (2 ^ Int.toNat 1) - loI) * n ≤ 2 ^ 27 := by
      have h1 := val_bits (n := n.toNat) (l := seg ns ((lo + hi) / 2) hi) fun d hd => hB d (seg_mem hd)
      rw [seg_length mh hk3] at h1
      have h2 : (n.toNat + 2) * (hi - (lo + hi) / 2) ≤ (n.toNat + 2) * ns.length := Nat.mul_le_mul_left _ (by omega)
      rw [Nat.add_mul n.toNat 2 ns.length] at h2
      omega
    have hP1 : s.heap.CodeRec (.ref c) q37 := hP.1
    have hP2 := hP.2
    refine wpAny_call ?_
    k_dflt top_raise0
    intro g' L' h' FG' F' N' B' X' T' GS'
    (try dsimp only)
    k_fold
    have hPg : g'.CodeRec (.ref c) q37 := rec_gsub hP1 GS' oc
    have hLg : g'.IsList l vs.toArray := list_gsub hP2 GS' ol
    have codeHd' : CodeHd g' 41 37 := codeHd_of_K X' (by kernel_rfl)
    clear hP hP1 hP2
    k_steps
    · rename Fr g' L' _ _ => F5
      rename News h₀ L _ _ => kN5
      exact hret () _ _ _ g' GS' F5.keep (fun p hp => (kN5 p hp).1) ⟨_, by rw [show hi = lo + 1 by omega, seg_one (by omega), elo]; rfl⟩
    · rename_i F5 hne
      rename News g' L' _ _ => N5
      have hne' : lo + 1 ≠ hi := by omega
      obtain ⟨m1, m2, m3, m4, _⟩ := mid_facts hk1 hk2 hne'
      have m5 := Nat.le_trans (Nat.le_of_lt m2) hk3
      refine' CallsX.use (ih _ _ ((lo + hi) / 2) hi _ _ hmid ehi ?_ ?_ ?_) B' F5 X' N5 T' rfl ?_ ?_ ⟨hPg.keeps F5.keep, Ext.list F5.keep hLg⟩ (fun _ h => h) (fun _ => rfl) ?_
      · exact m4
      · exact m2
      · exact hk3
      · exact room_d hd
      · exact room_u hu
      intro x1 r1 h1 tk1 g1 G1 E1 hR1 F1 N1
      obtain ⟨tr1, rfl⟩ := hR1
      have N1 := N1 [] (fun _ h => nomatch h)
      simp only [List.append_nil] at N1
      k_steps
      refine' CallsX.use (ih _ _ lo ((lo + hi) / 2) _ _ elo hmid ?_ ?_ ?_) B' F1 X' N1 T' rfl ?_ ?_ ⟨hPg.keeps F1.keep, Ext.list F1.keep hLg⟩ (fun _ h => h) (fun _ => rfl) ?_
      · exact m3
      · exact m1
      · exact m5
      · exact room_d hd
      · exact room_u hu
      intro x2 r2 h2 tk2 g2 G2 E2 hR2 F2 N2
      obtain ⟨tr2, rfl⟩ := hR2
      have N2 := N2 [] (fun _ h => nomatch h)
      simp only [List.append_nil] at N2
      k_steps
      rename Fr g' L' _ _ => F7
      rename News h₀ L _ _ => kN7
      refine hret () _ _ _ g' GS' F7.keep (fun p hp => (kN7 p hp).1) ?_
      rw [seg_val ml mh hk3, ← hS]
      exact ⟨_, rfl⟩

theorem d2i_miss {w : World} {l : Addr} {vs : List Value} {ns : List Int} {n : Int} {t2 : Tok} (hn : 1 ≤ n) (hn2 : n ≤ 20000) (hI : IntsAre vs ns) (hK : ns.length ≤ 40) (hB : ∀ d ∈ ns, Builtin.Int.intBits d ≤ 1000000) (hl37 : @Ne Nat l 37) :
    CallsX (α := Addr) w 42 45 400 [.ref l, .int n t2] [(37, tabObj #[])] (fun c => [(37, tabObj (hit37 c))]) (fun h => h.IsList l vs.toArray)
      (fun c g h' r => h'.CodeRec (.ref c) q37 ∧ g.get? c = none ∧ RInt (val n.toNat ns) g h' r) := by
  intro A s Q E hS hP hret
  obtain ⟨dp, un, gd, cn, cs, fa, ccd, cl, outer, A₀, base, h₀, L, m, mean, mg, mb, rfl, B, F, X, N, T, hk, hd, hu⟩ := hS
  have codeHd : CodeHd h₀ 41 37 := codeHd_of_K X (by kernel_rfl)
  refine wpAny_call ?_
  k_dflt tb_rel
  intro g' L' h' tk' cells' FG' F' N' Y' B' X' T' l1 GS'; (try k_lt l1); k_cells Y'; (try simp only [List.cons_append, List.nil_append] at N'); (try dsimp only); (try k_fold)
  have codeHd' : CodeHd g' 41 37 := codeHd_of_K X' (by kernel_rfl)
  have hl' : g'.IsList l vs.toArray := list_gsub hP GS' (fun h => by rcases List.mem_cons.mp h with e | h; exact hl37 e; cases h)
  have hlL : @LT.lt Nat _ l L' := Nat.lt_of_lt_of_le (list_lt hl') F'.above
  k_steps
  · rename_i o1 on od dz1 dn dd f c oc vsc tc ctz dcz hz4 tkz doc dname lz4 lz5 hz6 oi F9 N9 di anz
    have dn' : on.data = .cell (some (.int n t2)) := dn
    have dd' : od.data = .cell (some (.ref l)) := dd
    have hcd : hz6.CodeRec (.ref c) q37 := rec_cast (codeRec_news N9 (by k_mem) doc dname) (by kernel_rfl)
    clear dz1 dn dd
    have hnb : n.toNat * ns.length ≤ 1000000 := Nat.le_trans (Nat.mul_le_mul (show n.toNat ≤ 20000 by omega) hK) (by decide)
    refine abstr1 N9 fun fo hfo N8 => ?_
    have oc9 : c ∉ [f, L' + 1 + 1 + 1, L' + 1, L' + 1 + 1] := off4 (by omega) (by omega) (by omega) (by omega)
    have ol9 : l ∉ [f, L' + 1 + 1 + 1, L' + 1, L' + 1 + 1] := off4 (c := l) (by omega) (by omega) (by omega) (by omega)
    refine' CallsX.use (d2i_inner (w := w) _ (by k_is) (f := f) (c := c) (l := l) (ci := L' + 1 + 1 + 1) (cd := L' + 1) (cn := L' + 1 + 1) (fo := fo) (dcz := dcz) (pmz := (mg (Str.ofString "__name__")).getD Value.none) (ctz := ctz) (hfo.trans (by kernel_rfl)) dd' di dn' hn oc9 ol9 hI (by omega) hnb hB ns.length 0 ns.length 0 ns.length _ _ rfl rfl (by omega) (by omega) (by omega)) B' F9 X' N8 T' rfl ?_ ?_ ⟨hcd, Ext.list F9.keep hl'⟩
      (List.forall_mem_cons.mpr ⟨by k_mem, List.forall_mem_cons.mpr ⟨by k_mem, List.forall_mem_cons.mpr ⟨by k_mem, List.forall_mem_cons.mpr ⟨by k_mem, List.forall_mem_nil _⟩⟩⟩⟩) (fun _ => rfl) ?_
    · show dp + 1 + (ns.length + 1) < _; omega
    · show un + 3 + (8 * ns.length + 20) < _; omega
    intro x1 r1 h1 tk1 g1 G1 E1 hR1 F1 N1
    obtain ⟨tr1, rfl⟩ := hR1
    rw [seg_all rfl]
    have hcd1 := (rec_gsub hcd G1 oc9).keeps E1
    have N1 := N1 [(37, tabObj (hit37 c))] (List.forall_mem_cons.mpr ⟨⟨by k_mem, off4 (c := 37) (a1 := f) (a2 := L' + 1 + 1 + 1) (a3 := L' + 1) (a4 := L' + 1 + 1) (by omega) (by omega) (by omega) (by omega)⟩, List.forall_mem_nil _⟩)
    simp only [List.cons_append, List.nil_append] at N1
    k_steps
    rename Fr g' L' h1 _ => F5
    exact hret c _ _ _ g' GS' F5.keep (List.forall_mem_cons.mpr ⟨(N1 (37, tabObj (hit37 c)) (by k_mem)).1, List.forall_mem_nil _⟩) ⟨hcd1, (N9 (c, oc) (by k_mem)).2.2, _, rfl⟩
  · rename_i o1 on od dz1 dn dd f c oc vsc tc ctz dcz hz4 tkz doc dname lz4 lz5 hz6 oi F9 N9 di anz kF kN kz1 kz2
    have hcd : hz6.CodeRec (.ref c) q37 := rec_cast (codeRec_news N9 (by k_mem) doc dname) (by kernel_rfl)
    have hns : ns = [] := List.eq_nil_of_length_eq_zero (by omega)
    exact hret c _ _ _ g' GS' F9.keep (List.forall_mem_cons.mpr ⟨(N9 (37, tabObj (hit37 c)) (by k_mem)).1, List.forall_mem_nil _⟩) ⟨hcd, (N9 (c, oc) (by k_mem)).2.2, by rw [hns]; exact ⟨_, rfl⟩⟩
theorem d2i_hit {w : World} {c : Addr} {l : Addr} {vs : List Value} {ns : List Int} {n : Int} {t2 : Tok} (hn : 1 ≤ n) (hn2 : n ≤ 20000) (hI : IntsAre vs ns) (hK : ns.length ≤ 40) (hB : ∀ d ∈ ns, Builtin.Int.intBits d ≤ 1000000) (hl37 : @Ne Nat l 37) :
    CallsT w 42 45 400 [.ref l, .int n t2] [(37, tabObj (hit37 c))] [(37, tabObj (hit37 c))] (fun h => h.IsList l vs.toArray ∧ h.CodeRec (.ref c) q37 ∧ @Ne Nat c 37)
      (RInt (val n.toNat ns)) := by
  intro A s Q E hS hP hret
  obtain ⟨dp, un, gd, cn, cs, fa, ccd, cl, outer, A₀, base, h₀, L, m, mean, mg, mb, rfl, B, F, X, N, T, hk, hd, hu⟩ := hS
  have codeHd : CodeHd h₀ 41 37 := codeHd_of_K X (by kernel_rfl)
  refine wpAny_call ?_
  k_dflt tb_rel
  intro g' L' h' tk' cells' FG' F' N' Y' B' X' T' l1 GS'; (try k_lt l1); k_cells Y'; (try simp only [List.cons_append, List.nil_append] at N'); (try dsimp only); (try k_fold)
  have codeHd' : CodeHd g' 41 37 := codeHd_of_K X' (by kernel_rfl)
  have hl' : g'.IsList l vs.toArray := list_gsub hP.1 GS' (fun h => by rcases List.mem_cons.mp h with e | h; exact hl37 e; cases h)
  have hlL : @LT.lt Nat _ l L' := Nat.lt_of_lt_of_le (list_lt hl') F'.above
  have hPg : g'.CodeRec (.ref c) q37 := rec_gsub hP.2.1 GS' (fun h => by rcases List.mem_cons.mp h with e | h; exact hP.2.2 e; cases h)
  have hcL' : @LT.lt Nat _ c L' := Nat.lt_of_lt_of_le (rec_lt hPg) F'.above
  k_steps
  · rename_i o1 on od dz1 dn dd f ctz dcz hz4 tkz lz4 hz6 oi F9 N9 di anz
    have dn' : on.data = .cell (some (.int n t2)) := dn
    have dd' : od.data = .cell (some (.ref l)) := dd
    have hcd : hz6.CodeRec (.ref c) q37 := hPg.keeps F9.keep
    clear dz1 dn dd
    have hnb : n.toNat * ns.length ≤ 1000000 := Nat.le_trans (Nat.mul_le_mul (show n.toNat ≤ 20000 by omega) hK) (by decide)
    refine abstr1 N9 fun fo hfo N8 => ?_
    have oc9 : c ∉ [f, L' + 1 + 1 + 1, L' + 1, L' + 1 + 1] := off4 (by omega) (by omega) (by omega) (by omega)
    have ol9 : l ∉ [f, L' + 1 + 1 + 1, L' + 1, L' + 1 + 1] := off4 (c := l) (by omega) (by omega) (by omega) (by omega)
    refine' CallsX.use (d2i_inner (w := w) _ (by k_is) (f := f) (c := c) (l := l) (ci := L' + 1 + 1 + 1) (cd := L' + 1) (cn := L' + 1 + 1) (fo := fo) (dcz := dcz) (pmz := (mg (Str.ofString "__name__")).getD Value.none) (ctz := ctz) (hfo.trans (by kernel_rfl)) dd' di dn' hn oc9 ol9 hI (by omega) hnb hB ns.length 0 ns.length 0 ns.length _ _ rfl rfl (by omega) (by omega) (by omega)) B' F9 X' N8 T' rfl ?_ ?_ ⟨hcd, Ext.list F9.keep hl'⟩
      (List.forall_mem_cons.mpr ⟨by k_mem, List.forall_mem_cons.mpr ⟨by k_mem, List.forall_mem_cons.mpr ⟨by k_mem, List.forall_mem_cons.mpr ⟨by k_mem, List.forall_mem_nil _⟩⟩⟩⟩) (fun _ => rfl) ?_
    · show dp + 1 + (ns.length + 1) < _; omega
    · show un + 3 + (8 * ns.length + 20) < _; omega
    intro x1 r1 h1 tk1 g1 G1 E1 hR1 F1 N1
    obtain ⟨tr1, rfl⟩ := hR1
    rw [seg_all rfl]
    have N1 := N1 [(37, tabObj (hit37 c))] (List.forall_mem_cons.mpr ⟨⟨by k_mem, off4 (c := 37) (a1 := f) (a2 := L' + 1 + 1 + 1) (a3 := L' + 1) (a4 := L' + 1 + 1) (by omega) (by omega) (by omega) (by omega)⟩, List.forall_mem_nil _⟩)
    simp only [List.cons_append, List.nil_append] at N1
    k_steps
    rename Fr g' L' h1 _ => F5
    exact hret () _ _ _ g' GS' F5.keep (List.forall_mem_cons.mpr ⟨(N1 (37, tabObj (hit37 c)) (by k_mem)).1, List.forall_mem_nil _⟩) ⟨_, rfl⟩
  · rename_i o1 on od dz1 dn dd f ctz dcz hz4 tkz lz4 hz6 oi F9 N9 di anz kF kN kz1 kz2
    have hcd : hz6.CodeRec (.ref c) q37 := hPg.keeps F9.keep
    have hns : ns = [] := List.eq_nil_of_length_eq_zero (by omega)
    exact hret () _ _ _ g' GS' F9.keep (List.forall_mem_cons.mpr ⟨(N9 (37, tabObj (hit37 c)) (by k_mem)).1, List.forall_mem_nil _⟩) (by rw [hns]; exact ⟨_, rfl⟩)


/-- the quotient and the rest, by what they make -/
theorem div_of {a b q r : Int} (hb : 0 < b) (h : a = q * b + r) (h0 : 0 ≤ r) (h1 : r < b) : a / b = q ∧ a % b = r := by
  have e1 : a / b = q := by
    rw [h, Int.mul_comm, Int.add_comm, Int.add_mul_ediv_left _ _ (Int.ne_of_gt hb), Int.ediv_eq_zero_of_lt h0 h1, Int.zero_add]
  have e2 := Int.emod_add_mul_ediv a b
  rw [e1, Int.mul_comm] at e2
  exact ⟨e1, by omega⟩

/-- what _div3n2n is handed -/
structure Pre32 (a12 a3 b b1 b2 : Int) (n : Nat) : Prop where
  n1 : 1 ≤ n
  a0 : 0 ≤ a12
  c0 : 0 ≤ a3
  c1 : a3 < 2 ^ n
  eb : b = b1 * 2 ^ n + b2
  d0 : 0 ≤ b2
  d1 : b2 < 2 ^ n
  b0 : 2 ^ (n - 1) ≤ b1
  bn : b1 < 2 ^ n
  lt : a12 * 2 ^ n + a3 < b * 2 ^ n
/-- what _div2n1n is handed -/
structure Pre21 (a b : Int) (n : Nat) : Prop where
  n1 : 1 ≤ n
  a0 : 0 ≤ a
  b0 : 2 ^ (n - 1) ≤ b
  bn : b < 2 ^ n
  lt : a < b * 2 ^ n
theorem Pre21.pos {a b : Int} {n : Nat} (p : Pre21 a b n) : 0 < b := Int.lt_of_lt_of_le (pow_pos' _) p.b0
theorem Pre32.pos1 {a12 a3 b b1 b2 : Int} {n : Nat} (p : Pre32 a12 a3 b b1 b2 n) : 0 < b1 := Int.lt_of_lt_of_le (pow_pos' _) p.b0
theorem Pre32.pos {a12 a3 b b1 b2 : Int} {n : Nat} (p : Pre32 a12 a3 b b1 b2 n) : 0 < b := by
  have h1 := Int.mul_pos p.pos1 (pow_pos' n)
  have h2 := p.d0
  rw [p.eb]; omega

/-- the top of a12 is b1 at most -/
theorem Pre32.top {a12 a3 b b1 b2 : Int} {n : Nat} (p : Pre32 a12 a3 b b1 b2 n) : a12 / 2 ^ n ≤ b1 := by
  have hN := pow_pos' n
  have h1 : a12 < b := by
    refine Int.lt_of_mul_lt_mul_right (a := 2 ^ n) ?_ (Int.le_of_lt hN)
    have := p.lt; have := p.c0; omega
  have h2 : a12 < (b1 + 1) * 2 ^ n := by
    rw [Int.add_mul, Int.one_mul]; have := p.eb; have := p.d1; omega
  have := Int.ediv_lt_of_lt_mul hN h2
  omega
theorem Pre32.sub {a12 a3 b b1 b2 : Int} {n : Nat} (p : Pre32 a12 a3 b b1 b2 n) (h : a12 / 2 ^ n ≠ b1) : Pre21 a12 b1 n where
  n1 := p.n1
  a0 := p.a0
  b0 := p.b0
  bn := p.bn
  lt := by
    have h2 := p.top
    have h3 : a12 / 2 ^ n < b1 := by omega
    exact (Int.ediv_lt_iff_lt_mul (pow_pos' n)).mp h3
/-- the first guess of the quotient, where the tops are equal -/
theorem Pre32.eq1 {a12 a3 b b1 b2 : Int} {n : Nat} (p : Pre32 a12 a3 b b1 b2 n) (h : a12 / 2 ^ n = b1) :
    0 ≤ a12 - b1 * 2 ^ n + b1 ∧ (1 * 2 ^ n - 1) * b + (((a12 - b1 * 2 ^ n + b1) * 2 ^ n + a3) - (1 * 2 ^ n - 1) * b2) = a12 * 2 ^ n + a3 ∧ ((a12 - b1 * 2 ^ n + b1) * 2 ^ n + a3) - (1 * 2 ^ n - 1) * b2 < b := by
  have hN := pow_pos' n
  have h1 : b1 * 2 ^ n ≤ a12 := by rw [← h]; exact Int.ediv_mul_le _ (Int.ne_of_gt hN)
  have hp := p.pos1
  have e := p.eb
  have l := p.lt
  generalize (2 : Int) ^ n = N at *
  have k1 : (1 * N - 1) * b = N * b1 * N + N * b2 - b1 * N - b2 := by
    rw [e, Int.one_mul, Int.sub_mul, Int.mul_add, Int.one_mul, ← Int.mul_assoc]; omega
  have k2 : (a12 - b1 * N + b1) * N = a12 * N - b1 * N * N + b1 * N := by rw [Int.add_mul, Int.sub_mul]
  have k3 : (1 * N - 1) * b2 = N * b2 - b2 := by rw [Int.one_mul, Int.sub_mul, Int.one_mul]
  have k4 : b * N = b1 * N * N + b2 * N := by rw [e, Int.add_mul]
  have k5 : N * b1 * N = b1 * N * N := by rw [Int.mul_comm N b1]
  have k6 : N * b2 = b2 * N := Int.mul_comm ..
  refine ⟨by omega, ?_, ?_⟩
  · rw [k1, k2, k3]; omega
  · rw [k2, k3]; omega
theorem Pre32.ne1 {a12 a3 b b1 b2 : Int} {n : Nat} (p : Pre32 a12 a3 b b1 b2 n) :
    0 ≤ a12 % b1 ∧ a12 / b1 * b + ((a12 % b1 * 2 ^ n + a3) - a12 / b1 * b2) = a12 * 2 ^ n + a3 ∧ (a12 % b1 * 2 ^ n + a3) - a12 / b1 * b2 < b := by
  have hp := p.pos1
  have hN := pow_pos' n
  have h0 := Int.emod_nonneg a12 (Int.ne_of_gt hp)
  have h1 := Int.emod_lt_of_pos a12 hp
  have h2 := Int.emod_add_mul_ediv a12 b1
  have hq : 0 ≤ a12 / b1 := Int.ediv_nonneg p.a0 (Int.le_of_lt hp)
  have e := p.eb
  have c1 := p.c1
  have d0 := p.d0
  have m1 : 0 ≤ a12 / b1 * b2 := Int.mul_nonneg hq d0
  generalize (2 : Int) ^ n = N at *
  generalize a12 % b1 = r at *
  generalize a12 / b1 = q at *
  have k1 : q * b = b1 * q * N + q * b2 := by rw [e, Int.mul_add, ← Int.mul_assoc, Int.mul_comm q b1]
  have k2 : a12 * N = r * N + b1 * q * N := by rw [← h2, Int.add_mul]
  have k3 : (r + 1) * N ≤ b1 * N := Int.mul_le_mul_of_nonneg_right (by omega) (Int.le_of_lt hN)
  rw [Int.add_mul, Int.one_mul] at k3
  refine ⟨h0, ?_, ?_⟩
  · rw [k1, k2]; omega
  · omega

theorem intBits_of_range {b : Int} {n : Nat} (hn : 1 ≤ n) (h0 : 2 ^ (n - 1) ≤ b) (h1 : b < 2 ^ n) : Builtin.Int.intBits b = n := by
  have hp : 0 < b := Int.lt_of_lt_of_le (pow_pos' _) h0
  have a1 : Builtin.Int.intBits b ≤ n := intBits_le_iff.mpr (by rw [← cast_pow] at h1; omega)
  have a2 : ¬ Builtin.Int.intBits b ≤ n - 1 := fun h => by
    have := intBits_le_iff.mp h
    rw [← cast_pow] at h0; omega
  omega
theorem log2_bits {x : Int} (h : x ≠ 0) : x.natAbs.log2 + 1 = Builtin.Int.intBits x := by
  unfold Builtin.Int.intBits
  rw [if_neg (by simpa using h)]
theorem no_pylong {a b : Int} {n : Nat} (p : Pre21 a b n) (h : (Builtin.Int.intBits a : Int) - n ≤ 4000) : Builtin.divisionGoesByPylong a b = false := by
  have hb := intBits_of_range p.n1 p.b0 p.bn
  have hb0 : b ≠ 0 := Int.ne_of_gt p.pos
  have lb := log2_bits hb0
  have key : (if (a == 0) = true then 0 else a.natAbs.log2 / 30 + 1) ≤ (b.natAbs.log2 / 30 + 1) + 150 := by
    by_cases ha : (a == 0) = true
    · rw [if_pos ha]; exact Nat.zero_le _
    · rw [if_neg ha]
      have la := log2_bits (x := a) (by simpa using ha)
      omega
  show (decide ((if (b == 0) = true then 0 else b.natAbs.log2 / 30 + 1) > 300) && decide ((if (a == 0) = true then 0 else a.natAbs.log2 / 30 + 1) > (if (b == 0) = true then 0 else b.natAbs.log2 / 30 + 1) + 150)) = false
  rw [if_neg (show ¬ (b == 0) = true by simpa using hb0)]
  rw [show decide ((if (a == 0) = true then 0 else a.natAbs.log2 / 30 + 1) > b.natAbs.log2 / 30 + 1 + 150) = false from decide_eq_false (by omega), Bool.and_false]
theorem Pre21.bits {a b : Int} {n : Nat} (p : Pre21 a b n) : Builtin.Int.intBits a ≤ 2 * n := by
  refine intBits_le_iff.mpr ?_
  have h1 : b * 2 ^ n ≤ 2 ^ n * 2 ^ n := Int.mul_le_mul_of_nonneg_right (Int.le_of_lt p.bn) (Int.le_of_lt (pow_pos' n))
  have h2 := Int.lt_of_lt_of_le p.lt h1
  rw [← pow_add', ← cast_pow] at h2
  have := p.a0
  rw [show 2 * n = n + n by omega]; omega

/-- the two halves: n is even -/
theorem Pre21.halves {a b : Int} {h : Nat} (hh : 1 ≤ h) (p : Pre21 a b (h + h)) :
    Pre32 (a / 2 ^ (h + h)) (a / 2 ^ h % 2 ^ h) b (b / 2 ^ h) (b % 2 ^ h) h ∧
    Pre32 ((a / 2 ^ (h + h) * 2 ^ h + a / 2 ^ h % 2 ^ h) % b) (a % 2 ^ h) b (b / 2 ^ h) (b % 2 ^ h) h ∧
    a / b = (a / 2 ^ (h + h) * 2 ^ h + a / 2 ^ h % 2 ^ h) / b * 2 ^ h + ((a / 2 ^ (h + h) * 2 ^ h + a / 2 ^ h % 2 ^ h) % b * 2 ^ h + a % 2 ^ h) / b ∧
    a % b = ((a / 2 ^ (h + h) * 2 ^ h + a / 2 ^ h % 2 ^ h) % b * 2 ^ h + a % 2 ^ h) % b ∧
    0 ≤ (a / 2 ^ (h + h) * 2 ^ h + a / 2 ^ h % 2 ^ h) / b ∧ 0 ≤ ((a / 2 ^ (h + h) * 2 ^ h + a / 2 ^ h % 2 ^ h) % b * 2 ^ h + a % 2 ^ h) / b ∧ ((a / 2 ^ (h + h) * 2 ^ h + a / 2 ^ h % 2 ^ h) % b * 2 ^ h + a % 2 ^ h) / b < 2 ^ h := by
  have hH := pow_pos' h
  have hp := p.pos
  have a0 := p.a0
  have lt := p.lt
  have b0 := p.b0
  have bn := p.bn
  have e1 : a / 2 ^ (h + h) * 2 ^ h + a / 2 ^ h % 2 ^ h = a / 2 ^ h := by
    rw [← ediv_pow]
    have := Int.emod_add_mul_ediv (a / 2 ^ h) (2 ^ h)
    have k : (2 : Int) ^ h * (a / 2 ^ h / 2 ^ h) = a / 2 ^ h / 2 ^ h * 2 ^ h := Int.mul_comm ..
    omega
  have hA0 : 0 ≤ a / 2 ^ h := Int.ediv_nonneg a0 (Int.le_of_lt hH)
  have hA1 : a / 2 ^ h < b * 2 ^ h := by
    refine Int.ediv_lt_of_lt_mul hH ?_
    rw [Int.mul_assoc, ← pow_add']; exact lt
  have eb : b = b / 2 ^ h * 2 ^ h + b % 2 ^ h := by
    have := Int.emod_add_mul_ediv b (2 ^ h)
    have k : (2 : Int) ^ h * (b / 2 ^ h) = b / 2 ^ h * 2 ^ h := Int.mul_comm ..
    omega
  have hb1 : 2 ^ (h - 1) ≤ b / 2 ^ h := by
    refine (Int.le_ediv_iff_mul_le hH).mpr ?_
    rw [← pow_add', show h - 1 + h = h + h - 1 by omega]; exact b0
  have hb2 : b / 2 ^ h < 2 ^ h := by
    refine Int.ediv_lt_of_lt_mul hH ?_
    rw [← pow_add']; exact bn
  have r0 := Int.emod_nonneg (a / 2 ^ h) (Int.ne_of_gt hp)
  have r1 := Int.emod_lt_of_pos (a / 2 ^ h) hp
  have c0 := Int.emod_nonneg a (Int.ne_of_gt hH)
  have c1 := Int.emod_lt_of_pos a hH
  have hA2 : a / 2 ^ h % b * 2 ^ h + a % 2 ^ h < b * 2 ^ h := by
    have k3 : (a / 2 ^ h % b + 1) * 2 ^ h ≤ b * 2 ^ h := Int.mul_le_mul_of_nonneg_right (by omega) (Int.le_of_lt hH)
    rw [Int.add_mul, Int.one_mul] at k3; omega
  have hA2' : 0 ≤ a / 2 ^ h % b * 2 ^ h + a % 2 ^ h := Int.add_nonneg (Int.mul_nonneg r0 (Int.le_of_lt hH)) c0
  rw [e1]
  have q2lt : (a / 2 ^ h % b * 2 ^ h + a % 2 ^ h) / b < 2 ^ h := Int.ediv_lt_of_lt_mul hp (by rw [Int.mul_comm (2 ^ h) b]; exact hA2)
  have key : a = (a / 2 ^ h / b * 2 ^ h + (a / 2 ^ h % b * 2 ^ h + a % 2 ^ h) / b) * b + (a / 2 ^ h % b * 2 ^ h + a % 2 ^ h) % b := by
    have k1 := Int.emod_add_mul_ediv a (2 ^ h)
    have k2 := Int.emod_add_mul_ediv (a / 2 ^ h) b
    have k3 := Int.emod_add_mul_ediv (a / 2 ^ h % b * 2 ^ h + a % 2 ^ h) b
    have k4 : 2 ^ h * (a / 2 ^ h) = a / 2 ^ h % b * 2 ^ h + a / 2 ^ h / b * 2 ^ h * b := by
      rw [Int.mul_comm (2 ^ h) (a / 2 ^ h)]
      conv => lhs; rw [← k2]
      rw [Int.add_mul, Int.mul_comm b (a / 2 ^ h / b), Int.mul_assoc, Int.mul_assoc, Int.mul_comm b (2 ^ h)]
    rw [Int.add_mul, Int.mul_comm ((a / 2 ^ h % b * 2 ^ h + a % 2 ^ h) / b) b]
    omega
  have dv := div_of hp key (Int.emod_nonneg _ (Int.ne_of_gt hp)) (Int.emod_lt_of_pos _ hp)
  refine ⟨?_, ?_, dv.1, dv.2, Int.ediv_nonneg hA0 (Int.le_of_lt hp), Int.ediv_nonneg hA2' (Int.le_of_lt hp), q2lt⟩
  · exact { n1 := hh, a0 := Int.ediv_nonneg a0 (Int.le_of_lt (pow_pos' _)), c0 := Int.emod_nonneg _ (Int.ne_of_gt hH), c1 := Int.emod_lt_of_pos _ hH, eb := eb, d0 := Int.emod_nonneg _ (Int.ne_of_gt hH), d1 := Int.emod_lt_of_pos _ hH, b0 := hb1, bn := hb2, lt := by rw [e1]; exact hA1 }
  · exact { n1 := hh, a0 := r0, c0 := c0, c1 := c1, eb := eb, d0 := Int.emod_nonneg _ (Int.ne_of_gt hH), d1 := Int.emod_lt_of_pos _ hH, b0 := hb1, bn := hb2, lt := hA2 }
/-- n is odd: both are doubled -/
theorem Pre21.pad {a b : Int} {n : Nat} (p : Pre21 a b n) : Pre21 (a * 2) (b * 2) (n + 1) ∧ a * 2 / (b * 2) = a / b ∧ a * 2 % (b * 2) = a % b * 2 := by
  have h1 : (2 : Int) ^ (n + 1) = 2 ^ n * 2 := Int.pow_succ ..
  have h2 : (2 : Int) ^ n = 2 ^ (n - 1) * 2 := by rw [← Int.pow_succ]; congr 1; have := p.n1; omega
  refine ⟨⟨Nat.le_add_left .., Int.mul_nonneg p.a0 (by decide), ?_, ?_, ?_⟩, Int.mul_ediv_mul_of_pos_left _ _ (by decide), (by rw [Int.mul_comm a 2, Int.mul_comm b 2, Int.mul_emod_mul_of_pos _ _ (by decide), Int.mul_comm])⟩
  · rw [Nat.add_sub_cancel, h2]; exact Int.mul_le_mul_of_nonneg_right p.b0 (by decide)
  · rw [h1]; have := p.bn; omega
  · rw [h1]
    have := p.lt
    have e : b * 2 * (2 ^ n * 2) = b * 2 ^ n * 4 := by rw [Int.mul_assoc, Int.mul_assoc, ← Int.mul_assoc 2, Int.mul_comm 2 (2 ^ n), Int.mul_assoc]; rfl
    rw [e]; have := p.a0; omega
theorem top_low (a : Int) (h : Nat) : a / 2 ^ (h + h) * 2 ^ h + a / 2 ^ h % 2 ^ h = a / 2 ^ h := by
  rw [← ediv_pow]
  have := Int.emod_add_mul_ediv (a / 2 ^ h) (2 ^ h)
  have k : (2 : Int) ^ h * (a / 2 ^ h / 2 ^ h) = a / 2 ^ h / 2 ^ h * 2 ^ h := Int.mul_comm ..
  omega
theorem raw1 {a NI : Int} {h : Nat} (e : NI = ((h + h : Nat) : Int)) : a.fdiv (2 ^ NI.toNat) = a / 2 ^ (h + h) := by rw [e, fdiv_pow]; rfl
theorem raw3 {a HI : Int} {h : Nat} (e : HI = (h : Int)) : a.fdiv (2 ^ HI.toNat) = a / 2 ^ h := by rw [e, fdiv_pow]; rfl
theorem raw4 {a HI : Int} {h : Nat} (e : HI = (h : Int)) (ha : 0 ≤ a) : Builtin.bitAnd a (1 * 2 ^ HI.toNat - 1) = a % 2 ^ h := by rw [e, Int.one_mul]; exact and_mask ha h
theorem raw2 {a HI : Int} {h : Nat} (e : HI = (h : Int)) (ha : 0 ≤ a) : Builtin.bitAnd (a.fdiv (2 ^ HI.toNat)) (1 * 2 ^ HI.toNat - 1) = a / 2 ^ h % 2 ^ h := by
  rw [raw3 e, raw4 e (Int.ediv_nonneg ha (Int.le_of_lt (pow_pos' _)))]


/-- where a turn of a loop ends: the ledger's addresses as they were -/
def TurnEnd (h₀ : Heap) (L : Addr) (J : (Str → Option Value) → List (Addr × Obj) → Prop) (own : List (Addr × Obj)) (adr : List Addr) (s₁ s₂ : Shared) : Prop :=
  ∃ h' tk m' nx, s₂ = { s₁ with heap := h', toks := tk } ∧ Fr h₀ L h' m' ∧ News h₀ L h' nx ∧ News h₀ L h' own ∧ nx.map (·.1) = adr ∧ J m' nx
def TurnPost (h₀ : Heap) (L : Addr) (J : (Str → Option Value) → List (Addr × Obj) → Prop) (own : List (Addr × Obj)) (adr : List Addr) (s₁ : Shared) (Q : Flow → Shared → Prop) (f : Flow) (s₂ : Shared) : Prop :=
  match f with
  | .ret v => Q (.ret v) s₂
  | .brk => Q .next s₂
  | _ => TurnEnd h₀ L J own adr s₁ s₂
theorem TurnPost.next {h₀ : Heap} {L : Addr} {J : (Str → Option Value) → List (Addr × Obj) → Prop} {own : List (Addr × Obj)} {adr : List Addr} {s₁ : Shared} {Q : Flow → Shared → Prop} {h' : Heap} {tk : Tok} {m' : Str → Option Value} {nx : List (Addr × Obj)}
    (F : Fr h₀ L h' m') (N : News h₀ L h' nx) (O : News h₀ L h' own) (a : nx.map (·.1) = adr) (j : J m' nx) : TurnPost h₀ L J own adr s₁ Q .next { s₁ with heap := h', toks := tk } := ⟨h', tk, m', nx, rfl, F, N, O, a, j⟩

section
variable {prog : Program} {w : World} {A : Around} {E : Value → Shared → Prop} {env : Env} {h₀ : Heap} {x : Str} {body : List Stmt} {Q : Flow → Shared → Prop}

theorem loop_at {I : Addr} {fp : List Addr} {n : Nat} {P : Nat → Value → Prop} {St : Nat → Heap → Prop} {m : Str → Option Value} {news : List (Addr × Obj)} {s₂ : Shared} (J : Nat → (Str → Option Value) → List (Addr × Obj) → Prop)
    (W : Walks prog w A I fp [I] n P St) (hLf : env.locals ∉ fp) (hI : h₀.get? I = none) (hIn : ∀ p ∈ news, p.1 ≠ I) (hst : St 0 s₂.heap) (F : Fr h₀ env.locals s₂.heap m) (N : News h₀ env.locals s₂.heap news) (h0 : J 0 m news)
    (turn : ∀ i v m₁ news₁ h tk own, i < n → P i v → news₁.map (·.1) = news.map (·.1) → (∀ p ∈ own, p.1 ∈ fp) → St (i + 1) h → J i m₁ news₁ → Fr h₀ env.locals h (fun y => if y = x then some v else m₁ y) → News h₀ env.locals h news₁ → News h₀ env.locals h own →
      wpAny (model prog w) A (execs body env) (TurnPost h₀ env.locals (J (i + 1)) own (news.map (·.1)) { s₂ with heap := h, toks := tk } Q) E { s₂ with heap := h, toks := tk })
    (done : ∀ m₁ news₁ h tk, news₁.map (·.1) = news.map (·.1) → J n m₁ news₁ → Fr h₀ env.locals h m₁ → News h₀ env.locals h news₁ → Q .next { s₂ with heap := h, toks := tk }) :
    LoopAtV prog w A h₀ env x body Q E (.ref I) s₂ := by
  refine ⟨I, fp, [I], n, P, St, m, news, fun i m₁ news₁ => news₁.map (·.1) = news.map (·.1) ∧ J i m₁ news₁, rfl, W, hLf, ?_, ?_, hst, F, N, ⟨rfl, h0⟩, ?_, ?_⟩
  · intro b hb; rw [List.mem_singleton.mp hb]; exact hI
  · intro p hp hb; exact hIn p hp (List.mem_singleton.mp hb)
  · rintro i v m₁ news₁ s₁ own ⟨h, tk, rfl⟩ hi hP ⟨ha, hJ⟩ hoff hown hat _ hst' F₁ N₁
    refine wpAny_mono (turn i v m₁ news₁ h tk own hi hP ha hown hst' hJ F₁ (fun p hp => N₁ p (List.mem_append_right _ hp)) (fun p hp => N₁ p (List.mem_append_left _ hp))) (fun f s₃ h₃ => ?_) fun _ _ y => y
    have fin : TurnEnd h₀ env.locals (J (i + 1)) own (news.map (·.1)) { s₂ with heap := h, toks := tk } s₃ → LoopStepU h₀ env.locals [I] own (fun m₁ news₁ => news₁.map (·.1) = news.map (·.1) ∧ J (i + 1) m₁ news₁) { s₂ with heap := h, toks := tk } .next s₃ := by
      rintro ⟨h', tk', m', nx, e, F', N', O', ha', hJ'⟩
      refine ⟨rfl, h', tk', m', nx, e, F', fun p hp => (List.mem_append.mp hp).elim (O' p) (N' p), fun p hp hq => ?_, ha', hJ'⟩
      have h1 : p.1 ∈ nx.map (·.1) := List.mem_map_of_mem hp
      rw [ha'] at h1
      obtain ⟨q, hq1, hq2⟩ := List.mem_map.mp h1
      exact hIn q hq1 (hq2.trans (List.mem_singleton.mp hq))
    cases f with
    | ret v => exact .ret h₃
    | brk => exact .brk h₃
    | next => exact .next (fin h₃)
    | cont => exact .cont (fin h₃)
  · rintro h' tk m' news' F' N' _ ⟨ha, hJ⟩
    exact done m' news' h' tk ha hJ F' N'

theorem list_ne_ns {h : Heap} {l L : Addr} {its : Array Value} {m : Str → Option Value} (x : h.IsList l its) (y : h.Ns L m) : L ≠ l := by
  rintro rfl
  obtain ⟨o, e, _, n, d⟩ := x
  obtain ⟨o', es, ep, e', d', _⟩ := y
  rw [e] at e'; cases e'; rw [d] at d'; cases d'

/-- a for over a list that stands -/
theorem iter_list {l : Addr} {vs : List Value} {m : Str → Option Value} {news : List (Addr × Obj)} {s : Shared} (J : Nat → (Str → Option Value) → List (Addr × Obj) → Prop)
    (hh : A.handled = none) (hl : s.heap.IsList l vs.toArray) (F : Fr h₀ env.locals s.heap m) (N : News h₀ env.locals s.heap news) (h0 : J 0 m news)
    (turn : ∀ i v m₁ news₁ h tk own, vs[i]? = some v → news₁.map (·.1) = news.map (·.1) → (∀ p ∈ own, p.1 = l ∨ ∀ b ∈ news.map (·.1), p.1 ≠ b) → h.IsList l vs.toArray → J i m₁ news₁ → Fr h₀ env.locals h (fun y => if y = x then some v else m₁ y) → News h₀ env.locals h news₁ → News h₀ env.locals h own →
      wpAny (model prog w) A (execs body env) (TurnPost h₀ env.locals (J (i + 1)) own (news.map (·.1)) { s with heap := h, toks := tk } Q) E { s with heap := h, toks := tk })
    (done : ∀ m₁ news₁ h tk, news₁.map (·.1) = news.map (·.1) → J vs.length m₁ news₁ → Fr h₀ env.locals h m₁ → News h₀ env.locals h news₁ → Q .next { s with heap := h, toks := tk }) :
    wpAny (model prog w) A (pyIter (.ref l)) (fun it s₂ => LoopAtV prog w A h₀ env x body Q E it s₂) E s := by
  obtain ⟨ol, hol, _⟩ := id hl
  have hlt : l < s.heap.objs.size := Heap.lt_size hol
  refine wpAny_pyIter_list hl ?_
  have hIn : ∀ p ∈ news, p.1 ≠ s.heap.objs.size := fun p hp => Nat.ne_of_lt (Heap.lt_size (N p hp).1)
  refine loop_at J (Walks.list hh s.heap.objs.size l (Nat.ne_of_lt hlt) vs.toArray) ?_ (next_is_new F) hIn ⟨⟨_, Heap.get?_push_size _ rfl, rfl, rfl⟩, hl.at fun o e => Heap.get?_push_of_some _ e⟩ (F.push _) (fun p hp => ⟨Heap.get?_push_of_some _ (N p hp).1, (N p hp).2⟩) h0 ?_ ?_
  · intro hm
    rcases List.mem_cons.mp hm with e | hm
    · exact absurd F.ns.lt (e ▸ Nat.lt_irrefl _)
    · exact list_ne_ns hl F.ns (List.mem_singleton.mp hm)
  · intro i v m₁ news₁ h tk own hi hP ha hown hst hJ F₁ N₁ O₁
    refine turn i v m₁ news₁ h tk own (by simpa using hP) ha (fun p hp => ?_) hst.2 hJ F₁ N₁ O₁
    rcases List.mem_cons.mp (hown p hp) with e | e
    · right
      intro b hb e2
      obtain ⟨q, hq, rfl⟩ := List.mem_map.mp hb
      exact hIn q hq (e2.symm.trans e)
    · exact .inl (List.mem_singleton.mp e)
  · intro m₁ news₁ h tk ha hJ F₁ N₁
    exact done m₁ news₁ h tk ha (by simpa using hJ) F₁ N₁

/-- a for over reversed(l) -/
theorem iter_rev {l D : Addr} {vs : List Value} {m : Str → Option Value} {news : List (Addr × Obj)} {s : Shared} (J : Nat → (Str → Option Value) → List (Addr × Obj) → Prop)
    (hh : A.handled = none) (hl : s.heap.IsList l vs.toArray) (hD : s.heap.IsRevIter D l ((vs.length : Int) - 1)) (hD0 : h₀.get? D = none) (hDL : env.locals ≠ D) (hDn : ∀ p ∈ news, p.1 ≠ D) (hDl : l ≠ D) (F : Fr h₀ env.locals s.heap m) (N : News h₀ env.locals s.heap news) (h0 : J 0 m news)
    (turn : ∀ i v m₁ news₁ h tk own, vs[vs.length - 1 - i]? = some v → i < vs.length → news₁.map (·.1) = news.map (·.1) → (∀ p ∈ own, p.1 = l ∨ ∀ b ∈ news.map (·.1), p.1 ≠ b) → h.IsList l vs.toArray → J i m₁ news₁ → Fr h₀ env.locals h (fun y => if y = x then some v else m₁ y) → News h₀ env.locals h news₁ → News h₀ env.locals h own →
      wpAny (model prog w) A (execs body env) (TurnPost h₀ env.locals (J (i + 1)) own (news.map (·.1)) { s with heap := h, toks := tk } Q) E { s with heap := h, toks := tk })
    (done : ∀ m₁ news₁ h tk, news₁.map (·.1) = news.map (·.1) → J vs.length m₁ news₁ → Fr h₀ env.locals h m₁ → News h₀ env.locals h news₁ → Q .next { s with heap := h, toks := tk }) :
    wpAny (model prog w) A (pyIter (.ref D)) (fun it s₂ => LoopAtV prog w A h₀ env x body Q E it s₂) E s := by
  refine wpAny_pyIter_revIter hD ?_
  refine loop_at (s₂ := s) J (Walks.listRev hh D l hDl vs.toArray) ?_ hD0 hDn ⟨Nat.zero_le _, ?_, hl⟩ F N h0 ?_ ?_
  · intro hm
    rcases List.mem_cons.mp hm with e | hm
    · exact hDL e
    · exact list_ne_ns hl F.ns (List.mem_singleton.mp hm)
  · simpa using hD
  · intro i v m₁ news₁ h tk own hi hP ha hown hst hJ F₁ N₁ O₁
    refine turn i v m₁ news₁ h tk own (by simpa using hP) (by simpa using hi) ha (fun p hp => ?_) hst.2.2 hJ F₁ N₁ O₁
    rcases List.mem_cons.mp (hown p hp) with e | e
    · right
      intro b hb e2
      obtain ⟨q, hq, rfl⟩ := List.mem_map.mp hb
      exact hDn q hq (e2.symm.trans e)
    · exact .inl (List.mem_singleton.mp e)
  · intro m₁ news₁ h tk ha hJ F₁ N₁
    exact done m₁ news₁ h tk ha (by simpa using hJ) F₁ N₁
end


/-- pure values -/
inductive SV where
  | none | bool (b : Bool) | int (i : Int) | str (x : Str) | list (l : List SV) | tup (l : List SV) | tok (i : Int) (p : Tok → Prop)
mutual
inductive Rep (h : Heap) : Value → SV → Prop
  | none : Rep h .none .none
  | bool (b : Bool) : Rep h (.bool b) (.bool b)
  | int (i : Int) (t : Tok) : Rep h (.int i t) (.int i)
  | str (x : Str) (t : Tok) : Rep h (.str x t) (.str x)
  | list {a : Addr} {vs : List Value} {l : List SV} {n : Nat} (x : h.get? a = some ({ cls := .type "list", data := .seq vs.toArray n } : Obj)) (y : Reps h vs l) : Rep h (.ref a) (.list l)
  | tup {a : Addr} {vs : List Value} {l : List SV} (x : h.IsTuple a vs.toArray) (y : Reps h vs l) : Rep h (.ref a) (.tup l)
  | tok (i : Int) (t : Tok) (p : Tok → Prop) (x : p t) : Rep h (.int i t) (.tok i p)
inductive Reps (h : Heap) : List Value → List SV → Prop
  | nil : Reps h [] []
  | cons {v : Value} {x : SV} {vs : List Value} {l : List SV} (a : Rep h v x) (b : Reps h vs l) : Reps h (v :: vs) (x :: l)
end
/-- the second heap holds all of the first but what the tables hold -/
def Up (h h' : Heap) : Prop := GSub h h' [30, 37]
/-- at 30 and 37 stand tables -/
def TabObjs (h : Heap) : Prop := ∀ a ∈ ([30, 37] : List Addr), ∃ t, h.get? a = some (tabObj t)
theorem Up.get {h h' : Heap} {a : Addr} {o : Obj} (U : Up h h') (T : TabObjs h) (e : h.get? a = some o) (ne : ∀ t, o ≠ tabObj t) : h'.get? a = some o :=
  U a o e fun hm => by obtain ⟨t, ht⟩ := T a hm; rw [e] at ht; cases ht; exact ne t rfl
mutual
theorem Rep.up {h h' : Heap} (U : Up h h') (T : TabObjs h) {v : Value} {x : SV} (r : Rep h v x) : Rep h' v x := by
  cases r with
  | none => exact .none
  | bool b => exact .bool b
  | int i t => exact .int i t
  | str x t => exact .str x t
  | list a b =>
    exact .list (U.get T a (fun t e => nomatch e)) (b.up U T)
  | tup a b =>
    obtain ⟨o, e, c, n, d⟩ := a
    exact .tup ⟨o, U.get T e (fun t e => by rw [e] at d; cases d), c, n, d⟩ (b.up U T)
  | tok i t p x => exact .tok i t p x
theorem Reps.up {h h' : Heap} (U : Up h h') (T : TabObjs h) {vs : List Value} {l : List SV} (r : Reps h vs l) : Reps h' vs l := by
  cases r with
  | nil => exact .nil
  | cons a b => exact .cons (a.up U T) (b.up U T)
end

/-- a frame, and the block within it that is at work (the frame itself, or a comprehension of it) -/
structure Ctx where
  w : World
  A : Around
  h₀ : Heap
  env₀ : Env
  env : Env
  d : Nat
  u : Nat
/-- the frame stands, with room for d calls and u units -/
inductive Fm (G : Ctx) : Prop
  | mk (dp un : Nat) (gd : Option (List Code)) (cn : Str) (cs : Scope) (L a : Addr) (ccd : Value) (cl : List (Str × Addr)) (outer : List Env) (A₀ : Around) (base : Heap) (mean : ExcName → Option Value) (mg mb : Str → Option Value)
    (hA : G.A = ktrTop dp un gd cn cs L a ccd cl outer) (he : G.env₀ = envX cn cs L a ccd cl) (B : Below A₀ base outer G.h₀) (X : (hd.heap_1 G.w.params).In G.h₀) (T : Top topProg LL mean mg mb G.h₀) (kk : cs.kind = .function) (h1 : dp + G.d < recursionLimit) (h2 : un + G.u + 70 < cLine)
    (hgl : G.env.globals = mainGlobals) (hbl : G.env.builtins = builtinsNs) (hks : G.env.scope.kind = .function)
/-- the name stands for the value -/
inductive Has (env : Env) (h : Heap) (x : Str) (v : Value) : Prop
  | loc (k : env.kindOf x = some .local) (m : Str → Option Value) (n : h.Ns env.locals m) (e : m x = some v)
  | cell (k : env.kindOf x = some .cell) (c : Addr) (l : env.cells.lookup x = some c) (e : h.IsCell c (some v))
  | free (k : env.kindOf x = some .free) (c : Addr) (l : env.cells.lookup x = some c) (e : h.IsCell c (some v))
def Knows (env : Env) (ρ : List (Str × SV)) (h : Heap) : Prop := ∀ x sv, ρ.lookup x = some sv → ∃ v, Has env h x v ∧ Rep h v sv
/-- the tables: made or not -/
def Made (q : Str) (hit : Addr → Array Value) (t : Array Value) (h : Heap) : Prop := t = #[] ∨ ∃ c, t = hit c ∧ h.CodeRec (.ref c) q ∧ c ∉ ([30, 37] : List Addr)
def TabsAt (G : Ctx) (h : Heap) : Prop :=
  ∃ t1 t2, News G.h₀ G.env₀.locals h [(30, tabObj t1), (37, tabObj t2)] ∧ Made q30 hit30 t1 h ∧ Made q37 hit37 t2 h
theorem Made.keep {q : Str} {hit : Addr → Array Value} {t : Array Value} {h h' : Heap} (m : Made q hit t h) (k : ∀ c : Addr, c ∉ ([30, 37] : List Addr) → h.CodeRec (.ref c) q → h'.CodeRec (.ref c) q) : Made q hit t h' :=
  m.imp id fun ⟨c, e1, e2, e3⟩ => ⟨c, e1, k c e3 e2, e3⟩
/-- the frame's cells stand -/
def CellsStand (G : Ctx) (h : Heap) : Prop := ∀ x c, (x, c) ∈ G.env.cells → (∃ v, h.IsCell c v) ∧ G.h₀.get? c = none
structure Okay (G : Ctx) (ρ : List (Str × SV)) (h : Heap) : Prop where
  fr : ∃ m, Fr G.h₀ G.env₀.locals h m
  tab : TabsAt G h
  kn : Knows G.env ρ h
  cs : CellsStand G h
  ns : ∃ m, h.Ns G.env.locals m
theorem TabsAt.objs {G : Ctx} {h : Heap} (T : TabsAt G h) : TabObjs h := by
  obtain ⟨t1, t2, N, _⟩ := T
  intro a ha
  rcases List.mem_cons.mp ha with rfl | ha
  · exact ⟨t1, (N (30, tabObj t1) (.head _)).1⟩
  · rw [List.mem_singleton.mp ha]
    exact ⟨t2, (N (37, tabObj t2) (.tail _ (.head _))).1⟩
/-- the value of an expression -/
def Ev (G : Ctx) (ρ : List (Str × SV)) (e : Expr) (sv : SV) : Prop :=
  Fm G → ∀ (Q Eh : Value → Shared → Prop) (s : Shared), Okay G ρ s.heap →
    (∀ v h' tk, Up s.heap h' → TabsAt G h' → Rep h' v sv → Q v { s with heap := h', toks := tk }) →
    wpAny (model Pr G.w) G.A (eval e G.env) Q Eh s
theorem Up.refl (h : Heap) : Up h h := fun _ _ e _ => e
theorem Up.trans {a b c : Heap} (x : Up a b) (y : Up b c) : Up a c := fun p o e n => y p o (x p o e n) n
theorem Ev.int {G : Ctx} {ρ : List (Str × SV)} {i : Int} {k : Nat} {pos : Pos} : Ev G ρ (.Constant (.int i) k pos) (.int i) :=
  fun _ Q Eh s O h => wpAny_Constant_int (h _ _ _ (Up.refl _) O.tab (.int _ _))
theorem Ev.str {G : Ctx} {ρ : List (Str × SV)} {i : Str} {k : Nat} {pos : Pos} : Ev G ρ (.Constant (.str i) k pos) (.str i) :=
  fun _ Q Eh s O h => wpAny_Constant_str (h _ _ _ (Up.refl _) O.tab (.str _ _))
theorem Ev.name {G : Ctx} {ρ : List (Str × SV)} {x : Str} {sv : SV} {pos : Pos} (e : ρ.lookup x = some sv) (hd : (x == ("__debug__" : Str)) = false := by decide) (hn : (x == ("__classdict__" : Str)) = false := by decide) : Ev G ρ (.Name x pos) sv := by
  intro F Q Eh s O h
  obtain ⟨_, _, _, _, _, _, _, _, _, _, _, _, _, _, _, _, _, _, _, _, _, _, _, _, _, hk⟩ := F
  obtain ⟨v, hv, hr⟩ := O.kn x sv e
  refine wpAny_Name ?_ hd
  cases hv with
  | loc k m n em => exact wpAny_loadName_local hk k n em (h _ _ _ (Up.refl _) O.tab hr)
  | cell k c l ec => exact wpAny_loadName_cell hk k l ec (h _ _ _ (Up.refl _) O.tab hr)
  | free k c l ec => exact wpAny_loadName_free hk k l ec (h _ _ _ (Up.refl _) O.tab hr) hn
theorem tab_ne {o : Obj} {d : Data} (h : o.data = d) (n : ∀ ps, d ≠ .fields ps) : ∀ t, o ≠ tabObj t := fun t e => by rw [e] at h; exact n t h.symm
theorem Ns.up {h h' : Heap} {a : Addr} {m : Str → Option Value} (U : Up h h') (T : TabObjs h) (n : h.Ns a m) : h'.Ns a m := by
  obtain ⟨o, es, ep, e, d, r⟩ := n
  exact ⟨o, es, ep, U.get T e (tab_ne d fun _ x => nomatch x), d, r⟩
theorem IsCell.up {h h' : Heap} {a : Addr} {v : Option Value} (U : Up h h') (T : TabObjs h) (n : h.IsCell a v) : h'.IsCell a v := by
  obtain ⟨o, e, d⟩ := n
  exact ⟨o, U.get T e (tab_ne d fun _ x => nomatch x), d⟩
theorem Has.up {env : Env} {h h' : Heap} {x : Str} {v : Value} (U : Up h h') (T : TabObjs h) (k : Has env h x v) : Has env h' x v := by
  cases k with
  | loc k m n e => exact .loc k m (Ns.up U T n) e
  | cell k c l e => exact .cell k c l (IsCell.up U T e)
  | free k c l e => exact .free k c l (IsCell.up U T e)
theorem Knows.up {env : Env} {ρ : List (Str × SV)} {h h' : Heap} (U : Up h h') (T : TabObjs h) (k : Knows env ρ h) : Knows env ρ h' := fun x sv e => by
  obtain ⟨v, a, b⟩ := k x sv e
  exact ⟨v, a.up U T, b.up U T⟩
theorem Okay.up {G : Ctx} {ρ : List (Str × SV)} {h h' : Heap} (O : Okay G ρ h) (U : Up h h') (T : TabsAt G h') : Okay G ρ h' := by
  obtain ⟨m, F⟩ := O.fr
  have TO := O.tab.objs
  have off : ∀ b o, G.h₀.get? b = some o → b ∉ [30, 37] := fun b o e hm => by
    obtain ⟨t1, t2, N, _⟩ := O.tab
    rcases List.mem_cons.mp hm with rfl | hm
    · rw [(N (30, tabObj t1) (.head _)).2.2] at e; cases e
    · rw [List.mem_singleton.mp hm, (N (37, tabObj t2) (.tail _ (.head _))).2.2] at e; cases e
  exact ⟨⟨m, Ns.up U TO F.ns, fun b o e => U b o (F.keep b o e) (off b o e), F.above⟩, T, O.kn.up U TO, fun x c hc => let ⟨⟨v, i⟩, j⟩ := O.cs x c hc; ⟨⟨v, IsCell.up U TO i⟩, j⟩, let ⟨m, n⟩ := O.ns; ⟨m, Ns.up U TO n⟩⟩
theorem Okay.mono {G : Ctx} {ρ ρ' : List (Str × SV)} {h : Heap} (O : Okay G ρ h) (k : ∀ x sv, ρ'.lookup x = some sv → ρ.lookup x = some sv) : Okay G ρ' h := ⟨O.fr, O.tab, fun x sv e => O.kn x sv (k x sv e), O.cs, O.ns⟩
/-- an operation on two values -/
def Bin (op : Operator) (a b c : SV) : Prop := ∀ (G : Ctx) (ρ : List (Str × SV)) (Q Eh : Value → Shared → Prop) (s : Shared) (va vb : Value), Fm G → Okay G ρ s.heap → Rep s.heap va a → Rep s.heap vb b →
  (∀ v h' tk, Up s.heap h' → TabsAt G h' → Rep h' v c → Q v { s with heap := h', toks := tk }) → wpAny (model Pr G.w) G.A (binaryOp op va vb) Q Eh s
theorem Ev.bin {G : Ctx} {ρ : List (Str × SV)} {l r : Expr} {op : Operator} {pos : Pos} {a b c : SV} (x : Ev G ρ l a) (y : Ev G ρ r b) (z : Bin op a b c) : Ev G ρ (.BinOp l op r pos) c := by
  intro F Q Eh s O h
  refine wpAny_BinOp (x F _ _ s O fun va h1 tk1 U1 T1 R1 => ?_)
  have O1 : Okay G ρ h1 := O.up U1 T1
  refine y F _ _ _ O1 fun vb h2 tk2 U2 T2 R2 => ?_
  refine z G ρ _ _ _ va vb F (O1.up U2 T2) (R1.up U2 T1.objs) R2 fun v h3 tk3 U3 T3 R3 => ?_
  exact h v h3 tk3 ((U1.trans U2).trans U3) T3 R3

theorem Rep.int_inv {h : Heap} {v : Value} {i : Int} (r : Rep h v (.int i)) : ∃ t, v = .int i t := by cases r; exact ⟨_, rfl⟩
theorem Rep.str_inv {h : Heap} {v : Value} {x : Str} (r : Rep h v (.str x)) : ∃ t, v = .str x t := by cases r; exact ⟨_, rfl⟩
theorem Rep.bool_inv {h : Heap} {v : Value} {b : Bool} (r : Rep h v (.bool b)) : v = .bool b := by cases r; rfl
theorem Rep.none_inv {h : Heap} {v : Value} (r : Rep h v .none) : v = .none := by cases r; rfl
theorem Rep.list_inv {h : Heap} {v : Value} {l : List SV} (r : Rep h v (.list l)) : ∃ a vs n, v = .ref a ∧ h.get? a = some ({ cls := .type "list", data := .seq vs.toArray n } : Obj) ∧ Reps h vs l := by cases r; exact ⟨_, _, _, rfl, by assumption, by assumption⟩
theorem Rep.tup_inv {h : Heap} {v : Value} {l : List SV} (r : Rep h v (.tup l)) : ∃ a vs, v = .ref a ∧ h.IsTuple a vs.toArray ∧ Reps h vs l := by cases r; exact ⟨_, _, rfl, by assumption, by assumption⟩
theorem Bin.add_int {a b : Int} : Bin .Add (.int a) (.int b) (.int (a + b)) := by
  intro G ρ Q Eh s va vb F O ra rb h
  obtain ⟨t, rfl⟩ := ra.int_inv; obtain ⟨u, rfl⟩ := rb.int_inv
  exact P.add_int (h _ _ _ (Up.refl _) O.tab (.int _ _))
theorem Bin.sub_int {a b : Int} : Bin .Sub (.int a) (.int b) (.int (a - b)) := by
  intro G ρ Q Eh s va vb F O ra rb h
  obtain ⟨t, rfl⟩ := ra.int_inv; obtain ⟨u, rfl⟩ := rb.int_inv
  exact P.sub_int (h _ _ _ (Up.refl _) O.tab (.int _ _))
theorem Bin.mul_int {a b : Int} (m : IntMulOk a b) : Bin .Mult (.int a) (.int b) (.int (a * b)) := by
  intro G ρ Q Eh s va vb F O ra rb h
  obtain ⟨t, rfl⟩ := ra.int_inv; obtain ⟨u, rfl⟩ := rb.int_inv
  exact P.mul_int (h _ _ _ (Up.refl _) O.tab (.int _ _)) m
theorem Bin.mod_int {a b : Int} (m : b ≠ 0) : Bin .Mod (.int a) (.int b) (.int (a.fmod b)) := by
  intro G ρ Q Eh s va vb F O ra rb h
  obtain ⟨t, rfl⟩ := ra.int_inv; obtain ⟨u, rfl⟩ := rb.int_inv
  exact mod_int' m (h _ _ _ (Up.refl _) O.tab (.int _ _))
theorem Bin.fdiv_int {a b : Int} (m : b ≠ 0) (hp : Builtin.divisionGoesByPylong a b = false) : Bin .FloorDiv (.int a) (.int b) (.int (a.fdiv b)) := by
  intro G ρ Q Eh s va vb F O ra rb h
  obtain ⟨t, rfl⟩ := ra.int_inv; obtain ⟨u, rfl⟩ := rb.int_inv
  exact floordiv_int m (h _ _ _ (Up.refl _) O.tab (.int _ _)) (.inl hp)
theorem Bin.lshift_int {a n : Int} (hn : 0 ≤ n) (hsz : (Builtin.Int.intBits a : Int) + n ≤ 2 ^ 27) : Bin .LShift (.int a) (.int n) (.int (a * 2 ^ n.toNat)) := by
  intro G ρ Q Eh s va vb F O ra rb h
  obtain ⟨t, rfl⟩ := ra.int_inv; obtain ⟨u, rfl⟩ := rb.int_inv
  exact PyProof.Rows.lshift_int hn hsz (h _ _ _ (Up.refl _) O.tab (.int _ _))
theorem Bin.rshift_int {a n : Int} (hn : 0 ≤ n) : Bin .RShift (.int a) (.int n) (.int (a.fdiv (2 ^ n.toNat))) := by
  intro G ρ Q Eh s va vb F O ra rb h
  obtain ⟨t, rfl⟩ := ra.int_inv; obtain ⟨u, rfl⟩ := rb.int_inv
  exact PyProof.Rows.rshift_int hn (h _ _ _ (Up.refl _) O.tab (.int _ _))
theorem Bin.and_int {a b : Int} : Bin .BitAnd (.int a) (.int b) (.int (Builtin.bitAnd a b)) := by
  intro G ρ Q Eh s va vb F O ra rb h
  obtain ⟨t, rfl⟩ := ra.int_inv; obtain ⟨u, rfl⟩ := rb.int_inv
  exact PyProof.Rows.and_int (h _ _ _ (Up.refl _) O.tab (.int _ _))
theorem Bin.or_int {a b : Int} : Bin .BitOr (.int a) (.int b) (.int (Builtin.bitOr a b)) := by
  intro G ρ Q Eh s va vb F O ra rb h
  obtain ⟨t, rfl⟩ := ra.int_inv; obtain ⟨u, rfl⟩ := rb.int_inv
  exact PyProof.Rows.or_int (h _ _ _ (Up.refl _) O.tab (.int _ _))
theorem Bin.pow_int {a n : Int} (hn : 0 ≤ n) (hsz : (Builtin.Int.intBits a : Int) * n ≤ 2 ^ 27) : Bin .Pow (.int a) (.int n) (.int (a ^ n.toNat)) := by
  intro G ρ Q Eh s va vb F O ra rb h
  obtain ⟨t, rfl⟩ := ra.int_inv; obtain ⟨u, rfl⟩ := rb.int_inv
  exact PyProof.Rows.pow_int hn hsz (h _ _ _ (Up.refl _) O.tab (.int _ _))
theorem Str.nil_of_length {a : Str} (e : (a.length == 0) = true) : a = ⟨#[]⟩ := by
  obtain ⟨c⟩ := a
  have : c.size = 0 := by simpa [Str.length] using e
  rw [Array.eq_empty_of_size_eq_zero this]
theorem Str.nil_append' (b : Str) : (⟨#[]⟩ : Str) ++ b = b := by
  obtain ⟨c⟩ := b
  show Str.mk (#[] ++ c) = _
  simp
theorem Str.append_nil' (b : Str) : b ++ (⟨#[]⟩ : Str) = b := by
  obtain ⟨c⟩ := b
  show Str.mk (c ++ #[]) = _
  simp
theorem Bin.add_str {a b : Str} (hl : (a ++ b).length ≤ sizeLine) : Bin .Add (.str a) (.str b) (.str (a ++ b)) := by
  intro G ρ Q Eh s va vb F O ra rb h
  obtain ⟨t, rfl⟩ := ra.str_inv; obtain ⟨u, rfl⟩ := rb.str_inv
  refine P.add_str ?_
  by_cases ea : (a.length == 0) = true
  · rw [if_pos ea]
    have := Str.nil_of_length ea; subst this
    exact h _ _ s.toks (Up.refl _) O.tab (by rw [Str.nil_append']; exact .str _ _)
  · rw [if_neg ea]
    by_cases eb : (b.length == 0) = true
    · rw [if_pos eb]
      have := Str.nil_of_length eb; subst this
      exact h _ _ s.toks (Up.refl _) O.tab (by rw [Str.append_nil']; exact .str _ _)
    · rw [if_neg eb]
      exact ⟨hl, h _ _ _ (Up.refl _) O.tab (.str _ _)⟩

theorem TabsAt.ext {G : Ctx} {h h' : Heap} (T : TabsAt G h) (x : Ext h h') : TabsAt G h' := by
  obtain ⟨t1, t2, N, a, b⟩ := T
  exact ⟨t1, t2, N.grown x, a.keep fun _ _ e => e.keeps x, b.keep fun _ _ e => e.keeps x⟩
theorem ext_of_but {h h' : Heap} (x : Heap.ExtBut h.objs.size h h') : Ext h h' := fun b o e => x b o (Nat.ne_of_lt (Heap.lt_size e)) e
theorem Ext.up {h h' : Heap} (x : Ext h h') : Up h h' := fun b o e _ => x b o e
theorem push_ext (h : Heap) (o : Obj) : Ext h (h.push o) := fun b x e => Heap.get?_push_of_some _ e
theorem Reps.length {h : Heap} : ∀ {vs : List Value} {l : List SV}, Reps h vs l → vs.length = l.length
  | _, _, .nil => rfl
  | _, _, .cons _ b => congrArg Nat.succ b.length
theorem Reps.append {h : Heap} : ∀ {vs us : List Value} {l k : List SV}, Reps h vs l → Reps h us k → Reps h (vs ++ us) (l ++ k)
  | _, _, _, _, .nil, y => y
  | _, _, _, _, .cons a b, y => .cons a (b.append y)
theorem Rep.new_list {h : Heap} (T : TabObjs h) {vs : List Value} {l : List SV} {n : Nat} (r : Reps h vs l) : Rep (h.push { cls := .type "list", data := .seq vs.toArray n }) (.ref h.objs.size) (.list l) :=
  .list (Heap.get?_push_size _ rfl) (r.up (push_ext _ _).up T)
theorem Rep.new_tup {h : Heap} (T : TabObjs h) {vs : List Value} {l : List SV} {n : Nat} (r : Reps h vs l) : Rep (h.push { cls := .type "tuple", data := .seq vs.toArray n }) (.ref h.objs.size) (.tup l) :=
  .tup ⟨_, Heap.get?_push_size _ rfl, rfl, _, rfl⟩ (r.up (push_ext _ _).up T)
/-- the values of several expressions -/
def EvAll (G : Ctx) (ρ : List (Str × SV)) (es : List Expr) (l : List SV) : Prop :=
  Fm G → ∀ (pos : Pos) (Q : List Value → Shared → Prop) (Eh : Value → Shared → Prop) (s : Shared), Okay G ρ s.heap →
    (∀ vs h' tk, Up s.heap h' → TabsAt G h' → Reps h' vs l → Q vs { s with heap := h', toks := tk }) →
    wpAny (model Pr G.w) G.A (spliced (backTo pos (starEach es G.env))) Q Eh s
theorem EvAll.nil {G : Ctx} {ρ : List (Str × SV)} : EvAll G ρ [] [] :=
  fun _ pos Q Eh s O h => spliced_none (h _ _ _ (Up.refl _) O.tab .nil)
theorem EvAll.cons {G : Ctx} {ρ : List (Str × SV)} {e : Expr} {es : List Expr} {x : SV} {l : List SV} (a : Ev G ρ e x) (b : EvAll G ρ es l)
    (he : ∀ env, starEach (e :: es) env = (false, eval e env) :: starEach es env := by intro _; rfl) : EvAll G ρ (e :: es) (x :: l) := by
  intro F pos Q Eh s O h
  refine spliced_more (a F _ _ s O fun v h1 tk1 U1 T1 R1 => ?_) (he _)
  refine b F pos _ _ _ (O.up U1 T1) fun vs h2 tk2 U2 T2 R2 => ?_
  exact h _ _ _ (U1.trans U2) T2 (.cons (R1.up U2 T1.objs) R2)
theorem Ev.tup {G : Ctx} {ρ : List (Str × SV)} {es : List Expr} {l : List SV} {k : Nat} {pos : Pos} (a : EvAll G ρ es l) (hl : l.length ≤ sizeLine := by decide) : Ev G ρ (.Tuple es k pos) (.tup l) := by
  intro F Q Eh s O h
  refine wpAny_Tuple (a F _ _ _ s O fun vs h1 tk1 U1 T1 R1 => ⟨by rw [R1.length]; exact hl, ?_⟩)
  exact h _ _ _ (U1.trans (push_ext _ _).up) (T1.ext (push_ext _ _)) (Rep.new_tup T1.objs R1)
theorem Ev.list {G : Ctx} {ρ : List (Str × SV)} {es : List Expr} {l : List SV} {pos : Pos} (a : EvAll G ρ es l) (hl : l.length ≤ sizeLine := by decide) : Ev G ρ (.List es pos) (.list l) := by
  intro F Q Eh s O h
  refine wpAny_List (a F _ _ _ s O fun vs h1 tk1 U1 T1 R1 => ⟨by rw [R1.length]; exact hl, ?_⟩)
  exact h _ _ _ (U1.trans (push_ext _ _).up) (T1.ext (push_ext _ _)) (Rep.new_list T1.objs R1)
theorem Bin.add_list {a b : List SV} (hl : a.length + b.length ≤ sizeLine) : Bin .Add (.list a) (.list b) (.list (a ++ b)) := by
  intro G ρ Q Eh s va vb F O ra rb h
  obtain ⟨l, vs, n, rfl, x, R1⟩ := ra.list_inv; obtain ⟨k, us, n2, rfl, y, R2⟩ := rb.list_inv
  refine P.add_list (items := vs.toArray) (items2 := us.toArray) x y ?_ (by rw [List.size_toArray, List.size_toArray, R1.length, R2.length]; exact hl)
  rw [List.append_toArray]
  exact h _ _ s.toks (push_ext _ _).up (O.tab.ext (push_ext _ _)) (Rep.new_list O.tab.objs (R1.append R2))

theorem Ev.bool {G : Ctx} {ρ : List (Str × SV)} {b : Bool} {k : Nat} {pos : Pos} : Ev G ρ (.Constant (.bool b) k pos) (.bool b) :=
  fun _ Q Eh s O h => wpAny_Constant_bool (h _ _ s.toks (Up.refl _) O.tab (.bool _))
theorem Ev.none {G : Ctx} {ρ : List (Str × SV)} {k : Nat} {pos : Pos} : Ev G ρ (.Constant .none k pos) .none :=
  fun _ Q Eh s O h => wpAny_Constant_none (h _ _ s.toks (Up.refl _) O.tab .none)
/-- a comparison of two values -/
def Cmp (op : CmpOp) (a b : SV) (c : Bool) : Prop := ∀ (G : Ctx) (ρ : List (Str × SV)) (Q Eh : Value → Shared → Prop) (s : Shared) (va vb : Value), Fm G → Okay G ρ s.heap → Rep s.heap va a → Rep s.heap vb b →
  (∀ tk, Q (.bool c) { s with toks := tk }) → wpAny (model Pr G.w) G.A (compareOp op va vb) Q Eh s
/-- the truth of an expression -/
def Tst (G : Ctx) (ρ : List (Str × SV)) (e : Expr) (b : Bool) : Prop :=
  Fm G → ∀ (Q : Bool → Shared → Prop) (Eh : Value → Shared → Prop) (s : Shared), Okay G ρ s.heap →
    (∀ h' tk, Up s.heap h' → TabsAt G h' → Q b { s with heap := h', toks := tk }) →
    wpAny (model Pr G.w) G.A (isTrue e G.env (eval e G.env)) Q Eh s
theorem Ev.cmp {G : Ctx} {ρ : List (Str × SV)} {l r : Expr} {op : CmpOp} {pos : Pos} {a b : SV} {c : Bool} (x : Ev G ρ l a) (y : Ev G ρ r b) (z : Cmp op a b c)
    (hm : behindInMarks op r = false := by with_unfolding_all rfl) : Ev G ρ (.Compare l [op] [r] pos) (.bool c) := by
  intro F Q Eh s O h
  refine wpAny_Compare1 (x F _ _ s O fun va h1 tk1 U1 T1 R1 => ?_) hm
  refine y F _ _ _ (O.up U1 T1) fun vb h2 tk2 U2 T2 R2 => ?_
  exact z G ρ _ _ _ va vb F ((O.up U1 T1).up U2 T2) (R1.up U2 T1.objs) R2 fun tk => h _ h2 tk (U1.trans U2) T2 (.bool _)
theorem Tst.cmp {G : Ctx} {ρ : List (Str × SV)} {l r : Expr} {op : CmpOp} {pos : Pos} {a b : SV} {c : Bool} (x : Ev G ρ l a) (y : Ev G ρ r b) (z : Cmp op a b c)
    (hm : behindInMarks op r = false := by with_unfolding_all rfl) : Tst G ρ (.Compare l [op] [r] pos) c := by
  intro F Q Eh s O h
  refine wpAny_isTrue_Compare1 (x F _ _ s O fun va h1 tk1 U1 T1 R1 => ?_) hm
  refine y F _ _ _ (O.up U1 T1) fun vb h2 tk2 U2 T2 R2 => ?_
  refine z G ρ _ _ _ va vb F ((O.up U1 T1).up U2 T2) (R1.up U2 T1.objs) R2 fun tk => ?_
  exact fun _ _ _ => h h2 tk (U1.trans U2) T2
theorem Ev.ite {G : Ctx} {ρ : List (Str × SV)} {t x y : Expr} {pos : Pos} {b : Bool} {v : SV} (c : Tst G ρ t b) (a : Ev G ρ (if b then x else y) v) : Ev G ρ (.IfExp t x y pos) v := by
  intro F Q Eh s O h
  refine wpAny_IfExp (c F _ _ s O fun h1 tk1 U1 T1 => ?_)
  have := a F Q Eh { s with heap := h1, toks := tk1 } (O.up U1 T1) fun v h2 tk2 U2 T2 R2 => h v h2 tk2 (U1.trans U2) T2 R2
  cases b <;> exact this
theorem Tst.not {G : Ctx} {ρ : List (Str × SV)} {t : Expr} {pos : Pos} {b : Bool} (c : Tst G ρ t b) : Tst G ρ (.UnaryOp .Not t pos) (!b) := by
  intro F Q Eh s O h
  exact wpAny_isTrue_Not (c F _ _ s O fun h1 tk1 U1 T1 => h h1 tk1 U1 T1)

theorem Ns.unique {h : Heap} {a : Addr} {m m' : Str → Option Value} (x : h.Ns a m) (y : h.Ns a m') : m = m' := by
  obtain ⟨o, es, ep, e, d, _, f⟩ := x
  obtain ⟨o', es', ep', e', d', _, f'⟩ := y
  rw [e] at e'; cases e'; rw [d] at d'; cases d'
  funext n; rw [← f, ← f']
theorem IsCell.unique {h : Heap} {a : Addr} {m m' : Option Value} (x : h.IsCell a m) (y : h.IsCell a m') : m = m' := by
  obtain ⟨o, e, d⟩ := x
  obtain ⟨o', e', d'⟩ := y
  rw [e] at e'; cases e'; rw [d] at d'; cases d'; rfl
/-- what never changes: sequences, and the objects of classes that hold fields (iterators) -/
def stays (o : Obj) : Prop := match o.data with | .seq _ _ => True | .fields _ => o.cls ≠ .none | _ => False
/-- the second heap holds all of the first that stays, but for one address -/
def Kp (m : Option Addr) (h h' : Heap) : Prop := ∀ b o, h.get? b = some o → stays o → m ≠ some b → h'.get? b = some o
theorem Kp.refl (m : Option Addr) (h : Heap) : Kp m h h := fun _ _ e _ _ => e
theorem Kp.trans {m : Option Addr} {a b c : Heap} (x : Kp m a b) (y : Kp m b c) : Kp m a c := fun p o e n k => y p o (x p o e n k) n k
theorem Kp.any {m : Option Addr} {a b : Heap} (x : Kp none a b) : Kp m a b := fun p o e n _ => x p o e n (fun z => nomatch z)
theorem Up.kp {h h' : Heap} {m : Option Addr} (U : Up h h') (T : TabObjs h) : Kp m h h' := fun b o e k _ => U.get T e fun t e2 => by subst e2; exact k rfl
mutual
theorem Rep.seqs {h h' : Heap} (U : ∀ b o xs n, h.get? b = some o → o.data = .seq xs n → h'.get? b = some o) {v : Value} {x : SV} (r : Rep h v x) : Rep h' v x := by
  cases r with
  | none => exact .none
  | bool b => exact .bool b
  | int i t => exact .int i t
  | str x t => exact .str x t
  | list a b => exact .list (U _ _ _ _ a rfl) (b.seqs U)
  | tup a b =>
    obtain ⟨o, e, c, n, d⟩ := a
    exact .tup ⟨o, U _ _ _ _ e d, c, n, d⟩ (b.seqs U)
  | tok i t p x => exact .tok i t p x
theorem Reps.seqs {h h' : Heap} (U : ∀ b o xs n, h.get? b = some o → o.data = .seq xs n → h'.get? b = some o) {vs : List Value} {l : List SV} (r : Reps h vs l) : Reps h' vs l := by
  cases r with
  | nil => exact .nil
  | cons a b => exact .cons (a.seqs U) (b.seqs U)
end
theorem Kp.seqs {h h' : Heap} (U : Kp none h h') : ∀ b o xs n, h.get? b = some o → o.data = .seq xs n → h'.get? b = some o := fun b o xs n e d => U b o e (by unfold stays; rw [d]; trivial) (fun z => nomatch z)
theorem Rep.kp {h h' : Heap} (U : Kp Option.none h h') {v : Value} {x : SV} (r : Rep h v x) : Rep h' v x := r.seqs U.seqs
theorem Reps.kp {h h' : Heap} (U : Kp none h h') {vs : List Value} {l : List SV} (r : Reps h vs l) : Reps h' vs l := r.seqs U.seqs
/-- values that hold nothing of the heap -/
def Pure : SV → Prop | .list _ => False | .tup _ => False | _ => True
theorem Rep.pure {h h' : Heap} {v : Value} {x : SV} (p : Pure x) (r : Rep h v x) : Rep h' v x := by
  cases r with
  | none => exact .none
  | bool b => exact .bool b
  | int i t => exact .int i t
  | str x t => exact .str x t
  | list => exact p.elim
  | tup => exact p.elim
  | tok i t q x => exact .tok i t q x
theorem Reps.pure {h h' : Heap} : ∀ {vs : List Value} {l : List SV}, (∀ x ∈ l, Pure x) → Reps h vs l → Reps h' vs l
  | _, _, _, .nil => .nil
  | _, _, p, .cons a b => .cons (a.pure (p _ (.head _))) (b.pure fun x hx => p x (.tail _ hx))
/-- a heap in which the one object at c is another -/
structure One (c : Addr) (h h' : Heap) : Prop where
  sb : Heap.SameBut c h h'
  od : ∀ o, h.get? c = some o → (∀ xs n, o.data ≠ .seq xs n) ∧ (∀ ps, o.data ≠ .fields ps)
theorem One.get {c : Addr} {h h' : Heap} (x : One c h h') {b : Addr} {o : Obj} (e : h.get? b = some o) (k : (∃ xs n, o.data = .seq xs n) ∨ ∃ ps, o.data = .fields ps) : h'.get? b = some o := by
  refine (x.sb.2 b ?_).trans e
  rintro rfl
  obtain ⟨h1, h2⟩ := x.od o e
  rcases k with ⟨xs, n, k⟩ | ⟨ps, k⟩
  · exact h1 _ _ k
  · exact h2 _ k
theorem One.kp {c : Addr} {h h' : Heap} (x : One c h h') {m : Option Addr} : Kp m h h' := fun b o e k _ => x.get e (by
  unfold stays at k
  split at k
  · rename_i e; exact .inl ⟨_, _, e⟩
  · rename_i e; exact .inr ⟨_, e⟩
  · exact k.elim)
theorem One.tabs {G : Ctx} {c : Addr} {h h' : Heap} (x : One c h h') (T : TabsAt G h) : TabsAt G h' := by
  obtain ⟨t1, t2, N, a, b⟩ := T
  have cr : ∀ {c : Value} {q : Str}, h.CodeRec c q → h'.CodeRec c q := by
    rintro c q ⟨a, o, vs, t, e, g, d, r⟩
    exact ⟨a, o, vs, t, e, x.get g (.inr ⟨_, d⟩), d, r⟩
  refine ⟨t1, t2, fun p hp => ⟨?_, (N p hp).2⟩, a.keep fun _ _ e => cr e, b.keep fun _ _ e => cr e⟩
  rcases List.mem_cons.mp hp with rfl | hp'
  · exact x.get (N _ hp).1 (.inr ⟨_, rfl⟩)
  · rw [List.mem_singleton.mp hp'] at hp ⊢; exact x.get (N _ hp).1 (.inr ⟨_, rfl⟩)
/-- the cells have addresses of their own -/
def Inj (cl : List (Str × Addr)) : Prop := ∀ x y c, (x, c) ∈ cl → (y, c) ∈ cl → y = x
/-- the name x is set to v -/
structure Sto (G : Ctx) (x : Str) (v : Value) (h h' : Heap) : Prop where
  c : ∃ c, One c h h' ∧ (c = G.env.locals ∨ (x, c) ∈ G.env.cells)
  has : ∀ y u, y ≠ x → Has G.env h y u → Has G.env h' y u
  new : Has G.env h' x v
  ns : (∃ m, h.Ns G.env.locals m) → ∃ m, h'.Ns G.env.locals m
  fr : (∃ m, h.Ns G.env₀.locals m) → ∃ m, h'.Ns G.env₀.locals m
  cs : CellsStand G h → CellsStand G h'
theorem Ns.one {h h' : Heap} {a : Addr} {m : Str → Option Value} (n : h.Ns a m) (hs : Heap.SameBut a h h') : One a h h' := ⟨hs, fun o e => by
  obtain ⟨o', es, ep, e', d, _⟩ := n
  rw [e] at e'; cases e'
  rw [d]
  exact ⟨fun _ _ z => (nomatch z), fun _ z => (nomatch z)⟩⟩
theorem IsCell.one {h h' : Heap} {a : Addr} {m : Option Value} (n : h.IsCell a m) (hs : Heap.SameBut a h h') : One a h h' := ⟨hs, fun o e => by
  obtain ⟨o', e', d⟩ := n
  rw [e] at e'; cases e'
  rw [d]
  exact ⟨fun _ _ z => (nomatch z), fun _ z => (nomatch z)⟩⟩
theorem ns_ne_cell {h : Heap} {a : Addr} {m : Str → Option Value} {w : Option Value} (n : h.Ns a m) (i : h.IsCell a w) : False := by
  obtain ⟨o, g, d⟩ := i
  obtain ⟨o', es, ep, e', d', _⟩ := n
  rw [g] at e'; cases e'; rw [d] at d'; cases d'
theorem Ns.but {h h' : Heap} {a c : Addr} {m : Str → Option Value} (n : h.Ns a m) (hs : Heap.SameBut c h h') (ne : a ≠ c) : h'.Ns a m := n.sameBut hs ne
theorem Sto.loc {G : Ctx} {x : Str} {v : Value} {h h' : Heap} {m : Str → Option Value} (hk : G.env.kindOf x = some .local) (hm : h.Ns G.env.locals m)
    (hn : h'.Ns G.env.locals (fun y => if y = x then some v else m y)) (hs : Heap.SameBut G.env.locals h h') : Sto G x v h h' := by
  have cell : ∀ {c : Addr} {w : Option Value}, h.IsCell c w → h'.IsCell c w := fun {c w} i => i.sameBut hs fun z => ns_ne_cell hm (z ▸ i)
  refine ⟨⟨_, Ns.one hm hs, .inl rfl⟩, fun y u ne hu => ?_, .loc hk _ hn (if_pos rfl), fun _ => ⟨_, hn⟩, fun ⟨m0, n0⟩ => ?_, fun C y c hc => let ⟨⟨v, i⟩, j⟩ := C y c hc; ⟨⟨v, cell i⟩, j⟩⟩
  · cases hu with
    | loc k m1 n1 e1 =>
      have := Ns.unique n1 hm; subst this
      exact .loc k _ hn (by rw [if_neg ne]; exact e1)
    | cell k c l ec => exact .cell k c l (cell ec)
    | free k c l ec => exact .free k c l (cell ec)
  · by_cases z : G.env₀.locals = G.env.locals
    · exact ⟨_, z ▸ hn⟩
    · exact ⟨m0, Ns.but n0 hs z⟩
theorem Sto.cell {G : Ctx} {x : Str} {v : Value} {h h' : Heap} {c : Addr} {v₀ : Option Value} (hk : G.env.kindOf x = some .cell) (hc : G.env.cells.lookup x = some c)
    (inj : Inj G.env.cells) (i : h.IsCell c v₀) (j : h'.IsCell c (some v)) (hs : Heap.SameBut c h h') : Sto G x v h h' := by
  have mem : ∀ {y : Str} {c' : Addr}, G.env.cells.lookup y = some c' → (y, c') ∈ G.env.cells := fun {y c'} l => by
    obtain ⟨l1, l2, hl, _⟩ := List.lookup_eq_some_iff.mp l
    rw [hl]; simp
  have ns : ∀ {a : Addr} {m : Str → Option Value}, h.Ns a m → h'.Ns a m := fun {a m} n => Ns.but n hs fun z => ns_ne_cell n (z ▸ i)
  refine ⟨⟨c, IsCell.one i hs, .inr (mem hc)⟩, fun y u ne hu => ?_, .cell hk c hc j, fun ⟨m, n⟩ => ⟨m, ns n⟩, fun ⟨m0, n0⟩ => ⟨m0, ns n0⟩, fun C y c' hm => ?_⟩
  · cases hu with
    | loc k m1 n1 e1 => exact .loc k _ (ns n1) e1
    | cell k c' l ec => exact .cell k c' l (ec.sameBut hs fun z => ne (inj x y c (mem hc) (z ▸ mem l)))
    | free k c' l ec => exact .free k c' l (ec.sameBut hs fun z => ne (inj x y c (mem hc) (z ▸ mem l)))
  · obtain ⟨⟨w, iw⟩, g⟩ := C y c' hm
    by_cases z : c' = c
    · subst z; exact ⟨⟨_, j⟩, g⟩
    · exact ⟨⟨w, iw.sameBut hs z⟩, g⟩
theorem Sto.kp {G : Ctx} {x : Str} {v : Value} {h h' : Heap} (S : Sto G x v h h') {m : Option Addr} : Kp m h h' := let ⟨_, o, _⟩ := S.c; o.kp
theorem Okay.sto {G : Ctx} {ρ : List (Str × SV)} {h h' : Heap} {x : Str} {v : Value} {sv : SV} (O : Okay G ρ h) (S : Sto G x v h h') (nw : G.h₀.get? G.env.locals = none) (r : Rep h v sv) : Okay G ((x, sv) :: ρ) h' := by
  obtain ⟨m0, F⟩ := O.fr
  obtain ⟨c, one, hc⟩ := S.c
  obtain ⟨m1, n1⟩ := S.fr ⟨m0, F.ns⟩
  refine ⟨⟨m1, n1, fun b o e => ?_, F.above⟩, one.tabs O.tab, fun y sy e => ?_, S.cs O.cs, S.ns O.ns⟩
  · refine (one.sb.2 b ?_).trans (F.keep b o e)
    rintro rfl
    rcases hc with rfl | hc
    · rw [nw] at e; cases e
    · rw [(O.cs _ _ hc).2] at e; cases e
  · rw [List.lookup_cons] at e
    cases q : y == x with
    | true =>
      rw [q] at e; cases e
      have : y = x := eq_of_beq q
      subst this
      exact ⟨v, S.new, r.kp S.kp⟩
    | false =>
      rw [q] at e
      have ne : y ≠ x := fun z => by rw [z, beq_self_eq_true] at q; cases q
      obtain ⟨u, hu, ru⟩ := O.kn y sy e
      exact ⟨u, S.has y u ne hu, ru.kp S.kp⟩
/-- the frame's own block, or one of its comprehensions: names may be set -/
structure Stores (G : Ctx) : Prop where
  nw : G.h₀.get? G.env.locals = none
  inj : Inj G.env.cells
/-- a name that can be set: a local, or a cell -/
def Settable (G : Ctx) (x : Str) : Prop := G.env.kindOf x = some .local ∨ (G.env.kindOf x = some .cell ∧ (G.env.cells.lookup x).isSome = true)
theorem Fm.kind {G : Ctx} (F : Fm G) : G.env.scope.kind = .function := by
  obtain ⟨⟩ := F; assumption
theorem Fm.handled {G : Ctx} (F : Fm G) : G.A.handled = none := by
  obtain ⟨_, _, _, _, _, _, _, _, _, _, _, _, _, _, _, e, _⟩ := F; rw [e]
theorem store {G : Ctx} {ρ : List (Str × SV)} {x : Str} {v : Value} {s : Shared} {Q : Unit → Shared → Prop} {Eh : Value → Shared → Prop} (F : Fm G) (hS : Stores G) (hx : Settable G x) (O : Okay G ρ s.heap)
    (h : ∀ h' tk, Sto G x v s.heap h' → Q () { s with heap := h', toks := tk }) : wpAny (model Pr G.w) G.A (storeName G.env x v) Q Eh s := by
  rcases hx with hk | ⟨hk, hc⟩
  · obtain ⟨m, hm⟩ := O.ns
    exact wpAny_storeName_local hk hm (fun h2 hn hb => h h2 _ (.loc hk hm hn hb)) (by rw [F.kind]; rfl)
  · obtain ⟨c, hc⟩ := Option.isSome_iff_exists.mp hc
    have hmem : (x, c) ∈ G.env.cells := by
      obtain ⟨l1, l2, hl, _⟩ := List.lookup_eq_some_iff.mp hc
      rw [hl]; simp
    obtain ⟨⟨v₀, i⟩, _⟩ := O.cs x c hmem
    exact wpAny_storeName_cell F.kind hk hc i fun h2 j hb => h h2 s.toks (.cell hk hc hS.inj i j hb)
/-- the kinds of the names of a block, and its room -/
structure At (G : Ctx) (names : List (Str × NameKind)) (d u : Nat) : Prop where
  kind : ∀ x k, names.lookup x = some k → k ≠ .free → G.env.kindOf x = some k
  free : ∀ x, names.lookup x = some .free → G.env.kindOf x = some .free ∨ G.env.kindOf x = some .cell
  cell : ∀ x, names.lookup x = some .free ∨ names.lookup x = some .cell → (G.env.cells.lookup x).isSome = true
  inj : Inj G.env.cells
  d : G.d = d
  u : G.u = u
theorem At.loc {G : Ctx} {names : List (Str × NameKind)} {d u : Nat} (A : At G names d u) {x : Str} (e : names.lookup x = some .local) : Settable G x := .inl (A.kind x _ e (fun z => nomatch z))
theorem At.cel {G : Ctx} {names : List (Str × NameKind)} {d u : Nat} (A : At G names d u) {x : Str} (e : names.lookup x = some .cell) : Settable G x := .inr ⟨A.kind x _ e (fun z => nomatch z), A.cell x (.inr e)⟩
theorem At.glb {G : Ctx} {names : List (Str × NameKind)} {d u : Nat} (A : At G names d u) {x : Str} (e : names.lookup x = some .globalImplicit) : G.env.kindOf x = some .globalImplicit := A.kind x _ e (fun z => nomatch z)

/-- the one list that is being built: its name, its address, its items -/
abbrev Mu := Option (Str × Addr × List SV)
def view (ρ : List (Str × SV)) : Mu → List (Str × SV) | none => ρ | some (x, _, l) => (x, .list l) :: ρ
def Mu.adr : Mu → Option Addr | none => none | some (_, a, _) => some a
def MutOk (G : Ctx) (ρ : List (Str × SV)) (h : Heap) : Mu → Prop
  | none => True
  | some (x, a, l) => G.h₀.get? a = none ∧ Has G.env h x (.ref a) ∧ (∃ vs n, h.get? a = some ({ cls := .type "list", data := .seq vs.toArray n } : Obj) ∧ Reps h vs l) ∧ (∀ y ∈ l, Pure y) ∧
      ∀ y sv, ρ.lookup y = some sv → y ≠ x ∧ ∃ v, Has G.env h y v ∧ Rep (hideAll h [a]) v sv
structure OkS (G : Ctx) (ρ : List (Str × SV)) (μ : Mu) (h : Heap) : Prop where
  ok : Okay G (view ρ μ) h
  mu : MutOk G ρ h μ
theorem Okay.s {G : Ctx} {ρ : List (Str × SV)} {h : Heap} (O : Okay G ρ h) : OkS G ρ none h := ⟨O, trivial⟩
theorem hide_up {h h' : Heap} {a : Addr} (U : Up h h') : Up (hideAll h [a]) (hideAll h' [a]) := fun b o e n =>
  hideAll_get _ (U b o (of_hideAll _ e) n) fun m => by rw [hideAll_none _ m] at e; cases e
theorem hide_kp {h h' : Heap} {a : Addr} (K : Kp (some a) h h') : Kp none (hideAll h [a]) (hideAll h' [a]) := fun b o e n _ => by
  have ne : b ∉ [a] := fun m => by rw [hideAll_none _ m] at e; cases e
  exact hideAll_get _ (K b o (of_hideAll _ e) n fun z => by cases z; exact ne (.head _)) ne
theorem OkS.up {G : Ctx} {ρ : List (Str × SV)} {μ : Mu} {h h' : Heap} (O : OkS G ρ μ h) (U : Up h h') (T : TabsAt G h') : OkS G ρ μ h' := by
  refine ⟨O.ok.up U T, ?_⟩
  cases μ with
  | none => trivial
  | some q =>
    obtain ⟨x, a, l⟩ := q
    obtain ⟨h1, h2, ⟨vs, n, h3, h4⟩, h5, h6⟩ := O.mu
    have TO := O.ok.tab.objs
    refine ⟨h1, h2.up U TO, ⟨vs, n, U.get TO h3 (fun t e => nomatch e), h4.up U TO⟩, h5, fun y sv e => ?_⟩
    obtain ⟨ne, v, hv, r⟩ := h6 y sv e
    exact ⟨ne, v, hv.up U TO, r.kp (hide_kp (U.kp TO))⟩
/-- the kind of value that may be given a name while a list is being built -/
def Fits (μ : Mu) (x : Str) (sv : SV) : Prop := match μ with | none => True | some (y, _, _) => x ≠ y ∧ Pure sv
theorem OkS.sto {G : Ctx} {ρ : List (Str × SV)} {μ : Mu} {h h' : Heap} {x : Str} {v : Value} {sv : SV} (O : OkS G ρ μ h) (S : Sto G x v h h') (nw : G.h₀.get? G.env.locals = none) (r : Rep h v sv) (f : Fits μ x sv) : OkS G ((x, sv) :: ρ) μ h' := by
  have K := O.ok.sto S nw r
  cases μ with
  | none => exact ⟨K, trivial⟩
  | some q =>
    obtain ⟨y, a, l⟩ := q
    obtain ⟨h1, h2, ⟨vs, n, h3, h4⟩, h5, h6⟩ := O.mu
    obtain ⟨ne, p⟩ := f
    refine ⟨K.mono fun z sz e => ?_, h1, S.has y _ (Ne.symm ne) h2, ⟨vs, n, S.kp (m := none) _ _ h3 trivial (fun z => nomatch z), h4.kp S.kp⟩, h5, fun z sz e => ?_⟩
    · change ((y, SV.list l) :: (x, sv) :: ρ).lookup z = _ at e
      change ((x, sv) :: (y, SV.list l) :: ρ).lookup z = _
      rw [List.lookup_cons] at e ⊢
      cases q : z == y with
      | true =>
        rw [q] at e
        have : z = y := eq_of_beq q
        subst this
        have : (z == x) = false := by simpa using fun w => ne w.symm
        rw [this, List.lookup_cons, q]; exact e
      | false =>
        rw [q] at e
        rw [List.lookup_cons] at e ⊢
        rw [q]; exact e
    · rw [List.lookup_cons] at e
      cases q : z == x with
      | true =>
        rw [q] at e; cases e
        have : z = x := eq_of_beq q
        subst this
        exact ⟨ne, v, S.new, r.pure p⟩
      | false =>
        rw [q] at e
        have nz : z ≠ x := fun w => by rw [w, beq_self_eq_true] at q; cases q
        obtain ⟨n2, u, hu, ru⟩ := h6 z sz e
        exact ⟨n2, u, S.has z u nz hu, ru.kp (hide_kp S.kp)⟩
theorem OkS.sub {G : Ctx} {ρ ρ' : List (Str × SV)} {μ : Mu} {h : Heap} (O : OkS G ρ μ h) (k : ∀ x sv, ρ'.lookup x = some sv → ρ.lookup x = some sv) : OkS G ρ' μ h := by
  cases μ with
  | none => exact ⟨O.ok.mono k, trivial⟩
  | some q =>
    obtain ⟨y, a, l⟩ := q
    obtain ⟨h1, h2, h3, h5, h6⟩ := O.mu
    refine ⟨O.ok.mono fun z sz e => ?_, h1, h2, h3, h5, fun z sz e => h6 z sz (k z sz e)⟩
    change ((y, SV.list l) :: ρ').lookup z = _ at e
    change ((y, SV.list l) :: ρ).lookup z = _
    rw [List.lookup_cons] at e ⊢
    cases q : z == y with
    | true => rw [q] at e; exact e
    | false => rw [q] at e; exact k _ _ e
/-- how a run of statements ends -/
inductive Fin' where
  | next (ρ : List (Str × SV)) (μ : Mu)
  | ret (v : SV)
def FinPost (G : Ctx) (m : Option Addr) (s : Shared) (Q : Flow → Shared → Prop) : Fin' → Prop
  | .next ρ μ => ∀ h' tk, Kp m s.heap h' → OkS G ρ μ h' → Q .next { s with heap := h', toks := tk }
  | .ret x => ∀ v h' tk, Kp m s.heap h' → Okay G [] h' → Rep h' v x → Q (.ret v) { s with heap := h', toks := tk }
/-- a run of statements of a frame -/
def Rn (G : Ctx) (ρ : List (Str × SV)) (μ : Mu) (ss : List Stmt) (r : Fin') : Prop :=
  Fm G → Stores G → ∀ (Q : Flow → Shared → Prop) (Eh : Value → Shared → Prop) (s : Shared), OkS G ρ μ s.heap → FinPost G μ.adr s Q r → wpAny (model Pr G.w) G.A (execs ss G.env) Q Eh s
theorem Okay.nil {G : Ctx} {ρ : List (Str × SV)} {h : Heap} (O : Okay G ρ h) : Okay G [] h := O.mono fun _ _ e => nomatch e
theorem FinPost.after {G : Ctx} {m : Option Addr} {s : Shared} {Q : Flow → Shared → Prop} {r : Fin'} {h' : Heap} {tk : Tok} (P : FinPost G m s Q r) (K : Kp m s.heap h') : FinPost G m { s with heap := h', toks := tk } Q r := by
  cases r with
  | next ρ μ => exact fun h2 tk2 K2 O => P h2 tk2 (K.trans K2) O
  | ret x => exact fun v h2 tk2 K2 O R => P v h2 tk2 (K.trans K2) O R
/-- the list that is built is new -/
theorem FinPost.fresh {G : Ctx} {a : Addr} {s : Shared} {Q : Flow → Shared → Prop} {r : Fin'} {h' : Heap} {tk : Tok} (P : FinPost G none s Q r) (K : Kp none s.heap h') (n : s.heap.get? a = none) : FinPost G (some a) { s with heap := h', toks := tk } Q r := by
  have z : ∀ {h2 : Heap}, Kp (some a) h' h2 → Kp none s.heap h2 := fun {h2} K2 b o e k _ => K2 b o (K b o e k (fun z => nomatch z)) k fun w => by cases w; rw [n] at e; cases e
  cases r with
  | next ρ μ => exact fun h2 tk2 K2 O => P h2 tk2 (z K2) O
  | ret x => exact fun v h2 tk2 K2 O R => P v h2 tk2 (z K2) O R
theorem Rn.nil {G : Ctx} {ρ : List (Str × SV)} {μ : Mu} : Rn G ρ μ [] (.next ρ μ) :=
  fun _ _ Q Eh s O P => wpAny_execs_nil (P _ _ (Kp.refl _ _) O)
/-- knowledge let go -/
theorem Rn.sub {G : Ctx} {ρ ρ' : List (Str × SV)} {μ : Mu} {ss : List Stmt} {r : Fin'} (k : ∀ x sv, ρ'.lookup x = some sv → ρ.lookup x = some sv) (b : Rn G ρ' μ ss r) : Rn G ρ μ ss r :=
  fun F S Q Eh s O P => b F S Q Eh s (O.sub k) P
theorem sub_nil {ρ : List (Str × SV)} : ∀ x sv, ([] : List (Str × SV)).lookup x = some sv → ρ.lookup x = some sv := fun _ _ e => nomatch e
theorem sub_cons {ρ ρ' : List (Str × SV)} {y : Str} {z : SV} (a : ρ.lookup y = some z) (b : ∀ x sv, ρ'.lookup x = some sv → ρ.lookup x = some sv) : ∀ x sv, ((y, z) :: ρ').lookup x = some sv → ρ.lookup x = some sv := fun x sv e => by
  rw [List.lookup_cons] at e
  cases q : x == y with
  | true => rw [q] at e; cases e; rw [eq_of_beq q]; exact a
  | false => rw [q] at e; exact b x sv e
/-- the end, with some knowledge let go -/
theorem Rn.done {G : Ctx} {ρ ρ' : List (Str × SV)} {μ : Mu} (k : ∀ x sv, ρ'.lookup x = some sv → ρ.lookup x = some sv) : Rn G ρ μ [] (.next ρ' μ) :=
  fun _ _ Q Eh s O P => wpAny_execs_nil (P _ _ (Kp.refl _ _) (O.sub k))
/-- the list is built -/
theorem Rn.freeze {G : Ctx} {ρ : List (Str × SV)} {x : Str} {a : Addr} {l : List SV} {ss : List Stmt} {r : Fin'} (b : Rn G ((x, .list l) :: ρ) none ss r) : Rn G ρ (some (x, a, l)) ss r := by
  intro F S Q Eh s O P
  refine b F S Q Eh s ⟨O.ok, trivial⟩ ?_
  cases r with
  | next ρ μ => exact fun h2 tk2 K2 O => P h2 tk2 K2.any O
  | ret x => exact fun v h2 tk2 K2 O R => P v h2 tk2 K2.any O R
theorem Rn.ret {G : Ctx} {ρ : List (Str × SV)} {μ : Mu} {e : Expr} {pos : Pos} {ss : List Stmt} {x : SV} (a : Ev G (view ρ μ) e x) : Rn G ρ μ (.Return (some e) pos :: ss) (.ret x) := by
  intro F S Q Eh s O P
  refine wpAny_execs_cons (wpAny_Return_some (a F _ _ s O.ok fun v h1 tk1 U1 T1 R1 => ?_))
  exact P v h1 tk1 (U1.kp O.ok.tab.objs) (O.ok.up U1 T1).nil R1
theorem Rn.assign {G : Ctx} {ρ : List (Str × SV)} {μ : Mu} {e : Expr} {x : Str} {p pos : Pos} {ss : List Stmt} {sv : SV} {r : Fin'} (a : Ev G (view ρ μ) e sv) (hk : Settable G x)
    (b : Rn G ((x, sv) :: ρ) μ ss r) (f : Fits μ x sv := by trivial) (hs : swapsWith e (some (.Name x p)) pos.line G.env = pure false := by rfl) : Rn G ρ μ (.Assign [.Name x p] e pos :: ss) r := by
  intro F S Q Eh s O P
  refine wpAny_execs_cons (wpAny_Assign_Name (a F _ _ s O.ok fun v h1 tk1 U1 T1 R1 => ?_) hs)
  have O1 := O.up U1 T1
  exact store F S hk O1.ok fun h2 tk2 st => b F S Q Eh _ (O1.sto st S.nw R1 f) (P.after ((U1.kp O.ok.tab.objs).trans st.kp))
theorem Rn.ite {G : Ctx} {ρ : List (Str × SV)} {μ : Mu} {t : Expr} {x y ss : List Stmt} {pos : Pos} {b : Bool} {ρ' : List (Str × SV)} {μ' : Mu} {r : Fin'} (c : Tst G (view ρ μ) t b) (a : Rn G ρ μ (if b then x else y) (.next ρ' μ')) (d : Rn G ρ' μ' ss r) (e : μ'.adr = μ.adr := by exact rfl) : Rn G ρ μ (.If t x y pos :: ss) r := by
  intro F S Q Eh s O P
  refine wpAny_execs_cons (wpAny_If (c F _ _ s O.ok fun h1 tk1 U1 T1 => ?_))
  have O1 := O.up U1 T1
  have K1 := U1.kp (m := μ.adr) O.ok.tab.objs
  have z := a F S (fun f s' => match f with | .next => wpAny (model Pr G.w) G.A (execs ss G.env) Q Eh s' | f => Q f s') Eh { s with heap := h1, toks := tk1 } O1
      (fun h2 tk2 K2 O2 => d F S Q Eh _ O2 (by rw [e]; exact P.after (K1.trans K2)))
  cases b <;> exact z
theorem Rn.iteRet {G : Ctx} {ρ : List (Str × SV)} {μ : Mu} {t : Expr} {x y ss : List Stmt} {pos : Pos} {b : Bool} {v : SV} (c : Tst G (view ρ μ) t b) (a : Rn G ρ μ (if b then x else y) (.ret v)) : Rn G ρ μ (.If t x y pos :: ss) (.ret v) := by
  intro F S Q Eh s O P
  refine wpAny_execs_cons (wpAny_If (c F _ _ s O.ok fun h1 tk1 U1 T1 => ?_))
  have O1 := O.up U1 T1
  have K1 := U1.kp (m := μ.adr) O.ok.tab.objs
  have z := a F S (fun f s' => match f with | .next => wpAny (model Pr G.w) G.A (execs ss G.env) Q Eh s' | f => Q f s') Eh { s with heap := h1, toks := tk1 } O1
      (fun u h2 tk2 K2 O2 R2 => P u h2 tk2 (K1.trans K2) O2 R2)
  cases b <;> exact z

/-- what a call of the program's function at f answers -/
def FnSpec (f : Addr) (d u : Nat) (args : List SV) (sv : SV) : Prop :=
  ∀ (G : Ctx) (ρ : List (Str × SV)) (Q Eh : Value → Shared → Prop) (s : Shared) (vs : List Value), Fm G → d ≤ G.d → u ≤ G.u → Okay G ρ s.heap → Reps s.heap vs args →
    (∀ v h' tk, Up s.heap h' → TabsAt G h' → Rep h' v sv → Q v { s with heap := h', toks := tk }) → wpAny (model Pr G.w) G.A (call (.ref f) vs) Q Eh s
theorem zipLook {h : Heap} (x : Str) : ∀ (xs : List Str) {vs : List Value} {l : List SV}, Reps h vs l →
    ((xs.zip vs).reverse.lookup x = none ∧ (xs.zip l).reverse.lookup x = none) ∨ (∃ v sv, (xs.zip vs).reverse.lookup x = some v ∧ (xs.zip l).reverse.lookup x = some sv ∧ Rep h v sv)
  | [], _, _, _ => .inl ⟨rfl, rfl⟩
  | _ :: _, _, _, .nil => .inl ⟨rfl, rfl⟩
  | y :: xs, _, _, .cons (v := v) (x := sv) a b => by
    simp only [List.zip_cons_cons, List.reverse_cons, List.lookup_append]
    rcases zipLook x xs b with ⟨e1, e2⟩ | ⟨v', sv', e1, e2, r⟩
    · rw [e1, e2]
      cases q : x == y with
      | true => exact .inr ⟨v, sv, by simp [List.lookup_cons, q], by simp [List.lookup_cons, q], a⟩
      | false => exact .inl ⟨by simp [List.lookup_cons, q], by simp [List.lookup_cons, q]⟩
    · exact .inr ⟨v', sv', by rw [e1]; rfl, by rw [e2]; rfl, r⟩
theorem bindL_local {kindOf : Str → Option NameKind} {x : Str} (k : kindOf x = some .local) : ∀ (binds : List (Str × Value)) (m : Str → Option Value), bindL kindOf binds m x = (binds.reverse.lookup x).or (m x)
  | [], m => rfl
  | (n, v) :: r, m => by
    rw [bindL, bindL_local k r, List.reverse_cons, List.lookup_append]
    cases q : r.reverse.lookup x with
    | some u => rfl
    | none =>
      simp only [Option.none_or]
      by_cases e : x = n
      · subst e; rw [if_pos k]; simp [List.lookup_cons]
      · have : (x == n) = false := by simpa using e
        simp only [List.lookup_cons, this, List.lookup_nil, Option.none_or]
        split
        · exact if_neg e
        · rfl
theorem bindC_cell {kindOf : Str → Option NameKind} {x : Str} (k : kindOf x ≠ some .local) : ∀ (binds : List (Str × Value)) (m : Str → Option Value), bindC kindOf binds m x = (binds.reverse.lookup x).or (m x)
  | [], m => rfl
  | (n, v) :: r, m => by
    rw [bindC, bindC_cell k r, List.reverse_cons, List.lookup_append]
    cases q : r.reverse.lookup x with
    | some u => rfl
    | none =>
      simp only [Option.none_or]
      by_cases e : x = n
      · subst e; rw [if_neg k]; simp [List.lookup_cons]
      · have : (x == n) = false := by simpa using e
        simp only [List.lookup_cons, this, List.lookup_nil, Option.none_or]
        split
        · rfl
        · exact if_neg e
theorem cellsGet {cm : Str → Option Value} : ∀ {cs : List (Str × Addr)} {cells : List (Addr × Obj)}, CellsAre cm cs cells → ∀ {n : Str} {c : Addr}, (n, c) ∈ cs → ∃ o, (c, o) ∈ cells ∧ o.data = .cell (cm n)
  | _, _, .cons h r, n, c, hm => by
    rcases List.mem_cons.mp hm with e | hm
    · cases e; exact ⟨_, .head _, h⟩
    · obtain ⟨o, ho, d⟩ := cellsGet r hm
      exact ⟨o, .tail _ ho, d⟩
theorem cellsFrom_inj : ∀ (names : List (Str × NameKind)) (n : Nat) (acc : List (Str × Addr)), Inj acc → (∀ p ∈ acc, p.2 < n) → Inj (cellsFrom n names acc)
  | [], _, _, i, _ => i
  | (x, k) :: r, n, acc, i, b => by
    unfold cellsFrom
    split
    · refine cellsFrom_inj r (n + 1) _ (fun x y c h1 h2 => ?_) fun p hp => ?_
      · rcases List.mem_cons.mp h1 with e1 | h1 <;> rcases List.mem_cons.mp h2 with e2 | h2
        · cases e1; cases e2; rfl
        · cases e1; exact absurd (b _ h2) (Nat.lt_irrefl _)
        · cases e2; exact absurd (b _ h1) (Nat.lt_irrefl _)
        · exact i x y c h1 h2
      · rcases List.mem_cons.mp hp with rfl | hp
        · exact Nat.lt_succ_self _
        · exact Nat.lt_succ_of_lt (b p hp)
    · exact cellsFrom_inj r n acc i b
theorem get_none {h : Heap} {a : Addr} (k : h.objs.size ≤ a) : h.get? a = none := by
  cases e : h.get? a with
  | none => rfl
  | some o => exact absurd (Heap.lt_size e) (Nat.not_lt.mpr k)
theorem FnSpec.of_body {name qual : Str} {params : Arguments} {body : List Stmt} {scope : Scope} {dV kV doc pm cdv ct oc : Value} {an od : Option Addr} {osl : Array (Option Value)} {f : Addr} {args : List SV} {d u : Nat} {sv : SV} {xs : List Str}
    (ho : ∀ w : World, (hd.heap_1 w.params).lookup f = some ⟨oc, od, .func (fnOf name qual params body scope dV kV doc pm an cdv ct), osl⟩) (hcd : ∀ w : World, codeIn (hd.heap_1 w.params) cdv qual = true)
    (hbind : ∀ (s : Shared) (vs : List Value), vs.length = xs.length → BindsTo s (fnOf name qual params body scope dV kV doc pm an cdv ct) ⟨vs, []⟩ (xs.zip vs))
    (hkinds : ∀ x ∈ xs, scope.names.lookup x = some .local ∨ scope.names.lookup x = some .cell)
    (hlen : args.length = xs.length) (hnd : ((cellsFrom 0 scope.names []).map (·.1)).Nodup)
    (hco : scope.isCoroutine = false) (hgen : scope.isGenerator = false) (hk : scope.kind = .function)
    (hfree : ∀ y ∈ scope.names, y.2 ≠ .free) (b : ∀ G : Ctx, At G scope.names d u → Rn G (xs.zip args).reverse none body (.ret sv)) : FnSpec f (d + 1) (u + 3) args sv := by
  intro G ρ Q Eh s vs F hd hu O R h
  obtain ⟨dp, un, gd, cn, cs, L, a, ccd, cl, outer, A₀, base, mean, mg, mb, hA, he, B, X, T, kk, h1, h2, hgl, hbl, hks⟩ := F
  obtain ⟨m, Fr0⟩ := O.fr
  have eL : G.env₀.locals = L := by rw [he]
  rw [eL] at Fr0
  obtain ⟨t1, t2, N, a1, a2⟩ := id O.tab
  rw [eL] at N
  refine wpAny_call ?_
  rw [hA]
  refine code_defCG B Fr0 X N T rfl rfl kk (ho G.w) (hcd G.w) (by show dp < _; omega) (hbind s vs (by rw [R.length, hlen])) (List.all_eq_true.mpr fun y hy => ?_) hnd (fun g L' h₁ tk cells FG F' N' Y B' X' T' lt GS => ?_) hco hgen hk
  · rcases hkinds _ (List.of_mem_zip hy).1 with e | e
    · rw [e]; rfl
    · rw [e]; rfl
  have := b ⟨G.w, (ktrTop dp un gd cn cs L a ccd cl outer).deeper (envOfC qual scope L' f cdv), g, envOfC qual scope L' f cdv, envOfC qual scope L' f cdv, d, u⟩ ⟨fun x k e _ => e, fun x e => absurd rfl (hfree _ (mem_of_lookup e)), fun x e => e.elim (fun e => absurd rfl (hfree _ (mem_of_lookup e))) fun e => cellsFrom_some scope.names (L' + 1) [] (.inl e), cellsFrom_inj _ _ [] (fun _ _ _ z => nomatch z) (fun _ z => nomatch z), rfl, rfl⟩
  have NT : News g L' h₁ [(30, tabObj t1), (37, tabObj t2)] := fun p hp => N' p (List.mem_append_right _ hp)
  refine this ⟨dp + 1, un + 3, gd, qual, scope, L', f, cdv, cellsFrom (L' + 1) scope.names [], _, _, _, mean, mg, mb, rfl, rfl, B', X', T', hk, (show dp + 1 + d < _ by omega), (show un + 3 + u + 70 < _ by omega), rfl, rfl, hk⟩ ⟨get_none F'.above, cellsFrom_inj _ _ [] (fun _ _ _ z => nomatch z) (fun _ z => nomatch z)⟩ _ _ _
    (Okay.s ⟨⟨_, F'⟩, ⟨t1, t2, NT, a1.keep fun c e3 e2 => (rec_gsub e2 GS e3).keeps F'.keep, a2.keep fun c e3 e2 => (rec_gsub e2 GS e3).keeps F'.keep⟩, ?_, ?_, ⟨_, F'.ns⟩⟩) ?_
  · have U : Up s.heap h₁ := fun b o e n => F'.keep _ _ (GS b o e n)
    intro x sy e
    rcases zipLook x xs (R.up U O.tab.objs) with ⟨_, e2⟩ | ⟨v, sv', e1, e2, r⟩
    · rw [e2] at e; cases e
    · rw [e2] at e; cases e
      have hm : x ∈ xs := by
        obtain ⟨l1, l2, hl, _⟩ := List.lookup_eq_some_iff.mp e1
        have : (x, v) ∈ (xs.zip vs).reverse := by rw [hl]; simp
        exact (List.of_mem_zip (List.mem_reverse.mp this)).1
      rcases hkinds x hm with k | k
      · exact ⟨v, .loc k _ F'.ns (by rw [bindL_local (kindOf := (envOfC qual scope L' f cdv).kindOf) k, e1]; rfl), r⟩
      · obtain ⟨c, hc⟩ := Option.isSome_iff_exists.mp (cellsFrom_some scope.names (L' + 1) [] (.inl k))
        have hmc : (x, c) ∈ cellsFrom (L' + 1) scope.names [] := by
          obtain ⟨l1, l2, hl, _⟩ := List.lookup_eq_some_iff.mp hc
          rw [hl]; simp
        obtain ⟨o, hmo, hd'⟩ := cellsGet Y hmc
        refine ⟨v, .cell k c hc ⟨o, (N' _ (List.mem_append_left _ hmo)).1, ?_⟩, r⟩
        rw [hd', bindC_cell (kindOf := (envOfC qual scope L' f cdv).kindOf) (fun z => by rw [show (envOfC qual scope L' f cdv).kindOf x = some .cell from k] at z; cases z), e1]; rfl
  · intro x c hmc
    obtain ⟨o, hmo, hd'⟩ := cellsGet Y hmc
    exact ⟨⟨_, o, (N' _ (List.mem_append_left _ hmo)).1, hd'⟩, (N' _ (List.mem_append_left _ hmo)).2.2⟩
  · intro v h' tk K O2 R2
    obtain ⟨t1', t2', N2, b1, b2⟩ := O2.tab
    obtain ⟨m2, F2⟩ := O2.fr
    refine leaveK_ F2 N2 fun _ Nx => ?_
    refine h v h' tk (fun b o e n => F2.keep _ _ (GS b o e n)) ⟨t1', t2', ?_, b1, b2⟩ R2
    rw [eL]; exact Nx

/-- a name of the module stands for a value of the written part -/
def Glob (x : Str) (v : Value) : Prop := ∀ w : World, nsIn (hd.heap_1 w.params) mainGlobals x = some (some v)
def IsDef (f : Addr) : Prop := ∀ w : World, ∃ oc od fd osl, (hd.heap_1 w.params).lookup f = some ⟨oc, od, .func fd, osl⟩
theorem glob_eval {G : Ctx} {ρ : List (Str × SV)} {x : Str} {v : Value} {pos : Pos} (g : Glob x v) (hx : G.env.kindOf x = some .globalImplicit) (F : Fm G) {Q Eh : Value → Shared → Prop} {s : Shared} (O : Okay G ρ s.heap) (h : Q v s)
    (hd : (x == ("__debug__" : Str)) = false := by decide) : wpAny (model Pr G.w) G.A (eval (.Name x pos) G.env) Q Eh s := by
  obtain ⟨dp, un, gd, cn, cs, L, a, ccd, cl, outer, A₀, base, mean, mg, mb, hA, he, B, X, T, kk, h1, h2, hgl, hbl, hks⟩ := F
  obtain ⟨m, F0⟩ := O.fr
  exact Name_function_global hks hx (loadGlobal_global (by rw [hgl]; exact T.g.keeps F0.keep) (mg_of X T.g (g G.w)) h) hd
theorem Ev.call {G : Ctx} {ρ : List (Str × SV)} {x : Str} {f : Addr} {e : Expr} {es : List Expr} {p pos : Pos} {l : List SV} {sv : SV} {d u : Nat} (g : Glob x (.ref f)) (i : IsDef f) (hx : G.env.kindOf x = some .globalImplicit)
    (a : EvAll G ρ (e :: es) l) (c : FnSpec f d u l sv) (hd : d ≤ G.d) (hu : u ≤ G.u) (hb : (x == ("__debug__" : Str)) = false := by decide)
    (he : ∀ env, starEach (e :: es) env = (false, eval e env) :: starEach es env := by intro _; rfl) : Ev G ρ (.Call (.Name x p) (e :: es) [] pos) sv := by
  intro F Q Eh s O h
  refine wpAny_Call_NameR (glob_eval g hx F O ?_ hb)
  obtain ⟨oc, od, fd, osl, ho⟩ := i G.w
  refine callWith_def (o := ⟨oc, od, .func fd, osl⟩) rfl (a F pos _ _ s O fun vs h1 tk1 U1 T1 R1 => ⟨?_, ?_⟩) (he _)
  · have O1 : Okay G ρ h1 := O.up U1 T1
    obtain ⟨m, F1⟩ := O1.fr
    obtain ⟨dp, un, gd, cn, cs, L, a, ccd, cl, outer, A₀, base, mean, mg, mb, hA, he, B, X, T, kk, h1, h2, hgl, hbl, hks⟩ := F
    exact F1.keep _ _ (X _ _ ho)
  · exact c G ρ _ _ _ vs F hd hu (O.up U1 T1) R1 fun v h2 tk2 U2 T2 R2 => h v h2 tk2 (U1.trans U2) T2 R2

/-- a source of items at I; hR: the heap in which the items stand; z: it turns sequences -/
structure Src (N : Tok) (G : Ctx) (tgt : Expr) (z : Bool) (I : Addr) (fp wr : List Addr) (hR : Heap) (items : List SV) (St : Nat → Heap → Prop) : Prop where
  sub : ∀ b ∈ wr, b ∈ fp
  fresh : ∀ b ∈ wr, hR.get? b = none
  stay : ∀ i h, St i h → ∀ b ∈ fp, ∃ o, h.get? b = some o ∧ stays o
  wrk : ∀ i h, St i h → ∀ b ∈ wr, ∀ o, h.get? b = some o → stays o ∧ (∀ ps q t, o.data = .fields ps → ps[1]? ≠ some (.str q t)) ∧ (z = false → ∀ xs n, o.data ≠ .seq xs n)
  frame : ∀ i h h', St i h → (∀ b ∈ fp, ∀ o, h.get? b = some o → h'.get? b = some o) → St i h'
  next : ∀ m i x (s : Shared) (Q : Option Value → Shared → Prop) (Eh : Value → Shared → Prop), (m = none ∨ ∀ x ∈ items, Pure x) → items[i]? = some x → St i s.heap → Kp m hR s.heap → N ≤ s.toks →
    (∀ v h1 tk, (∀ (Q2 : Unit → Shared → Prop) (E2 : Value → Shared → Prop), (∀ h2, St (i + 1) h2 → Rep h2 v x → (∀ b o, b ∉ wr → s.heap.get? b = some o → h2.get? b = some o) → Q2 () { s with heap := h2, toks := tk }) →
        wpAny (model Pr G.w) G.A (letOwnedTupleGo tgt (.ref I) v) Q2 E2 { s with heap := h1, toks := tk }) → Q (some v) { s with heap := h1, toks := tk }) →
    wpAny (model Pr G.w) G.A (pyNext (.ref I)) Q Eh s
  done : ∀ (s : Shared) (Q : Option Value → Shared → Prop) (Eh : Value → Shared → Prop), St items.length s.heap →
    (∀ h1 tk, (∀ b o, b ∉ wr → s.heap.get? b = some o → h1.get? b = some o) → Q none { s with heap := h1, toks := tk }) → wpAny (model Pr G.w) G.A (pyNext (.ref I)) Q Eh s
  self : ∀ i (s : Shared) (Q : Value → Shared → Prop) (Eh : Value → Shared → Prop), St i s.heap → Q (.ref I) s → wpAny (model Pr G.w) G.A (pyIter (.ref I)) Q Eh s
/-- the source that an expression gives: its footprint is new, or what a name stands for -/
def ItEvN (N : Tok) (G : Ctx) (ρ : List (Str × SV)) (tgt : Expr) (e : Expr) (items : List SV) (z pr : Bool) : Prop :=
  Fm G → ∀ (Q Eh : Value → Shared → Prop) (s : Shared), N ≤ s.toks → Okay G ρ s.heap →
    (∀ I fp wr hR St h' tk, Src N G tgt z I fp wr hR items St → St 0 h' → Up s.heap hR → Ext hR h' → TabsAt G h' → (∀ b ∈ wr, s.heap.get? b = none) → (pr = true → ∀ b ∈ fp, s.heap.get? b = none ∨ ∃ y sv, ρ.lookup y = some sv ∧ Has G.env s.heap y (.ref b)) →
      Q (.ref I) { s with heap := h', toks := tk }) → wpAny (model Pr G.w) G.A (eval e G.env) (fun v s₁ => wpAny (model Pr G.w) G.A (pyIter v) Q Eh s₁) Eh s
def ItEv (G : Ctx) (ρ : List (Str × SV)) (tgt : Expr) (e : Expr) (items : List SV) (z pr : Bool) : Prop :=
  Fm G → ∀ (Q Eh : Value → Shared → Prop) (s : Shared), Okay G ρ s.heap →
    (∀ I fp wr hR St h' tk, Src 0 G tgt z I fp wr hR items St → St 0 h' → Up s.heap hR → Ext hR h' → TabsAt G h' → (∀ b ∈ wr, s.heap.get? b = none) → (pr = true → ∀ b ∈ fp, s.heap.get? b = none ∨ ∃ y sv, ρ.lookup y = some sv ∧ Has G.env s.heap y (.ref b)) →
      Q (.ref I) { s with heap := h', toks := tk }) → wpAny (model Pr G.w) G.A (eval e G.env) (fun v s₁ => wpAny (model Pr G.w) G.A (pyIter v) Q Eh s₁) Eh s
theorem Src.up {N : Tok} {G : Ctx} {tgt : Expr} {z : Bool} {I : Addr} {fp wr : List Addr} {hR : Heap} {items : List SV} {St : Nat → Heap → Prop} (W : Src 0 G tgt z I fp wr hR items St) : Src N G tgt z I fp wr hR items St :=
  ⟨W.sub, W.fresh, W.stay, W.wrk, W.frame, fun m i x s Q Eh a b c d _ h => W.next m i x s Q Eh a b c d (Nat.zero_le _) h, W.done, W.self⟩
theorem ItEv.n {N : Tok} {G : Ctx} {ρ : List (Str × SV)} {tgt e : Expr} {items : List SV} {z pr : Bool} (a : ItEv G ρ tgt e items z pr) : ItEvN N G ρ tgt e items z pr :=
  fun F Q Eh s _ O h => a F Q Eh s O fun I fp wr hR St h' tk W => h I fp wr hR St h' tk W.up
theorem wpAny_up {α : Type} {M : Model} {A : Around} {t : Sem α} {Q : α → Shared → Prop} {E : Value → Shared → Prop} {s : Shared} {n : Tok} (hn : n ≤ s.toks) (h : wpAny M A t (fun a s' => n ≤ s'.toks → Q a s') E s) : wpAny M A t Q E s :=
  wpAny_with_toks hn (wpAny_mono h (fun _ _ h => h) fun _ _ h _ => h)
theorem ItEvN.up {N : Tok} {G : Ctx} {ρ : List (Str × SV)} {tgt e : Expr} {items : List SV} {z pr : Bool} (a : ItEvN N G ρ tgt e items z pr) (F : Fm G) {Q Eh : Value → Shared → Prop} {s : Shared} (hN : N ≤ s.toks) (O : Okay G ρ s.heap)
    (h : ∀ I fp wr hR St h' tk, Src N G tgt z I fp wr hR items St → St 0 h' → Up s.heap hR → Ext hR h' → TabsAt G h' → (∀ b ∈ wr, s.heap.get? b = none) → N ≤ tk → Q (.ref I) { s with heap := h', toks := tk }) :
    wpAny (model Pr G.w) G.A (eval e G.env) (fun v s₁ => wpAny (model Pr G.w) G.A (pyIter v) Q Eh s₁) Eh s :=
  wpAny_up hN (wpAny_mono (a F (fun v s' => N ≤ s'.toks → Q v s') Eh s hN O fun I fp wr hR St h' tk W st U X T hw _ le => h I fp wr hR St h' tk W st U X T hw le) (fun _ _ h1 le => wpAny_up le h1) fun _ _ h => h)
/-- a change at the addresses wr alone -/
structure Off (wr : List Addr) (z : Bool) (h h' : Heap) : Prop where
  keep : ∀ b o, b ∉ wr → h.get? b = some o → h'.get? b = some o
  wrk : ∀ b ∈ wr, ∀ o, h.get? b = some o → stays o ∧ (∀ ps q t, o.data = .fields ps → ps[1]? ≠ some (.str q t)) ∧ (z = false → ∀ xs n, o.data ≠ .seq xs n)
theorem Off.tabs {G : Ctx} {wr : List Addr} {z : Bool} {h h' : Heap} (x : Off wr z h h') (T : TabsAt G h) (n : ∀ b ∈ ([30, 37] : List Addr), b ∉ wr) : TabsAt G h' := by
  obtain ⟨t1, t2, N, a, b⟩ := T
  have cr : ∀ {c : Value} {q : Str}, h.CodeRec c q → h'.CodeRec c q := by
    rintro c q ⟨a, o, vs, t, e, g, d, r⟩
    exact ⟨a, o, vs, t, e, x.keep _ _ (fun hm => (x.wrk _ hm _ g).2.1 vs q t d r) g, d, r⟩
  refine ⟨t1, t2, fun p hp => ⟨?_, (N p hp).2⟩, a.keep fun _ _ e => cr e, b.keep fun _ _ e => cr e⟩
  refine x.keep _ _ (n _ ?_) (N p hp).1
  rcases List.mem_cons.mp hp with rfl | hp'
  · exact .head _
  · rw [List.mem_singleton.mp hp']; exact .tail _ (.head _)
theorem Off.ns {wr : List Addr} {z : Bool} {h h' : Heap} (x : Off wr z h h') {a : Addr} {m : Str → Option Value} (n : h.Ns a m) : h'.Ns a m := by
  obtain ⟨o, es, ep, e, d, r⟩ := n
  refine ⟨o, es, ep, x.keep _ _ (fun hm => ?_) e, d, r⟩
  have := (x.wrk _ hm _ e).1
  unfold stays at this; rw [d] at this; exact this
theorem Off.cell {wr : List Addr} {z : Bool} {h h' : Heap} (x : Off wr z h h') {a : Addr} {m : Option Value} (n : h.IsCell a m) : h'.IsCell a m := by
  obtain ⟨o, e, d⟩ := n
  refine ⟨o, x.keep _ _ (fun hm => ?_) e, d⟩
  have := (x.wrk _ hm _ e).1
  unfold stays at this; rw [d] at this; exact this
theorem Off.has {wr : List Addr} {z : Bool} {h h' : Heap} (x : Off wr z h h') {env : Env} {y : Str} {v : Value} (k : Has env h y v) : Has env h' y v := by
  cases k with
  | loc k m n e => exact .loc k m (x.ns n) e
  | cell k c l e => exact .cell k c l (x.cell e)
  | free k c l e => exact .free k c l (x.cell e)
theorem Off.seqs {wr : List Addr} {h h' : Heap} (x : Off wr false h h') : ∀ b o xs n, h.get? b = some o → o.data = .seq xs n → h'.get? b = some o := fun b o xs n e d => x.keep b o (fun hm => (x.wrk b hm o e).2.2 rfl xs n d) e
theorem OkS.off {G : Ctx} {ρ : List (Str × SV)} {μ : Mu} {wr : List Addr} {h h' : Heap} (O : OkS G ρ μ h) (x : Off wr false h h') (n : ∀ b ∈ ([30, 37] : List Addr), b ∉ wr) (n0 : ∀ b o, G.h₀.get? b = some o → b ∉ wr) : OkS G ρ μ h' := by
  obtain ⟨m, F⟩ := O.ok.fr
  obtain ⟨m1, N1⟩ := O.ok.ns
  refine ⟨⟨⟨m, x.ns F.ns, fun b o e => x.keep b o (n0 b o e) (F.keep b o e), F.above⟩, x.tabs O.ok.tab n, fun y sv e => ?_, fun y c hc => let ⟨⟨v, i⟩, j⟩ := O.ok.cs y c hc; ⟨⟨v, x.cell i⟩, j⟩, m1, x.ns N1⟩, ?_⟩
  · obtain ⟨v, hv, r⟩ := O.ok.kn y sv e
    exact ⟨v, x.has hv, r.seqs x.seqs⟩
  · cases μ with
    | none => trivial
    | some q =>
      obtain ⟨y, a, l⟩ := q
      obtain ⟨h1, h2, ⟨vs, n, h3, h4⟩, h5, h6⟩ := O.mu
      refine ⟨h1, x.has h2, ⟨vs, n, x.seqs _ _ _ _ h3 rfl, h4.seqs x.seqs⟩, h5, fun w sv e => ?_⟩
      obtain ⟨ne, v, hv, r⟩ := h6 w sv e
      refine ⟨ne, v, x.has hv, r.seqs fun b o xs k e1 d => ?_⟩
      exact hideAll_get _ (x.seqs b o xs k (of_hideAll _ e1) d) fun m => by rw [hideAll_none _ m] at e1; cases e1
theorem OkS.plain {G : Ctx} {ρ : List (Str × SV)} {μ : Mu} {h : Heap} (O : OkS G ρ μ h) : Okay G ρ h := by
  cases μ with
  | none => exact O.ok
  | some q =>
    obtain ⟨y, a, l⟩ := q
    obtain ⟨h1, h2, h3, h5, h6⟩ := O.mu
    refine ⟨O.ok.fr, O.ok.tab, fun z sz e => ?_, O.ok.cs, O.ok.ns⟩
    obtain ⟨ne, v, hv, r⟩ := h6 z sz e
    exact ⟨v, hv, r.seqs fun b o xs k e1 d => of_hideAll _ e1⟩
theorem Has.unique {env : Env} {h : Heap} {x : Str} {u v : Value} (a : Has env h x u) (b : Has env h x v) : u = v := by
  cases a with
  | loc k m n e =>
    cases b with
    | loc k2 m2 n2 e2 => have := Ns.unique n n2; subst this; rw [e] at e2; exact Option.some.inj e2
    | cell k2 => rw [k] at k2; cases k2
    | free k2 => rw [k] at k2; cases k2
  | cell k c l e =>
    cases b with
    | loc k2 => rw [k] at k2; cases k2
    | cell k2 c2 l2 e2 => rw [l] at l2; cases l2; exact Option.some.inj (IsCell.unique e e2)
    | free k2 => rw [k] at k2; cases k2
  | free k c l e =>
    cases b with
    | loc k2 => rw [k] at k2; cases k2
    | cell k2 => rw [k] at k2; cases k2
    | free k2 c2 l2 e2 => rw [l] at l2; cases l2; exact Option.some.inj (IsCell.unique e e2)
/-- a target is given a value -/
def AsgTo (G : Ctx) (xs : List Str) (tgt : Expr) (sv : SV) (ρ ρ' : List (Str × SV)) (μ : Mu) : Prop :=
  Fm G → Stores G → ∀ (Q : Unit → Shared → Prop) (Eh : Value → Shared → Prop) (s : Shared) (v : Value), OkS G ρ μ s.heap → Rep s.heap v sv →
    (∀ h' tk, OkS G ρ' μ h' → Kp none s.heap h' → (∀ b o, s.heap.get? b = some o → b ≠ G.env.locals → (∀ x ∈ xs, (x, b) ∉ G.env.cells) → h'.get? b = some o) → (∀ y u, y ∉ xs → Has G.env s.heap y u → Has G.env h' y u) → Q () { s with heap := h', toks := tk }) →
    wpAny (model Pr G.w) G.A (assign tgt G.env v) Q Eh s
theorem AsgTo.name {G : Ctx} {x : Str} {p : Pos} {sv : SV} {ρ : List (Str × SV)} {μ : Mu} (hk : Settable G x) (f : Fits μ x sv := by trivial) : AsgTo G [x] (.Name x p) sv ρ ((x, sv) :: ρ) μ := by
  intro F S Q Eh s v O R h
  refine wpAny_assign_Name (store F S hk O.ok fun h2 tk2 st => ?_)
  refine h h2 tk2 (O.sto st S.nw R f) st.kp (fun b o e n1 n2 => ?_) fun y u ny hy => st.has y u (fun z => ny (z ▸ .head _)) hy
  obtain ⟨c, one, hc⟩ := st.c
  refine (one.sb.2 b ?_).trans e
  rintro rfl
  rcases hc with rfl | hc
  · exact n1 rfl
  · exact n2 x (.head _) hc
/-- the for loop: k turns go on, then it ends, or the turn k gives a value back -/
theorem loop_core {pr : Bool} {G : Ctx} {tgt iter : Expr} {body orelse : List Stmt} {pos : Pos} {xs : List Str} {items : List SV} {ρ : List (Str × SV)} {μ : Mu} (ρs ρt : Nat → List (Str × SV)) (μs : Nat → Mu) (F : Fm G) (S : Stores G)
    (src : ItEv G ρ tgt iter items false pr) (hpr : μ = none ∨ pr = true) (hadr : ∀ i, (μs i).adr = μ.adr) (pure : μ = none ∨ ∀ x ∈ items, Pure x) (h0 : ∀ x sv, (ρs 0).lookup x = some sv → ρ.lookup x = some sv) (m0 : μs 0 = μ)
    (k : Nat) (asg : ∀ i x, items[i]? = some x → i ≤ k → AsgTo G xs tgt x (ρs i) (ρt i) (μs i))
    (turn : ∀ i, i < items.length → i < k → Rn G (ρt i) (μs i) body (.next (ρs (i + 1)) (μs (i + 1))))
    {Q : Flow → Shared → Prop} {Eh : Value → Shared → Prop} {s : Shared} (O : OkS G ρ μ s.heap)
    (fin : (items.length ≤ k ∧ orelse = [] ∧ ∀ h' tk, Kp μ.adr s.heap h' → OkS G (ρs items.length) (μs items.length) h' → Q .next { s with heap := h', toks := tk }) ∨
      (∃ v, k < items.length ∧ Rn G (ρt k) (μs k) body (.ret v) ∧ ∀ u h' tk, Kp μ.adr s.heap h' → Okay G [] h' → Rep h' u v → Q (.ret u) { s with heap := h', toks := tk }))
    (hs : ∀ x, foldedSetIterable iter G.env x = Pure.pure x := by intro _; rfl) : wpAny (model Pr G.w) G.A (exec (.For tgt iter body orelse pos) G.env) Q Eh s := by
  refine wpAny_For (src F _ _ s O.plain fun I fp wr hR St h1 tk1 W st0 U1 X1 T1 hw hf => ?_) hs
  have n30 : ∀ b ∈ ([30, 37] : List Addr), b ∉ wr := fun b hb hm => by
    obtain ⟨t, e⟩ := O.ok.tab.objs b hb
    rw [hw b hm] at e; cases e
  have n0 : ∀ b o, G.h₀.get? b = some o → b ∉ wr := fun b o e hm => by
    obtain ⟨m, F0⟩ := O.ok.fr
    have := F0.keep b o e
    rw [hw b hm] at this; cases this
  have U0 : Up s.heap h1 := fun b o e n => X1 b o (U1 b o e n)
  have O1 : OkS G (ρs 0) (μs 0) h1 := m0 ▸ (O.up U0 T1).sub h0
  have hm : μ.adr = none ∨ ∀ x ∈ items, Pure x := pure.imp (fun e => by rw [e]; rfl) id
  have hfa : ∀ b ∈ fp, μ.adr ≠ some b := by
    intro b hb e
    cases μ with
    | none => cases e
    | some q =>
      obtain ⟨y, a, l⟩ := q
      cases e
      obtain ⟨h1, h2, ⟨vs, n, h3, h4⟩, h5, h6⟩ := O.mu
      rcases hf (hpr.resolve_left (fun z => nomatch z)) _ hb with e | ⟨z, sz, ez, hz⟩
      · rw [h3] at e; cases e
      · obtain ⟨ne, v, hv, r⟩ := h6 z sz ez
        have := Has.unique hz hv; subst this
        cases r with
        | list x _ => rw [hideAll_none _ (.head _)] at x; cases x
        | tup x _ => obtain ⟨o, x, _⟩ := x; rw [hideAll_none _ (.head _)] at x; cases x
  refine codeAny_forLoop_any (fun n s' => ∃ i h' tk, s' = { s with heap := h', toks := tk } ∧ i ≤ items.length ∧ i ≤ k ∧ n = items.length + 1 - i ∧ St i h' ∧ OkS G (ρs i) (μs i) h' ∧ Kp μ.adr s.heap h' ∧ Kp μ.adr hR h') ?_ (items.length + 1)
    ⟨0, h1, tk1, rfl, Nat.zero_le _, Nat.zero_le _, rfl, st0, O1, U0.kp O.ok.tab.objs, fun b o e _ _ => X1 b o e⟩
  rintro n s' ⟨i, h2, tk2, rfl, hi, hik, rfl, st, O2, K0, KR⟩
  by_cases hlt : i < items.length
  · have hx : items[i]? = some items[i] := List.getElem?_eq_getElem hlt
    refine W.next μ.adr i items[i] _ _ _ hm hx st KR (Nat.zero_le _) fun v h3 tk3 go => ?_
    refine go _ _ fun h4 st4 R4 k4 => ?_
    have X4 : Off wr false h2 h4 := ⟨k4, W.wrk i h2 st⟩
    have O4 : OkS G (ρs i) (μs i) h4 := O2.off X4 n30 n0
    have kp4 : Kp μ.adr s.heap h4 := fun b o e kk ne => k4 b o (fun hm => by rw [hw b hm] at e; cases e) (K0 b o e kk ne)
    have kpR : Kp μ.adr hR h4 := fun b o e kk ne => k4 b o (fun hm => by rw [W.fresh b hm] at e; cases e) (KR b o e kk ne)
    refine asg i items[i] hx hik F S _ _ { s with heap := h4, toks := tk3 } v O4 R4 fun h5 tk5 O5 K5 _ _ => ?_
    have st5 : St (i + 1) h5 := W.frame _ _ _ st4 fun b hb o e => by
      obtain ⟨o', e', kk⟩ := W.stay _ _ st4 b hb
      rw [e] at e'; cases e'
      exact K5 b o e kk (fun z => nomatch z)
    have K5' : Kp μ.adr s.heap h5 := kp4.trans K5.any
    by_cases hk : i < k
    · refine turn i hlt hk F S _ _ { s with heap := h5, toks := tk5 } O5 fun h6 tk6 K6 O6 => ?_
      rw [hadr i] at K6
      refine ⟨items.length + 1 - (i + 1), by omega, i + 1, h6, tk6, rfl, hlt, hk, rfl, ?_, O6, K5'.trans K6, (kpR.trans K5.any).trans K6⟩
      · refine W.frame _ _ _ st5 fun b hb o e => ?_
        obtain ⟨o', e', kk⟩ := W.stay _ _ st5 b hb
        rw [e] at e'; cases e'
        exact K6 b o e kk (hfa b hb)
    · have : i = k := by omega
      subst this
      rcases fin with ⟨hlen, _⟩ | ⟨v, _, last, ret⟩
      · omega
      · refine last F S _ _ { s with heap := h5, toks := tk5 } O5 fun u h6 tk6 K6 O6 R6 => ?_
        rw [hadr i] at K6
        exact ret u h6 tk6 (K5'.trans K6) O6 R6
  · have hin : i = items.length := by omega
    subst hin
    refine W.done _ _ _ st fun h3 tk3 k3 => ?_
    have X3 : Off wr false h2 h3 := ⟨k3, W.wrk _ h2 st⟩
    rcases fin with ⟨_, ho, nx⟩ | ⟨v, hlen, _⟩
    · subst ho
      exact wpAny_execs_nil (nx h3 tk3 (fun b o e kk ne => k3 b o (fun hm => by rw [hw b hm] at e; cases e) (K0 b o e kk ne)) (O2.off X3 n30 n0))
    · omega
theorem Rn.loop {pr : Bool} {G : Ctx} {tgt iter : Expr} {body : List Stmt} {pos : Pos} {xs : List Str} {items : List SV} {ρ : List (Str × SV)} {μ : Mu} {ss : List Stmt} {r : Fin'} (ρs ρt : Nat → List (Str × SV)) (μs : Nat → Mu)
    (src : ItEv G ρ tgt iter items false pr) (hpr : μ = none ∨ pr = true) (hadr : ∀ i, (μs i).adr = μ.adr) (pure : μ = none ∨ ∀ x ∈ items, Pure x) (h0 : ∀ x sv, (ρs 0).lookup x = some sv → ρ.lookup x = some sv) (m0 : μs 0 = μ)
    (asg : ∀ i x, items[i]? = some x → AsgTo G xs tgt x (ρs i) (ρt i) (μs i))
    (turn : ∀ i, i < items.length → Rn G (ρt i) (μs i) body (.next (ρs (i + 1)) (μs (i + 1))))
    (rest : Rn G (ρs items.length) (μs items.length) ss r) (hs : ∀ x, foldedSetIterable iter G.env x = Pure.pure x := by intro _; rfl) : Rn G ρ μ (.For tgt iter body [] pos :: ss) r := by
  intro F S Q Eh s O P
  refine wpAny_execs_cons (loop_core ρs ρt μs F S src hpr hadr pure h0 m0 items.length (fun i x e _ => asg i x e) (fun i a _ => turn i a) O (.inl ⟨Nat.le_refl _, rfl, fun h' tk K2 O2 => ?_⟩) hs)
  exact rest F S Q Eh _ O2 (by rw [hadr]; exact P.after K2)
theorem Rn.loopRet {pr : Bool} {G : Ctx} {tgt iter : Expr} {body orelse : List Stmt} {pos : Pos} {xs : List Str} {items : List SV} {ρ : List (Str × SV)} {μ : Mu} {ss : List Stmt} {v : SV} (ρs ρt : Nat → List (Str × SV)) (μs : Nat → Mu) (k : Nat)
    (src : ItEv G ρ tgt iter items false pr) (hpr : μ = none ∨ pr = true) (hadr : ∀ i, (μs i).adr = μ.adr) (pure : μ = none ∨ ∀ x ∈ items, Pure x) (h0 : ∀ x sv, (ρs 0).lookup x = some sv → ρ.lookup x = some sv) (m0 : μs 0 = μ)
    (asg : ∀ i x, items[i]? = some x → i ≤ k → AsgTo G xs tgt x (ρs i) (ρt i) (μs i)) (hk : k < items.length)
    (turn : ∀ i, i < k → Rn G (ρt i) (μs i) body (.next (ρs (i + 1)) (μs (i + 1))))
    (last : Rn G (ρt k) (μs k) body (.ret v)) (hs : ∀ x, foldedSetIterable iter G.env x = Pure.pure x := by intro _; rfl) : Rn G ρ μ (.For tgt iter body orelse pos :: ss) (.ret v) := by
  intro F S Q Eh s O P
  exact wpAny_execs_cons (loop_core ρs ρt μs F S src hpr hadr pure h0 m0 k asg (fun i _ a => turn i a) O (.inr ⟨v, hk, last, fun u h' tk K2 O2 R2 => P u h' tk K2 O2 R2⟩) hs)
theorem Reps.get {h : Heap} : ∀ {vs : List Value} {l : List SV}, Reps h vs l → ∀ {i : Nat} {x : SV}, l[i]? = some x → ∃ v, vs[i]? = some v ∧ Rep h v x
  | _, _, .nil, i, x, e => by cases i <;> cases e
  | _, _, .cons (v := v) a b, 0, x, e => by cases e; exact ⟨v, rfl, a⟩
  | _, _, .cons a b, i + 1, x, e => b.get (i := i) e
/-- an expression whose value is a new object -/
def EvF (G : Ctx) (ρ : List (Str × SV)) (e : Expr) (sv : SV) : Prop :=
  Fm G → ∀ (Q Eh : Value → Shared → Prop) (s : Shared), Okay G ρ s.heap →
    (∀ v h' tk, Up s.heap h' → TabsAt G h' → Rep h' v sv → (∀ a, v = .ref a → s.heap.get? a = none) → Q v { s with heap := h', toks := tk }) →
    wpAny (model Pr G.w) G.A (eval e G.env) Q Eh s
theorem EvF.ev {G : Ctx} {ρ : List (Str × SV)} {e : Expr} {sv : SV} (a : EvF G ρ e sv) : Ev G ρ e sv := fun F Q Eh s O h => a F Q Eh s O fun v h' tk U T R _ => h v h' tk U T R
theorem Src.list {G : Ctx} (F : Fm G) {tgt : Expr} {I l : Addr} {vs : List Value} {n : Nat} {hR : Heap} {items : List SV} (hI : hR.get? I = none) (hl : hR.get? l = some ({ cls := .type "list", data := .seq vs.toArray n } : Obj)) (R : Reps hR vs items) :
    Src 0 G tgt false I [I, l] [I] hR items (fun i h => h.IsListIter I l i ∧ h.IsList l vs.toArray) := by
  have ne : l ≠ I := fun z => by rw [← z, hl] at hI; cases hI
  have hlen := R.length
  refine ⟨fun b hb => by rw [List.mem_singleton.mp hb]; exact .head _, fun b hb => by rw [List.mem_singleton.mp hb]; exact hI, fun i h st b hb => ?_, fun i h st b hb o e => ?_, fun i h h' st k => ⟨st.1.at fun o e => k I (.head _) o e, st.2.at fun o e => k l (.tail _ (.head _)) o e⟩, fun m i x s Q Eh hm hx st K _ h => ?_, fun s Q Eh st h => ?_, fun i s Q Eh st h => wpAny_pyIter_listiter st.1 h⟩
  · rcases List.mem_cons.mp hb with rfl | hb
    · obtain ⟨o, e, c, d⟩ := st.1
      exact ⟨o, e, by unfold stays; rw [d, c]; exact fun z => nomatch z⟩
    · rw [List.mem_singleton.mp hb]
      obtain ⟨o, e, c, k, d⟩ := st.2
      exact ⟨o, e, by unfold stays; rw [d]; trivial⟩
  · rw [List.mem_singleton.mp hb] at e
    obtain ⟨o', e', c, d⟩ := st.1
    rw [e] at e'; cases e'
    refine ⟨(by unfold stays; rw [d, c]; exact (fun z => nomatch z)), fun ps q t dd => ?_, fun _ xs k dd => ?_⟩
    · rw [d] at dd; cases dd; exact fun z => nomatch z
    · rw [d] at dd; cases dd
  · obtain ⟨v, hv, r⟩ := R.get hx
    refine wpAny_pyNext_list_item st.1 st.2 (x := v) (by simpa using hv) fun h' hit' hs' => h v h' s.toks fun Q2 E2 h2 => ?_
    refine letGo_listiter hit' (h2 h' ⟨hit', st.2.extBut hs'.extBut ne⟩ ?_ fun b o hb e => hs'.extBut b o (fun z => hb (z ▸ .head _)) e)
    rcases hm with rfl | hm
    · exact (r.kp K).seqs fun b o xs k e d => hs'.extBut b o (fun z => by
        subst z
        obtain ⟨o', e', c, d'⟩ := st.1
        rw [e] at e'; cases e'; rw [d] at d'; cases d') e
    · exact r.pure (hm x (List.mem_of_getElem? hx))
  · exact wpAny_pyNext_list_end F.handled st.1 st.2 (by simp [hlen]) fun h' he' => h h' s.toks fun b o hb e => he' b o (fun z => hb (z ▸ .head _)) e
theorem it_list {G : Ctx} (F : Fm G) {tgt : Expr} {ρ : List (Str × SV)} {l : Addr} {vs : List Value} {n : Nat} {items : List SV} {s : Shared} {h1 : Heap} {tk : Tok} {Q Eh : Value → Shared → Prop} (U : Up s.heap h1) (T : TabsAt G h1)
    (hl : h1.get? l = some ({ cls := .type "list", data := .seq vs.toArray n } : Obj)) (R : Reps h1 vs items) (pr : Bool) (hp : pr = true → s.heap.get? l = none ∨ ∃ y sv, ρ.lookup y = some sv ∧ Has G.env s.heap y (.ref l)) (new : ∀ b, s.heap.objs.size ≤ b → s.heap.get? b = none) (le : ∀ b, h1.get? b = none → s.heap.get? b = none)
    (h : ∀ I fp wr hR St h' tk, Src 0 G tgt false I fp wr hR items St → St 0 h' → Up s.heap hR → Ext hR h' → TabsAt G h' → (∀ b ∈ wr, s.heap.get? b = none) → (pr = true → ∀ b ∈ fp, s.heap.get? b = none ∨ ∃ y sv, ρ.lookup y = some sv ∧ Has G.env s.heap y (.ref b)) →
      Q (.ref I) { s with heap := h', toks := tk }) : wpAny (model Pr G.w) G.A (pyIter (.ref l)) Q Eh { s with heap := h1, toks := tk } := by
  have hI : h1.get? h1.objs.size = none := get_none (Nat.le_refl _)
  refine wpAny_pyIter_list ⟨_, hl, rfl, _, rfl⟩ ?_
  refine h _ _ _ _ _ _ tk (Src.list F hI hl R) ⟨⟨_, Heap.get?_push_size _ rfl, rfl, rfl⟩, ⟨_, Heap.get?_push_of_some _ hl, rfl, _, rfl⟩⟩ U (push_ext _ _) (T.ext (push_ext _ _)) (fun b hb => ?_) fun e b hb => ?_
  · rw [List.mem_singleton.mp hb]; exact le _ hI
  · rcases List.mem_cons.mp hb with rfl | hb
    · exact .inl (le _ hI)
    · rw [List.mem_singleton.mp hb]; exact hp e
theorem Up.none {h h' : Heap} (T : TabObjs h) (T' : TabObjs h') (U : Up h h') {b : Addr} (e : h'.get? b = Option.none) : h.get? b = Option.none := by
  by_cases hb : b ∈ ([30, 37] : List Addr)
  · obtain ⟨t, ht⟩ := T' b hb; rw [e] at ht; cases ht
  · cases q : h.get? b with
    | none => rfl
    | some o => rw [U b o q hb] at e; cases e
theorem ItEv.list {G : Ctx} {ρ : List (Str × SV)} {tgt e : Expr} {items : List SV} (a : Ev G ρ e (.list items)) : ItEv G ρ tgt e items false false := by
  intro F Q Eh s O h
  refine a F _ _ s O fun v h1 tk1 U1 T1 R1 => ?_
  obtain ⟨l, vs, n, rfl, hl, R⟩ := R1.list_inv
  exact it_list F U1 T1 hl R false (fun z => nomatch z) (fun b => get_none) (fun b => U1.none O.tab.objs T1.objs) h
theorem ItEv.listF {G : Ctx} {ρ : List (Str × SV)} {tgt e : Expr} {items : List SV} (a : EvF G ρ e (.list items)) : ItEv G ρ tgt e items false true := by
  intro F Q Eh s O h
  refine a F _ _ s O fun v h1 tk1 U1 T1 R1 new => ?_
  obtain ⟨l, vs, n, rfl, hl, R⟩ := R1.list_inv
  exact it_list F U1 T1 hl R true (fun _ => .inl (new l rfl)) (fun b => get_none) (fun b => U1.none O.tab.objs T1.objs) h

/-- what a turn of a comprehension does when its tests hold -/
def compAct (elt : Expr) (gens : List Comprehension) (scope : Scope) (pos : Pos) (depth : Nat) (acc : Value) (env : Env) : Sem Unit :=
  match gens[depth + 1]? with
  | some g' => do
    let x ← eval g'.iter env
    standAt g'.iter.pos
    let x ← if g'.is_async != 0 then foldedIterable g'.iter x else foldedSetIterable g'.iter env x
    let _ ← runOwn (.compStart (.ListComp elt gens scope pos) (depth + 1) (← holding [x] (if g'.is_async != 0 then asyncIter x else pyIter x)) acc env) env
  | none => do let _ ← call (.builtin "list.append") [acc, ← eval elt env]
theorem compTurn_eq {elt : Expr} {gens : List Comprehension} {scope : Scope} {pos : Pos} {depth : Nat} {tgt iter : Expr} {ifs : List Expr} (hg : gens[depth]? = some ⟨tgt, iter, ifs, 0⟩) (hn : gens[depth + 1]? = none ∨ ∃ t' i' f', gens[depth + 1]? = some ⟨t', i', f', 0⟩) (it acc : Value) (env : Env) :
    compTurn (.ListComp elt gens scope pos) depth it acc env = (do
      standAt iter.pos
      match ← pyNext it with
      | none => pure (.done .next)
      | some v =>
        letOwnedTupleGo tgt it v
        assign tgt env v
        let mut ok := true
        for c in ifs do
          if ok then ok ← isTrue c env (eval c env)
        if ok then compAct elt gens scope pos depth acc env
        again (.compLoop (.ListComp elt gens scope pos) depth it acc env)) := by
  unfold compTurn compAct
  rcases hn with e | ⟨t', i', f', e⟩
  · simp only [hg, e]
    rfl
  · simp only [hg, e, bne_self_eq_false, Bool.false_eq_true, if_false, bind_assoc]
    rfl
theorem wpAny_compAct_two {elt tgt iter : Expr} {ifs : List Expr} {g : Comprehension} {scope : Scope} {pos : Pos} {acc : Value} {env : Env} {M : Model} {A : Around} {E : Value → Shared → Prop} {s : Shared} {Q : Unit → Shared → Prop}
    (h : wpAny M A (eval iter env) (fun x s₁ => wpAny M A (pyIter x) (fun it s₂ =>
      codeAny M A (.compStart (.ListComp elt [g, ⟨tgt, iter, ifs, 0⟩] scope pos) 1 it acc env) (fun r s' => match r with | .ok f => Q () s' | .error e => cameBackBy M A env E e s') s₂) E s₁) E s)
    (hs : ∀ x, foldedSetIterable iter env x = pure x := by intro _; rfl) : wpAny M A (compAct elt [g, ⟨tgt, iter, ifs, 0⟩] scope pos 0 acc env) Q E s := by
  show wpAny M A (do
    let x ← eval iter env
    standAt iter.pos
    let x ← foldedSetIterable iter env x
    let _ ← runOwn (.compStart (.ListComp elt [g, ⟨tgt, iter, ifs, 0⟩] scope pos) 1 (← holding [x] (pyIter x)) acc env) env) Q E s
  refine wpAny_bind (wpAny_mono h (fun x s₁ h₁ => wpAny_bind (wpAny_standAt (wpAny_bind (wpAny_of_eq (hs x) (wpAny_bind (wpAny_holding (wpAny_mono h₁ (fun it s₂ h₂ => wpAny_bind ?_) fun _ _ e => e))))))) fun _ _ e => e)
  exact wpAny_runOwn (codeAny_mono h₂ fun r s' hr => by cases r with | ok f => exact wpAny_pure hr | error e => exact hr)
theorem compStart_any {elt tgt iter : Expr} {gens : List Comprehension} {ifs : List Expr} {scope : Scope} {pos : Pos} {depth : Nat} {it acc : Value} {env : Env} {prog : Program} {w : World} {A : Around} {R : Result → Shared → Prop} {s : Shared} (hg : gens[depth]? = some ⟨tgt, iter, ifs, 0⟩)
    (h0 : codeAny (model prog w) A (.compLoop (.ListComp elt gens scope pos) depth it acc env) R s)
    (h : wpAny (model prog w) A (pyIter it) (fun it' s' => codeAny (model prog w) A (.compLoop (.ListComp elt gens scope pos) depth it' acc env) R s')
      (notedBy (model prog w) A env fun x s' => R (.error x) s') s) :
    codeAny (model prog w) A (.compStart (.ListComp elt gens scope pos) depth it acc env) R s := by
  refine codeAny_of_tree ?_
  show wpAny _ _ ((compStart (.ListComp elt gens scope pos) depth it acc env).onRaise (fun x => do noteFrame x env; standAt theWindowsPlace)) _ _ s
  refine wpAny_notedAt ?_
  have hc : (clausesOf (.ListComp elt gens scope pos))[depth]? = some ⟨tgt, iter, ifs, 0⟩ := hg
  unfold compStart
  simp only [hc]
  show wpAny _ _ (ask >>= _) _ _ s
  refine wpAny_bind (wpAny_askSetting (wpAny_ite ?_))
  split
  · first
      | exact wpAny_bind (wpAny_pure (wpAny_pure (And.intro rfl h0)))
      | exact wpAny_pure (And.intro rfl h0)
  · refine wpAny_bind (wpAny_rule ?_)
    show wpAny _ _ (standAt iter.pos >>= _) _ _ s
    exact wpAny_bind (wpAny_standAt (wpAny_bind (wpAny_mono h (fun it' s' h' => wpAny_pure (And.intro rfl h')) fun _ _ x => x)))
/-- the tests of a clause -/
def Tsts (G : Ctx) (ρ : List (Str × SV)) (ifs : List Expr) (b : Bool) : Prop :=
  Fm G → ∀ (Q : Bool → Shared → Prop) (Eh : Value → Shared → Prop) (s : Shared), Okay G ρ s.heap → (∀ h' tk, Up s.heap h' → TabsAt G h' → Q b { s with heap := h', toks := tk }) →
    wpAny (model Pr G.w) G.A (forIn ifs true fun c r => if r = true then do let ok ← isTrue c G.env (eval c G.env); pure (ForInStep.yield ok) else pure (ForInStep.yield r)) Q Eh s
theorem Tsts.nil {G : Ctx} {ρ : List (Str × SV)} : Tsts G ρ [] true := fun F Q Eh s O h => wpAny_tests_nil (h _ s.toks (Up.refl _) O.tab)
theorem Tsts.one {G : Ctx} {ρ : List (Str × SV)} {c : Expr} {b : Bool} (a : Tst G ρ c b) : Tsts G ρ [c] b := fun F Q Eh s O h => wpAny_tests_one (a F _ _ s O h)
/-- what a comprehension may gather -/
def OutFlat (z : Bool) (x : SV) : Prop := Pure x ∨ (z = false ∧ ∃ l, x = .tup l ∧ ∀ y ∈ l, Pure y)
theorem Rep.out {h h' : Heap} {z : Bool} {v : Value} {x : SV} (f : OutFlat z x) (k : z = false → ∀ b o xs n, h.get? b = some o → o.cls = .type "tuple" → o.data = .seq xs n → h'.get? b = some o) (r : Rep h v x) : Rep h' v x := by
  rcases f with p | ⟨hz, l, rfl, p⟩
  · exact r.pure p
  · cases r with
    | tup a b =>
      obtain ⟨o, e, c, n, d⟩ := a
      exact .tup ⟨o, k hz _ _ _ _ e c d, c, n, d⟩ (b.pure p)
theorem Reps.out {h h' : Heap} {z : Bool} (k : z = false → ∀ b o xs n, h.get? b = some o → o.cls = .type "tuple" → o.data = .seq xs n → h'.get? b = some o) : ∀ {vs : List Value} {l : List SV}, (∀ x ∈ l, OutFlat z x) → Reps h vs l → Reps h' vs l
  | _, _, _, .nil => .nil
  | _, _, f, .cons a b => .cons (a.out (f _ (.head _)) k) (b.out k fun x hx => f x (.tail _ hx))
/-- what is known of the tokens of values made before n -/
def Tk (n : Tok) : Value → Prop | .int _ t => 0 < t ∧ t < n | _ => True
def TkW (tf : Bool) (n : Tok) (v : Value) : Prop := tf = true → Tk n v
theorem TkW.mono {tf : Bool} {n m : Tok} {v : Value} (h : n ≤ m) (a : TkW tf n v) : TkW tf m v := fun e => by
  have := a e
  cases v <;> first | trivial | exact ⟨this.1, Nat.lt_of_lt_of_le this.2 h⟩
/-- an expression of which the token may be told -/
def EvT (tf : Bool) (G : Ctx) (ρ : List (Str × SV)) (e : Expr) (sv : SV) : Prop :=
  Fm G → ∀ (Q Eh : Value → Shared → Prop) (s : Shared), Okay G ρ s.heap →
    (∀ v h' tk, Up s.heap h' → TabsAt G h' → Rep h' v sv → TkW tf tk v → Q v { s with heap := h', toks := tk }) →
    wpAny (model Pr G.w) G.A (eval e G.env) Q Eh s
theorem Ev.t {G : Ctx} {ρ : List (Str × SV)} {e : Expr} {sv : SV} (a : Ev G ρ e sv) : EvT false G ρ e sv := fun F Q Eh s O h => a F Q Eh s O fun v h' tk U T R => h v h' tk U T R (fun z => nomatch z)
/-- a comprehension at work: hS: the heap it began with; D: the list it makes -/
structure CSt (G : Ctx) (hS : Heap) (D : Addr) (z : Bool) (V : Value → Prop) (ρ : List (Str × SV)) (outs : List SV) (h : Heap) : Prop where
  up : Up hS h
  fr : ∃ m, Fr G.h₀ G.env₀.locals h m
  tab : TabsAt G h
  cs : CellsStand G h
  ns : ∃ m, h.Ns G.env.locals m
  kn : ∀ x sv, ρ.lookup x = some sv → ∃ v, Has G.env h x v ∧ ∀ h', Up hS h' → Rep h' v sv
  acc : ∃ vs n, h.get? D = some ({ cls := .type "list", data := .seq vs.toArray n } : Obj) ∧ Reps h vs outs ∧ ∀ v ∈ vs, V v
  flat : ∀ x ∈ outs, OutFlat z x
section
variable {G : Ctx} {hS : Heap} {D : Addr} {z : Bool} {V : Value → Prop} {ρ : List (Str × SV)} {outs : List SV} {h h' : Heap}
theorem CSt.okay (C : CSt G hS D z V ρ outs h) : Okay G ρ h := ⟨C.fr, C.tab, fun x sv e => let ⟨v, a, b⟩ := C.kn x sv e; ⟨v, a, b h C.up⟩, C.cs, C.ns⟩
theorem CSt.weak {W : Value → Prop} (C : CSt G hS D z V ρ outs h) (k : ∀ v, V v → W v) : CSt G hS D z W ρ outs h := ⟨C.up, C.fr, C.tab, C.cs, C.ns, C.kn, let ⟨vs, n, e, r, w⟩ := C.acc; ⟨vs, n, e, r, fun v hv => k v (w v hv)⟩, C.flat⟩
theorem CSt.upd (C : CSt G hS D z V ρ outs h) (U : Up h h') (T : TabsAt G h') : CSt G hS D z V ρ outs h' := by
  have O := C.okay.up U T
  obtain ⟨vs, n, e, r, w⟩ := C.acc
  have TO := C.tab.objs
  exact ⟨C.up.trans U, O.fr, T, O.cs, O.ns, fun x sv q => let ⟨v, a, b⟩ := C.kn x sv q; ⟨v, a.up U TO, b⟩, ⟨vs, n, U.get TO e (fun t q => nomatch q), r.up U TO, w⟩, C.flat⟩
theorem CSt.off {wr : List Addr} {zw : Bool} (C : CSt G hS D z V ρ outs h) (X : Off wr zw h h') (hz : zw = true → z = true) (wS : ∀ b ∈ wr, hS.get? b = none) (w0 : ∀ b o, G.h₀.get? b = some o → b ∉ wr) (n30 : ∀ b ∈ ([30, 37] : List Addr), b ∉ wr) (wD : D ∉ wr) : CSt G hS D z V ρ outs h' := by
  obtain ⟨m, F⟩ := C.fr
  obtain ⟨m1, n1⟩ := C.ns
  obtain ⟨vs, n, e, r, w⟩ := C.acc
  refine ⟨fun b o q k => X.keep b o (fun hm => by rw [wS b hm] at q; cases q) (C.up b o q k), ⟨m, X.ns F.ns, fun b o q => X.keep b o (w0 b o q) (F.keep b o q), F.above⟩, X.tabs C.tab n30, fun y c hc => let ⟨⟨v, i⟩, j⟩ := C.cs y c hc; ⟨⟨v, X.cell i⟩, j⟩, ⟨m1, X.ns n1⟩,
    fun x sv q => let ⟨v, a, b⟩ := C.kn x sv q; ⟨v, X.has a, b⟩, ⟨vs, n, X.keep _ _ wD e, r.out (fun z0 b o xs k q _ d => X.keep b o (fun hm => ?_) q) C.flat, w⟩, C.flat⟩
  have : zw = false := by cases zw with | false => rfl | true => rw [hz rfl] at z0; cases z0
  exact (X.wrk b hm o q).2.2 this xs k d
theorem CSt.asg {xs : List Str} {ρ' : List (Str × SV)} (C : CSt G hS D z V ρ outs h) (O : OkS G ρ' none h') (K : Kp none h h') (k : ∀ b o, h.get? b = some o → b ≠ G.env.locals → (∀ x ∈ xs, (x, b) ∉ G.env.cells) → h'.get? b = some o) (has : ∀ y u, y ∉ xs → Has G.env h y u → Has G.env h' y u)
    (hxs : ∀ y ∈ xs, ρ.lookup y = none) (oL : hS.get? G.env.locals = none) (oC : ∀ x ∈ xs, ∀ b, (x, b) ∈ G.env.cells → hS.get? b = none) : CSt G hS D z V ρ outs h' := by
  obtain ⟨vs, n, e, r, w⟩ := C.acc
  refine ⟨fun b o q n => k b o (C.up b o q n) (fun w => by rw [w, oL] at q; cases q) (fun x hx w => by rw [oC x hx b w] at q; cases q), O.ok.fr, O.ok.tab, O.ok.cs, O.ok.ns, fun x sv q => ?_, ⟨vs, n, K _ _ e trivial (fun w => nomatch w), r.kp K, w⟩, C.flat⟩
  obtain ⟨v, a, b⟩ := C.kn x sv q
  exact ⟨v, has x v (fun w => by rw [hxs x w] at q; cases q) a, b⟩
theorem CSt.push {v : Value} {x : SV} {items : Array Value} {n n' : Nat} (C : CSt G hS D z V ρ outs h) (hD : hS.get? D = none) (h0D : G.h₀.get? D = none) (n30 : D ∉ ([30, 37] : List Addr)) {vs : List Value} (e : h.get? D = some ({ cls := .type "list", data := .seq vs.toArray n } : Obj)) (rs : Reps h vs outs) (ws : ∀ v ∈ vs, V v) {W : Value → Prop} (w : W v) (r : Rep h v x) (f : OutFlat z x)
    (hs : Heap.SameBut D h h') (e' : h'.get? D = some ({ cls := .type "list", data := .seq (vs ++ [v]).toArray n' } : Obj)) : CSt G hS D z (fun v => V v ∨ W v) ρ (outs ++ [x]) h' := by
  obtain ⟨m, F⟩ := C.fr
  obtain ⟨m1, n1⟩ := C.ns
  have ns : ∀ {a : Addr} {m : Str → Option Value}, h.Ns a m → h'.Ns a m := by
    rintro a m ⟨o, es, ep, q, d, k⟩
    refine ⟨o, es, ep, (hs.2 a (fun w => ?_)).trans q, d, k⟩
    subst w; rw [e] at q; cases q; cases d
  have ce : ∀ {a : Addr} {m : Option Value}, h.IsCell a m → h'.IsCell a m := by
    rintro a m ⟨o, q, d⟩
    refine ⟨o, (hs.2 a (fun w => ?_)).trans q, d⟩
    subst w; rw [e] at q; cases q; cases d
  have tp : ∀ b o xs k, h.get? b = some o → o.cls = .type "tuple" → o.data = .seq xs k → h'.get? b = some o := fun b o xs k q c d => by
    refine (hs.2 b (fun w => ?_)).trans q
    subst w; rw [e] at q; cases q; exact absurd c (fun z => by injection z with z; exact absurd z (by decide))
  refine ⟨fun b o q n => (hs.2 b (fun w => by rw [w, hD] at q; cases q)).trans (C.up b o q n), ⟨m, ns F.ns, fun b o q => (hs.2 b (fun w => by rw [w, h0D] at q; cases q)).trans (F.keep b o q), F.above⟩, ?_, fun y c hc => let ⟨⟨v, i⟩, j⟩ := C.cs y c hc; ⟨⟨v, ce i⟩, j⟩, ⟨m1, ns n1⟩,
    fun x sv q => ?_, ⟨vs ++ [v], n', e', ?_, fun y hy => (List.mem_append.mp hy).imp (ws y) fun hy => by rw [List.mem_singleton.mp hy]; exact w⟩, fun y hy => (List.mem_append.mp hy).elim (C.flat y) fun hy => List.mem_singleton.mp hy ▸ f⟩
  · obtain ⟨t1, t2, N, a, b⟩ := C.tab
    have cr : ∀ {c : Value} {q : Str}, h.CodeRec c q → h'.CodeRec c q := by
      rintro c q ⟨a, o, us, t, e1, g, d, r⟩
      refine ⟨a, o, us, t, e1, (hs.2 a (fun w => ?_)).trans g, d, r⟩
      subst w; rw [e] at g; cases g; cases d
    refine ⟨t1, t2, fun p hp => ⟨(hs.2 _ (fun w => ?_)).trans (N p hp).1, (N p hp).2⟩, a.keep fun _ _ e => cr e, b.keep fun _ _ e => cr e⟩
    rcases List.mem_cons.mp hp with rfl | hp'
    · exact n30 (w ▸ .head _)
    · rw [List.mem_singleton.mp hp'] at w; exact n30 (w ▸ .tail _ (.head _))
  · obtain ⟨v, a, b⟩ := C.kn x sv q
    refine ⟨v, ?_, b⟩
    cases a with
    | loc k m n e => exact .loc k m (ns n) e
    | cell k c l e => exact .cell k c l (ce e)
    | free k c l e => exact .free k c l (ce e)
  · exact (rs.out (fun _ => tp) C.flat).append (.cons (r.out f fun _ => tp) .nil)
end
/-- what a turn adds -/
def ActOk (tf : Bool) (G : Ctx) (hS : Heap) (D : Addr) (z : Bool) (ρ₀ ρ : List (Str × SV)) (act : Sem Unit) (os : List SV) : Prop :=
  ∀ (V : Value → Prop) (outs : List SV) (Q : Unit → Shared → Prop) (Eh : Value → Shared → Prop) (s : Shared), Okay G ρ s.heap → CSt G hS D z V ρ₀ outs s.heap → outs.length + os.length ≤ sizeLine →
    (∀ h' tk, CSt G hS D z (fun v => V v ∨ TkW tf tk v) ρ₀ (outs ++ os) h' → Kp (some D) s.heap h' → Q () { s with heap := h', toks := tk }) → wpAny (model Pr G.w) G.A act Q Eh s
/-- where a comprehension's list may lie -/
structure Dst (G : Ctx) (hS : Heap) (D : Addr) : Prop where
  hD : hS.get? D = none
  h0 : G.h₀.get? D = none
  n30 : D ∉ ([30, 37] : List Addr)
theorem ActOk.emit {tf : Bool} {G : Ctx} {hS : Heap} {D : Addr} {z : Bool} {ρ₀ ρ : List (Str × SV)} {elt : Expr} {gens : List Comprehension} {scope : Scope} {pos : Pos} {depth : Nat} {x : SV} (hn : gens[depth + 1]? = none) (F : Fm G) (d : Dst G hS D) (a : EvT tf G ρ elt x) (f : OutFlat z x) :
    ActOk tf G hS D z ρ₀ ρ (compAct elt gens scope pos depth (.ref D) G.env) [x] := by
  intro V outs Q Eh s O C hl h
  unfold compAct
  simp only [hn]
  refine wpAny_bind (a F _ _ s O fun v h1 tk1 U1 T1 R1 W1 => ?_)
  have C1 := C.upd U1 T1
  obtain ⟨vs, n, e, r, ws⟩ := C1.acc
  refine wpAny_bind (wpAny_list_append_plain (s := { s with heap := h1, toks := tk1 }) (items := vs.toArray) ⟨n, e⟩ (fun h2 pl hs => ?_) (by rw [List.size_toArray, r.length]; exact Nat.le_trans (Nat.le_add_right _ _) hl))
  obtain ⟨n', e'⟩ := pl
  rw [List.push_toArray] at e'
  refine wpAny_pure (h h2 tk1 (C1.push (items := #[]) d.hD d.h0 d.n30 e r ws W1 R1 f hs e') fun b o q k ne => ?_)
  exact (hs.2 b (fun w => ne (by rw [w]))).trans (U1.kp (m := none) O.tab.objs b o q k (fun w => nomatch w))
theorem filter_step {t : SV → Bool} {g : SV → List SV} {l : List SV} {i : Nat} {x : SV} (e : l[i]? = some x) : ((l.take (i + 1)).filter t).flatMap g = ((l.take i).filter t).flatMap g ++ (if t x then g x else []) := by
  rw [List.take_add_one, e, List.filter_append, List.flatMap_append]
  cases h : t x <;> simp [h]
theorem compLoop_ok {elt : Expr} {gens : List Comprehension} {scope : Scope} {pos : Pos} {depth : Nat} {tgt iter : Expr} {ifs : List Expr} (hg : gens[depth]? = some ⟨tgt, iter, ifs, 0⟩) (hn : gens[depth + 1]? = none ∨ ∃ t' i' f', gens[depth + 1]? = some ⟨t', i', f', 0⟩)
    {N : Tok} {tf : Bool} {G : Ctx} (F : Fm G) (S : Stores G) {hS hB : Heap} {D : Addr} {z zw : Bool} {I : Addr} {fp wr : List Addr} {hR : Heap} {items : List SV} {St : Nat → Heap → Prop} {V : Value → Prop} (W : Src N G tgt zw I fp wr hR items St) (hz : zw = true → z = true)
    {ρ : List (Str × SV)} {xs : List Str} {t : SV → Bool} {g : SV → List SV} {ρt : SV → List (Str × SV)} (hm : hR.get? D = none ∨ ∀ x ∈ items, Pure x)
    (asg : ∀ x ∈ items, AsgTo G xs tgt x ρ (ρt x) none) (hxs : ∀ y ∈ xs, ρ.lookup y = none) (tst : ∀ x ∈ items, Tsts G (ρt x) ifs (t x))
    (act : ∀ x ∈ items, t x = true → ActOk tf G hS D z ρ (ρt x) (compAct elt gens scope pos depth (.ref D) G.env) (g x))
    (d : Dst G hS D) (oL : hS.get? G.env.locals = none) (oC : ∀ x ∈ xs, ∀ b, (x, b) ∈ G.env.cells → hS.get? b = none) (wS : ∀ b ∈ wr, hS.get? b = none) (w0 : ∀ b o, G.h₀.get? b = some o → b ∉ wr) (n30 : ∀ b ∈ ([30, 37] : List Addr), b ∉ wr) (fD : D ∉ fp) (wf : ∀ b ∈ wr, b ∈ fp)
    {s : Shared} (hN : N ≤ s.toks) {outs : List SV} (C : CSt G hS D z V ρ outs s.heap) (st : St 0 s.heap) (K : Kp (some D) hR s.heap) (wB : ∀ b ∈ wr, hB.get? b = none) (KB : Kp (some D) hB s.heap) (hl : outs.length + ((items.filter t).flatMap g).length ≤ sizeLine) {R : Result → Shared → Prop}
    (fin : ∀ h' tk, CSt G hS D z (fun v => V v ∨ TkW tf tk v) ρ (outs ++ (items.filter t).flatMap g) h' → Kp (some D) hB h' → R (.ok .next) { s with heap := h', toks := tk }) :
    codeAny (model Pr G.w) G.A (.compLoop (.ListComp elt gens scope pos) depth (.ref I) (.ref D) G.env) R s := by
  have hlen : ∀ i, (outs ++ ((items.take i).filter t).flatMap g).length ≤ sizeLine := fun i => by
    refine Nat.le_trans ?_ hl
    rw [List.length_append]
    refine Nat.add_le_add_left ?_ _
    conv => rhs; rw [← List.take_append_drop i items, List.filter_append, List.flatMap_append, List.length_append]
    exact Nat.le_add_right _ _
  refine codeAny_loop rfl (fun n s' => ∃ i h' tk, s' = { s with heap := h', toks := tk } ∧ i ≤ items.length ∧ n = items.length + 1 - i ∧ St i h' ∧ CSt G hS D z (fun v => V v ∨ TkW tf tk v) ρ (outs ++ ((items.take i).filter t).flatMap g) h' ∧ Kp (some D) hR h' ∧ Kp (some D) hB h' ∧ N ≤ tk) ?_ (items.length + 1)
    ⟨0, s.heap, s.toks, rfl, Nat.zero_le _, rfl, st, by simpa using C.weak fun _ h => .inl h, K, KB, hN⟩
  rintro n s' ⟨i, h2, tk2, rfl, hi, rfl, st2, C2, K2, B2, N2⟩
  show wpAny _ G.A ((compTurn (.ListComp elt gens scope pos) depth (.ref I) (.ref D) G.env).onRaise (fun x => do noteFrame x G.env; theTreesLotGoes x)) _ _ _
  refine wpAny_noted (wpAny_with_toks (n := tk2) (Nat.le_refl _) ?_)
  rw [compTurn_eq hg hn]
  refine wpAny_bind (wpAny_standAt (wpAny_bind ?_))
  by_cases hlt : i < items.length
  · have hx : items[i]? = some items[i] := List.getElem?_eq_getElem hlt
    have hmem : items[i] ∈ items := List.getElem_mem hlt
    generalize items[i] = x at hx hmem
    have hK : ∃ m, (m = none ∨ ∀ x ∈ items, Pure x) ∧ Kp m hR h2 := by
      rcases hm with e | p
      · exact ⟨none, .inl rfl, fun b o q k _ => K2 b o q k fun w => by cases w; rw [e] at q; cases q⟩
      · exact ⟨some D, .inr p, K2⟩
    obtain ⟨m, hm1, hm2⟩ := hK
    refine W.next m i x _ _ _ hm1 hx st2 hm2 N2 fun v h3 tk3 go => ?_
    refine wpAny_bind (go _ _ fun h4 st4 R4 k4 => ?_)
    have X4 : Off wr zw h2 h4 := ⟨k4, W.wrk i h2 st2⟩
    have C4 := C2.off X4 hz wS w0 n30 (fun w => fD (wf D w))
    refine wpAny_bind (asg x hmem F S _ _ { s with heap := h4, toks := tk3 } v C4.okay.s R4 fun h5 tk5 O5 K5 k5 has5 => ?_)
    have C5 := C4.asg O5 K5 k5 has5 hxs oL oC
    have kk : ∀ {hX : Heap}, (∀ b ∈ wr, hX.get? b = none) → Kp (some D) hX h2 → Kp (some D) hX h5 := fun {hX} w k b o q c ne => K5 b o (k4 b o (fun hm => by rw [w b hm] at q; cases q) (k b o q c ne)) c (fun z => nomatch z)
    have st5 : St (i + 1) h5 := W.frame _ _ _ st4 fun b hb o e => by
      obtain ⟨o', e', c⟩ := W.stay _ _ st4 b hb
      rw [e] at e'; cases e'
      exact K5 b o e c (fun z => nomatch z)
    refine wpAny_bind (tst x hmem F _ _ { s with heap := h5, toks := tk5 } O5.ok fun h6 tk6 U6 T6 => ?_)
    have C6 := C5.upd U6 T6
    have st6 : St (i + 1) h6 := W.frame _ _ _ st5 fun b hb o e => by
      obtain ⟨o', e', c⟩ := W.stay _ _ st5 b hb
      rw [e] at e'; cases e'
      exact U6.kp (m := none) C5.tab.objs b o e c (fun z => nomatch z)
    have K6 : ∀ {hX : Heap}, (∀ b ∈ wr, hX.get? b = none) → Kp (some D) hX h2 → Kp (some D) hX h6 := fun w k => (kk w k).trans (U6.kp C5.tab.objs)
    cases ht : t x with
    | false =>
      refine wpAny_pure fun le => ⟨rfl, items.length + 1 - (i + 1), by omega, i + 1, h6, tk6, rfl, hlt, rfl, st6, ?_, K6 W.fresh K2, K6 wB B2, Nat.le_trans N2 le⟩
      rw [filter_step hx, ht]; simpa using C6.weak fun v h => h.imp_right (TkW.mono le)
    | true =>
      refine wpAny_bind (act x hmem ht _ _ _ _ { s with heap := h6, toks := tk6 } (O5.ok.up U6 T6) C6 (by have := hlen (i + 1); rw [filter_step hx, ht, if_pos rfl, ← List.append_assoc, List.length_append] at this; exact this) fun h7 tk7 C7 K7 => ?_)
      refine wpAny_pure fun le => ⟨rfl, items.length + 1 - (i + 1), by omega, i + 1, h7, tk7, rfl, hlt, rfl, ?_, ?_, (K6 W.fresh K2).trans K7, (K6 wB B2).trans K7, Nat.le_trans N2 le⟩
      · refine W.frame _ _ _ st6 fun b hb o e => ?_
        obtain ⟨o', e', c⟩ := W.stay _ _ st6 b hb
        rw [e] at e'; cases e'
        exact K7 b o e c fun w => by cases w; exact fD hb
      · rw [filter_step hx, ht]; simpa using C7.weak fun v h => h.elim (fun h => h.imp_right (TkW.mono le)) .inr
  · have hin : i = items.length := by omega
    subst hin
    refine W.done _ _ _ st2 fun h3 tk3 k3 => wpAny_pure fun le => ?_
    rw [List.take_length] at C2
    exact fin h3 tk3 ((C2.weak fun v h => h.imp_right (TkW.mono le)).off ⟨k3, W.wrk _ h2 st2⟩ hz wS w0 n30 (fun w => fD (wf D w))) fun b o q c ne => k3 b o (fun hm => by rw [wB b hm] at q; cases q) (B2 b o q c ne)

/-- the cells that a block hands to a comprehension -/
def closG (cells : List (Str × Addr)) : List (Str × NameKind) → List (Str × Addr) → List (Str × Addr)
  | [], acc => acc
  | (x, k) :: r, acc => if k == .free then closG cells r ((x, (cells.lookup x).getD 0) :: acc) else closG cells r acc
theorem closure_eq {env : Env} : ∀ (names : List (Str × NameKind)) (acc : List (Str × Addr)), (∀ y ∈ names, y.2 = .free → (env.cells.lookup y.1).isSome = true) →
    (forIn names acc (fun (x : Str × NameKind) cs => match x with | (name, kind) => if kind == .free then do let a ← cellOf env name; pure (ForInStep.yield ((name, a) :: cs)) else pure (ForInStep.yield cs)) : Sem _) = pure (closG env.cells names acc)
  | [], _, _ => by rw [List.forIn_nil]; rfl
  | (x, k) :: r, acc, h => by
    rw [List.forIn_cons]
    unfold closG
    cases q : k == NameKind.free with
    | true =>
      obtain ⟨c, hc⟩ := Option.isSome_iff_exists.mp (h _ (.head _) (eq_of_beq q))
      simp only [q, if_true, hc, cellOf, Option.getD_some, pure_bind]
      exact closure_eq r _ fun y hy => h y (.tail _ hy)
    | false =>
      simp only [q, Bool.false_eq_true, if_false, pure_bind]
      exact closure_eq r _ fun y hy => h y (.tail _ hy)
theorem closureFor_eq {scope : Scope} {env : Env} (h : ∀ y ∈ scope.names, y.2 = .free → (env.cells.lookup y.1).isSome = true) : closureFor scope env = pure (closG env.cells scope.names []) := by
  unfold closureFor
  rw [← closure_eq scope.names [] h]
  simp only [bind_pure]
theorem closG_free {cells : List (Str × Addr)} : ∀ (names : List (Str × NameKind)) (acc : List (Str × Addr)), ∀ p ∈ closG cells names acc, p ∈ acc ∨ (p.1, NameKind.free) ∈ names
  | [], _, _, h => .inl h
  | (x, k) :: r, acc, p, h => by
    unfold closG at h
    split at h
    · rename_i q
      rcases closG_free r _ p h with h | h
      · rcases List.mem_cons.mp h with rfl | h
        · rw [← eq_of_beq q]; exact .inr (.head _)
        · exact .inl h
      · exact .inr (.tail _ h)
    · rcases closG_free r _ p h with h | h
      · exact .inl h
      · exact .inr (.tail _ h)
theorem closG_mem {cells : List (Str × Addr)} : ∀ (names : List (Str × NameKind)) (acc : List (Str × Addr)), (∀ y ∈ names, y.2 = .free → (cells.lookup y.1).isSome = true) → (∀ p ∈ acc, cells.lookup p.1 = some p.2) → ∀ p ∈ closG cells names acc, cells.lookup p.1 = some p.2
  | [], _, _, h => h
  | (x, k) :: r, acc, hn, h => by
    unfold closG
    split
    · rename_i q
      refine closG_mem r _ (fun y hy => hn y (.tail _ hy)) fun p hp => ?_
      rcases List.mem_cons.mp hp with rfl | hp
      · obtain ⟨c, hc⟩ := Option.isSome_iff_exists.mp (hn _ (.head _) (eq_of_beq q))
        show cells.lookup x = some ((cells.lookup x).getD 0)
        have hc' : cells.lookup x = some c := hc
        rw [hc']; rfl
      · exact h p hp
    · exact closG_mem r acc (fun y hy => hn y (.tail _ hy)) h
theorem closG_some {cells : List (Str × Addr)} {x : Str} : ∀ (names : List (Str × NameKind)) (acc : List (Str × Addr)), names.lookup x = some .free ∨ (acc.lookup x).isSome = true → ((closG cells names acc).lookup x).isSome = true
  | [], acc, h => h.elim (fun z => nomatch z) id
  | (y, k) :: r, acc, h => by
    unfold closG
    rw [List.lookup_cons] at h
    cases q : x == y with
    | true =>
      rw [q] at h
      split
      · exact closG_some r _ (.inr (by simp [List.lookup_cons, q]))
      · rename_i w
        rcases h with h | h
        · exact absurd (by cases h; rfl) w
        · exact closG_some r _ (.inr h)
    | false =>
      rw [q] at h
      split
      · refine closG_some r _ (h.imp id fun h => ?_)
        rw [List.lookup_cons, q]; exact h
      · exact closG_some r _ h
theorem cellsFrom_skip {x : Str} : ∀ (names : List (Str × NameKind)) (n : Nat) (acc : List (Str × Addr)), (∀ k, (x, k) ∈ names → k ≠ .cell) → (cellsFrom n names acc).lookup x = acc.lookup x
  | [], _, _, _ => rfl
  | (y, k) :: r, n, acc, h => by
    unfold cellsFrom
    split
    · rename_i q
      rw [cellsFrom_skip r _ _ fun k hk => h k (.tail _ hk), List.lookup_cons]
      have : (x == y) = false := by
        cases w : x == y with
        | false => rfl
        | true => exact absurd (eq_of_beq q) (h k (by rw [eq_of_beq w]; exact .head _))
      rw [this]
    · exact cellsFrom_skip r _ _ fun k hk => h k (.tail _ hk)
theorem look_map {c : Str → NameKind → Bool} : ∀ (names : List (Str × NameKind)) (x : Str), (names.map fun y => if c y.1 y.2 then (y.1, NameKind.cell) else (y.1, y.2)).lookup x = (names.lookup x).map fun k => if c x k then .cell else k
  | [], _ => rfl
  | (y, k) :: r, x => by
    rw [List.map_cons, List.lookup_cons]
    have e : (if c y k = true then (y, NameKind.cell) else (y, k)) = (y, if c y k then .cell else k) := by split <;> rfl
    show List.lookup x ((if c y k = true then (y, NameKind.cell) else (y, k)) :: _) = _
    rw [e, List.lookup_cons, List.lookup_cons]
    cases q : x == y with
    | true => rw [eq_of_beq q]; rfl
    | false => exact look_map r x
theorem kind_relabel {scope : Scope} {env env' : Env} (he : env'.scope = relabel scope env) {x : Str} : env'.kindOf x = (scope.names.lookup x).map fun k => if (k == .free && env.scope.kind == .function && env.kindOf x == some .cell) then .cell else k := by
  show env'.scope.names.lookup x = _
  rw [he]
  exact look_map (c := fun n k => k == .free && env.scope.kind == .function && env.kindOf n == some .cell) scope.names x
theorem newEnvC {scope : Scope} {globals : Addr} {cl : List (Str × Addr)} {qual : Str} {env : Env} {M : Model} {A : Around} {E : Value → Shared → Prop} {s : Shared} {Q : Env → Shared → Prop}
    (h : ∀ h', Ext s.heap h' → h'.Ns s.heap.objs.size (fun _ => none) → (∀ n c, (n, c) ∈ cellsFrom (s.heap.objs.size + 1) scope.names [] → h'.IsCell c none ∧ s.heap.objs.size + 1 ≤ c) →
      Q { scope, locals := s.heap.objs.size, globals, cells := cellsFrom (s.heap.objs.size + 1) scope.names cl, qual, func := none, code := env.code, frame := env.frame, builtins := env.builtins } { s with heap := h' }) :
    wpAny M A (newFunctionEnv scope globals cl [] qual none .none (some env)) Q E s := by
  simp only [newFunctionEnv, Option.isSome_some, if_true]
  refine wpAny_bind (wpAny_alloc ?_)
  refine wpAny_bind (wpAny_layCells _ (fun name kind cells => by cases hkc : kind == NameKind.cell <;> simp [hkc]) _ _ _ _ ?_)
  have ok := cellsFrom_ok scope.names (s.heap.push { cls := .type "dict", data := .dict #[] }) (s.heap.objs.size + 1) [] ⟨fun _ _ hm => (nomatch hm), List.Pairwise.nil⟩ (by rw [Heap.size_push]; exact Nat.le_refl _)
  rw [Heap.size_push] at ok
  rw [show ({ s with heap := s.heap.push { cls := .type "dict", data := .dict #[] } } : Shared).heap.objs.size = s.heap.objs.size + 1 from Heap.size_push ..]
  rw [List.forIn_nil]
  refine wpAny_bind (wpAny_pure (wpAny_pure (h _ (fun b o e => pushCells_keeps _ _ b o (Heap.get?_push_of_some _ e)) ((Heap.Ns.new s.heap (.type "dict")).keeps (pushCells_keeps _ _)) fun n c hm => ok.empty n c hm)))
theorem cellsFrom_mem : ∀ (names : List (Str × NameKind)) (n : Nat) (acc : List (Str × Addr)) (p : Str × Addr), p ∈ cellsFrom n names acc → p ∈ acc ∨ p ∈ cellsFrom n names []
  | [], _, _, _, h => .inl h
  | (x, k) :: r, n, acc, p, h => by
    unfold cellsFrom at h ⊢
    split at h
    · rename_i q
      rw [if_pos q]
      have up : ∀ (names : List (Str × NameKind)) (n : Nat) (acc : List (Str × Addr)) (p : Str × Addr), p ∈ acc → p ∈ cellsFrom n names acc := by
        intro names
        induction names with
        | nil => exact fun _ _ _ h => h
        | cons y r ih =>
          intro n acc p h
          unfold cellsFrom
          split
          · exact ih _ _ _ (.tail _ h)
          · exact ih _ _ _ h
      rcases cellsFrom_mem r _ _ p h with h | h
      · rcases List.mem_cons.mp h with rfl | h
        · exact .inr (up _ _ _ _ (.head _))
        · exact .inl h
      · right
        have mono : ∀ (names : List (Str × NameKind)) (n : Nat) (a b : List (Str × Addr)) (p : Str × Addr), (∀ q ∈ a, q ∈ b) → p ∈ cellsFrom n names a → p ∈ cellsFrom n names b := by
          intro names
          induction names with
          | nil => exact fun _ a b p k h => k p h
          | cons y r ih =>
            intro n a b p k h
            unfold cellsFrom at h ⊢
            split
            · rename_i w
              rw [if_pos w] at h
              exact ih _ _ _ _ (fun q hq => (List.mem_cons.mp hq).elim (fun e => e ▸ .head _) fun hq => .tail _ (k q hq)) h
            · rename_i w
              rw [if_neg w] at h
              exact ih _ _ _ _ k h
        exact mono r _ [] _ _ (fun q hq => by cases hq) h
    · rename_i q
      rw [if_neg q]
      exact cellsFrom_mem r _ _ p h
/-- what is asked of a comprehension's names -/
structure ScopeOk (scope : Scope) (namesG : List (Str × NameKind)) (xs : List Str) : Prop where
  kind : scope.kind = .function
  loc : ∀ y ∈ scope.names, y.2 = .local → scope.names.lookup y.1 = some .local
  cel : ∀ y ∈ scope.names, y.2 = .cell → scope.names.lookup y.1 = some .cell
  fre : ∀ y ∈ scope.names, y.2 = .free → scope.names.lookup y.1 = some .free ∧ (namesG.lookup y.1 = some .free ∨ namesG.lookup y.1 = some .cell)
  own : ∀ x ∈ xs, scope.names.lookup x = some .local ∨ scope.names.lookup x = some .cell
def scopeB (scope : Scope) (namesG : List (Str × NameKind)) (xs : List Str) : Bool := decide (scope.kind = .function ∧ (∀ y ∈ scope.names, y.2 = .local → scope.names.lookup y.1 = some .local) ∧ (∀ y ∈ scope.names, y.2 = .cell → scope.names.lookup y.1 = some .cell) ∧ (∀ y ∈ scope.names, y.2 = .free → scope.names.lookup y.1 = some .free ∧ (namesG.lookup y.1 = some .free ∨ namesG.lookup y.1 = some .cell)) ∧ ∀ x ∈ xs, scope.names.lookup x = some .local ∨ scope.names.lookup x = some .cell)
theorem ScopeOk.of {scope : Scope} {namesG : List (Str × NameKind)} {xs : List Str} (h : scopeB scope namesG xs = true) : ScopeOk scope namesG xs := let ⟨a, b, c, d, e⟩ := of_decide_eq_true h; ⟨a, b, c, d, e⟩
/-- the list at D, and what is known of its values -/
def Acc (tf : Bool) (tk : Tok) (D : Addr) (h : Heap) (out : List SV) : Prop := ∃ vs n, h.get? D = some ({ cls := .type "list", data := .seq vs.toArray n } : Obj) ∧ Reps h vs out ∧ ∀ v ∈ vs, TkW tf tk v
theorem Acc.rep {tf : Bool} {tk : Tok} {D : Addr} {h : Heap} {out : List SV} (a : Acc tf tk D h out) : Rep h (.ref D) (.list out) := let ⟨_, _, e, r, _⟩ := a; .list e r
theorem comp_core {N : Tok} {tf : Bool} {G : Ctx} {elt tgt iter : Expr} {ifs : List Expr} {rest : List Comprehension} {scope : Scope} {pos : Pos} {namesG : List (Str × NameKind)} {d u : Nat} (A : At G namesG d u) {xs : List Str} (so : ScopeOk scope namesG xs) (hr : rest[0]? = none ∨ ∃ t' i' f', rest[0]? = some ⟨t', i', f', 0⟩)
    (F : Fm G) {items : List SV} {zw z pr : Bool} (hz : zw = true → z = true) {ρ ρc : List (Str × SV)} (hρ : ∀ x sv, ρc.lookup x = some sv → ρ.lookup x = some sv ∧ scope.names.lookup x = some .free) (src : ItEvN N G ρ tgt iter items zw pr)
    {t : SV → Bool} {g : SV → List SV} {ρt : SV → List (Str × SV)}
    (asg : ∀ G', At G' scope.names d u → ∀ x ∈ items, AsgTo G' xs tgt x ρc (ρt x) none) (tst : ∀ G', At G' scope.names d u → ∀ x ∈ items, Tsts G' (ρt x) ifs (t x))
    (act : ∀ G' hS D, At G' scope.names d u → Fm G' → Stores G' → Dst G' hS D → hS.get? G'.env.locals = none → (∀ x ∈ xs, ∀ b, (x, b) ∈ G'.env.cells → hS.get? b = none) → (∀ b o, G'.h₀.get? b = some o → hS.get? b = some o) → (∀ x ∈ ([30, 37] : List Addr), ∃ o, hS.get? x = some o) → ∀ x ∈ items, t x = true → ActOk tf G' hS D z ρc (ρt x) (compAct elt (⟨tgt, iter, ifs, 0⟩ :: rest) scope pos 0 (.ref D) G'.env) (g x))
    (hl : ((items.filter t).flatMap g).length ≤ sizeLine)
    {use : Option (Value → Sem Unit)} {cpos : Pos} {Q Eh : Value → Shared → Prop} {s : Shared} (hN : N ≤ s.toks) (O : Okay G ρ s.heap)
    (fin : ∀ D C h' tk, Up s.heap h' → TabsAt G h' → Acc tf tk D h' ((items.filter t).flatMap g) → s.heap.get? D = none → s.heap.get? C = none → (∃ m, h'.Ns C m) →
      compPost (model Pr G.w) G.A Eh use Q (.ref D) C (.ok .next) { s with heap := h', toks := tk })
    (hs : ∀ x, foldedSetIterable iter G.env x = pure x := by intro _; rfl) :
    wpAny (model Pr G.w) G.A (comprehension (.ListComp elt (⟨tgt, iter, ifs, 0⟩ :: rest) scope pos) scope G.env cpos (newList []) false (eval iter G.env) use) Q Eh s := by
  have hsome : ∀ y ∈ scope.names, y.2 = .free → (G.env.cells.lookup y.1).isSome = true := fun y hy e => A.cell _ (so.fre y hy e).2
  refine wpAny_comprehension_free (use := use) rfl hs (closureFor_eq hsome) so.kind so.loc (src.up F hN O fun I fp wr hR St h1 tk1 W st0 U1 X1 T1 hw N1 => ?_)
  have TO1 := T1.objs
  refine wpAny_newObj_type ?_ (hd := by size_fits)
  have hD1 : h1.get? h1.objs.size = none := get_none (Nat.le_refl _)
  have XD := push_ext h1 { cls := .type "list", dict := none, data := .seq ([] : List Value).toArray }
  have eD : (h1.push { cls := .type "list", dict := none, data := .seq ([] : List Value).toArray }).get? h1.objs.size = some _ := Heap.get?_push_size _ rfl
  have sD : (h1.push { cls := .type "list", dict := none, data := .seq ([] : List Value).toArray }).objs.size = h1.objs.size + 1 := Heap.size_push _ _
  show wpAny _ _ _ _ _ { s with heap := h1.push { cls := .type "list", dict := none, data := .seq ([] : List Value).toArray }, toks := tk1 }
  generalize h1.push { cls := .type "list", dict := none, data := .seq ([] : List Value).toArray } = h2 at XD eD sD
  refine newEnvC fun h3 X3 ns3 cs3 => ?_
  dsimp only at X3 ns3 cs3 ⊢
  generalize hDe : h1.objs.size = D at *
  have hC2 : h2.get? h2.objs.size = none := get_none (Nat.le_refl _)
  generalize hCe : h2.objs.size = C at *
  have XX : Ext h1 h3 := XD.trans X3
  have Us1 : Up s.heap h1 := fun b o e n => X1 b o (U1 b o e n)
  have Us : Up s.heap h3 := Us1.trans (Ext.up XX)
  have no1 : ∀ {b : Addr}, h1.get? b = none → s.heap.get? b = none := fun e => Us1.none O.tab.objs TO1 e
  have hDs : s.heap.get? D = none := no1 hD1
  have h1C : h1.get? C = none := get_none (by omega)
  have hCs : s.heap.get? C = none := no1 h1C
  have T3 : TabsAt G h3 := T1.ext XX
  have O3 : Okay G ρ h3 := O.up Us T3
  obtain ⟨m0, F0⟩ := O.fr
  have h0s : ∀ {b : Addr}, s.heap.get? b = none → G.h₀.get? b = none := fun {b} e => by
    cases q : G.h₀.get? b with
    | none => rfl
    | some o => rw [F0.keep b o q] at e; cases e
  let cenv : Env := { scope := relabel scope G.env, locals := C, globals := G.env.globals, cells := cellsFrom (C + 1) scope.names (closG G.env.cells scope.names []), qual := G.env.qual, func := none, code := G.env.code, frame := G.env.frame, builtins := G.env.builtins }
  let G' : Ctx := { G with env := cenv }
  have clm : ∀ p ∈ closG G.env.cells scope.names [], G.env.cells.lookup p.1 = some p.2 := closG_mem _ _ hsome (fun _ z => nomatch z)
  have memc : ∀ {x : Str} {c : Addr}, G.env.cells.lookup x = some c → (x, c) ∈ G.env.cells := fun l => mem_of_lookup l
  have inS : ∀ {x : Str} {c : Addr}, (x, c) ∈ G.env.cells → ∃ o, s.heap.get? c = some o := fun {x c} hm => let ⟨⟨v, o, e, _⟩, _⟩ := O.cs x c hm; ⟨o, e⟩
  have ltS : ∀ {c : Addr} {o : Obj}, s.heap.get? c = some o → c < C := fun {c o} e => by
    rcases Nat.lt_or_ge c C with h | h
    · exact h
    · have := no1 (get_none (h := h1) (a := c) (by omega)); rw [e] at this; cases this
  have cellc : ∀ {x : Str} {c : Addr}, (x, c) ∈ cenv.cells → ((x, c) ∈ G.env.cells) ∨ (h3.IsCell c none ∧ C + 1 ≤ c ∧ (x, c) ∈ cellsFrom (C + 1) scope.names []) := fun {x c} hm => by
    rcases cellsFrom_mem _ _ _ _ hm with h | h
    · exact .inl (memc (clm _ h))
    · exact .inr ⟨(cs3 x c h).1, (cs3 x c h).2, h⟩
  have F' : Fm G' := by
    obtain ⟨dp, un, gd, cn, cs, L, a, ccd, cl, outer, A₀, base, mean, mg, mb, hA, he, B, X, T, kk, q1, q2, hgl, hbl, hks⟩ := F
    exact ⟨dp, un, gd, cn, cs, L, a, ccd, cl, outer, A₀, base, mean, mg, mb, hA, he, B, X, T, kk, q1, q2, hgl, hbl, so.kind⟩
  have S' : Stores G' := ⟨h0s hCs, cellsFrom_inj _ _ _ (fun x y c h1 h2 => A.inj x y c (memc (clm _ h1)) (memc (clm _ h2))) fun p hp => by
    obtain ⟨o, e⟩ := inS (memc (clm p hp))
    exact Nat.lt_succ_of_lt (ltS e)⟩
  have A' : At G' scope.names d u := ⟨fun x k e n => by
      rw [kind_relabel (env := G.env) (env' := cenv) rfl, e]
      have : (k == NameKind.free) = false := by cases k <;> first | rfl | exact absurd rfl n
      simp only [Option.map_some, this, Bool.false_and, Bool.false_eq_true, if_false], fun x e => by
      rw [kind_relabel (env := G.env) (env' := cenv) rfl, e]
      simp only [Option.map_some]
      split
      · exact .inr rfl
      · exact .inl rfl, fun x e => by
      refine cellsFrom_some scope.names (C + 1) _ ?_
      rcases e with e | e
      · exact .inr (closG_some _ _ (.inl e))
      · exact .inl e, S'.inj, A.d, A.u⟩
  have hasF : ∀ {x : Str} {v : Value}, scope.names.lookup x = some .free → Has G.env h3 x v → Has cenv h3 x v := fun {x v} e hv => by
    have hlk : cenv.cells.lookup x = G.env.cells.lookup x := by
      show (cellsFrom (C + 1) scope.names (closG G.env.cells scope.names [])).lookup x = _
      rw [cellsFrom_skip _ _ _ fun k hk w => by subst w; rw [so.cel _ hk rfl] at e; cases e]
      obtain ⟨c, hc⟩ := Option.isSome_iff_exists.mp (closG_some (cells := G.env.cells) scope.names [] (.inl e))
      rw [hc]
      exact (clm _ (mem_of_lookup hc)).symm
    have hkd := kind_relabel (scope := scope) (env := G.env) (env' := cenv) rfl (x := x)
    rw [e] at hkd
    obtain ⟨c, hc⟩ := Option.isSome_iff_exists.mp (hsome _ (mem_of_lookup e) rfl)
    have hfk : G.env.scope.kind = .function := F.kind
    cases hv with
    | loc k =>
      exfalso
      rcases (so.fre _ (mem_of_lookup e) rfl).2 with q | q
      · rcases A.free x q with w | w <;> rw [k] at w <;> cases w
      · have := A.kind x _ q (fun z => nomatch z); rw [k] at this; cases this
    | cell k c2 l ec =>
      refine .cell ?_ c2 (hlk.trans l) ec
      rw [hkd, k, hfk]; rfl
    | free k c2 l ec =>
      refine .free ?_ c2 (hlk.trans l) ec
      rw [hkd, k, hfk]; rfl
  have C0 : CSt G' s.heap D z (fun _ => False) ρc [] h3 := by
    obtain ⟨m3, F3⟩ := O3.fr
    refine ⟨Us, ⟨m3, F3⟩, T3, fun x c hm => ?_, ⟨_, ns3⟩, fun x sv e => ?_, ⟨[], 0, X3 _ _ eD, .nil, fun _ z => nomatch z⟩, fun _ z => nomatch z⟩
    · rcases cellc hm with h | ⟨h, k, _⟩
      · exact O3.cs x c h
      · exact ⟨⟨_, h⟩, h0s (no1 (get_none (by omega)))⟩
    · obtain ⟨e1, e2⟩ := hρ x sv e
      obtain ⟨v, hv, r⟩ := O.kn x sv e1
      exact ⟨v, hasF e2 (hv.up Us O.tab.objs), fun h' U => r.up U O.tab.objs⟩
  have dst : Dst G' s.heap D := ⟨hDs, h0s hDs, fun hm => by obtain ⟨t, e⟩ := O.tab.objs D hm; rw [hDs] at e; cases e⟩
  have oC : ∀ x ∈ xs, ∀ b, (x, b) ∈ G'.env.cells → s.heap.get? b = none := fun x hx b hm => by
    rcases cellsFrom_mem _ _ _ _ hm with h | h
    · exfalso
      rcases closG_free _ _ _ h with h | h
      · cases h
      · have := (so.fre _ h rfl).1
        rcases so.own x hx with q | q <;> rw [show scope.names.lookup x = some .free from this] at q <;> cases q
    · exact no1 (get_none (by have := (cs3 x b h).2; omega))
  have n30 : ∀ b ∈ ([30, 37] : List Addr), b ∉ wr := fun b hb hm => by
    obtain ⟨t, e⟩ := O.tab.objs b hb
    rw [hw b hm] at e; cases e
  have st3 : St 0 h3 := W.frame _ _ _ st0 fun b _ o e => XX b o e
  have fD : D ∉ fp := fun hm => by
    obtain ⟨o, e, _⟩ := W.stay _ _ st0 D hm
    rw [hD1] at e; cases e
  have hRD : hR.get? D = none := by
    cases q : hR.get? D with
    | none => rfl
    | some o => rw [X1 D o q] at hD1; cases hD1
  have W' : Src N G' tgt zw I fp wr hR items St := ⟨W.sub, W.fresh, W.stay, W.wrk, W.frame, W.next, W.done, W.self⟩
  have loop : codeAny (model Pr G.w) G.A (.compLoop (.ListComp elt (⟨tgt, iter, ifs, 0⟩ :: rest) scope pos) 0 (.ref I) (.ref D) cenv) (compPost (model Pr G.w) G.A Eh use Q (.ref D) C) { s with heap := h3, toks := tk1 } := by
    refine compLoop_ok (G := G') (hB := s.heap) (s := { s with heap := h3, toks := tk1 }) (tgt := tgt) (iter := iter) (ifs := ifs) rfl (by simpa using hr) F' S' (W := W') hz (.inl hRD) (asg G' A') (fun y hy => ?_) (tst G' A') (act G' s.heap D A' F' S' dst hCs oC F0.keep fun x hx => let ⟨t, e⟩ := O.tab.objs x hx; ⟨_, e⟩) dst hCs oC hw (fun b o e hm => ?_) n30 fD W.sub N1 C0 st3 (fun b o e k _ => XX b o (X1 b o e)) hw (Us.kp O.tab.objs) (by simpa using hl) fun h4 tk4 C4 K4 => ?_
    · cases q : ρc.lookup y with
      | none => rfl
      | some sv =>
        have := (hρ y sv q).2
        rcases so.own y hy with w | w <;> rw [this] at w <;> cases w
    · have := F0.keep b o e
      rw [hw b hm] at this; cases this
    · obtain ⟨vs, n, e, r, w⟩ := C4.acc
      rw [List.nil_append] at r
      exact fin D C h4 tk4 C4.up C4.tab ⟨vs, n, e, r, fun v hv => (w v hv).resolve_left id⟩ hDs hCs C4.ns
  exact compStart_any rfl loop (W.self 0 _ _ _ st3 loop)
/-- what a comprehension gathers -/
def CompEvN (N : Tok) (tf : Bool) (G : Ctx) (ρ : List (Str × SV)) (elt : Expr) (gens : List Comprehension) (scope : Scope) (pos : Pos) (iter : Expr) (out : List SV) : Prop :=
  Fm G → ∀ (use : Option (Value → Sem Unit)) (cpos : Pos) (Q Eh : Value → Shared → Prop) (s : Shared), N ≤ s.toks → Okay G ρ s.heap →
    (∀ D C h' tk, Up s.heap h' → TabsAt G h' → Acc tf tk D h' out → s.heap.get? D = none → s.heap.get? C = none → (∃ m, h'.Ns C m) → compPost (model Pr G.w) G.A Eh use Q (.ref D) C (.ok .next) { s with heap := h', toks := tk }) →
    wpAny (model Pr G.w) G.A (comprehension (.ListComp elt gens scope pos) scope G.env cpos (newList []) false (eval iter G.env) use) Q Eh s
abbrev CompEv := CompEvN 0 false
/-- a comprehension that is an expression -/
theorem CompEvN.evA {N : Tok} {tf : Bool} {G : Ctx} {ρ : List (Str × SV)} {elt tgt iter : Expr} {ifs : List Expr} {rest : List Comprehension} {scope : Scope} {pos : Pos} {out : List SV} (c : CompEvN N tf G ρ elt (⟨tgt, iter, ifs, 0⟩ :: rest) scope pos iter out)
    (F : Fm G) {Q Eh : Value → Shared → Prop} {s : Shared} (hN : N ≤ s.toks) (O : Okay G ρ s.heap) (h : ∀ D h' tk, Up s.heap h' → TabsAt G h' → Acc tf tk D h' out → s.heap.get? D = none → Q (.ref D) { s with heap := h', toks := tk }) :
    wpAny (model Pr G.w) G.A (eval (.ListComp elt (⟨tgt, iter, ifs, 0⟩ :: rest) scope pos) G.env) Q Eh s := by
  rw [eval_ListComp]
  refine c F Option.none _ Q Eh s hN O fun D C h' tk U T ⟨vs, k, e, r, w⟩ hD hC ⟨m, n⟩ => ?_
  refine ⟨m, n, fun h'' hs => ?_⟩
  have one := Ns.one n hs
  refine h D h'' tk (fun b o e k => ?_) (one.tabs T) ⟨vs, k, one.get e (.inl ⟨_, _, rfl⟩), r.seqs fun b o xs k e dd => one.get e (.inl ⟨_, _, dd⟩), w⟩ hD
  exact (hs.2 b fun w => by rw [w, hC] at e; cases e).trans (U b o e k)
theorem CompEv.evF {G : Ctx} {ρ : List (Str × SV)} {elt tgt iter : Expr} {ifs : List Expr} {rest : List Comprehension} {scope : Scope} {pos : Pos} {out : List SV} (c : CompEv G ρ elt (⟨tgt, iter, ifs, 0⟩ :: rest) scope pos iter out) : EvF G ρ (.ListComp elt (⟨tgt, iter, ifs, 0⟩ :: rest) scope pos) (.list out) :=
  fun F Q Eh s O h => CompEvN.evA c F (Nat.zero_le _) O fun D h' tk U T R hD => h _ h' tk U T R.rep fun a e => by cases e; exact hD
theorem Fm.block {G : Ctx} (F : Fm G) : G.env.blockKind = .function := by
  simp [Env.blockKind, F.kind, ScopeKind.isAnnotationScope]
theorem swaps_true {G : Ctx} (F : Fm G) {elt : Expr} {gs : List Comprehension} {scope : Scope} {pos : Pos} {y : Str} {py : Pos} {line : Nat} (hy : G.env.kindOf y = some .local) (hli : (py.line == pos.line) = true) (hno : (scope.names.any fun (n, k) => n == y && (k == .local || k == .cell)) = false) :
    swapsWith (.ListComp elt gs scope pos) (some (.Name y py)) line G.env = pure true := by
  show (pure (G.env.blockKind == .function && G.env.kindOf y == some .local && py.line == pos.line && !(scope.names.any fun (n, k) => n == y && (k == .local || k == .cell))) : Sem Bool) = pure true
  rw [F.block, hy, hli, hno]; rfl
theorem swaps_false {G : Ctx} {elt : Expr} {gs : List Comprehension} {scope : Scope} {pos : Pos} {y : Str} {py : Pos} {line : Nat} (hy : G.env.kindOf y = some .cell) : swapsWith (.ListComp elt gs scope pos) (some (.Name y py)) line G.env = pure false := by
  show (pure (G.env.blockKind == .function && G.env.kindOf y == some .local && py.line == pos.line && !(scope.names.any fun (n, k) => n == y && (k == .local || k == .cell))) : Sem Bool) = pure false
  rw [hy, show (some NameKind.cell == some NameKind.local) = false from rfl, Bool.and_false]; rfl
theorem flat_one {f : SV → SV} (l : List SV) : (l.flatMap fun x => [f x]) = l.map f := by
  induction l with
  | nil => rfl
  | cons a l ih => rw [List.flatMap_cons, ih]; rfl
/-- one clause, one name -/
theorem comp1N {N : Tok} {tf : Bool} {G : Ctx} {elt iter : Expr} {ifs : List Expr} {scope : Scope} {pos p : Pos} {x : Str} {namesG : List (Str × NameKind)} {d u : Nat} (A : At G namesG d u) (so : scopeB scope namesG [x] = true) {items : List SV} {pr : Bool} {ρ ρc : List (Str × SV)}
    (hρ : ∀ x sv, ρc.lookup x = some sv → ρ.lookup x = some sv ∧ scope.names.lookup x = some .free) (src : ItEvN N G ρ (.Name x p) iter items false pr) (t : SV → Bool) (f : SV → SV)
    (tst : ∀ G', At G' scope.names d u → ∀ y ∈ items, Tsts G' ((x, y) :: ρc) ifs (t y)) (val : ∀ G', At G' scope.names d u → ∀ y ∈ items, t y = true → EvT tf G' ((x, y) :: ρc) elt (f y)) (fl : ∀ y ∈ items, t y = true → OutFlat false (f y)) (hl : items.length ≤ sizeLine)
    {out : List SV} (ho : (items.filter t).map f = out) (hs : ∀ x, foldedSetIterable iter G.env x = pure x := by intro _; rfl) : CompEvN N tf G ρ elt [⟨.Name x p, iter, ifs, 0⟩] scope pos iter out := by
  subst ho
  have so := ScopeOk.of so
  intro F use cpos Q Eh s hN O fin
  refine comp_core A so (.inl rfl) F (z := false) (fun h => h) hρ src (t := t) (g := fun x => [f x]) (ρt := fun y => (x, y) :: ρc) (fun G' A' y hy => AsgTo.name ((so.own x (.head _)).elim A'.loc A'.cel)) tst (fun G' hS D A' F' S' ds _ _ _ _ y hy ht => ActOk.emit rfl F' ds (val G' A' y hy ht) (fl y hy ht)) ?_ hN O (fun D C h' tk U T R => by rw [flat_one] at R; exact fin D C h' tk U T R) hs
  rw [flat_one, List.length_map]
  exact Nat.le_trans (List.length_filter_le _ _) hl
theorem comp1 {G : Ctx} {elt iter : Expr} {ifs : List Expr} {scope : Scope} {pos p : Pos} {x : Str} {namesG : List (Str × NameKind)} {d u : Nat} (A : At G namesG d u) (so : scopeB scope namesG [x] = true) {items : List SV} {pr : Bool} {ρ ρc : List (Str × SV)}
    (hρ : ∀ x sv, ρc.lookup x = some sv → ρ.lookup x = some sv ∧ scope.names.lookup x = some .free) (src : ItEv G ρ (.Name x p) iter items false pr) (t : SV → Bool) (f : SV → SV)
    (tst : ∀ G', At G' scope.names d u → ∀ y ∈ items, Tsts G' ((x, y) :: ρc) ifs (t y)) (val : ∀ G', At G' scope.names d u → ∀ y ∈ items, t y = true → Ev G' ((x, y) :: ρc) elt (f y)) (fl : ∀ y ∈ items, t y = true → OutFlat false (f y)) (hl : items.length ≤ sizeLine)
    {out : List SV} (ho : (items.filter t).map f = out) (hs : ∀ x, foldedSetIterable iter G.env x = pure x := by intro _; rfl) : CompEv G ρ elt [⟨.Name x p, iter, ifs, 0⟩] scope pos iter out :=
  comp1N A so hρ src.n t f tst (fun G' A' y hy ht => (val G' A' y hy ht).t) fl hl ho hs
/-- a name set to a comprehension -/
theorem assignComp_run {N : Tok} {tf : Bool} {G : Ctx} {ρ : List (Str × SV)} {elt tgt iter : Expr} {ifs : List Expr} {rest : List Comprehension} {scope : Scope} {pos : Pos} {out : List SV} (c : CompEvN N tf G ρ elt (⟨tgt, iter, ifs, 0⟩ :: rest) scope pos iter out) {y : Str} {py spos : Pos} {ss : List Stmt} {r : Fin'}
    (hy : G.env.kindOf y = some .local) (b : Rn G ((y, .list out) :: ρ) Option.none ss r) (hli : (py.line == pos.line) = true := by rfl) (hno : (scope.names.any fun (n, k) => n == y && (k == .local || k == .cell)) = false := by rfl) (F : Fm G) (S : Stores G) {Q : Flow → Shared → Prop} {Eh : Value → Shared → Prop} {s : Shared} (hN : N ≤ s.toks) (O : OkS G ρ Option.none s.heap) (P : FinPost G Option.none s Q r) :
    wpAny (model Pr G.w) G.A (execs (.Assign [.Name y py] (.ListComp elt (⟨tgt, iter, ifs, 0⟩ :: rest) scope pos) spos :: ss) G.env) Q Eh s := by
  refine wpAny_execs_cons ?_
  rw [exec_Assign_Name_used _ _ _ _ (swaps_true F hy hli hno)]
  refine wpAny_bind (wpAny_standAt (wpAny_bind ?_))
  show wpAny _ G.A (do let _ ← comprehension (.ListComp elt (⟨tgt, iter, ifs, 0⟩ :: rest) scope pos) scope G.env _ (newList []) false (eval iter G.env) (some (assign (.Name y py) G.env))) _ _ s
  refine wpAny_bind (wpAny_mono (c F (some (assign (.Name y py) G.env)) _ (fun _ s' => wpAny (model Pr G.w) G.A (execs ss G.env) Q Eh s') Eh s hN O.ok fun D C h' tk U T R hD hC ⟨m, n⟩ => ?_) (fun _ s' hq => wpAny_pure (wpAny_pure hq)) fun _ _ e => e)
  have O1 : Okay G ρ h' := O.ok.up U T
  show wpAny _ G.A (assign (.Name y py) G.env (.ref D)) _ _ _
  refine wpAny_assign_Name (store (s := { s with heap := h', toks := tk }) F S (.inl hy) O1 fun h2 tk2 st => ?_)
  have O2 : Okay G ((y, .list out) :: ρ) h2 := O1.sto st S.nw R.rep
  obtain ⟨ca, one, hc⟩ := st.c
  have inS : ∀ {b : Addr} {o : Obj}, s.heap.get? b = some o → b ≠ C := fun e w => by rw [w, hC] at e; cases e
  have hcC : C ≠ ca := by
    rcases hc with rfl | hc
    · obtain ⟨m1, o, _, _, e, _⟩ := O.ok.ns
      exact (inS e).symm
    · obtain ⟨⟨v, o, e, _⟩, _⟩ := O.ok.cs _ _ hc
      exact (inS e).symm
  have n2 : h2.Ns C m := n.sameBut one.sb hcC
  refine ⟨m, n2, fun h3 hs3 => ?_⟩
  have one3 := Ns.one n2 hs3
  have K3 : Kp none s.heap h3 := (U.kp O.ok.tab.objs).trans (st.kp.trans one3.kp)
  have keep : ∀ {b : Addr} {o : Obj}, b ≠ C → h2.get? b = some o → h3.get? b = some o := fun ne e => (hs3.2 _ ne).trans e
  have cellk : ∀ {x : Str} {c : Addr} {v : Option Value}, (x, c) ∈ G.env.cells → h2.IsCell c v → h3.IsCell c v := fun {x c v} hm i => by
    obtain ⟨⟨v0, o, e, _⟩, _⟩ := O.ok.cs x c hm
    exact i.sameBut hs3 (inS e)
  have locC : G.env.locals ≠ C := by obtain ⟨m1, o, _, _, e, _⟩ := O.ok.ns; exact inS e
  refine b F S Q Eh { s with heap := h3, toks := tk2 } (Okay.s ⟨?_, one3.tabs O2.tab, fun x sv e => ?_, fun x c hm => ?_, ?_⟩) (P.after K3)
  · obtain ⟨m2, F2⟩ := O2.fr
    obtain ⟨m1, F1⟩ := O.ok.fr
    obtain ⟨o, _, _, e, _⟩ := F1.ns
    exact ⟨m2, F2.ns.sameBut hs3 (inS e), fun b o e => keep (inS (F1.keep b o e)) (F2.keep b o e), F2.above⟩
  · obtain ⟨v, hv, r⟩ := O2.kn x sv e
    refine ⟨v, ?_, r.kp one3.kp⟩
    cases hv with
    | loc k m n e => exact .loc k m (n.sameBut hs3 locC) e
    | cell k c l e => exact .cell k c l (cellk (mem_of_lookup l) e)
    | free k c l e => exact .free k c l (cellk (mem_of_lookup l) e)
  · obtain ⟨⟨v, i⟩, j⟩ := O2.cs x c hm
    exact ⟨⟨v, cellk hm i⟩, j⟩
  · obtain ⟨m2, n2⟩ := O2.ns
    exact ⟨m2, n2.sameBut hs3 locC⟩
theorem rn_assignComp {G : Ctx} {ρ : List (Str × SV)} {elt tgt iter : Expr} {ifs : List Expr} {rest : List Comprehension} {scope : Scope} {pos : Pos} {out : List SV} (c : CompEv G ρ elt (⟨tgt, iter, ifs, 0⟩ :: rest) scope pos iter out) {y : Str} {py spos : Pos} {ss : List Stmt} {r : Fin'}
    (hy : G.env.kindOf y = some .local) (b : Rn G ((y, .list out) :: ρ) Option.none ss r) (hli : (py.line == pos.line) = true := by rfl) (hno : (scope.names.any fun (n, k) => n == y && (k == .local || k == .cell)) = false := by rfl) : Rn G ρ Option.none (.Assign [.Name y py] (.ListComp elt (⟨tgt, iter, ifs, 0⟩ :: rest) scope pos) spos :: ss) r :=
  fun F S Q Eh s O P => assignComp_run c hy b hli hno F S (Nat.zero_le _) O P

theorem AsgTo.mono {G : Ctx} {xs ys : List Str} {tgt : Expr} {sv : SV} {ρ ρ' : List (Str × SV)} {μ : Mu} (a : AsgTo G xs tgt sv ρ ρ' μ) (k : ∀ x ∈ xs, x ∈ ys) : AsgTo G ys tgt sv ρ ρ' μ :=
  fun F S Q Eh s v O R h => a F S Q Eh s v O R fun h' tk O' K c hs => h h' tk O' K (fun b o e n1 n2 => c b o e n1 fun x hx => n2 x (k x hx)) fun y u ny => hs y u fun hy => ny (k y hy)
/-- names set in order -/
theorem asg_order {G : Ctx} (F : Fm G) (S : Stores G) {μ : Mu} : ∀ (xs : List Str) (es : List Expr) (vs : List Value) (l : List SV) (ρ : List (Str × SV)) {s : Shared} {Q : Unit → Shared → Prop} {Eh : Value → Shared → Prop}, es.map (fun e => match e with | .Name x _ => some x | _ => none) = xs.map some → (∀ x ∈ xs, Settable G x) → (∀ p ∈ xs.zip l, Fits μ p.1 p.2) →
    OkS G ρ μ s.heap → Reps s.heap vs l → l.length = xs.length →
    (∀ h' tk, OkS G ((xs.zip l).reverse ++ ρ) μ h' → Kp none s.heap h' → (∀ b o, s.heap.get? b = some o → b ≠ G.env.locals → (∀ x ∈ xs, (x, b) ∉ G.env.cells) → h'.get? b = some o) → (∀ y u, y ∉ xs → Has G.env s.heap y u → Has G.env h' y u) → Q () { s with heap := h', toks := tk }) →
    wpAny (model Pr G.w) G.A (assignInOrder ((assignEach es G.env).map (·.2)) vs) Q Eh s
  | [], [], _, _, ρ, s, Q, Eh, _, _, _, O, R, hl, h => by
    cases R with
    | nil => exact wpAny_pure (h s.heap s.toks O (Kp.refl _ _) (fun _ _ e _ _ => e) fun _ _ _ e => e)
    | cons => cases hl
  | x :: xs, e :: es, _, _, ρ, s, Q, Eh, he, hk, hf, O, R, hl, h => by
    cases R with
    | nil => cases hl
    | @cons v sv vs l r rs =>
    cases e with
    | Name y p =>
      rw [List.map_cons, List.map_cons] at he
      have hy : y = x := by injection he with a _; exact Option.some.inj a
      subst hy
      have he' := (List.cons.inj he).2
      show wpAny _ _ (do holding vs (assign (.Name y p) G.env v); assignInOrder ((assignEach es G.env).map (·.2)) vs) _ _ _
      refine wpAny_bind (wpAny_holding (wpAny_assign_Name (store F S (hk y (.head _)) O.ok fun h2 tk2 st => ?_)))
      have O2 := O.sto st S.nw r (hf _ (.head _))
      refine asg_order F S xs es vs l _ he' (fun x hx => hk x (.tail _ hx)) (fun p hp => hf p (.tail _ hp)) O2 (rs.kp st.kp) (Nat.succ.inj hl) fun h' tk O' K c hs => ?_
      refine h h' tk ?_ (st.kp.trans K) (fun b o e n1 n2 => c b o ?_ n1 fun x hx => n2 x (.tail _ hx)) fun z u nz hz => hs z u (fun w => nz (.tail _ w)) (st.has z u (fun w => nz (w ▸ .head _)) hz)
      · simpa using O'
      · obtain ⟨cc, one, hc⟩ := st.c
        refine (one.sb.2 b ?_).trans e
        rintro rfl
        rcases hc with rfl | hc
        · exact n1 rfl
        · exact n2 y (.head _) hc
    | _ => rw [List.map_cons, List.map_cons] at he; injection he with a _; cases a
  | [], _ :: _, _, _, _, _, _, _, he, _, _, _, _, _, _ => by cases he
  | _ :: _, [], _, _, _, _, _, _, he, _, _, _, _, _, _ => by cases he
theorem AsgTo.tup {G : Ctx} {xs : List Str} {es : List Expr} {k : Nat} {p : Pos} {l : List SV} {ρ : List (Str × SV)} (he : es.map (fun e => match e with | .Name x _ => some x | _ => none) = xs.map some) (hk : ∀ x ∈ xs, Settable G x) (hl : l.length = xs.length)
    (hn : (assignEach es G.env).length = xs.length) (hst : (assignEach es G.env).findIdx? (·.1) = none) {μ : Mu} (hf : ∀ p ∈ xs.zip l, Fits μ p.1 p.2 := by intro _ _; trivial) : AsgTo G xs (.Tuple es k p) (.tup l) ρ ((xs.zip l).reverse ++ ρ) μ := by
  intro F S Q Eh s v O R h
  obtain ⟨T, vs, rfl, t, r⟩ := R.tup_inv
  refine wpAny_assign_Tuple F.handled t (by rw [hn, List.size_toArray, r.length, hl]) hst fun h1 x1 => ?_
  have X := ext_of_but x1
  have U : Up s.heap h1 := X.up
  refine asg_order F S xs es vs l ρ (s := { s with heap := h1 }) he hk hf (O.up U (O.ok.tab.ext X)) (r.up U O.ok.tab.objs) hl fun h' tk O' K c hs => ?_
  exact h h' tk O' ((U.kp O.ok.tab.objs).trans K) (fun b o e n1 n2 => c b o (X b o e) n1 n2) fun y u ny hy => hs y u ny (hy.up U O.ok.tab.objs)
theorem ActOk.two {G : Ctx} {hS : Heap} {D : Addr} {z zw : Bool} {ρ₀ : List (Str × SV)} {x0 : Str} {v0 : SV} {elt tgt iter : Expr} {ifs : List Expr} {g0 : Comprehension} {scope : Scope} {pos : Pos} (F : Fm G) (S : Stores G) (d : Dst G hS D) (p0 : Pure v0) (n0 : ρ₀.lookup x0 = none) {items : List SV} (src : ItEv G ((x0, v0) :: ρ₀) tgt iter items zw true) (hz : zw = true → z = true) (pure : ∀ x ∈ items, Pure x)
    {xs : List Str} {t : SV → Bool} {f : SV → SV} {ρi : SV → List (Str × SV)}
    (asg : ∀ x ∈ items, AsgTo G xs tgt x ((x0, v0) :: ρ₀) (ρi x) none) (hxs : ∀ y ∈ xs, ((x0, v0) :: ρ₀).lookup y = none) (tst : ∀ x ∈ items, Tsts G (ρi x) ifs (t x)) (val : ∀ x ∈ items, t x = true → Ev G (ρi x) elt (f x) ∧ OutFlat z (f x))
    (oL : hS.get? G.env.locals = none) (oC : ∀ x ∈ xs, ∀ b, (x, b) ∈ G.env.cells → hS.get? b = none) (h0S : ∀ b o, G.h₀.get? b = some o → hS.get? b = some o) (h30 : ∀ x ∈ ([30, 37] : List Addr), ∃ o, hS.get? x = some o)
    (hs : ∀ x, foldedSetIterable iter G.env x = Pure.pure x := by intro _; rfl) : ActOk false G hS D z ρ₀ ((x0, v0) :: ρ₀) (compAct elt [g0, ⟨tgt, iter, ifs, 0⟩] scope pos 0 (.ref D) G.env) ((items.filter t).flatMap fun x => [f x]) := by
  intro V outs Q Eh s O C hl h
  refine wpAny_compAct_two (src F _ _ s O fun I fp wr hR St h1 tk1 W st0 U1 X1 T1 hw hf => ?_) hs
  have Us : Up s.heap h1 := fun b o e n => X1 b o (U1 b o e n)
  have C1 := C.upd Us T1
  have C2 : CSt G hS D z V ((x0, v0) :: ρ₀) outs h1 := ⟨C1.up, C1.fr, C1.tab, C1.cs, C1.ns, fun y sv e => by
    rw [List.lookup_cons] at e
    cases q : y == x0 with
    | true =>
      rw [q] at e; cases e
      obtain ⟨v, hv, r⟩ := O.kn x0 v0 (by rw [List.lookup_cons, beq_self_eq_true])
      rw [eq_of_beq q]
      exact ⟨v, hv.up Us O.tab.objs, fun h' _ => r.pure p0⟩
    | false => rw [q] at e; exact C1.kn y sv e, C1.acc, C1.flat⟩
  have sS : ∀ {b : Addr}, s.heap.get? b = none → hS.get? b = none := fun {b} e => by
    cases q : hS.get? b with
    | none => rfl
    | some o =>
      by_cases hb : b ∈ ([30, 37] : List Addr)
      · obtain ⟨t, ht⟩ := O.tab.objs b hb; rw [e] at ht; cases ht
      · rw [C.up b o q hb] at e; cases e
  have fD : D ∉ fp := fun hm => by
    obtain ⟨vs, n, eD, _, _⟩ := C.acc
    rcases hf rfl D hm with e | ⟨y, sv, e, hy⟩
    · rw [eD] at e; cases e
    · rw [List.lookup_cons] at e
      cases q : y == x0 with
      | true =>
        rw [q] at e; cases e
        obtain ⟨v, hv, r⟩ := O.kn x0 v0 (by rw [List.lookup_cons, beq_self_eq_true])
        rw [eq_of_beq q] at hy
        have := Has.unique hv hy; subst this
        cases r <;> exact p0
      | false =>
        rw [q] at e
        obtain ⟨v, hv, r⟩ := C.kn y sv e
        have := Has.unique hv hy; subst this
        have := r hS (Up.refl _)
        cases this with
        | list x _ => rw [d.hD] at x; cases x
        | tup x _ => obtain ⟨o, x, _⟩ := x; rw [d.hD] at x; cases x
  have loop : codeAny (model Pr G.w) G.A (.compLoop (.ListComp elt [g0, ⟨tgt, iter, ifs, 0⟩] scope pos) 1 (.ref I) (.ref D) G.env) (fun r s' => match r with | .ok f => Q () s' | .error e => cameBackBy (model Pr G.w) G.A G.env Eh e s') { s with heap := h1, toks := tk1 } :=
    compLoop_ok (hB := s.heap) (s := { s with heap := h1, toks := tk1 }) rfl (.inl rfl) F S W hz (.inr pure) asg hxs tst (fun x hx ht => ActOk.emit rfl F d (val x hx ht).1.t (val x hx ht).2) d oL oC (fun b hb => sS (hw b hb)) (fun b o e hm => by have := h0S b o e; rw [sS (hw b hm)] at this; cases this)
      (fun b hb hm => by obtain ⟨o, e⟩ := h30 b hb; rw [sS (hw b hm)] at e; cases e) fD W.sub (Nat.zero_le _) C2 st0 (fun b o e _ _ => X1 b o e) hw (Us.kp O.tab.objs) hl fun h' tk C' K => h h' tk ⟨C'.up, C'.fr, C'.tab, C'.cs, C'.ns, fun y sv e => C'.kn y sv (by
        rw [List.lookup_cons]
        cases q : y == x0 with
        | true => rw [eq_of_beq q, n0] at e; cases e
        | false => exact e), C'.acc, C'.flat⟩ K
  exact compStart_any rfl loop (W.self 0 _ _ _ st0 loop)
/-- a source from the library's walk of values -/
theorem Src.of_walks {G : Ctx} {x : Str} {p : Pos} {I : Addr} {fp wr : List Addr} {n : Nat} {P : Nat → Value → Prop} {St : Nat → Heap → Prop} {hR : Heap} {items : List SV} (W : Walks Pr G.w G.A I fp wr n P St) (hn : items.length = n)
    (hP : ∀ i v, i < n → P i v → ∃ x, items[i]? = some x ∧ ∀ h, Kp none hR h ∨ Pure x → Rep h v x) (fresh : ∀ b ∈ wr, hR.get? b = none) (stay : ∀ i h, St i h → ∀ b ∈ fp, ∃ o, h.get? b = some o ∧ stays o)
    (wrk : ∀ i h, St i h → ∀ b ∈ wr, ∀ o, h.get? b = some o → stays o ∧ (∀ ps q t, o.data = .fields ps → ps[1]? ≠ some (.str q t)) ∧ (∀ xs n, o.data ≠ .seq xs n)) : Src 0 G (.Name x p) false I fp wr hR items St := by
  refine ⟨W.sub, fresh, stay, fun i h st b hb o e => let ⟨a, b, c⟩ := wrk i h st b hb o e; ⟨a, b, fun _ => c⟩, W.frame, fun m i x s Q Eh hm hx st K _ h => ?_, fun s Q Eh st h => W.done s Q Eh (hn ▸ st) h, W.self⟩
  have hi : i < n := hn ▸ (List.getElem?_eq_some_iff.mp hx).1
  refine W.item i s Q Eh hi st fun v h1 tk1 hv st1 k1 => h v h1 tk1 fun Q2 E2 h2 => wpAny_of_eq (a := ()) rfl (h2 h1 st1 ?_ k1)
  obtain ⟨y, hy, r⟩ := hP i v hi hv
  rw [hx] at hy; cases hy
  refine r h1 (hm.imp (fun e => ?_) fun e => e x (List.mem_of_getElem? hx))
  subst e
  exact fun b o e k z => k1 b o (fun hm => by rw [fresh b hm] at e; cases e) (K b o e k z)
/-- a source from the library's walk of tuples -/
theorem Src.of_walksU {G : Ctx} {es : List Expr} {k : Nat} {p : Pos} {z : Bool} {I : Addr} {fp wr : List Addr} {n : Nat} {P : Nat → Array Value → Prop} {St : Nat → Heap → Prop} {Mid : Nat → Addr → Heap → Prop} {hR : Heap} {items : List SV} (W : WalksU Pr G.w G.A I fp wr n P St Mid) (hn : items.length = n)
    (hP : ∀ i vals, i < n → P i vals → ∃ l, items[i]? = some (.tup l) ∧ ∀ h, Kp none hR h → Reps h vals.toList l) (fresh : ∀ b ∈ wr, hR.get? b = none) (stay : ∀ i h, St i h → ∀ b ∈ fp, ∃ o, h.get? b = some o ∧ stays o)
    (wrk : ∀ i h, St i h → ∀ b ∈ wr, ∀ o, h.get? b = some o → stays o ∧ (∀ ps q t, o.data = .fields ps → ps[1]? ≠ some (.str q t)) ∧ (z = false → ∀ xs n, o.data ≠ .seq xs n)) : Src 0 G (.Tuple es k p) z I fp wr hR items St := by
  refine ⟨W.sub, fresh, stay, wrk, W.frame, fun m i x s Q Eh hm hx st K _ h => ?_, fun s Q Eh st h => W.done s Q Eh (hn ▸ st) h, W.self⟩
  have hi : i < n := hn ▸ (List.getElem?_eq_some_iff.mp hx).1
  refine W.item i s Q Eh hi st fun T vals h1 tk1 hv t1 mid k1 => h (.ref T) h1 tk1 fun Q2 E2 h2 => ?_
  refine W.go es k p i T _ Q2 E2 mid fun h3 st3 k3 => h2 h3 st3 ?_ fun b o nb e => k3 b o nb (k1 b o nb e)
  obtain ⟨l, hl, r⟩ := hP i vals hi hv
  rw [hx] at hl; cases hl
  have hmn : m = none := hm.resolve_right fun q => q _ (List.mem_of_getElem? hx)
  subst hmn
  refine .tup ?_ (r h3 fun b o e c y => ?_)
  · obtain ⟨o, e, c⟩ := t1
    exact ⟨o, k3 T o (W.apart i T h1 mid) e, by simpa using c⟩
  · have nb : b ∉ wr := fun hm => by rw [fresh b hm] at e; cases e
    exact k3 b o nb (k1 b o nb (K b o e c y))
def comps : SV → List SV | .tup l => l | _ => []
/-- one clause, a tuple of names -/
theorem compT {G : Ctx} {elt iter : Expr} {ifs es : List Expr} {k : Nat} {scope : Scope} {pos p : Pos} {xs : List Str} {namesG : List (Str × NameKind)} {d u : Nat} (A : At G namesG d u) (so : scopeB scope namesG xs = true) {items : List SV} {zw pr : Bool} {ρ ρc : List (Str × SV)}
    (hρ : ∀ x sv, ρc.lookup x = some sv → ρ.lookup x = some sv ∧ scope.names.lookup x = some .free) (src : ItEv G ρ (.Tuple es k p) iter items zw pr) (t : SV → Bool) (f : SV → SV) (ht : ∀ y ∈ items, y = .tup (comps y) ∧ (comps y).length = xs.length)
    (tst : ∀ G', At G' scope.names d u → ∀ y ∈ items, Tsts G' ((xs.zip (comps y)).reverse ++ ρc) ifs (t y)) (val : ∀ G', At G' scope.names d u → ∀ y ∈ items, t y = true → Ev G' ((xs.zip (comps y)).reverse ++ ρc) elt (f y)) (fl : ∀ y ∈ items, t y = true → OutFlat true (f y)) (hl : items.length ≤ sizeLine)
    {out : List SV} (ho : (items.filter t).map f = out) (he : es.map (fun e => match e with | .Name x _ => some x | _ => none) = xs.map some := by rfl) (hn : ∀ env, (assignEach es env).length = xs.length := by intro _; rfl) (hst : ∀ env, (assignEach es env).findIdx? (·.1) = none := by intro _; rfl)
    (hs : ∀ x, foldedSetIterable iter G.env x = pure x := by intro _; rfl) :
    CompEv G ρ elt [⟨.Tuple es k p, iter, ifs, 0⟩] scope pos iter out := by
  subst ho
  have so := ScopeOk.of so
  intro F use cpos Q Eh s hN O fin
  refine comp_core A so (.inl rfl) F (z := true) (fun _ => rfl) hρ src.n (t := t) (g := fun x => [f x]) (ρt := fun y => (xs.zip (comps y)).reverse ++ ρc) (fun G' A' y hy => ?_) tst (fun G' hS D A' F' S' ds _ _ _ _ y hy ht' => ActOk.emit rfl F' ds (val G' A' y hy ht').t (fl y hy ht')) ?_ hN O (fun D C h' tk U T R => by rw [flat_one] at R; exact fin D C h' tk U T R) hs
  · obtain ⟨e1, e2⟩ := ht y hy
    have := AsgTo.tup (G := G') (k := k) (p := p) (ρ := ρc) (l := comps y) he (fun x hx => (so.own x hx).elim A'.loc A'.cel) e2 (hn _) (hst _) (μ := none)
    rw [← e1] at this
    exact this
  · rw [flat_one, List.length_map]
    exact Nat.le_trans (List.length_filter_le _ _) hl
/-- two clauses of names, no tests -/
theorem comp2 {G : Ctx} {elt iter iter2 : Expr} {scope : Scope} {pos p p2 : Pos} {x y : Str} {namesG : List (Str × NameKind)} {d u : Nat} (A : At G namesG d u) (so : scopeB scope namesG [x, y] = true) (hxy : x ≠ y) {items its2 : List SV} {pr : Bool} {ρ ρc : List (Str × SV)}
    (hρ : ∀ x sv, ρc.lookup x = some sv → ρ.lookup x = some sv ∧ scope.names.lookup x = some .free) (src : ItEv G ρ (.Name x p) iter items false pr) (p1 : ∀ v ∈ items, Pure v) (p2' : ∀ v ∈ its2, Pure v)
    (src2 : ∀ G', At G' scope.names d u → ∀ v ∈ items, ItEv G' ((x, v) :: ρc) (.Name y p2) iter2 its2 false true) (f : SV → SV → SV) (val : ∀ G', At G' scope.names d u → ∀ v ∈ items, ∀ w ∈ its2, Ev G' ((y, w) :: (x, v) :: ρc) elt (f v w)) (fl : ∀ v ∈ items, ∀ w ∈ its2, Pure (f v w)) (hl : items.length * its2.length ≤ sizeLine)
    {out : List SV} (ho : (items.flatMap fun v => its2.map (f v)) = out) (hs : ∀ x, foldedSetIterable iter G.env x = pure x := by intro _; rfl) (hs2 : ∀ env x, foldedSetIterable iter2 env x = pure x := by intro _ _; rfl) :
    CompEv G ρ elt [⟨.Name x p, iter, [], 0⟩, ⟨.Name y p2, iter2, [], 0⟩] scope pos iter out := by
  subst ho
  have so := ScopeOk.of so
  intro F use cpos Q Eh s hN O fin
  have ft : ∀ l : List SV, l.filter (fun _ => true) = l := fun l => List.filter_eq_self.mpr fun _ _ => rfl
  have e2 : ∀ v : SV, ((its2.filter (fun _ => true)).flatMap fun w => [f v w]) = its2.map (f v) := fun v => by rw [ft, flat_one]
  have nx : ∀ z ∈ [x, y], ρc.lookup z = none := fun z hz => by
    cases q : ρc.lookup z with
    | none => rfl
    | some sv =>
      have := (hρ z sv q).2
      rcases so.own z hz with w | w <;> rw [this] at w <;> cases w
  refine comp_core (xs := [x, y]) A so (.inr ⟨_, _, _, rfl⟩) F (z := false) (fun h => h) hρ src.n (t := fun _ => true) (g := fun v => its2.map (f v)) (ρt := fun v => (x, v) :: ρc) (fun G' A' v hv => (AsgTo.name (μ := none) ((so.own x (.head _)).elim A'.loc A'.cel)).mono fun z hz => by rw [List.mem_singleton.mp hz]; exact .head _) (fun _ _ _ _ => Tsts.nil)
    (fun G' hS D A' F' S' ds oL oC h0 h30 v hv _ => ?_) ?_ hN O (fun D C h' tk U T R => by rw [ft] at R; exact fin D C h' tk U T R) hs
  · rw [← e2 v]
    refine ActOk.two F' S' ds (p1 v hv) (nx x (.head _)) (src2 G' A' v hv) (fun h => h) p2' (xs := [y]) (fun w hw => AsgTo.name ((so.own y (.tail _ (.head _))).elim A'.loc A'.cel)) (fun z hz => ?_) (fun _ _ => Tsts.nil) (fun w hw _ => ⟨val G' A' v hv w hw, .inl (fl v hv w hw)⟩) oL (fun z hz => oC z (.tail _ hz)) h0 h30 (hs2 _)
    rw [List.mem_singleton.mp hz, List.lookup_cons]
    have : (y == x) = false := by simpa using fun e => hxy e.symm
    rw [this]
    exact nx y (.tail _ (.head _))
  · rw [ft]
    refine Nat.le_trans (Nat.le_of_eq ?_) hl
    clear src p1 src2 val fl hl fin
    induction items with
    | nil => simp
    | cons a l ih => rw [List.flatMap_cons, List.length_append, ih, List.length_map, List.length_cons, Nat.succ_mul, Nat.add_comm]

theorem fill10 : fillDummy PySem.Challenge.rw_ti0025_01 hd.heap_1 := by
  k_fill
  trivial
/-- a name that the program leaves to the language -/
structure Bi (x : Str) (v : Value) : Prop where
  ns : ∀ w : World, nsIn (hd.heap_1 w.params) mainGlobals x = some none
  b : bootBuiltins x = some v
  n : x ≠ "__name__"
  d : (x == ("__debug__" : Str)) = false
theorem bi_eval {G : Ctx} {ρ : List (Str × SV)} {x : Str} {v : Value} {pos : Pos} (g : Bi x v) (hx : G.env.kindOf x = some .globalImplicit) (F : Fm G) {Q Eh : Value → Shared → Prop} {s : Shared} (O : Okay G ρ s.heap) (h : Q v s) : wpAny (model Pr G.w) G.A (eval (.Name x pos) G.env) Q Eh s := by
  obtain ⟨dp, un, gd, cn, cs, L, a, ccd, cl, outer, A₀, base, mean, mg, mb, hA, he, B, X, T, kk, h1, h2, hgl, hbl, hks⟩ := F
  obtain ⟨m, F0⟩ := O.fr
  exact Name_function_global hks hx (loadGlobal_builtin (by rw [hgl]; exact T.g.keeps F0.keep) (mg_none_of X T.g (g.ns G.w)) (by rw [hbl]; exact T.b.keeps F0.keep) ((T.builtins x g.n).trans g.b) h) g.d
theorem b_range : Bi "range" (.type "range") := ⟨fun w => by k_is, by kernel_rfl, by decide, by decide⟩
theorem b_len : Bi "len" (.builtin "len") := ⟨fun w => by k_is, by kernel_rfl, by decide, by decide⟩
theorem b_max : Bi "max" (.builtin "max") := ⟨fun w => by k_is, by kernel_rfl, by decide, by decide⟩
theorem b_sum : Bi "sum" (.builtin "sum") := ⟨fun w => by k_is, by kernel_rfl, by decide, by decide⟩
theorem b_sorted : Bi "sorted" (.builtin "sorted") := ⟨fun w => by k_is, by kernel_rfl, by decide, by decide⟩
theorem b_list : Bi "list" (.type "list") := ⟨fun w => by k_is, by kernel_rfl, by decide, by decide⟩
theorem b_enumerate : Bi "enumerate" (.type "enumerate") := ⟨fun w => by k_is, by kernel_rfl, by decide, by decide⟩
theorem b_zip : Bi "zip" (.type "zip") := ⟨fun w => by k_is, by kernel_rfl, by decide, by decide⟩
theorem b_reversed : Bi "reversed" (.type "reversed") := ⟨fun w => by k_is, by kernel_rfl, by decide, by decide⟩
theorem b_divmod : Bi "divmod" (.builtin "divmod") := ⟨fun w => by k_is, by kernel_rfl, by decide, by decide⟩
theorem b_hasattr : Bi "hasattr" (.builtin "hasattr") := ⟨fun w => by k_is, by kernel_rfl, by decide, by decide⟩
/-- a call of one of the language's own functions -/
def BFn (id : String) (args : List SV) (sv : SV) : Prop := ∀ (G : Ctx) (ρ : List (Str × SV)) (Q Eh : Value → Shared → Prop) (s : Shared) (vs : List Value), Fm G → Okay G ρ s.heap → Reps s.heap vs args →
  (∀ v h' tk, Up s.heap h' → TabsAt G h' → Rep h' v sv → Q v { s with heap := h', toks := tk }) → wpAny (model Pr G.w) G.A (call (.builtin id) vs) Q Eh s
theorem Ev.callB {G : Ctx} {ρ : List (Str × SV)} {x : Str} {id : String} {e : Expr} {es : List Expr} {p pos : Pos} {l : List SV} {sv : SV} (g : Bi x (.builtin id)) (hx : G.env.kindOf x = some .globalImplicit) (a : EvAll G ρ (e :: es) l) (c : BFn id l sv)
    (he : ∀ env, starEach (e :: es) env = (false, eval e env) :: starEach es env := by intro _; rfl) (hp : ∀ env, (backTo pos (starEach es env)).any (·.1) = false := by intro _; rfl) : Ev G ρ (.Call (.Name x p) (e :: es) [] pos) sv := by
  intro F Q Eh s O h
  refine wpAny_Call_NameR (bi_eval g hx F O ?_)
  refine callWith_builtin1 (a F pos _ _ s O fun vs h1 tk1 U1 T1 R1 => ?_) (he _) (hp _)
  exact c G ρ _ _ _ vs F (O.up U1 T1) R1 fun v h2 tk2 U2 T2 R2 => h v h2 tk2 (U1.trans U2) T2 R2
/-- the evaluation of a call of a type -/
theorem callT_eval {G : Ctx} {ρ : List (Str × SV)} {x : Str} {T : String} {e : Expr} {es : List Expr} {p pos : Pos} {l : List SV} (g : Bi x (.type T)) (hx : G.env.kindOf x = some .globalImplicit) (a : EvAll G ρ (e :: es) l) (F : Fm G) {Q Eh : Value → Shared → Prop} {s : Shared} (O : Okay G ρ s.heap)
    (h : ∀ vs h' tk, Up s.heap h' → TabsAt G h' → Reps h' vs l → wpAny (model Pr G.w) G.A (call (.type T) vs) Q Eh { s with heap := h', toks := tk })
    (he : ∀ env, starEach (e :: es) env = (false, eval e env) :: starEach es env := by intro _; rfl) (hp : ∀ env, (backTo pos (starEach es env)).any (·.1) = false := by intro _; rfl) : wpAny (model Pr G.w) G.A (eval (.Call (.Name x p) (e :: es) [] pos) G.env) Q Eh s := by
  refine wpAny_Call_NameR (bi_eval g hx F O ?_)
  exact callWith_type1 (a F pos _ _ s O fun vs h1 tk1 U1 T1 R1 => h vs h1 tk1 U1 T1 R1) (he _) (hp _)
theorem iter_stays {T : String} {d : Array Value} {di : Option Addr} {sl : Array (Option Value)} : stays { cls := .type T, dict := di, data := .fields d, slots := sl } := fun z => nomatch z
theorem up_none {h h' : Heap} (T' : TabObjs h') (U : Up h h') {b : Addr} (e : h'.get? b = none) : h.get? b = none := by
  by_cases hb : b ∈ ([30, 37] : List Addr)
  · obtain ⟨t, ht⟩ := T' b hb; rw [e] at ht; cases ht
  · cases q : h.get? b with
    | none => rfl
    | some o => rw [U b o q hb] at e; cases e
def toN (n : Nat) : List SV := (List.range n).map fun i : Nat => .int (i : Int)
theorem ItEvN.range {N : Tok} {g : Nat → SV} {G : Ctx} {ρ : List (Str × SV)} {x : Str} {pt p pos : Pos} {e : Expr} {n : Nat} (hg : ∀ (i : Nat) t h, N ≤ t → Rep h (.int i t) (g i)) (hx : G.env.kindOf "range" = some .globalImplicit) (a : Ev G ρ e (.int n)) (hn : (n : Int) < 2 ^ 62)
    (he : ∀ env, starEach [e] env = (false, eval e env) :: starEach [] env := by intro _; rfl) : ItEvN N G ρ (.Name x pt) (.Call (.Name "range" p) [e] [] pos) ((List.range n).map g) false true := by
  intro F Q Eh s _ O h
  refine callT_eval b_range hx (.cons a .nil he) F O (fun vs h1 tk1 U1 T1 R1 => ?_) he
  cases R1 with
  | cons r rs =>
  cases rs
  obtain ⟨t, rfl⟩ := r.int_inv
  have hz : (0 : Int) ≤ n := Int.natCast_nonneg n
  refine call_range_1 (wpAny_pyIter_range (IsRange.new _ _ _ _ _ _ _) (small_one (by omega) (by omega) (by omega) hn) ?_)
  have sz : Builtin.Range.rangeSize 0 (n : Int) 1 = (n : Int) := by rw [rangeSize_one]; split <;> omega
  rw [sz]
  generalize eR : h1.push { cls := .type "range", data := .fields #[.int 0 tk1, .int n t, .int 1 (tk1 + 1)] } = hR
  have X1 : Ext h1 hR := eR ▸ push_ext _ _
  have W := Walks.range (prog := Pr) (w := G.w) F.handled hR.objs.size 0 1 n
  have T2 := T1.ext X1
  have U2 : Up s.heap hR := U1.trans X1.up
  have hnew : hR.get? hR.objs.size = none := get_none (Nat.le_refl _)
  have len : ((List.range n).map g).length = n := by rw [List.length_map, List.length_range]
  refine h hR.objs.size [hR.objs.size] [hR.objs.size] hR (fun i h => IsRangeIter h hR.objs.size (0 + (i : Nat) * 1) ((n : Int) - (i : Nat)) 1) (hR.push _) _ ⟨W.sub, fun b hb => by rw [List.mem_singleton.mp hb]; exact hnew, fun i h st b hb => ?_, fun i h st b hb o e => ?_, W.frame, fun m i x s Q Eh hm hx st K hN h => ?_, fun s Q Eh st h => W.done s Q Eh (by rw [len] at st; exact st) h, W.self⟩ ?_ U2 (push_ext _ _) (T2.ext (push_ext _ _)) (fun b hb => by rw [List.mem_singleton.mp hb]; exact up_none T2.objs U2 hnew) fun _ b hb => .inl (by rw [List.mem_singleton.mp hb]; exact up_none T2.objs U2 hnew)
  · rw [List.mem_singleton.mp hb]; exact ⟨_, st, iter_stays⟩
  · rw [List.mem_singleton.mp hb] at e
    have st' : h.get? hR.objs.size = _ := st
    rw [st'] at e; cases e
    exact ⟨iter_stays, fun ps q t d => by cases d; exact (fun z => nomatch z), fun _ _ _ d => by cases d⟩
  · have hi : i < n := len ▸ (List.getElem?_eq_some_iff.mp hx).1
    rw [List.getElem?_map, List.getElem?_range hi] at hx
    cases hx
    refine wpAny_pyNext_range_item st (by omega) fun h' it' hs' => h _ h' _ fun Q2 E2 h2 => wpAny_of_eq (a := ()) rfl (h2 h' ?_ ?_ fun b o hb e => hs'.extBut b o (fun w => hb (w ▸ .head _)) e)
    · have e1 : (0 : Int) + ((i + 1 : Nat) : Int) * 1 = 0 + (i : Int) * 1 + 1 := by omega
      have e2 : (n : Int) - ((i + 1 : Nat) : Int) = (n : Int) - (i : Int) - 1 := by omega
      show IsRangeIter h' _ _ _ _
      rw [e1, e2]; exact it'
    · rw [Int.zero_add, Int.mul_one]; exact hg i _ h' hN
  · simpa using Heap.get?_push_size _ rfl
theorem ItEv.range {G : Ctx} {ρ : List (Str × SV)} {x : Str} {pt p pos : Pos} {e : Expr} {n : Nat} (hx : G.env.kindOf "range" = some .globalImplicit) (a : Ev G ρ e (.int n)) (hn : (n : Int) < 2 ^ 62)
    (he : ∀ env, starEach [e] env = (false, eval e env) :: starEach [] env := by intro _; rfl) : ItEv G ρ (.Name x pt) (.Call (.Name "range" p) [e] [] pos) (toN n) false true :=
  fun F Q Eh s O h => ItEvN.range (N := 0) (g := fun i => .int i) (fun _ _ _ _ => .int _ _) hx a hn he F Q Eh s (Nat.zero_le _) O h

theorem name_val {G : Ctx} {ρ : List (Str × SV)} {x : Str} {sv : SV} {pos : Pos} (e : ρ.lookup x = some sv) (F : Fm G) {Q Eh : Value → Shared → Prop} {s : Shared} (O : Okay G ρ s.heap) (h : ∀ v, Has G.env s.heap x v → Rep s.heap v sv → Q v s)
    (hd : (x == ("__debug__" : Str)) = false := by decide) (hn : (x == ("__classdict__" : Str)) = false := by decide) : wpAny (model Pr G.w) G.A (eval (.Name x pos) G.env) Q Eh s := by
  have hk := F.kind
  obtain ⟨v, hv, hr⟩ := O.kn x sv e
  refine wpAny_Name ?_ hd
  have := h v hv hr
  cases hv with
  | loc k m n em => exact wpAny_loadName_local hk k n em this
  | cell k c l ec => exact wpAny_loadName_cell hk k l ec this
  | free k c l ec => exact wpAny_loadName_free hk k l ec this hn
theorem ItEv.listN {G : Ctx} {ρ : List (Str × SV)} {tgt : Expr} {x : Str} {p : Pos} {items : List SV} (e : ρ.lookup x = some (.list items)) (hd : (x == ("__debug__" : Str)) = false := by decide) (hn : (x == ("__classdict__" : Str)) = false := by decide) : ItEv G ρ tgt (.Name x p) items false true := by
  intro F Q Eh s O h
  refine name_val e F O (fun v hv r => ?_) hd hn
  obtain ⟨l, vs, n, rfl, hl, R⟩ := r.list_inv
  exact it_list (tk := s.toks) (h1 := s.heap) F (Up.refl _) O.tab hl R true (fun _ => .inr ⟨x, _, e, hv⟩) (fun b => get_none) (fun b => id) h
theorem ItEv.str {G : Ctx} {ρ : List (Str × SV)} {y : Str} {p : Pos} {e : Expr} {x : Str} (a : Ev G ρ e (.str x)) : ItEv G ρ (.Name y p) e (x.cps.toList.map fun c => .str ⟨#[c]⟩) false true := by
  intro F Q Eh s O h
  refine a F _ _ s O fun v h1 tk1 U1 T1 R1 => ?_
  obtain ⟨t, rfl⟩ := R1.str_inv
  have hI : h1.get? h1.objs.size = none := get_none (Nat.le_refl _)
  have hs : s.heap.get? h1.objs.size = none := up_none T1.objs U1 hI
  have main : ∀ ty, Walks Pr G.w G.A h1.objs.size [h1.objs.size] [h1.objs.size] x.cps.size (SignAt x) (fun i h => h.IsStrIter h1.objs.size ty x t i) →
      Q (.ref h1.objs.size) { s with heap := h1.push { cls := .type ty, data := .fields #[.str x t, .int 0 0] }, toks := tk1 } := fun ty W => by
    refine h h1.objs.size [h1.objs.size] [h1.objs.size] h1 _ (h1.push _) _ (Src.of_walks W (by simp) (fun i v hi hv => ?_) (fun b hb => by rw [List.mem_singleton.mp hb]; exact hI) (fun i h st b hb => ?_) fun i h st b hb o e => ?_) ⟨_, Heap.get?_push_size _ rfl, rfl, rfl⟩ U1 (push_ext _ _) (T1.ext (push_ext _ _)) (fun b hb => by rw [List.mem_singleton.mp hb]; exact hs) fun _ b hb => .inl (by rw [List.mem_singleton.mp hb]; exact hs)
    · obtain ⟨c, u, hc, rfl⟩ := hv
      exact ⟨.str ⟨#[c]⟩, by simp [hc], fun _ _ => .str _ _⟩
    · rw [List.mem_singleton.mp hb]
      obtain ⟨o, e, c, d⟩ := st
      exact ⟨o, e, by unfold stays; rw [d, c]; exact (fun z => nomatch z)⟩
    · rw [List.mem_singleton.mp hb] at e
      obtain ⟨o', e', c, d⟩ := st
      rw [e] at e'; cases e'
      exact ⟨by unfold stays; rw [d, c]; exact (fun z => nomatch z), fun ps q t dd => by rw [d] at dd; cases dd; exact (fun z => nomatch z), fun _ _ dd => by rw [d] at dd; cases dd⟩
  refine wpAny_pyIter_strU (s := { s with heap := h1, toks := tk1 }) ?_
  unfold strIterType
  cases x.cps.all (· < 128)
  · exact main _ (Walks.strWide F.handled _ x t)
  · exact main _ (Walks.strAscii F.handled _ x t)
def enumN (l : List SV) : List SV := l.zipIdx.map fun p => .tup [.int p.2, p.1]
theorem ItEv.enumerate {G : Ctx} {ρ : List (Str × SV)} {es : List Expr} {k : Nat} {pt p pos : Pos} {e : Expr} {items : List SV} (hx : G.env.kindOf "enumerate" = some .globalImplicit) (a : Ev G ρ e (.list items))
    (he : ∀ env, starEach [e] env = (false, eval e env) :: starEach [] env := by intro _; rfl) : ItEv G ρ (.Tuple es k pt) (.Call (.Name "enumerate" p) [e] [] pos) (enumN items) false false := by
  intro F Q Eh s O h
  refine callT_eval b_enumerate hx (.cons a .nil he) F O (fun vs h1 tk1 U1 T1 R1 => ?_) he
  cases R1 with
  | cons r rs =>
  cases rs
  obtain ⟨l, vs, n, rfl, hl, R⟩ := r.list_inv
  have hlt : l < h1.objs.size := Heap.lt_size hl
  refine call_enumerate_1 (s := { s with heap := h1, toks := tk1 }) hl fun h2 e2 i2 sz X2 => wpAny_pyIter_enum e2 ?_
  change IsEnum h2 (h1.objs.size + 1) h1.objs.size 0 .none at e2
  change h2.IsListIter h1.objs.size l 0 at i2
  have W := (WalksT.enumerate (prog := Pr) (w := G.w) F.handled (h1.objs.size + 1) h1.objs.size l (Nat.ne_of_gt (Nat.lt_succ_self _)) (Nat.ne_of_lt (Nat.lt_succ_of_lt hlt)) (Nat.ne_of_lt hlt) vs.toArray).toU
  have nn : ∀ b ∈ [h1.objs.size + 1, h1.objs.size], h1.get? b = none := fun b hb => get_none (by rcases List.mem_cons.mp hb with rfl | hb; exact Nat.le_succ _; rw [List.mem_singleton.mp hb]; exact Nat.le_refl _)
  have len := R.length
  have k1 : ∀ (i : Nat) (h : Heap), ((∃ old, IsEnum h (h1.objs.size + 1) h1.objs.size i old) ∧ h.IsListIter h1.objs.size l i ∧ h.IsList l vs.toArray) → ∀ b ∈ [h1.objs.size + 1, h1.objs.size], ∀ o, h.get? b = some o → stays o ∧ (∀ ps q t, o.data = .fields ps → ps[1]? ≠ some (.str q t)) ∧ (∀ xs n, o.data ≠ .seq xs n) := fun i h st b hb o e => by
    rcases List.mem_cons.mp hb with rfl | hb
    · obtain ⟨old, q⟩ := st.1
      rw [q] at e; cases e
      exact ⟨iter_stays, fun ps q t d => by cases d; exact (fun z => nomatch z), fun _ _ d => by cases d⟩
    · rw [List.mem_singleton.mp hb] at e
      obtain ⟨o', e', c, d⟩ := st.2.1
      rw [e] at e'; cases e'
      exact ⟨by unfold stays; rw [d, c]; exact (fun z => nomatch z), fun ps q t dd => by rw [d] at dd; cases dd; exact (fun z => nomatch z), fun _ _ dd => by rw [d] at dd; cases dd⟩
  refine h _ _ _ h1 _ h2 _ (Src.of_walksU W (by simp [enumN, len]) (fun i vals hi hv => ?_) nn (fun i h st b hb => ?_) fun i h st b hb o e => let ⟨a, b, c⟩ := k1 i h st b hb o e; ⟨a, b, fun _ => c⟩) ⟨⟨_, e2⟩, i2, ⟨_, X2 _ _ hl, rfl, _, rfl⟩⟩ U1 X2 (T1.ext X2) (fun b hb => up_none T1.objs U1 (nn b hb)) fun z => nomatch z
  · obtain ⟨t, x, hx', rfl⟩ := hv
    have hi' : i < items.length := by rw [← len]; simpa using hi
    obtain ⟨v, hv, r⟩ := R.get (List.getElem?_eq_getElem hi')
    have : x = v := by simp at hx'; rw [hx'] at hv; exact Option.some.inj hv
    subst this
    exact ⟨[.int i, items[i]], by simp [enumN, hi'], fun h K => .cons (.int _ _) (.cons (r.kp K) .nil)⟩
  · rcases List.mem_cons.mp hb with rfl | hb
    · obtain ⟨old, q⟩ := st.1
      exact ⟨_, q, iter_stays⟩
    · rcases List.mem_cons.mp hb with rfl | hb
      · obtain ⟨o', e', c, d⟩ := st.2.1
        exact ⟨o', e', by unfold stays; rw [d, c]; exact (fun z => nomatch z)⟩
      · rw [List.mem_singleton.mp hb]
        obtain ⟨o', e', c, n, d⟩ := st.2.2
        exact ⟨o', e', by unfold stays; rw [d]; trivial⟩
theorem ItEv.reversed {G : Ctx} {ρ : List (Str × SV)} {y x : Str} {pt px p pos : Pos} {items : List SV} (hx : G.env.kindOf "reversed" = some .globalImplicit) (e : ρ.lookup x = some (.list items)) (hd : (x == ("__debug__" : Str)) = false := by decide) (hn : (x == ("__classdict__" : Str)) = false := by decide) :
    ItEv G ρ (.Name y pt) (.Call (.Name "reversed" p) [.Name x px] [] pos) items.reverse false true := by
  intro F Q Eh s O h
  refine wpAny_Call_NameR (bi_eval b_reversed hx F O ?_)
  refine callWith_type1 (spliced_more (name_val e F O (fun v hv r => spliced_none ?_) hd hn) rfl) rfl rfl
  obtain ⟨l, vs, n, rfl, hl, R⟩ := r.list_inv
  have hlt : l < s.heap.objs.size := Heap.lt_size hl
  have len := R.length
  refine call_reversed_list ⟨_, hl, rfl, _, rfl⟩ (wpAny_pyIter_revIter ⟨_, Heap.get?_push_size _ rfl, rfl, rfl⟩ ?_)
  have W := Walks.listRev (prog := Pr) (w := G.w) F.handled s.heap.objs.size l (Nat.ne_of_lt hlt) vs.toArray
  have nn : s.heap.get? s.heap.objs.size = none := get_none (Nat.le_refl _)
  have hz : (revObj l ((vs.toArray.size : Int) - 1)).data = .fields #[.ref l, rawInt ((vs.toArray.size : Int) - 1 - ((0 : Nat) : Int))] := by rw [Int.natCast_zero, Int.sub_zero]; rfl
  refine h _ _ _ s.heap _ (s.heap.push _) _ (Src.of_walks W (by simp [len]) (fun i v hi hv => ?_) (fun b hb => by rw [List.mem_singleton.mp hb]; exact nn) (fun i h st b hb => ?_) fun i h st b hb o e => ?_) ⟨Nat.zero_le _, ⟨_, Heap.get?_push_size _ rfl, rfl, hz⟩, ⟨_, Heap.get?_push_of_some _ hl, rfl, _, rfl⟩⟩ (Up.refl _) (push_ext _ _) (O.tab.ext (push_ext _ _)) (fun b hb => by rw [List.mem_singleton.mp hb]; exact nn) fun _ b hb => ?_
  · have hi' : i < items.length := by rw [← len]; simpa using hi
    obtain ⟨u, hu, r⟩ := R.get (i := items.length - 1 - i) (List.getElem?_eq_getElem (by omega))
    have : u = v := by
      simp only [List.size_toArray, List.getElem?_toArray, len] at hv
      rw [hv] at hu; exact (Option.some.inj hu).symm
    subst this
    refine ⟨items[items.length - 1 - i], by simp [List.getElem?_reverse hi'], fun h K => K.elim (fun K => r.kp K) fun p => r.pure p⟩
  · rcases List.mem_cons.mp hb with rfl | hb
    · obtain ⟨o', e', c, d⟩ := st.2.1
      exact ⟨o', e', by unfold stays; rw [d, c]; exact (fun z => nomatch z)⟩
    · rw [List.mem_singleton.mp hb]
      obtain ⟨o', e', c, n, d⟩ := st.2.2
      exact ⟨o', e', by unfold stays; rw [d]; trivial⟩
  · rw [List.mem_singleton.mp hb] at e
    obtain ⟨o', e', c, d⟩ := st.2.1
    rw [e] at e'; cases e'
    exact ⟨by unfold stays; rw [d, c]; exact (fun z => nomatch z), fun ps q t dd => by rw [d] at dd; cases dd; exact (fun z => nomatch z), fun _ _ dd => by rw [d] at dd; cases dd⟩
  · rcases List.mem_cons.mp hb with rfl | hb
    · exact .inl nn
    · rw [List.mem_singleton.mp hb]; exact .inr ⟨x, _, e, hv⟩

theorem nn {a b : Nat} (h : a ≠ b) : @Ne Addr a b := h
abbrev IsTri (h : Heap) (T : Addr) (a b c : Value) : Prop := h.get? T = some { cls := .type "tuple", data := .seq #[a, b, c] }
/-- a zip of three lists, made at N -/
structure Z3 (N : Nat) (l1 l2 l3 : Nat) (xs ys zs : Array Value) (f0 : Value) (i : Nat) (h : Heap) : Prop where
  z : IsZip h (N + 5) (N + 3) (N + 4) f0
  ti : IsTri h (N + 3) (.ref N) (.ref (N + 1)) (.ref (N + 2))
  out : ∃ a b c, IsTri h (N + 4) a b c
  i1 : h.IsListIter N l1 i
  i2 : h.IsListIter (N + 1) l2 i
  i3 : h.IsListIter (N + 2) l3 i
  h1 : h.IsList l1 xs
  h2 : h.IsList l2 ys
  h3 : h.IsList l3 zs
section
variable {prog : Program} {w : World} {A : Around} {E : Value → Shared → Prop} {s : Shared} {N : Nat} {l1 l2 l3 : Nat} {xs ys zs : Array Value}
theorem updateSeq_tri {T : Addr} {a b c x : Value} {k : Nat} {Q : Unit → Shared → Prop} (hT : IsTri s.heap T a b c)
    (h : ∀ h', h'.get? T = some { cls := .type "tuple", data := .seq ((#[a, b, c] : Array Value).setIfInBounds k x) } → Heap.SameBut T s.heap h' → Q () { s with heap := h' }) :
    wpAny (model prog w) A (updateSeq T (·.setIfInBounds k x)) Q E s := by
  refine wpAny_updateSeq hT rfl (h _ ?_ (Heap.SameBut.update ..))
  rw [Heap.get?_update_self _ hT rfl]
  simp [Obj.mapSeq]
theorem zip3_item {i : Nat} {x y v : Value} {Q : Value → Shared → Prop} (L1 : l1 < N) (L2 : l2 < N) (L3 : l3 < N) (Z : Z3 N l1 l2 l3 xs ys zs .none i s.heap) (hx : xs[i]? = some x) (hy : ys[i]? = some y) (hv : zs[i]? = some v)
    (hQ : ∀ h', Z3 N l1 l2 l3 xs ys zs (rawInt s.heap.objs.size) (i + 1) h' → IsTri h' s.heap.objs.size x y v → (∀ c o, c ∉ [N + 5, N + 4, N, N + 1, N + 2] → s.heap.get? c = some o → h'.get? c = some o) → Q (.ref s.heap.objs.size) { s with heap := h' }) :
    wpAny (model prog w) A (Builtin.«zip.__next__» ⟨[.ref (N + 5)], []⟩) (fun fin s' => ∃ v, fin = .done (.ret v) ∧ Q v s') E s := by
  obtain ⟨hz, hTI, ⟨a, b, c, hTO⟩, h1, h2, h3, hl1, hl2, hl3⟩ := Z
  show wpAny _ _ (field (.ref (N + 5)) 2 >>= _) _ _ _
  refine wpAny_bind (wpAny_field hz rfl (x := .bool false) rfl ?_)
  show wpAny _ _ (field (.ref (N + 5)) 3 >>= _) _ _ _
  refine wpAny_bind (wpAny_field hz rfl (x := .ref (N + 3)) rfl ?_)
  refine wpAny_bind (wpAny_seqItems hTI rfl ?_)
  show wpAny _ _ (Builtin.SmallTypes.ownedTupleIsFree (.ref (N + 5)) >>= _) _ _ _
  refine wpAny_bind ?_
  unfold Builtin.SmallTypes.ownedTupleIsFree
  refine wpAny_bind (wpAny_field hz rfl (x := .none) rfl (wpAny_pure ?_))
  simp only [if_true]
  refine wpAny_bind (wpAny_rule ?_)
  refine wpAny_bind (wpAny_field hz rfl (x := .ref (N + 4)) rfl ?_)
  refine wpAny_bind (wpAny_setField_rec hz (by simp) fun h₁ hz₁ hs₁ => ?_)
  replace hz₁ : IsZip h₁ (N + 5) (N + 3) (N + 4) .ellipsis := hz₁
  refine wpAny_bind ?_
  simp only [List.zipIdx_cons, List.zipIdx_nil, List.forIn_cons, List.forIn_nil]
  refine wpAny_bind (wpAny_bind (wpAny_onRaise ?_))
  show wpAny _ _ (Builtin.SmallTypes.nextOf (.ref N) >>= _) _ _ _
  refine wpAny_bind (wpAny_nextOf_list_item (h1.extBut hs₁.extBut (nn (by omega))) (hl1.extBut hs₁.extBut (nn (by omega))) hx fun h₂ h1₂ hs₂ => wpAny_pure ?_)
  have hTO₂ : IsTri h₂ (N + 4) a b c := hs₂.extBut _ _ (nn (by omega)) (hs₁.extBut _ _ (nn (by omega)) hTO)
  refine wpAny_bind (wpAny_seqItems hTO₂ rfl ?_)
  refine wpAny_bind (updateSeq_tri hTO₂ fun h₃ hTO₃ hs₃ => ?_)
  replace hTO₃ : IsTri h₃ (N + 4) x b c := hTO₃
  refine wpAny_bind (wpAny_letGo (wpAny_pure ?_))
  refine wpAny_bind (wpAny_bind (wpAny_onRaise ?_))
  show wpAny _ _ (Builtin.SmallTypes.nextOf (.ref (N + 1)) >>= _) _ _ _
  refine wpAny_bind (wpAny_nextOf_list_item (((h2.extBut hs₁.extBut (nn (by omega))).extBut hs₂.extBut (nn (by omega))).extBut hs₃.extBut (nn (by omega)))
    (((hl2.extBut hs₁.extBut (nn (by omega))).extBut hs₂.extBut (nn (by omega))).extBut hs₃.extBut (nn (by omega))) hy fun h₄ h2₄ hs₄ => wpAny_pure ?_)
  have hTO₄ : IsTri h₄ (N + 4) x b c := hs₄.extBut _ _ (nn (by omega)) hTO₃
  refine wpAny_bind (wpAny_seqItems hTO₄ rfl ?_)
  refine wpAny_bind (updateSeq_tri hTO₄ fun h₅ hTO₅ hs₅ => ?_)
  replace hTO₅ : IsTri h₅ (N + 4) x y c := hTO₅
  refine wpAny_bind (wpAny_letGo (wpAny_pure ?_))
  refine wpAny_bind (wpAny_bind (wpAny_onRaise ?_))
  show wpAny _ _ (Builtin.SmallTypes.nextOf (.ref (N + 2)) >>= _) _ _ _
  refine wpAny_bind (wpAny_nextOf_list_item (((((h3.extBut hs₁.extBut (nn (by omega))).extBut hs₂.extBut (nn (by omega))).extBut hs₃.extBut (nn (by omega))).extBut hs₄.extBut (nn (by omega))).extBut hs₅.extBut (nn (by omega)))
    (((((hl3.extBut hs₁.extBut (nn (by omega))).extBut hs₂.extBut (nn (by omega))).extBut hs₃.extBut (nn (by omega))).extBut hs₄.extBut (nn (by omega))).extBut hs₅.extBut (nn (by omega))) hv fun h₆ h3₆ hs₆ => wpAny_pure ?_)
  have hTO₆ : IsTri h₆ (N + 4) x y c := hs₆.extBut _ _ (nn (by omega)) hTO₅
  refine wpAny_bind (wpAny_seqItems hTO₆ rfl ?_)
  refine wpAny_bind (updateSeq_tri hTO₆ fun h₇ hTO₇ hs₇ => ?_)
  replace hTO₇ : IsTri h₇ (N + 4) x y v := hTO₇
  refine wpAny_bind (wpAny_letGo (wpAny_pure (wpAny_pure ?_)))
  refine wpAny_bind (wpAny_seqItems hTO₇ rfl ?_)
  refine wpAny_bind (wpAny_newTuple ?_)
  have hsz : h₇.objs.size = s.heap.objs.size := by rw [hs₇.1, hs₆.1, hs₅.1, hs₄.1, hs₃.1, hs₂.1, hs₁.1]
  have all : ∀ {d o}, d ∉ [N + 5, N + 4, N, N + 1, N + 2] → s.heap.get? d = some o → h₇.get? d = some o := fun {d o} hd e => by
    simp only [List.mem_cons, List.not_mem_nil, or_false, not_or] at hd
    obtain ⟨d1, d2, d3, d4, d5⟩ := hd
    exact hs₇.extBut _ _ d2 (hs₆.extBut _ _ d5 (hs₅.extBut _ _ d2 (hs₄.extBut _ _ d4 (hs₃.extBut _ _ d2 (hs₂.extBut _ _ d3 (hs₁.extBut _ _ d1 e))))))
  have hz₇ : IsZip h₇ (N + 5) (N + 3) (N + 4) .ellipsis := hs₇.extBut _ _ (nn (by omega)) (hs₆.extBut _ _ (nn (by omega)) (hs₅.extBut _ _ (nn (by omega)) (hs₄.extBut _ _ (nn (by omega)) (hs₃.extBut _ _ (nn (by omega)) (hs₂.extBut _ _ (nn (by omega)) hz₁)))))
  have h1₇ : h₇.IsListIter N l1 (i + 1) := ((((h1₂.extBut hs₃.extBut (nn (by omega))).extBut hs₄.extBut (nn (by omega))).extBut hs₅.extBut (nn (by omega))).extBut hs₆.extBut (nn (by omega))).extBut hs₇.extBut (nn (by omega))
  have h2₇ : h₇.IsListIter (N + 1) l2 (i + 1) := ((h2₄.extBut hs₅.extBut (nn (by omega))).extBut hs₆.extBut (nn (by omega))).extBut hs₇.extBut (nn (by omega))
  have h3₇ : h₇.IsListIter (N + 2) l3 (i + 1) := h3₆.extBut hs₇.extBut (nn (by omega))
  have hzlt : N + 5 < h₇.objs.size := Heap.lt_size hz₇
  show wpAny _ _ (Builtin.SmallTypes.ownedTupleHandOut (.ref (N + 5)) (.ref h₇.objs.size) >>= _) _ _ _
  refine wpAny_bind ?_
  unfold Builtin.SmallTypes.ownedTupleHandOut
  have hz₈ : IsZip (h₇.push { cls := .type "tuple", data := .seq #[x, y, v] }) (N + 5) (N + 3) (N + 4) .ellipsis := Heap.get?_push_of_some _ hz₇
  refine wpAny_bind (wpAny_setField_rec hz₈ (by simp) fun h₉ hz₉ hs₉ => ?_)
  replace hz₉ : IsZip h₉ (N + 5) (N + 3) (N + 4) (rawInt h₇.objs.size) := hz₉
  refine wpAny_setField_rec hz₉ (by simp) fun ha hza hsa => ?_
  replace hza : IsZip ha (N + 5) (N + 3) (N + 4) (rawInt h₇.objs.size) := hza
  have up : ∀ d o, d ≠ N + 5 → h₇.get? d = some o → ha.get? d = some o := fun d o d1 e => hsa.extBut _ _ d1 (hs₉.extBut _ _ d1 (Heap.get?_push_of_some _ e))
  have hT : IsTri ha h₇.objs.size x y v := hsa.extBut _ _ (Nat.ne_of_gt hzlt) (hs₉.extBut _ _ (Nat.ne_of_gt hzlt) (Heap.get?_push_size _ rfl))
  rw [hsz] at hza hT
  refine wpAny_pure ⟨_, rfl, ?_⟩
  show Q (.ref h₇.objs.size) _
  rw [hsz]
  have upl : ∀ {l : Nat} {its : Array Value}, l < N → s.heap.IsList l its → ha.IsList l its := fun {l its} hl x => x.at fun o e => up _ o (nn (by omega)) (all (by simp only [List.mem_cons, List.not_mem_nil, or_false, not_or]; exact ⟨nn (by omega), nn (by omega), nn (by omega), nn (by omega), nn (by omega)⟩) e)
  refine hQ ha ⟨hza, up _ _ (nn (by omega)) (all (by simp only [List.mem_cons, List.not_mem_nil, or_false, not_or]; exact ⟨nn (by omega), nn (by omega), nn (by omega), nn (by omega), nn (by omega)⟩) hTI), ⟨_, _, _, up _ _ (nn (by omega)) hTO₇⟩, h1₇.at fun o e => up _ o (nn (by omega)) e, h2₇.at fun o e => up _ o (nn (by omega)) e, h3₇.at fun o e => up _ o (nn (by omega)) e, upl L1 hl1, upl L2 hl2, upl L3 hl3⟩ hT fun d o hd e => up d o (fun w => hd (w ▸ .head _)) (all hd e)
theorem zip3_end {i : Nat} {Q : Fin → Shared → Prop} (hh : A.handled = none) (L1 : l1 < N) (Z : Z3 N l1 l2 l3 xs ys zs .none i s.heap) (hx : xs[i]? = none)
    (hE : ∀ h' e, (∀ c o, c ∉ [N + 5, N + 4, N, N + 1, N + 2] → s.heap.get? c = some o → h'.get? c = some o) → (∃ o, h'.get? e = some o ∧ o.cls = .type "StopIteration") → E (.ref e) { s with heap := h' }) :
    wpAny (model prog w) A (Builtin.«zip.__next__» ⟨[.ref (N + 5)], []⟩) Q E s := by
  obtain ⟨hz, hTI, ⟨a, b, c, hTO⟩, h1, h2, h3, hl1, hl2, hl3⟩ := Z
  show wpAny _ _ (field (.ref (N + 5)) 2 >>= _) _ _ _
  refine wpAny_bind (wpAny_field hz rfl (x := .bool false) rfl ?_)
  show wpAny _ _ (field (.ref (N + 5)) 3 >>= _) _ _ _
  refine wpAny_bind (wpAny_field hz rfl (x := .ref (N + 3)) rfl ?_)
  refine wpAny_bind (wpAny_seqItems hTI rfl ?_)
  show wpAny _ _ (Builtin.SmallTypes.ownedTupleIsFree (.ref (N + 5)) >>= _) _ _ _
  refine wpAny_bind ?_
  unfold Builtin.SmallTypes.ownedTupleIsFree
  refine wpAny_bind (wpAny_field hz rfl (x := .none) rfl (wpAny_pure ?_))
  simp only [if_true]
  refine wpAny_bind (wpAny_rule ?_)
  refine wpAny_bind (wpAny_field hz rfl (x := .ref (N + 4)) rfl ?_)
  refine wpAny_bind (wpAny_setField_rec hz (by simp) fun h₁ hz₁ hs₁ => ?_)
  replace hz₁ : IsZip h₁ (N + 5) (N + 3) (N + 4) .ellipsis := hz₁
  refine wpAny_bind ?_
  simp only [List.zipIdx_cons, List.zipIdx_nil, List.forIn_cons, List.forIn_nil]
  refine wpAny_bind (wpAny_bind (wpAny_onRaise ?_))
  show wpAny _ _ (Builtin.SmallTypes.nextOf (.ref N) >>= _) _ _ _
  refine wpAny_bind (wpAny_nextOf_list_end hh (h1.extBut hs₁.extBut (nn (by omega))) (hl1.extBut hs₁.extBut (nn (by omega))) hx fun h₂ e hs₂ he => ?_)
  obtain ⟨oe, hoe, hce⟩ := he
  have hz₂ : IsZip h₂ (N + 5) (N + 3) (N + 4) .ellipsis := hs₂ _ _ (nn (by omega)) hz₁
  have hez : e ≠ N + 5 := fun x => by subst x; rw [hz₂] at hoe; cases hoe; simp at hce
  refine wpAny_setField_rec hz₂ (by simp) fun h₃ _ hs₃ => hE h₃ e (fun d o hd x => ?_) ⟨oe, hs₃.extBut _ _ hez hoe, hce⟩
  simp only [List.mem_cons, List.not_mem_nil, or_false, not_or] at hd
  exact hs₃.extBut _ _ hd.1 (hs₂ _ _ hd.2.2.1 (hs₁.extBut _ _ hd.1 x))
theorem typeCall_zip_3 (a b c : Value) : checkTypeCall "zip" ⟨[a, b, c], []⟩ = pure () := by kernel_rfl
theorem newCall_zip_3 (a b c : Value) : checkBuiltinCall "zip.__new__" ⟨[.type "zip", a, b, c], []⟩ = pure () := by kernel_rfl
theorem args_object_init_4 (a b c d : Value) : argsOk "object.__init__" ⟨[a, b, c, d], []⟩ := by
  unfold argsOk; rw [signature?_of (id := "object.__init__") (n := ['_', '_', 't', 'i', 'n', 'i', '_', '_']) (o := ['t', 'c', 'e', 'j', 'b', 'o']) (by kernel_rfl) F.owner_object]; kernel_rfl
end
abbrev lit1 (l : Addr) : Obj := { cls := .type "list_iterator", data := .fields #[.ref l, .int 0 0] }
abbrev z3H (h : Heap) (l1 l2 l3 : Addr) : Heap := ((((((h.push (lit1 l1)).push (lit1 l2)).push (lit1 l3)).push { cls := .type "tuple", data := .seq #[.ref h.objs.size, .ref (h.push (lit1 l1)).objs.size, .ref ((h.push (lit1 l1)).push (lit1 l2)).objs.size] }).push { cls := .type "tuple", data := .seq #[.none, .none, .none] })).push
  { cls := .type "zip", data := .fields #[.none, .bool false, .bool false, .ref (((h.push (lit1 l1)).push (lit1 l2)).push (lit1 l3)).objs.size, .ref ((((h.push (lit1 l1)).push (lit1 l2)).push (lit1 l3)).push { cls := .type "tuple", data := .seq #[.ref h.objs.size, .ref (h.push (lit1 l1)).objs.size, .ref ((h.push (lit1 l1)).push (lit1 l2)).objs.size] }).objs.size] }
theorem meets_zip3 (l1 l2 l3 : Addr) (xs ys zs : Array Value) :
    Meets (Builtin.«zip.__new__» ⟨[.type "zip", .ref l1, .ref l2, .ref l3], []⟩) (fun _ R s => s.heap.IsList l1 xs ∧ s.heap.IsList l2 ys ∧ s.heap.IsList l3 zs ∧
      ∀ a, a + 1 = (z3H s.heap l1 l2 l3).objs.size → R (.ok (.ret (.ref a))) { s with heap := z3H s.heap l1 l2 l3 }) :=
  .of_wp fun prog w A R s h => by
    obtain ⟨hp, g, d, tk, os⟩ := s; obtain ⟨hl1, hl2, hl3, h⟩ := h
    have hsub := sub_zip
    have hL1 : Heap.IsList (Shared.heap ⟨hp, g, d, tk, os⟩) l1 xs := hl1
    have hL2 : Heap.IsList (Shared.heap ⟨hp.push (lit1 l1), g, d, tk, os⟩) l2 ys := Heap.IsList.push hl2 _
    have hL3 : Heap.IsList (Shared.heap ⟨(hp.push (lit1 l1)).push (lit1 l2), g, d, tk, os⟩) l3 zs := Heap.IsList.push (Heap.IsList.push hl3 _) _
    wp_walk using wpAny_pyIter_list hL1, wpAny_pyIter_list hL2, wpAny_pyIter_list hL3
    exact ⟨_, rfl, h _ (Heap.size_push ..).symm⟩

section
variable {prog : Program} {w : World} {A : Around} {E : Value → Shared → Prop} {s : Shared} {N : Nat} {l1 l2 l3 : Nat} {xs ys zs : Array Value}
theorem walks_zip3 (hh : A.handled = none) (L1 : l1 < N) (L2 : l2 < N) (L3 : l3 < N) (e1 : ys.size = xs.size) (e2 : zs.size = xs.size) :
    WalksU prog w A (N + 5) [N + 5, N + 3, N + 4, N, N + 1, N + 2, l1, l2, l3] [N + 5, N + 4, N, N + 1, N + 2] xs.size
      (fun i vals => ∃ x y z, xs[i]? = some x ∧ ys[i]? = some y ∧ zs[i]? = some z ∧ vals = #[x, y, z]) (fun i h => Z3 N l1 l2 l3 xs ys zs .none i h)
      (fun i T h => Z3 N l1 l2 l3 xs ys zs (rawInt T) (i + 1) h ∧ T ∉ [N + 5, N + 4, N, N + 1, N + 2]) where
  sub := fun c hc => by simp at hc ⊢; rcases hc with rfl | rfl | rfl | rfl | rfl <;> simp
  frame := fun i h h' Z hk => by
    obtain ⟨hz, hTI, ⟨a, b, c, hTO⟩, h1, h2, h3, hl1, hl2, hl3⟩ := Z
    exact ⟨hk _ (by simp) _ hz, hk _ (by simp) _ hTI, ⟨a, b, c, hk _ (by simp) _ hTO⟩, h1.at fun o e => hk _ (by simp) o e, h2.at fun o e => hk _ (by simp) o e, h3.at fun o e => hk _ (by simp) o e,
      hl1.at fun o e => hk _ (by simp) o e, hl2.at fun o e => hk _ (by simp) o e, hl3.at fun o e => hk _ (by simp) o e⟩
  item := fun i s Q E hi Z hQ => by
    have g1 := Array.getElem?_eq_getElem hi
    have g2 := Array.getElem?_eq_getElem (xs := ys) (i := i) (by omega)
    have g3 := Array.getElem?_eq_getElem (xs := zs) (i := i) (by omega)
    have hT : s.TypeIs (.ref (N + 5)) "zip" := ⟨_, Z.z, rfl⟩
    have lt : ∀ {c : Nat} {o}, s.heap.get? c = some o → c < s.heap.objs.size := fun e => Heap.lt_size e
    have z5 := lt Z.z
    unfold pyNext
    refine wpAny_bind (wpAny_attempt (wpAny_callSpecial?_slot (name := Str.ofString "__next__") hT F.slot_zip_next
      (wpAny_call_entry F.slot_zip_next hT F.entry_zip_next (zip3_item L1 L2 L3 Z g1 g2 g3 fun h' Z' t' k' => wpAny_pure ?_) (F.args_zip_next_1 _))))
    refine hQ s.heap.objs.size _ h' s.toks ⟨_, _, _, g1, g2, g3, rfl⟩ ⟨_, t', rfl, _, rfl⟩ ⟨Z', ?_⟩ k'
    simp only [List.mem_cons, List.not_mem_nil, or_false, not_or]
    exact ⟨nn (by omega), nn (by omega), nn (by omega), nn (by omega), nn (by omega)⟩
  go := fun elts k pos i T s Q E ⟨Z, hT⟩ hQ => by
    refine wpAny_letOwnedTupleGo_zip Z.z fun h' hz' hs' => hQ h' ?_ fun c o hc e => hs'.extBut _ _ (fun x => hc (by simp [x])) e
    obtain ⟨hz, hTI, ⟨a, b, c, hTO⟩, h1, h2, h3, hl1, hl2, hl3⟩ := Z
    exact ⟨hz', hs'.extBut _ _ (nn (by omega)) hTI, ⟨a, b, c, hs'.extBut _ _ (nn (by omega)) hTO⟩, h1.extBut hs'.extBut (nn (by omega)), h2.extBut hs'.extBut (nn (by omega)), h3.extBut hs'.extBut (nn (by omega)),
      hl1.extBut hs'.extBut (nn (by omega)), hl2.extBut hs'.extBut (nn (by omega)), hl3.extBut hs'.extBut (nn (by omega))⟩
  apart := fun i T h hm => hm.2
  done := fun s Q E Z hQ => by
    have hT : s.TypeIs (.ref (N + 5)) "zip" := ⟨_, Z.z, rfl⟩
    unfold pyNext
    refine wpAny_bind (wpAny_attempt (wpAny_callSpecial?_slot (name := Str.ofString "__next__") hT F.slot_zip_next
      (wpAny_call_entry F.slot_zip_next hT F.entry_zip_next (zip3_end hh L1 Z (Array.getElem?_eq_none (Nat.le_refl _)) fun h' e hk he => ?_) (F.args_zip_next_1 _))))
    obtain ⟨o, ho, hc⟩ := he
    refine wpAny_bind (wpAny_isInstance (T := "StopIteration") (b := true) ⟨o, ho, hc⟩ isSubtype_stop ?_)
    exact wpAny_pure (hQ _ s.toks hk)
  self := fun i s Q E Z hQ => wpAny_pyIter_zip Z.z hQ
theorem call_zip3 {Q : Value → Shared → Prop} (hl1 : s.heap.IsList l1 xs) (hl2 : s.heap.IsList l2 ys) (hl3 : s.heap.IsList l3 zs)
    (h : ∀ h', Z3 s.heap.objs.size l1 l2 l3 xs ys zs .none 0 h' → Ext s.heap h' → Q (.ref (s.heap.objs.size + 5)) { s with heap := h' }) :
    wpAny (model prog w) A (call (.type "zip") [.ref l1, .ref l2, .ref l3]) Q E s := by
  refine callType_new F.called_zip (by decide) (typeCall_zip_3 _ _ _) (newCall_zip_3 _ _ _) (fun obj => args_object_init_4 obj _ _ _) F.entry_zip_new (meets_zip3 l1 l2 l3 xs ys zs) ⟨hl1, hl2, hl3, fun a ha => ?_⟩
  have p1 : (s.heap.push (lit1 l1)).objs.size = s.heap.objs.size + 1 := Heap.size_push ..
  generalize e1 : s.heap.push (lit1 l1) = H1 at p1 ha
  have p2 : (H1.push (lit1 l2)).objs.size = s.heap.objs.size + 2 := by rw [Heap.size_push, p1]
  have hz : z3H s.heap l1 l2 l3 = ((((H1.push (lit1 l2)).push (lit1 l3)).push { cls := .type "tuple", data := .seq #[.ref s.heap.objs.size, .ref H1.objs.size, .ref (H1.push (lit1 l2)).objs.size] }).push { cls := .type "tuple", data := .seq #[.none, .none, .none] }).push
      { cls := .type "zip", data := .fields #[.none, .bool false, .bool false, .ref ((H1.push (lit1 l2)).push (lit1 l3)).objs.size, .ref (((H1.push (lit1 l2)).push (lit1 l3)).push { cls := .type "tuple", data := .seq #[.ref s.heap.objs.size, .ref H1.objs.size, .ref (H1.push (lit1 l2)).objs.size] }).objs.size] } := by
    unfold z3H; rw [e1]
  rw [hz]
  rw [p1]
  have X1 : Ext s.heap H1 := e1 ▸ push_ext _ _
  have g1 : H1.get? s.heap.objs.size = some (lit1 l1) := e1 ▸ Heap.get?_push_size _ rfl
  generalize e2 : H1.push (lit1 l2) = H2 at p2
  have X2 : Ext H1 H2 := e2 ▸ push_ext _ _
  have g2 : H2.get? (s.heap.objs.size + 1) = some (lit1 l2) := e2 ▸ p1 ▸ Heap.get?_push_size _ rfl
  rw [p2]
  have p3 : (H2.push (lit1 l3)).objs.size = s.heap.objs.size + 3 := by rw [Heap.size_push, p2]
  generalize e3 : H2.push (lit1 l3) = H3 at p3
  have X3 : Ext H2 H3 := e3 ▸ push_ext _ _
  have g3 : H3.get? (s.heap.objs.size + 2) = some (lit1 l3) := e3 ▸ p2 ▸ Heap.get?_push_size _ rfl
  rw [p3]
  generalize ht : ({ cls := .type "tuple", data := .seq #[.ref s.heap.objs.size, .ref (s.heap.objs.size + 1), .ref (s.heap.objs.size + 2)] } : Obj) = t1
  have p4 : (H3.push t1).objs.size = s.heap.objs.size + 4 := by rw [Heap.size_push, p3]
  generalize e4 : H3.push t1 = H4 at p4
  have X4 : Ext H3 H4 := e4 ▸ push_ext _ _
  have g4 : H4.get? (s.heap.objs.size + 3) = some t1 := e4 ▸ p3 ▸ Heap.get?_push_size _ (by rw [← ht]; rfl)
  rw [p4]
  generalize ht2 : ({ cls := .type "tuple", data := .seq #[.none, .none, .none] } : Obj) = t2
  have p5 : (H4.push t2).objs.size = s.heap.objs.size + 5 := by rw [Heap.size_push, p4]
  generalize e5 : H4.push t2 = H5 at p5
  have X5 : Ext H4 H5 := e5 ▸ push_ext _ _
  have g5 : H5.get? (s.heap.objs.size + 4) = some t2 := e5 ▸ p4 ▸ Heap.get?_push_size _ (by rw [← ht2]; rfl)
  generalize ht3 : ({ cls := .type "zip", data := .fields #[.none, .bool false, .bool false, .ref (s.heap.objs.size + 3), .ref (s.heap.objs.size + 4)] } : Obj) = t3
  have p6 : (H5.push t3).objs.size = s.heap.objs.size + 6 := by rw [Heap.size_push, p5]
  have g6 : (H5.push t3).get? (s.heap.objs.size + 5) = some t3 := p5 ▸ Heap.get?_push_size _ (by rw [← ht3]; rfl)
  have X6 : Ext H5 (H5.push t3) := push_ext _ _
  generalize H5.push t3 = H6 at *
  have ha5 : a = s.heap.objs.size + 5 := by
    have hsz : (z3H s.heap l1 l2 l3).objs.size = s.heap.objs.size + 6 := by
      unfold z3H
      simp only [Heap.size_push]
    have : a + 1 = (z3H s.heap l1 l2 l3).objs.size := ha
    rw [hsz] at this
    exact Nat.succ.inj this
  subst ha5
  have X : Ext s.heap H6 := ((((X1.trans X2).trans X3).trans X4).trans X5).trans X6
  subst ht ht2 ht3
  refine ⟨⟨_, g6, rfl⟩, h H6 ⟨g6, X6 _ _ (X5 _ _ g4), ⟨_, _, _, X6 _ _ g5⟩, ⟨_, X6 _ _ (X5 _ _ (X4 _ _ (X3 _ _ (X2 _ _ g1)))), rfl, rfl⟩, ⟨_, X6 _ _ (X5 _ _ (X4 _ _ (X3 _ _ g2))), rfl, rfl⟩, ⟨_, X6 _ _ (X5 _ _ (X4 _ _ g3)), rfl, rfl⟩, hl1.at fun o e => X _ _ e, hl2.at fun o e => X _ _ e, hl3.at fun o e => X _ _ e⟩ X⟩
end
def zip3N : List SV → List SV → List SV → List SV
  | x :: xs, y :: ys, z :: zs => .tup [x, y, z] :: zip3N xs ys zs
  | _, _, _ => []
theorem zip3N_len : ∀ (a b c : List SV), b.length = a.length → c.length = a.length → (zip3N a b c).length = a.length
  | [], [], [], _, _ => rfl
  | x :: xs, y :: ys, z :: zs, h1, h2 => congrArg Nat.succ (zip3N_len xs ys zs (Nat.succ.inj h1) (Nat.succ.inj h2))
theorem zip3N_get : ∀ (a b c : List SV) {i : Nat} {x y z : SV}, a[i]? = some x → b[i]? = some y → c[i]? = some z → (zip3N a b c)[i]? = some (.tup [x, y, z])
  | x :: xs, y :: ys, z :: zs, 0, _, _, _, h1, h2, h3 => by cases h1; cases h2; cases h3; rfl
  | x :: xs, y :: ys, z :: zs, i + 1, _, _, _, h1, h2, h3 => zip3N_get xs ys zs (i := i) h1 h2 h3
  | [], _, _, i, _, _, _, h1, _, _ => by cases i <;> cases h1
  | _ :: _, [], _, i, _, _, _, _, h2, _ => by cases i <;> cases h2
  | _ :: _, _ :: _, [], i, _, _, _, _, _, h3 => by cases i <;> cases h3
theorem Reps.at {h : Heap} {vs : List Value} {l : List SV} (R : Reps h vs l) {i : Nat} {v : Value} (e : vs[i]? = some v) : ∃ x, l[i]? = some x ∧ Rep h v x := by
  have hi : i < l.length := R.length ▸ (List.getElem?_eq_some_iff.mp e).1
  obtain ⟨u, hu, r⟩ := R.get (List.getElem?_eq_getElem hi)
  rw [e] at hu; cases hu
  exact ⟨_, List.getElem?_eq_getElem hi, r⟩
theorem litr_wrk {h : Heap} {b l : Addr} {i : Nat} {z : Bool} (x : h.IsListIter b l i) {o : Obj} (e : h.get? b = some o) : stays o ∧ (∀ ps q t, o.data = .fields ps → ps[1]? ≠ some (.str q t)) ∧ (z = false → ∀ xs n, o.data ≠ .seq xs n) := by
  obtain ⟨o', e', c, d⟩ := x
  rw [e] at e'; cases e'
  exact ⟨by unfold stays; rw [d, c]; exact (fun z => nomatch z), fun ps q t dd => by rw [d] at dd; cases dd; exact (fun z => nomatch z), fun _ _ _ dd => by rw [d] at dd; cases dd⟩
theorem litr_stay {h : Heap} {b l : Addr} {i : Nat} (x : h.IsListIter b l i) : ∃ o, h.get? b = some o ∧ stays o := by
  have x' := x
  obtain ⟨o, e, _⟩ := x'
  exact ⟨o, e, (litr_wrk (z := true) x e).1⟩
theorem list_stay {h : Heap} {b : Addr} {its : Array Value} (x : h.IsList b its) : ∃ o, h.get? b = some o ∧ stays o := by
  obtain ⟨o, e, c, n, d⟩ := x
  exact ⟨o, e, by unfold stays; rw [d]; trivial⟩
theorem ItEv.zip3 {G : Ctx} {ρ : List (Str × SV)} {es : List Expr} {k : Nat} {pt p pos : Pos} {e1 e2 e3 : Expr} {a b c : List SV} (hx : G.env.kindOf "zip" = some .globalImplicit) (ev : EvAll G ρ [e1, e2, e3] [.list a, .list b, .list c]) (h2 : b.length = a.length) (h3 : c.length = a.length)
    (he : ∀ env, starEach [e1, e2, e3] env = (false, eval e1 env) :: starEach [e2, e3] env := by intro _; rfl) (hp : ∀ env, (backTo pos (starEach [e2, e3] env)).any (·.1) = false := by intro _; rfl) : ItEv G ρ (.Tuple es k pt) (.Call (.Name "zip" p) [e1, e2, e3] [] pos) (zip3N a b c) true false := by
  intro F Q Eh s O h
  refine callT_eval b_zip hx ev F O (fun vs h1 tk1 U1 T1 R1 => ?_) he hp
  cases R1 with
  | cons r1 R1 =>
  cases R1 with
  | cons r2 R1 =>
  cases R1 with
  | cons r3 R1 =>
  cases R1
  obtain ⟨l1, v1, n1, rfl, g1, R1⟩ := r1.list_inv
  obtain ⟨l2, v2, n2, rfl, g2, R2⟩ := r2.list_inv
  obtain ⟨l3, v3, n3, rfl, g3, R3⟩ := r3.list_inv
  have L1 : l1 < h1.objs.size := Heap.lt_size g1
  have L2 : l2 < h1.objs.size := Heap.lt_size g2
  have L3 : l3 < h1.objs.size := Heap.lt_size g3
  refine call_zip3 (s := { s with heap := h1, toks := tk1 }) ⟨_, g1, rfl, _, rfl⟩ ⟨_, g2, rfl, _, rfl⟩ ⟨_, g3, rfl, _, rfl⟩ fun hz Z X => wpAny_pyIter_zip Z.z ?_
  change Z3 h1.objs.size l1 l2 l3 v1.toArray v2.toArray v3.toArray .none 0 hz at Z
  have lv1 := R1.length
  have W := walks_zip3 (prog := Pr) (w := G.w) (A := G.A) (xs := v1.toArray) (ys := v2.toArray) (zs := v3.toArray) F.handled L1 L2 L3 (by simp [R1.length, R2.length, h2]) (by simp [R1.length, R3.length, h3])
  have new : ∀ b ∈ ([h1.objs.size + 5, h1.objs.size + 4, h1.objs.size, h1.objs.size + 1, h1.objs.size + 2] : List Nat), h1.get? b = none := fun b hb => get_none (by
    simp only [List.mem_cons, List.not_mem_nil, or_false] at hb
    show h1.objs.size ≤ b
    omega)
  refine h _ _ _ h1 _ hz _ (Src.of_walksU W (by simp [zip3N_len a b c h2 h3, lv1]) (fun i vals hi hv => ?_) new (fun i h Z b hb => ?_) fun i h Z b hb o e => ?_) Z U1 X (T1.ext X) (fun b hb => up_none T1.objs U1 (new b hb)) fun z => nomatch z
  · obtain ⟨x, y, z, q1, q2, q3, rfl⟩ := hv
    obtain ⟨x', p1, r1⟩ := R1.at (i := i) (by simpa using q1)
    obtain ⟨y', p2, r2⟩ := R2.at (i := i) (by simpa using q2)
    obtain ⟨z', p3, r3⟩ := R3.at (i := i) (by simpa using q3)
    exact ⟨_, zip3N_get a b c p1 p2 p3, fun h K => .cons (r1.kp K) (.cons (r2.kp K) (.cons (r3.kp K) .nil))⟩
  · simp only [List.mem_cons, List.not_mem_nil, or_false] at hb
    rcases hb with rfl | rfl | rfl | rfl | rfl | rfl | rfl | rfl | rfl
    · exact ⟨_, Z.z, iter_stays⟩
    · exact ⟨_, Z.ti, trivial⟩
    · obtain ⟨_, _, _, q⟩ := Z.out; exact ⟨_, q, trivial⟩
    · exact litr_stay Z.i1
    · exact litr_stay Z.i2
    · exact litr_stay Z.i3
    · exact list_stay Z.h1
    · exact list_stay Z.h2
    · exact list_stay Z.h3
  · simp only [List.mem_cons, List.not_mem_nil, or_false] at hb
    rcases hb with rfl | rfl | rfl | rfl | rfl
    · rw [Z.z] at e; cases e
      exact ⟨iter_stays, fun ps q t d => by cases d; exact (fun z => nomatch z), fun z => nomatch z⟩
    · obtain ⟨_, _, _, q⟩ := Z.out
      rw [q] at e; cases e
      exact ⟨trivial, fun ps q t d => (nomatch d), fun z => nomatch z⟩
    · exact litr_wrk Z.i1 e
    · exact litr_wrk Z.i2 e
    · exact litr_wrk Z.i3 e
def zip2N : List SV → List SV → List SV
  | x :: xs, y :: ys => .tup [x, y] :: zip2N xs ys
  | _, _ => []
theorem zip2N_len : ∀ (a b : List SV), b.length = a.length → (zip2N a b).length = a.length
  | [], [], _ => rfl
  | x :: xs, y :: ys, h1 => congrArg Nat.succ (zip2N_len xs ys (Nat.succ.inj h1))
theorem zip2N_get : ∀ (a b : List SV) {i : Nat} {x y : SV}, a[i]? = some x → b[i]? = some y → (zip2N a b)[i]? = some (.tup [x, y])
  | x :: xs, y :: ys, 0, _, _, h1, h2 => by cases h1; cases h2; rfl
  | x :: xs, y :: ys, i + 1, _, _, h1, h2 => zip2N_get xs ys (i := i) h1 h2
  | [], _, i, _, _, h1, _ => by cases i <;> cases h1
  | _ :: _, [], i, _, _, _, h2 => by cases i <;> cases h2
theorem ItEv.zip2 {G : Ctx} {ρ : List (Str × SV)} {es : List Expr} {k : Nat} {pt p pos : Pos} {e1 e2 : Expr} {a b : List SV} (hx : G.env.kindOf "zip" = some .globalImplicit) (ev : EvAll G ρ [e1, e2] [.list a, .list b]) (h2 : b.length = a.length)
    (he : ∀ env, starEach [e1, e2] env = (false, eval e1 env) :: starEach [e2] env := by intro _; rfl) (hp : ∀ env, (backTo pos (starEach [e2] env)).any (·.1) = false := by intro _; rfl) : ItEv G ρ (.Tuple es k pt) (.Call (.Name "zip" p) [e1, e2] [] pos) (zip2N a b) true false := by
  intro F Q Eh s O h
  refine callT_eval b_zip hx ev F O (fun vs h1 tk1 U1 T1 R1 => ?_) he hp
  cases R1 with
  | cons r1 R1 =>
  cases R1 with
  | cons r2 R1 =>
  cases R1
  obtain ⟨l1, v1, n1, rfl, g1, R1⟩ := r1.list_inv
  obtain ⟨l2, v2, n2, rfl, g2, R2⟩ := r2.list_inv
  have L1 : l1 < h1.objs.size := Heap.lt_size g1
  have L2 : l2 < h1.objs.size := Heap.lt_size g2
  refine call_zip_2 (s := { s with heap := h1, toks := tk1 }) ⟨_, g1, rfl, _, rfl⟩ ⟨_, g2, rfl, _, rfl⟩ fun hz zz zti zto zi1 zi2 _ X => wpAny_pyIter_zip zz ?_
  have W := (WalksT.zip2 (prog := Pr) (w := G.w) (A := G.A) F.handled (h1.objs.size + 4) (h1.objs.size + 2) (h1.objs.size + 3) h1.objs.size (h1.objs.size + 1) l1 l2
    ⟨nn (by omega), nn (by omega), nn (by omega), nn (by omega), nn (by omega), nn (by omega), nn (by omega), nn (by omega), nn (by omega), nn (by omega), Nat.ne_of_lt (Nat.lt_add_right _ L1), Nat.ne_of_lt (Nat.lt_add_right _ L1), Nat.ne_of_lt L1, Nat.ne_of_lt (Nat.lt_add_right _ L1), Nat.ne_of_lt (Nat.lt_add_right _ L2), Nat.ne_of_lt (Nat.lt_add_right _ L2), Nat.ne_of_lt L2, Nat.ne_of_lt (Nat.lt_add_right _ L2)⟩ v1.toArray v2.toArray).toU
  have new : ∀ b ∈ ([h1.objs.size + 4, h1.objs.size + 3, h1.objs.size, h1.objs.size + 1] : List Nat), h1.get? b = none := fun b hb => get_none (by
    simp only [List.mem_cons, List.not_mem_nil, or_false] at hb
    show h1.objs.size ≤ b
    omega)
  refine h _ _ _ h1 _ hz _ (Src.of_walksU W (by simp [zip2N_len a b h2, R1.length, R2.length, h2]) (fun i vals hi hv => ?_) new (fun i h Z b hb => ?_) fun i h Z b hb o e => ?_)
    ⟨zz, zti, ⟨_, _, zto⟩, zi1, zi2, ⟨_, X _ _ g1, rfl, _, rfl⟩, ⟨_, X _ _ g2, rfl, _, rfl⟩⟩ U1 X (T1.ext X) (fun b hb => up_none T1.objs U1 (new b hb)) fun z => nomatch z
  · obtain ⟨x, y, q1, q2, rfl⟩ := hv
    obtain ⟨x', p1, r1⟩ := R1.at (i := i) (by simpa using q1)
    obtain ⟨y', p2, r2⟩ := R2.at (i := i) (by simpa using q2)
    exact ⟨_, zip2N_get a b p1 p2, fun h K => .cons (r1.kp K) (.cons (r2.kp K) .nil)⟩
  · obtain ⟨hz, hTI, ⟨a, b, hTO⟩, h1, h2, hl1, hl2⟩ := Z
    simp only [List.mem_cons, List.not_mem_nil, or_false] at hb
    rcases hb with rfl | rfl | rfl | rfl | rfl | rfl | rfl
    · exact ⟨_, hz, iter_stays⟩
    · exact ⟨_, hTI, trivial⟩
    · exact ⟨_, hTO, trivial⟩
    · exact litr_stay h1
    · exact litr_stay h2
    · exact list_stay hl1
    · exact list_stay hl2
  · obtain ⟨hz, hTI, ⟨a, b, hTO⟩, h1, h2, hl1, hl2⟩ := Z
    simp only [List.mem_cons, List.not_mem_nil, or_false] at hb
    rcases hb with rfl | rfl | rfl | rfl
    · rw [hz] at e; cases e
      exact ⟨iter_stays, fun ps q t d => by cases d; exact (fun z => nomatch z), fun z => nomatch z⟩
    · rw [hTO] at e; cases e
      exact ⟨trivial, fun ps q t d => (nomatch d), fun z => nomatch z⟩
    · exact litr_wrk h1 e
    · exact litr_wrk h2 e

mutual
def dat : SV → PyData
  | .none => .none | .bool b => .bool b | .int i => .int i | .str x => .str x | .list l => .list (dats l) | .tup l => .tuple (dats l) | .tok i _ => .int i
def dats : List SV → List PyData
  | [] => [] | x :: l => dat x :: dats l
end
mutual
theorem Rep.reads {h : Heap} {v : Value} {x : SV} (r : Rep h v x) : ∃ as, Reads h v (dat x) as := by
  cases r with
  | none => exact ⟨_, Reads.none⟩
  | bool b => exact ⟨_, Reads.bool b⟩
  | int i t => exact ⟨_, Reads.int i t⟩
  | str x t => exact ⟨_, Reads.str x t⟩
  | list a b => obtain ⟨as, r⟩ := b.reads; exact ⟨_, reads_list_at a rfl rfl (by simpa using r)⟩
  | tup a b => obtain ⟨as, r⟩ := b.reads; obtain ⟨o, e, c, n, d⟩ := a; exact ⟨_, reads_tuple_at e c d (by simpa using r)⟩
  | tok i t p x => exact ⟨_, Reads.int i t⟩
theorem Reps.reads {h : Heap} {vs : List Value} {l : List SV} (r : Reps h vs l) : ∃ as, ReadsAll h vs (dats l) as := by
  cases r with
  | nil => exact ⟨_, ReadsAll.nil⟩
  | cons a b => obtain ⟨as, r⟩ := a.reads; obtain ⟨bs, q⟩ := b.reads; exact ⟨_, ReadsAll.cons r q⟩
end
def eqv (a b : SV) : Bool := PyData.eqv (dat a) (dat b)
def eqvs (a b : List SV) : Bool := PyData.eqvAll (dats a) (dats b)
def shp (a : SV) : Bool := SeqAt.shaped (dat a)
/-- flat values of good make -/
def SOk : SV → Bool | .str x => PyData.strOk x | .list _ => false | .tup _ => false | _ => true
theorem lay_flat : ∀ {l : List SV}, (∀ x ∈ l, SOk x = true) → PyData.canLayAll0 (dats l) = true ∧ PyData.depthAll (dats l) = 0
  | [], _ => ⟨rfl, rfl⟩
  | x :: l, k => by
    obtain ⟨a, b⟩ := lay_flat (l := l) fun y hy => k y (.tail _ hy)
    have kx := k x (.head _)
    unfold dats
    cases x <;> simp_all [SOk, dat, PyData.canLayAll0, PyData.canLay0, PyData.depthAll, PyData.depth]
theorem shp_list {l : List SV} (k : ∀ x ∈ l, SOk x = true) : shp (.list l) = true := by
  obtain ⟨a, b⟩ := lay_flat k
  show (PyData.canLay0 (.list (dats l)) && decide (PyData.depth (.list (dats l)) ≤ 64)) = true
  simp [PyData.canLay0, PyData.depth, a, b]
theorem shp_tup {l : List SV} (k : ∀ x ∈ l, SOk x = true) : shp (.tup l) = true := by
  obtain ⟨a, b⟩ := lay_flat k
  show (PyData.canLay0 (.tuple (dats l)) && decide (PyData.depth (.tuple (dats l)) ≤ 64)) = true
  simp [PyData.canLay0, PyData.depth, a, b]
theorem Fm.units {G : Ctx} (F : Fm G) : G.A.units + 64 < cLine := by
  obtain ⟨dp, un, gd, cn, cs, L, a, ccd, cl, outer, A₀, base, mean, mg, mb, hA, he, B, X, T, kk, h1, h2, hgl, hbl, hks⟩ := F
  rw [hA]
  show un + 64 < cLine
  omega
theorem Cmp.eq {a b : SV} (ha : shp a = true) (hb : shp b = true) : Cmp .Eq a b (eqv a b) := fun G ρ Q Eh s va vb F O ra rb h => by
  obtain ⟨as, ra⟩ := ra.reads
  obtain ⟨bs, rb⟩ := rb.reads
  exact eq_dataH ra rb ha hb F.units (h s.toks)
theorem Cmp.ne {a b : SV} (ha : shp a = true) (hb : shp b = true) : Cmp .NotEq a b (!eqv a b) := fun G ρ Q Eh s va vb F O ra rb h => by
  obtain ⟨as, ra⟩ := ra.reads
  obtain ⟨bs, rb⟩ := rb.reads
  exact ne_dataH ra rb ha hb F.units (h s.toks)
theorem Cmp.lt {a b : Int} : Cmp .Lt (.int a) (.int b) (decide (a < b)) := fun G ρ Q Eh s va vb F O ra rb h => by
  obtain ⟨t, rfl⟩ := ra.int_inv; obtain ⟨u, rfl⟩ := rb.int_inv; exact P.lt_int (h s.toks)
theorem Cmp.le {a b : Int} : Cmp .LtE (.int a) (.int b) (decide (a ≤ b)) := fun G ρ Q Eh s va vb F O ra rb h => by
  obtain ⟨t, rfl⟩ := ra.int_inv; obtain ⟨u, rfl⟩ := rb.int_inv; exact P.le_int (h s.toks)
theorem Cmp.gt {a b : Int} : Cmp .Gt (.int a) (.int b) (decide (a > b)) := fun G ρ Q Eh s va vb F O ra rb h => by
  obtain ⟨t, rfl⟩ := ra.int_inv; obtain ⟨u, rfl⟩ := rb.int_inv; exact P.gt_int (h s.toks)
theorem Cmp.ge {a b : Int} : Cmp .GtE (.int a) (.int b) (decide (a ≥ b)) := fun G ρ Q Eh s va vb F O ra rb h => by
  obtain ⟨t, rfl⟩ := ra.int_inv; obtain ⟨u, rfl⟩ := rb.int_inv; exact P.ge_int (h s.toks)
/-- «is» with None, True or False -/
def isB : SV → SV → Bool | .none, .none => true | .bool a, .bool b => a == b | _, _ => false
def Sole : SV → Bool | .none => true | .bool _ => true | _ => false
theorem is_val {h : Heap} {va vb : Value} {a b : SV} (hb : Sole b = true) (ra : Rep h va a) (rb : Rep h vb b) : plainIs va vb = true ∧ (va == vb) = isB a b := by
  cases b <;> try cases hb
  · cases rb
    cases ra <;> exact ⟨rfl, rfl⟩
  · cases rb
    cases ra with
    | bool c => rename_i b; cases c <;> cases b <;> exact ⟨rfl, rfl⟩
    | _ => exact ⟨rfl, rfl⟩
theorem Cmp.is {a b : SV} (hb : Sole b = true) : Cmp .Is a b (isB a b) := fun G ρ Q Eh s va vb F O ra rb h => by
  obtain ⟨p, e⟩ := is_val hb ra rb
  exact wpAny_is_plain p (by rw [e]; exact h s.toks)
theorem Cmp.isNot {a b : SV} (hb : Sole b = true) : Cmp .IsNot a b (!isB a b) := fun G ρ Q Eh s va vb F O ra rb h => by
  obtain ⟨p, e⟩ := is_val hb ra rb
  exact wpAny_isNot_plain p (by rw [e]; exact h s.toks)
/-- truth -/
def tru : SV → Bool | .none => false | .bool b => b | .int i => i != 0 | .str x => (x.length : Int) != 0 | .list l => !l.isEmpty | .tup l => !l.isEmpty | .tok i _ => i != 0
def Small : SV → Prop | .str x => (x.length : Int) < 2 ^ 63 | .list l => (l.length : Int) < 2 ^ 63 | .tup _ => False | _ => True
theorem tru_val {G : Ctx} {ρ : List (Str × SV)} {v : Value} {a : SV} {s : Shared} {Q : Bool → Shared → Prop} {Eh : Value → Shared → Prop} (F : Fm G) (O : Okay G ρ s.heap) (r : Rep s.heap v a) (hf : Small a := by trivial)
    (h : ∀ h' tk, Up s.heap h' → TabsAt G h' → Q (tru a) { s with heap := h', toks := tk }) : wpAny (model Pr G.w) G.A (truthy v) Q Eh s := by
  cases r with
  | none => exact truthy_none (h _ s.toks (Up.refl _) O.tab)
  | bool b => exact wpAny_truthy_bool (h _ s.toks (Up.refl _) O.tab)
  | int i t => exact P.truthy_int (h _ s.toks (Up.refl _) O.tab)
  | str x t => exact P.truthy_str (by unfold Small at hf; omega) (h _ _ (Up.refl _) O.tab)
  | list a b =>
    rename_i vs l n
    have hl := b.length
    refine wpAny_truthy_list ⟨_, a, rfl, _, rfl⟩ (by rw [List.size_toArray, hl]; exact hf) ?_
    have e : tru (.list l) = !vs.toArray.isEmpty := by cases vs <;> cases l <;> first | rfl | cases hl
    rw [← e]
    exact h s.heap (s.toks + 1 + 1) (Up.refl _) O.tab
  | tup => exact hf.elim
  | tok i t p x => exact P.truthy_int (h _ s.toks (Up.refl _) O.tab)
theorem Tst.val {G : Ctx} {ρ : List (Str × SV)} {e : Expr} {a : SV} (x : Ev G ρ e a) (hf : Small a := by trivial)
    (he : ∀ env whole, isTrue e env whole = (do let v ← whole; standAt e.pos; holding [v] (truthy v)) := by intro _ _; rfl) : Tst G ρ e (tru a) := by
  intro F Q Eh s O h
  refine wpAny_isTrue_value (x F _ _ s O fun v h1 tk1 U1 T1 R1 => ?_) (he _ _)
  exact tru_val (s := { s with heap := h1, toks := tk1 }) F (O.up U1 T1) R1 hf fun h2 tk2 U2 T2 => h h2 tk2 (U1.trans U2) T2
/-- several operands -/
inductive TAll (G : Ctx) (ρ : List (Str × SV)) : BoolOp → List Expr → Bool → Prop
  | andNil : TAll G ρ .And [] true
  | orNil : TAll G ρ .Or [] false
  | andF {x : Expr} {r : List Expr} (a : Tst G ρ x false) : TAll G ρ .And (x :: r) false
  | andT {x : Expr} {r : List Expr} {b : Bool} (a : Tst G ρ x true) (c : TAll G ρ .And r b) : TAll G ρ .And (x :: r) b
  | orT {x : Expr} {r : List Expr} (a : Tst G ρ x true) : TAll G ρ .Or (x :: r) true
  | orF {x : Expr} {r : List Expr} {b : Bool} (a : Tst G ρ x false) (c : TAll G ρ .Or r b) : TAll G ρ .Or (x :: r) b
theorem TAll.run {G : Ctx} {ρ : List (Str × SV)} {op : BoolOp} {es : List Expr} {b : Bool} (t : TAll G ρ op es b) : Fm G → ∀ (Q : Bool → Shared → Prop) (Eh : Value → Shared → Prop) (s : Shared), Okay G ρ s.heap →
    (∀ h' tk, Up s.heap h' → TabsAt G h' → Q b { s with heap := h', toks := tk }) → wpAny (model Pr G.w) G.A (allTrue op es G.env) Q Eh s := by
  induction t with
  | andNil => exact fun F Q Eh s O h => wpAny_allTrue_And_nil (h _ s.toks (Up.refl _) O.tab)
  | orNil => exact fun F Q Eh s O h => wpAny_allTrue_Or_nil (h _ s.toks (Up.refl _) O.tab)
  | andF a => exact fun F Q Eh s O h => wpAny_allTrue_And_cons (a F _ _ s O fun h1 tk1 U1 T1 => h h1 tk1 U1 T1)
  | orT a => exact fun F Q Eh s O h => wpAny_allTrue_Or_cons (a F _ _ s O fun h1 tk1 U1 T1 => h h1 tk1 U1 T1)
  | andT a c ih => exact fun F Q Eh s O h => wpAny_allTrue_And_cons (a F _ _ s O fun h1 tk1 U1 T1 => ih F Q Eh { s with heap := h1, toks := tk1 } (O.up U1 T1) fun h2 tk2 U2 T2 => h h2 tk2 (U1.trans U2) T2)
  | orF a c ih => exact fun F Q Eh s O h => wpAny_allTrue_Or_cons (a F _ _ s O fun h1 tk1 U1 T1 => ih F Q Eh { s with heap := h1, toks := tk1 } (O.up U1 T1) fun h2 tk2 U2 T2 => h h2 tk2 (U1.trans U2) T2)
theorem Tst.op {G : Ctx} {ρ : List (Str × SV)} {op : BoolOp} {es : List Expr} {pos : Pos} {b : Bool} (t : TAll G ρ op es b) : Tst G ρ (.BoolOp op es pos) b := fun F Q Eh s O h => wpAny_isTrue_BoolOp (t.run F Q Eh s O h)
/-- «x and y» as a value -/
theorem Ev.andF {G : Ctx} {ρ : List (Str × SV)} {x y : Expr} {pos : Pos} {a : SV} (p : Ev G ρ x a) (t : tru a = false) (hf : Small a := by trivial) : Ev G ρ (.BoolOp .And [x, y] pos) a := by
  intro F Q Eh s O h
  refine wpAny_And2 (p F _ _ s O fun v h1 tk1 U1 T1 R1 => ?_)
  refine tru_val (s := { s with heap := h1, toks := tk1 }) F (O.up U1 T1) R1 hf fun h2 tk2 U2 T2 => ?_
  rw [t]
  exact h v h2 tk2 (U1.trans U2) T2 (R1.up U2 T1.objs)
theorem Ev.andT {G : Ctx} {ρ : List (Str × SV)} {x y : Expr} {pos : Pos} {a b : SV} (p : Ev G ρ x a) (t : tru a = true) (q : Ev G ρ y b) (hf : Small a := by trivial) : Ev G ρ (.BoolOp .And [x, y] pos) b := by
  intro F Q Eh s O h
  refine wpAny_And2 (p F _ _ s O fun v h1 tk1 U1 T1 R1 => ?_)
  have O1 := O.up U1 T1
  refine tru_val (s := { s with heap := h1, toks := tk1 }) F O1 R1 hf fun h2 tk2 U2 T2 => ?_
  rw [t]
  exact q F _ _ { s with heap := h2, toks := tk2 } (O1.up U2 T2) fun v h3 tk3 U3 T3 R3 => h v h3 tk3 ((U1.trans U2).trans U3) T3 R3
/-- one operand -/
def Un (op : UnaryOp) (a c : SV) : Prop := ∀ (G : Ctx) (ρ : List (Str × SV)) (Q Eh : Value → Shared → Prop) (s : Shared) (va : Value), Fm G → Okay G ρ s.heap → Rep s.heap va a →
  (∀ v h' tk, Up s.heap h' → TabsAt G h' → Rep h' v c → Q v { s with heap := h', toks := tk }) → wpAny (model Pr G.w) G.A (unaryOp op va) Q Eh s
theorem Ev.un {G : Ctx} {ρ : List (Str × SV)} {op : UnaryOp} {x : Expr} {pos : Pos} {a c : SV} (p : Ev G ρ x a) (u : Un op a c) : Ev G ρ (.UnaryOp op x pos) c := by
  intro F Q Eh s O h
  refine wpAny_UnaryOp (p F _ _ s O fun v h1 tk1 U1 T1 R1 => ?_)
  exact u G ρ _ _ { s with heap := h1, toks := tk1 } v F (O.up U1 T1) R1 fun v h2 tk2 U2 T2 R2 => h v h2 tk2 (U1.trans U2) T2 R2
theorem Un.neg {a : Int} : Un .USub (.int a) (.int (-a)) := fun G ρ Q Eh s va F O ra h => by
  obtain ⟨t, rfl⟩ := ra.int_inv
  exact P.neg_int (h _ _ _ (Up.refl _) O.tab (.int _ _))
theorem Un.inv {a : Int} : Un .Invert (.int a) (.int (Builtin.bitNot a)) := fun G ρ Q Eh s va F O ra h => by
  obtain ⟨t, rfl⟩ := ra.int_inv
  exact invert_int (h _ _ _ (Up.refl _) O.tab (.int _ _))

/-- the item at a place -/
def pick (l : List SV) (i : Int) : Option SV := if 0 ≤ i then l[i.toNat]? else if -(l.length : Int) ≤ i then l[(i + l.length).toNat]? else none
def Get (o i r : SV) : Prop := ∀ (G : Ctx) (ρ : List (Str × SV)) (Q Eh : Value → Shared → Prop) (s : Shared) (vo vi : Value), Fm G → Okay G ρ s.heap → Rep s.heap vo o → Rep s.heap vi i →
  ∃ T id, s.TypeIs vo T ∧ typeLookup (.type T) "__getitem__" = pure (some (.builtin id)) ∧
  ((∀ v h' tk, Up s.heap h' → TabsAt G h' → Rep h' v r → Q v { s with heap := h', toks := tk }) → wpAny (model Pr G.w) G.A (getItem vo vi) Q Eh s)
theorem sub_tail {value slice : Expr} {o i : Value} {T id : String} {ops : List Value} {prog : Program} {w : World} {A : Around} {E : Value → Shared → Prop} {s : Shared} {Q : Value → Shared → Prop} (hT : s.TypeIs o T)
    (hl : typeLookup (.type T) "__getitem__" = pure (some (.builtin id))) (h : wpAny (model prog w) A (getItem o i) Q E s)
    (hs : subscripted slice false o i = operate ops (getItem o i)) : wpAny (model prog w) A (subscriptTail value slice o i) Q E s := by
  unfold subscriptTail
  refine wpAny_bind ?_
  rw [getitemInPython_of_ne hT.not_modules]
  refine wpAny_bind (wpAny_specialOf hT hl ?_)
  have fin : wpAny (model prog w) A (subscripted slice false o i) (fun r s₃ => wpAny (model prog w) A (letTemporaryGo value o r >>= fun _ => pure r) Q E s₃) E s := by
    rw [hs]
    exact wpAny_operating (wpAny_mono h (fun r s₃ h₃ => wpAny_bind (wpAny_letTemporaryGo (wpAny_pure h₃))) fun _ _ x => x)
  first
    | exact wpAny_pure (wpAny_bind fin)
    | exact wpAny_bind (wpAny_pure (wpAny_bind fin))
    | exact wpAny_bind fin
theorem Ev.sub {G : Ctx} {ρ : List (Str × SV)} {value slice : Expr} {pos : Pos} {o i r : SV} (a : Ev G ρ value o) (b : Ev G ρ slice i) (g : Get o i r)
    (hs : ∀ vo vi, subscripted slice false vo vi = operate [vo, vi] (getItem vo vi) := by intro _ _; rfl) : Ev G ρ (.Subscript value slice pos) r := by
  intro F Q Eh s O h
  refine Subscript_ (a F _ _ s O fun vo h1 tk1 U1 T1 R1 => ?_)
  refine b F _ _ { s with heap := h1, toks := tk1 } (O.up U1 T1) fun vi h2 tk2 U2 T2 R2 => ?_
  have O2 := (O.up U1 T1).up U2 T2
  obtain ⟨T, id, hT, hl, k⟩ := g G ρ Q Eh { s with heap := h2, toks := tk2 } vo vi F O2 (R1.up U2 T1.objs) R2
  exact sub_tail hT hl (k fun v h3 tk3 U3 T3 R3 => h v h3 tk3 ((U1.trans U2).trans U3) T3 R3) (hs vo vi)
theorem Get.list {l : List SV} {i : Int} {x : SV} (e : pick l i = some x) (hf : (l.length : Int) < 2 ^ 63 := by decide) : Get (.list l) (.int i) x := by
  intro G ρ Q Eh s vo vi F O ro ri
  obtain ⟨a, vs, n, rfl, hl, R⟩ := ro.list_inv
  obtain ⟨t, rfl⟩ := ri.int_inv
  have hL : s.heap.IsList a vs.toArray := ⟨_, hl, rfl, _, rfl⟩
  refine ⟨_, _, hL.typeIs, slot_list_getitem.lookup, fun h => ?_⟩
  have len := R.length
  unfold pick at e
  split at e
  · rename_i h0
    obtain ⟨v, hv, r⟩ := R.get e
    have := (List.getElem?_eq_some_iff.mp e).1
    exact wpAny_getItem_list hL h0 (by omega) (by simpa using hv) (h v s.heap s.toks (Up.refl _) O.tab r)
  · rename_i h0
    split at e
    · rename_i h1
      obtain ⟨v, hv, r⟩ := R.get e
      exact wpAny_getItem_list_neg hL (by omega) (by rw [List.size_toArray, len]; exact h1) (by omega) (by rw [List.size_toArray, len]; simpa using hv) (h v s.heap s.toks (Up.refl _) O.tab r)
    · cases e
theorem Get.tup {l : List SV} {i : Nat} {x : SV} (e : l[i]? = some x) (hf : (l.length : Int) < 2 ^ 63 := by decide) : Get (.tup l) (.int i) x := by
  intro G ρ Q Eh s vo vi F O ro ri
  obtain ⟨a, vs, rfl, hL, R⟩ := ro.tup_inv
  obtain ⟨t, rfl⟩ := ri.int_inv
  obtain ⟨v, hv, r⟩ := R.get e
  have hi := (List.getElem?_eq_some_iff.mp e).1
  have len := R.length
  refine ⟨_, _, IsTup.typeIs hL, PySem.F.slot_tuple_getitem.lookup, fun h => ?_⟩
  refine PyProof.Rows.getItem_tuple (j := i) hL (by omega) (by omega) ?_ (by simpa using hv) (h v s.heap s.toks (Up.refl _) O.tab r)
  unfold seqIndex?
  have h1 : ¬ ((i : Int) < 0) := by omega
  have h2 : (decide (0 ≤ (i : Int)) && decide ((i : Int) < (vs.toArray.size : Nat))) = true := by rw [List.size_toArray, len]; simp; omega
  simp only [if_neg h1, h2, if_true, Int.toNat_natCast]
/-- a part of a slice -/
inductive EvPart (G : Ctx) (ρ : List (Str × SV)) : Option Expr → Option Int → Prop
  | none : EvPart G ρ none none
  | some {e : Expr} {i : Int} (a : Ev G ρ e (.int i)) : EvPart G ρ (some e) (some i)
def PartV (h : Heap) (v : Value) : Option Int → Prop | .none => v = .none | .some i => Rep h v (.int i)
theorem EvPart.run {G : Ctx} {ρ : List (Str × SV)} {e : Option Expr} {i : Option Int} (a : EvPart G ρ e i) (F : Fm G) {Q Eh : Value → Shared → Prop} {s : Shared} (O : Okay G ρ s.heap)
    (h : ∀ v h' tk, Up s.heap h' → TabsAt G h' → (∀ h2, PartV h2 v i) → Q v { s with heap := h', toks := tk }) : wpAny (model Pr G.w) G.A (evalPart e G.env) Q Eh s := by
  cases a with
  | none => exact evalPart_none_step (h _ s.heap s.toks (Up.refl _) O.tab fun _ => rfl)
  | some a => exact evalPart_some_step (a F _ _ s O fun v h1 tk1 U1 T1 R1 => h v h1 tk1 U1 T1 fun h2 => R1.pure trivial)
theorem PartV.isPart {h : Heap} {v : Value} : ∀ {i : Option Int}, PartV h v i → IsPart v i
  | none, e => by cases e; exact .none
  | some i, r => by obtain ⟨t, rfl⟩ := Rep.int_inv r; exact .int i t
theorem PartV.part {h : Heap} {v : Value} : ∀ {i : Option Int}, PartV h v i → ∃ p, v = partValue p ∧ p.map (·.1) = i
  | none, e => by cases e; exact ⟨none, rfl, rfl⟩
  | some i, r => by obtain ⟨t, rfl⟩ := Rep.int_inv r; exact ⟨some (i, t), rfl, rfl⟩
def cutL (l : List SV) (lo hi st : Option Int) : List SV := (sliceRange (sliceBounds lo hi st l.length).1 (sliceBounds lo hi st l.length).2.1 (sliceBounds lo hi st l.length).2.2).filterMap (l[·]?)
theorem Reps.picks {h : Heap} {vs : List Value} {l : List SV} (R : Reps h vs l) : ∀ (ks : List Nat), Reps h (ks.filterMap (vs[·]?)) (ks.filterMap (l[·]?))
  | [] => .nil
  | k :: ks => by
    have ih := R.picks ks
    cases e : l[k]? with
    | none =>
      have : vs[k]? = none := by
        have := R.length
        rw [List.getElem?_eq_none_iff] at e ⊢; omega
      simp only [List.filterMap_cons, e, this]; exact ih
    | some x =>
      obtain ⟨v, hv, r⟩ := R.get e
      simp only [List.filterMap_cons, e, hv]; exact .cons r ih
theorem EvF.slice {G : Ctx} {ρ : List (Str × SV)} {value : Expr} {lo hi st : Option Expr} {p pos : Pos} {l : List SV} {a b c : Option Int} (x : Ev G ρ value (.list l)) (y1 : EvPart G ρ lo a) (y2 : EvPart G ρ hi b) (y3 : EvPart G ρ st c) (h0 : c ≠ some 0 := by decide) (hl : l.length ≤ sizeLine)
    {r : List SV} (hr : cutL l a b c = r)
    (hs : ∀ vo vi, ∃ ops, subscripted (.Slice lo hi st p) false vo vi = operate ops (getItem vo vi) := by intro _ _; exact ⟨_, rfl⟩) : EvF G ρ (.Subscript value (.Slice lo hi st p) pos) (.list r) := by
  intro F Q Eh s O h
  refine Subscript_ (x F _ _ s O fun vo h1 tk1 U1 T1 R1 => ?_)
  have O1 := O.up U1 T1
  refine wpAny_Slice (y1.run (s := { s with heap := h1, toks := tk1 }) F O1 fun v1 h2 tk2 U2 T2 P1 => ?_)
  have O2 := O1.up U2 T2
  refine y2.run (s := { s with heap := h2, toks := tk2 }) F O2 fun v2 h3 tk3 U3 T3 P2 => ?_
  have O3 := O2.up U3 T3
  refine y3.run (s := { s with heap := h3, toks := tk3 }) F O3 fun v3 h4 tk4 U4 T4 P3 => ?_
  obtain ⟨ad, vs, n, rfl, hv, R⟩ := (((R1.up U2 T1.objs).up U3 T2.objs).up U4 T3.objs).list_inv
  have U : Up s.heap h4 := ((U1.trans U2).trans U3).trans U4
  have X := push_ext h4 { cls := .type "slice", data := .fields #[v1, v2, v3] }
  have hL : h4.IsList ad vs.toArray := ⟨_, hv, rfl, _, rfl⟩
  obtain ⟨ops, ho⟩ := hs (.ref ad) (.ref h4.objs.size)
  refine sub_tail (T := "list") (Heap.IsList.typeIs (s := { s with heap := h4.push _, toks := tk4 }) (hL.push _)) list_getitem_lookup (wpAny_getItem_list_slice (s := { s with heap := h4.push _, toks := tk4 }) (hL.push _) (Heap.IsSliceOf.new ..) (P1 h4).isPart (P2 h4).isPart (P3 h4).isPart h0 ?_ (by rw [List.size_toArray, R.length]; exact hl)) ho
  have T5 := T4.ext X
  have X2 := push_ext (h4.push { cls := .type "slice", data := .fields #[v1, v2, v3] }) { cls := .type "list", data := .seq (slicePick vs.toArray a b c) }
  refine h _ _ tk4 ((U.trans X.up).trans X2.up) (T5.ext X2) ?_ fun b e => ?_
  · have R5 := R.up X.up T4.objs
    have := Rep.new_list (n := 0) T5.objs (R5.picks (sliceRange (sliceBounds a b c l.length).1 (sliceBounds a b c l.length).2.1 (sliceBounds a b c l.length).2.2))
    rw [← hr]
    unfold cutL
    unfold slicePick
    rw [List.size_toArray, R.length]
    simpa using this
  · cases e
    exact up_none T5.objs (U.trans X.up) (get_none (Nat.le_refl _))
theorem Ev.sliceS {G : Ctx} {ρ : List (Str × SV)} {value : Expr} {lo hi : Option Expr} {p pos : Pos} {x : Str} {a b : Option Int} (x0 : Ev G ρ value (.str x)) (y1 : EvPart G ρ lo a) (y2 : EvPart G ρ hi b) (hl : x.length ≤ sizeLine)
    {r : Str} (hr : Txt.slice x a b = r)
    (hs : ∀ vo vi, ∃ ops, subscripted (.Slice lo hi Option.none p) false vo vi = operate ops (getItem vo vi) := by intro _ _; exact ⟨_, rfl⟩) : Ev G ρ (.Subscript value (.Slice lo hi Option.none p) pos) (.str r) := by
  intro F Q Eh s O h
  refine Subscript_ (x0 F _ _ s O fun vo h1 tk1 U1 T1 R1 => ?_)
  have O1 := O.up U1 T1
  refine wpAny_Slice (y1.run (s := { s with heap := h1, toks := tk1 }) F O1 fun v1 h2 tk2 U2 T2 P1 => ?_)
  have O2 := O1.up U2 T2
  refine y2.run (s := { s with heap := h2, toks := tk2 }) F O2 fun v2 h3 tk3 U3 T3 P2 => ?_
  refine evalPart_none_step ?_
  obtain ⟨t, rfl⟩ := R1.str_inv
  obtain ⟨p1, rfl, e1⟩ := (P1 h3).part
  obtain ⟨p2, rfl, e2⟩ := (P2 h3).part
  have U : Up s.heap h3 := (U1.trans U2).trans U3
  have X := push_ext h3 { cls := .type "slice", data := .fields #[partValue p1, partValue p2, .none] }
  obtain ⟨ops, ho⟩ := hs (.str x t) (.ref h3.objs.size)
  refine sub_tail (T := "str") (typeIs_str _ x t) PySem.F.slot_str_getitem.lookup (wpAny_getItem_str_slice (s := { s with heap := h3.push _, toks := tk3 }) (l := p1) (u := p2) (st := Option.none) ⟨_, Heap.get?_push_size _ rfl, rfl, rfl⟩ rfl ?_) ho
  subst e1 e2 hr
  refine post_val_or_str ⟨Nat.le_trans (Txt.slice_le x _ _) hl, fun t' k => ?_⟩
  exact h _ _ k (U.trans X.up) (T3.ext X) (.str _ _)

theorem Rn.assignT {G : Ctx} {ρ ρ' : List (Str × SV)} {μ : Mu} {xs : List Str} {es : List Expr} {k : Nat} {tp pos : Pos} {e : Expr} {ss : List Stmt} {sv : SV} {r : Fin'} (a : Ev G (view ρ μ) e sv) (t : AsgTo G xs (.Tuple es k tp) sv ρ ρ' μ) (b : Rn G ρ' μ ss r)
    (hs : swapsWithSole [.Tuple es k tp] e pos.line G.env = pure false := by rfl) (hw : swappedStores [.Tuple es k tp] e G.env = pure none := by rfl) : Rn G ρ μ (.Assign [.Tuple es k tp] e pos :: ss) r := by
  intro F S Q Eh s O P
  refine wpAny_execs_cons (Assign_Tuple (a F _ _ s O.ok fun v h1 tk1 U1 T1 R1 => ?_) hs hw)
  refine t F S _ _ { s with heap := h1, toks := tk1 } v (O.up U1 T1) R1 fun h2 tk2 O2 K2 _ _ => ?_
  exact b F S Q Eh { s with heap := h2, toks := tk2 } O2 (P.after ((U1.kp O.ok.tab.objs).trans K2.any))
theorem Rn.assignSw {G : Ctx} {ρ : List (Str × SV)} {μ : Mu} {a b : Str} {pa pb tp vp pos : Pos} {v1 v2 : Expr} {k kv : Nat} {ss : List Stmt} {x y : SV} {r : Fin'} (e : Ev G (view ρ μ) (.Tuple [v1, v2] kv vp) (.tup [x, y])) (ha : G.env.kindOf a = some .local) (hb : G.env.kindOf b = some .local)
    (c : Rn G ((a, x) :: (b, y) :: ρ) μ ss r) (fa : Fits μ a x := by trivial) (fb : Fits μ b y := by trivial) 
    (hw : ∀ env : Env, env.blockKind = .function → env.kindOf a = some .local → env.kindOf b = some .local → swappedStores [.Tuple [.Name a pa, .Name b pb] k tp] (.Tuple [v1, v2] kv vp) env = pure (some [a, b])) : Rn G ρ μ (.Assign [.Tuple [.Name a pa, .Name b pb] k tp] (.Tuple [v1, v2] kv vp) pos :: ss) r := by
  intro F S Q Eh s O P
  refine wpAny_execs_cons (Assign_Tuple_swapped (names := [a, b]) (e F _ _ s O.ok fun v h1 tk1 U1 T1 R1 => ?_) rfl (hw _ F.block ha hb))
  obtain ⟨T, vs, rfl, hT, R⟩ := R1.tup_inv
  cases R with
  | @cons u1 _ _ _ r1 R =>
  cases R with
  | @cons u2 _ _ _ r2 R =>
  cases R
  rw [show ([a, b] : List Str).length = ([u1, u2] : List Value).toArray.size from rfl]
  refine wpAny_unpackItems_tuple (s := { s with heap := h1, toks := tk1 }) F.handled hT fun h2 x2 => ?_
  have X := ext_of_but x2
  have O1 := (O.up U1 T1).up X.up (T1.ext X)
  have r1 := r1.up X.up T1.objs
  have r2 := r2.up X.up T1.objs
  show wpAny _ _ (do holding [u1] (bindName G.env b u2); assignInOrder [bindName G.env a] [u1]) _ _ _
  refine wpAny_bind (wpAny_holding (wpAny_bindName (store (s := { s with heap := h2, toks := tk1 }) F S (.inl hb) O1.ok fun h3 tk3 st3 => ?_)))
  have O3 := O1.sto st3 S.nw r2 fb
  show wpAny _ _ (do holding [] (bindName G.env a u1); assignInOrder [] []) _ _ _
  refine wpAny_bind (wpAny_holding (wpAny_bindName (store (s := { s with heap := h3, toks := tk3 }) F S (.inl ha) O3.ok fun h4 tk4 st4 => wpAny_pure ?_)))
  have O4 := O3.sto st4 S.nw (r1.kp st3.kp) fa
  exact c F S Q Eh { s with heap := h4, toks := tk4 } O4 (P.after ((((U1.kp O.ok.tab.objs).trans (X.up.kp T1.objs)).trans st3.kp).trans st4.kp))
/-- an operation in place -/
def InB (op : Operator) (a b c : SV) : Prop := ∀ (G : Ctx) (ρ : List (Str × SV)) (Q Eh : Value → Shared → Prop) (s : Shared) (va vb : Value), Fm G → Okay G ρ s.heap → Rep s.heap va a → Rep s.heap vb b →
  (∀ v h' tk, Up s.heap h' → TabsAt G h' → Rep h' v c → Q v { s with heap := h', toks := tk }) → wpAny (model Pr G.w) G.A (inplaceOp op va vb) Q Eh s
theorem Rn.aug {G : Ctx} {ρ : List (Str × SV)} {μ : Mu} {x : Str} {p pos : Pos} {op : Operator} {e : Expr} {a b c : SV} {ss : List Stmt} {r : Fin'} (hx : (view ρ μ).lookup x = some a) (y : Ev G (view ρ μ) e b) (z : InB op a b c) (hk : Settable G x) (k : Rn G ((x, c) :: ρ) μ ss r) (f : Fits μ x c := by trivial)
    (hn : (x == ("__classdict__" : Str)) = false := by decide) : Rn G ρ μ (.AugAssign (.Name x p) op e pos :: ss) r := by
  intro F S Q Eh s O P
  have hkd := F.kind
  obtain ⟨v, hv, ra⟩ := O.ok.kn x a hx
  refine wpAny_execs_cons (wpAny_AugAssign_Name ?_)
  have load : ∀ {Q : Value → Shared → Prop}, Q v s → wpAny (model Pr G.w) G.A (loadName G.env x) Q Eh s := fun {Q} h => by
    cases hv with
    | loc k m n em => exact wpAny_loadName_local hkd k n em h
    | cell k c l ec => exact wpAny_loadName_cell hkd k l ec h
    | free k c l ec => exact wpAny_loadName_free hkd k l ec h hn
  refine load (y F _ _ s O.ok fun vb h1 tk1 U1 T1 R1 => ?_)
  have O1 := O.up U1 T1
  refine z G _ _ _ { s with heap := h1, toks := tk1 } v vb F O1.ok (ra.up U1 O.ok.tab.objs) R1 fun vc h2 tk2 U2 T2 R2 => ?_
  have O2 := O1.up U2 T2
  exact store (s := { s with heap := h2, toks := tk2 }) F S hk O2.ok fun h3 tk3 st => k F S Q Eh { s with heap := h3, toks := tk3 } (O2.sto st S.nw R2 f) (P.after (((U1.trans U2).kp O.ok.tab.objs).trans st.kp))
theorem InB.add {a b : Int} : InB .Add (.int a) (.int b) (.int (a + b)) := fun G ρ Q Eh s va vb F O ra rb h => by
  obtain ⟨t, rfl⟩ := ra.int_inv; obtain ⟨u, rfl⟩ := rb.int_inv; exact P.iadd_int (h _ _ _ (Up.refl _) O.tab (.int _ _))
theorem InB.sub {a b : Int} : InB .Sub (.int a) (.int b) (.int (a - b)) := fun G ρ Q Eh s va vb F O ra rb h => by
  obtain ⟨t, rfl⟩ := ra.int_inv; obtain ⟨u, rfl⟩ := rb.int_inv; exact P.isub_int (h _ _ _ (Up.refl _) O.tab (.int _ _))
/-- an assertion that holds -/
theorem Rn.assert {G : Ctx} {ρ : List (Str × SV)} {μ : Mu} {e : Expr} {msg : Option Expr} {pos : Pos} {ss : List Stmt} {r : Fin'} (t : Tst G (view ρ μ) e true) (k : Rn G ρ μ ss r) : Rn G ρ μ (.Assert e msg pos :: ss) r := by
  intro F S Q Eh s O P
  refine wpAny_execs_cons (wpAny_Assert_holds (t F _ _ s O.ok fun h1 tk1 U1 T1 => ?_))
  exact ⟨rfl, k F S Q Eh { s with heap := h1, toks := tk1 } (O.up U1 T1) (P.after (U1.kp O.ok.tab.objs))⟩
/-- the order of the stores of two names -/
theorem sw_two {a b : Str} {pa pb tp vp : Pos} {k kv : Nat} {v1 v2 : Expr} {env : Env} (e1 : env.blockKind = .function) (ha : env.kindOf a = some .local) (hb : env.kindOf b = some .local)
    (hl : (pb.line == pa.line) = true) (hab : ([a, b].eraseDups.length != 2) = false) (hv : ([v1, v2].any fun | .Starred .. => true | _ => false) = false) (hf : [v1, v2].all (foldedForSure 8) = false) (hc : [v1, v2].all (constantsAlone 8) = false) :
    swappedStores [.Tuple [.Name a pa, .Name b pb] k tp] (.Tuple [v1, v2] kv vp) env = pure (some [a, b]) := by
  have n : ([Expr.Name a pa, Expr.Name b pb].filterMap fun | .Name id pos => if (env.kindOf id == some NameKind.local && pos.line == pa.line) = true then some id else none | _ => none) = [a, b] := by
    rw [List.filterMap_cons_some (b := a), List.filterMap_cons_some (b := b)]
    · rfl
    · show (if (env.kindOf b == some NameKind.local && pb.line == pa.line) = true then some b else none) = some b
      rw [hb, hl]; rfl
    · show (if (env.kindOf a == some NameKind.local && pa.line == pa.line) = true then some a else none) = some a
      rw [ha, beq_self_eq_true pa.line]; rfl
  show (if (!([Expr.Name a pa, Expr.Name b pb].length == 2 || [Expr.Name a pa, Expr.Name b pb].length == 3) || [v1, v2].length != [Expr.Name a pa, Expr.Name b pb].length || env.blockKind != .function) = true then pure none else
    if ([v1, v2].any fun | .Starred .. => true | _ => false) = true then pure none else
    if (([Expr.Name a pa, Expr.Name b pb].filterMap fun | .Name id pos => if (env.kindOf id == some NameKind.local && pos.line == pa.line) = true then some id else none | _ => none).length != 2 || ([Expr.Name a pa, Expr.Name b pb].filterMap fun | .Name id pos => if (env.kindOf id == some NameKind.local && pos.line == pa.line) = true then some id else none | _ => none).eraseDups.length != ([Expr.Name a pa, Expr.Name b pb].filterMap fun | .Name id pos => if (env.kindOf id == some NameKind.local && pos.line == pa.line) = true then some id else none | _ => none).length) = true then pure none else
    if [v1, v2].all (foldedForSure 8) = true then pure none else if [v1, v2].all (constantsAlone 8) = true then unsupported _ else pure (some ([Expr.Name a pa, Expr.Name b pb].filterMap fun | .Name id pos => if (env.kindOf id == some NameKind.local && pos.line == pa.line) = true then some id else none | _ => none)) : Sem (Option (List Str))) = _
  rw [n, e1, hv, hf, hc]
  have ff : ∀ {α : Type} {x y : α}, (if false = true then x else y) = y := fun {α x y} => if_neg (fun h => nomatch h)
  refine Eq.trans (if_neg (fun h => nomatch (show (false : Bool) = true from h))) (ff.trans (Eq.trans (if_neg ?_) (ff.trans ff)))
  show ¬ ((false || ([a, b].eraseDups.length != 2)) = true)
  rw [hab]; decide

/-- where the model keeps a method -/
structure MethAt (T : String) (name : Str) (id : String) : Prop where
  pa : PlainAttrs T
  slot : Slot T name id
  ty : typeOf (.builtin id) = pure (.type "method_descriptor")
theorem m_startswith : MethAt "str" "startswith" "str.startswith" := ⟨F.plainAttrs_str, F.slot_str_startswith, F.type_str_startswith⟩
theorem m_endswith : MethAt "str" "endswith" "str.endswith" := ⟨F.plainAttrs_str, F.slot_str_endswith, F.type_str_endswith⟩
theorem m_find : MethAt "str" "find" "str.find" := ⟨F.plainAttrs_str, F.slot_str_find, F.type_str_find⟩
theorem m_split : MethAt "str" "split" "str.split" := ⟨F.plainAttrs_str, F.slot_str_split, F.type_str_split⟩
theorem m_join : MethAt "str" "join" "str.join" := ⟨F.plainAttrs_str, F.slot_str_join, F.type_str_join⟩
theorem m_bitlen : MethAt "int" "bit_length" "int.bit_length" := ⟨F.plainAttrs_int, F.slot_int_bit_length, F.type_int_bit_length⟩
theorem m_append : MethAt "list" "append" "list.append" := ⟨F.plainAttrs_list, F.slot_list_append, F.type_list_append⟩
theorem m_reverse : MethAt "list" "reverse" "list.reverse" := ⟨F.plainAttrs_list, F.slot_list_reverse, F.type_list_reverse⟩
theorem evalArgs_nilS {M : Model} {A : Around} {f : Value} {Q : Args → Shared → Prop} {E : Value → Shared → Prop} {s : Shared} (h : wpAny M A (spliced []) (fun vs s₁ => Q ⟨vs, []⟩ s₁) E s) : wpAny M A (evalArgs f true [] []) Q E s := by
  unfold evalArgs
  show wpAny M A (spliced [] >>= _) Q E s
  refine wpAny_bind (wpAny_mono h (fun vs s' h' => ?_) fun _ _ x => x)
  refine wpAny_bind (wpAny_pure ?_)
  refine wpAny_holding ?_
  exact wpAny_bind (wpAny_pure (wpAny_bind (wpAny_pure (wpAny_pure h'))))
/-- the evaluation of a call of a method -/
theorem meth_eval {G : Ctx} {ρ : List (Str × SV)} {T : String} {name : Str} {id : String} (m : MethAt T name id) {o : Expr} {es : List Expr} {apos pos : Pos} {l : List SV} {s : Shared} {Q Eh : Value → Shared → Prop} (F : Fm G) (O : Okay G ρ s.heap) (ev : EvAll G ρ es l)
    (h : wpAny (model Pr G.w) G.A (eval o G.env) (fun ov s₁ => ∃ h1 tk1, s₁ = { s with heap := h1, toks := tk1 } ∧ Up s.heap h1 ∧ TabsAt G h1 ∧ s₁.TypeIs ov T ∧ (∀ a, ov = .ref a → ∃ ob, h1.get? a = some ob ∧ ob.dict = none) ∧
      ∀ vs h2 tk2, Up h1 h2 → TabsAt G h2 → Reps h2 vs l → wpAny (model Pr G.w) G.A (call (.builtin id) (ov :: vs)) Q Eh { s with heap := h2, toks := tk2 }) Eh s)
    (hbase : attributeBase o name G.env (eval o G.env) = eval o G.env := by rfl)
    (hfew : ∀ env, ((backTo pos (starEach es env)).all (fun x => !x.1) && (backToKw pos (keywordEach [] env)).all (fun x => x.1.isSome)
      && decide (es.length + ([] : List Keyword).length + (if ([] : List Keyword).isEmpty then 0 else 1) < 30)) = true := by intro _; rfl)
    (hline : (apos.endLine == pos.line) = true := by rfl) (hp : ∀ env, (backTo pos (starEach es env)).any (·.1) = false := by intro _; rfl)
    (hev : ∀ {f : Value} {Q : Args → Shared → Prop} {E : Value → Shared → Prop} {s : Shared}, wpAny (model Pr G.w) G.A (spliced (backTo pos (starEach es G.env))) (fun vs s₁ => Q ⟨vs, []⟩ s₁) E s → wpAny (model Pr G.w) G.A (evalArgs f true (backTo pos (starEach es G.env)) []) Q E s := by
      intro f Q E s h; first | exact evalArgs_plain h | exact evalArgs_nilS h) : wpAny (model Pr G.w) G.A (eval (.Call (.Attribute o name apos) es [] pos) G.env) Q Eh s := by
  refine wpAny_Call_method_lateS hbase (hfew _) hline (wpAny_mono h (fun ov s₁ h₁ => ?_) fun _ _ e => e)
  obtain ⟨h1, tk1, rfl, U1, T1, hT, hd, k⟩ := h₁
  refine ⟨T, id, m.pa, m.slot, m.ty, hT, hd, ?_⟩
  refine callWith_builtin (hp _) (hev ?_)
  exact ev F pos _ _ { s with heap := h1, toks := tk1 } (O.up U1 T1) fun vs h2 tk2 U2 T2 R2 => k vs h2 tk2 U2 T2 R2
/-- a method of a value that is no object -/
def Meth (T : String) (id : String) (o : SV) (l : List SV) (r : SV) : Prop := ∀ (G : Ctx) (ρ : List (Str × SV)) (Q Eh : Value → Shared → Prop) (s : Shared) (vo : Value) (vs : List Value), Fm G → Okay G ρ s.heap → Rep s.heap vo o → Reps s.heap vs l →
  (∀ v h' tk, Up s.heap h' → TabsAt G h' → Rep h' v r → (∀ a, v = .ref a → s.heap.get? a = none) → Q v { s with heap := h', toks := tk }) → wpAny (model Pr G.w) G.A (call (.builtin id) (vo :: vs)) Q Eh s
theorem EvF.meth {G : Ctx} {ρ : List (Str × SV)} {T : String} {name : Str} {id : String} (m : MethAt T name id) {o : Expr} {es : List Expr} {apos pos : Pos} {ov r : SV} {l : List SV} (a : Ev G ρ o ov) (ev : EvAll G ρ es l) (z : Meth T id ov l r) (hT : ∀ h v, Rep h v ov → ∀ s : Shared, s.heap = h → s.TypeIs v T ∧ ∀ a, v ≠ .ref a)
    (hbase : attributeBase o name G.env (eval o G.env) = eval o G.env := by rfl)
    (hfew : ∀ env, ((backTo pos (starEach es env)).all (fun x => !x.1) && (backToKw pos (keywordEach [] env)).all (fun x => x.1.isSome)
      && decide (es.length + ([] : List Keyword).length + (if ([] : List Keyword).isEmpty then 0 else 1) < 30)) = true := by intro _; rfl)
    (hline : (apos.endLine == pos.line) = true := by rfl) (hp : ∀ env, (backTo pos (starEach es env)).any (·.1) = false := by intro _; rfl)
    (hev : ∀ {f : Value} {Q : Args → Shared → Prop} {E : Value → Shared → Prop} {s : Shared}, wpAny (model Pr G.w) G.A (spliced (backTo pos (starEach es G.env))) (fun vs s₁ => Q ⟨vs, []⟩ s₁) E s → wpAny (model Pr G.w) G.A (evalArgs f true (backTo pos (starEach es G.env)) []) Q E s := by
      intro f Q E s h; first | exact evalArgs_plain h | exact evalArgs_nilS h) : EvF G ρ (.Call (.Attribute o name apos) es [] pos) r := by
  intro F Q Eh s O h
  refine meth_eval m F O ev (a F _ _ s O fun v h1 tk1 U1 T1 R1 => ?_) hbase hfew hline hp hev
  obtain ⟨q1, q2⟩ := hT h1 v R1 { s with heap := h1, toks := tk1 } rfl
  refine ⟨h1, tk1, rfl, U1, T1, q1, fun a e => absurd e (q2 a), fun vs h2 tk2 U2 T2 R2 => ?_⟩
  exact z G ρ _ _ { s with heap := h2, toks := tk2 } v vs F ((O.up U1 T1).up U2 T2) (R1.up U2 T1.objs) R2 fun u h3 tk3 U3 T3 R3 nw => h u h3 tk3 ((U1.trans U2).trans U3) T3 R3 fun a e => up_none T2.objs (U1.trans U2) (nw a e)
theorem strT {x : Str} : ∀ h v, Rep h v (.str x) → ∀ s : Shared, s.heap = h → s.TypeIs v "str" ∧ ∀ a, v ≠ .ref a := fun h v r s _ => by
  obtain ⟨t, rfl⟩ := r.str_inv; exact ⟨typeIs_str _ _ _, fun a e => nomatch e⟩
theorem intT {i : Int} : ∀ h v, Rep h v (.int i) → ∀ s : Shared, s.heap = h → s.TypeIs v "int" ∧ ∀ a, v ≠ .ref a := fun h v r s _ => by
  obtain ⟨t, rfl⟩ := r.int_inv; exact ⟨typeIs_int _ _ _, fun a e => nomatch e⟩
theorem Meth.bitlen {a : Int} : Meth "int" "int.bit_length" (.int a) [] (.int (Builtin.Int.intBits a)) := fun G ρ Q Eh s vo vs F O ro R h => by
  obtain ⟨t, rfl⟩ := ro.int_inv; cases R
  exact call_int_bit_length (h _ _ _ (Up.refl _) O.tab (.int _ _) fun a e => nomatch e)
theorem Meth.startswith {x y : Str} : Meth "str" "str.startswith" (.str x) [.str y] (.bool (Txt.startswith x y)) := fun G ρ Q Eh s vo vs F O ro R h => by
  obtain ⟨t, rfl⟩ := ro.str_inv
  cases R with | cons r R =>
  cases R; obtain ⟨u, rfl⟩ := r.str_inv
  exact SC.startswith (h _ _ s.toks (Up.refl _) O.tab (.bool _) fun a e => nomatch e)
theorem Meth.endswith {x y : Str} : Meth "str" "str.endswith" (.str x) [.str y] (.bool (Txt.endswith x y)) := fun G ρ Q Eh s vo vs F O ro R h => by
  obtain ⟨t, rfl⟩ := ro.str_inv
  cases R with | cons r R =>
  cases R; obtain ⟨u, rfl⟩ := r.str_inv
  exact SC.endswith (h _ _ s.toks (Up.refl _) O.tab (.bool _) fun a e => nomatch e)

def iL (ns : List Int) : List SV := ns.map .int
theorem ints_of {h : Heap} : ∀ {vs : List Value} {ns : List Int}, Reps h vs (iL ns) → IntsAre vs ns
  | [], [], _ => .nil
  | _ :: _, [], r => by cases r
  | [], _ :: _, r => by cases r
  | v :: vs, n :: ns, r => by
    cases r with
    | cons a b => obtain ⟨t, rfl⟩ := a.int_inv; exact .cons _ _ (ints_of b)
theorem of_ints {h : Heap} : ∀ {vs : List Value} {ns : List Int}, IntsAre vs ns → Reps h vs (iL ns)
  | _, _, .nil => .nil
  | _, _, .cons _ _ r => .cons (.int _ _) (of_ints r)
theorem ext_keep {h h' : Heap} (k : ∀ b o, h.get? b = some o → h'.get? b = some o) : Ext h h' := k
theorem BFn.len_str {x : Str} (hf : (x.length : Int) < 2 ^ 63 := by decide) : BFn "len" [.str x] (.int x.length) := fun G ρ Q Eh s vs F O R h => by
  cases R with | cons r R =>
  cases R; obtain ⟨t, rfl⟩ := r.str_inv
  exact P.len_str (by omega) (h _ _ _ (Up.refl _) O.tab (.int _ _))
theorem BFn.len_list {l : List SV} (hf : (l.length : Int) < 2 ^ 63 := by decide) : BFn "len" [.list l] (.int l.length) := fun G ρ Q Eh s vs F O R h => by
  cases R with | cons r R =>
  cases R; obtain ⟨a, us, n, rfl, hl, R⟩ := r.list_inv
  refine PyProof.Rows.len_list ⟨_, hl, rfl, _, rfl⟩ (by rw [List.size_toArray, R.length]; exact hf) (h _ _ _ (Up.refl _) O.tab ?_)
  rw [List.size_toArray, R.length]; exact .int _ _
theorem BFn.max {ns : List Int} {m : Int} (hm : m ∈ ns) (hx : ∀ a ∈ ns, a ≤ m) : BFn "max" [.list (iL ns)] (.int m) := fun G ρ Q Eh s vs F O R h => by
  cases R with | cons r R =>
  cases R; obtain ⟨a, us, n, rfl, hl, R⟩ := r.list_inv
  have hi := ints_of R
  obtain ⟨xs, e⟩ := hi.allInts.items
  have hns : ns = xs.toList.map (·.1) := by rw [← hi.numsOf, ← nums_intItems, ← e]
  have hne : 0 < ns.length := List.length_pos_of_mem hm
  have hsz : 0 < xs.size := by rw [hns, List.length_map, Array.length_toList] at hne; exact hne
  have hL : s.heap.IsList a (intItems xs) := ⟨_, by rw [e] at hl; exact hl, rfl, _, rfl⟩
  refine max_intList F.handled hL hsz fun v h' tk hv hk => ?_
  obtain ⟨t, rfl⟩ := intItems_at hv
  obtain ⟨h1, h2⟩ := argBest_gt (numAt xs) (xs.size - 1)
  have e1 : numAt xs (argBest (fun i j => decide (numAt xs i > numAt xs j)) (xs.size - 1)) = m := by
    refine Int.le_antisymm (hx _ ?_) ?_
    · rw [hns, numAt_eq]; exact PySem.getD_mem (by rw [List.length_map, Array.length_toList]; omega)
    · rw [hns] at hm
      obtain ⟨j, hj, rfl⟩ := PySem.mem_getD hm
      rw [List.length_map, Array.length_toList] at hj
      rw [← numAt_eq]; exact h2 j (by omega)
  exact h _ h' tk (Ext.up hk) (O.tab.ext hk) (e1 ▸ .int _ t)
theorem BFn.sum {ns : List Int} : BFn "sum" [.list (iL ns)] (.int ns.sum) := fun G ρ Q Eh s vs F O R h => by
  cases R with | cons r R =>
  cases R; obtain ⟨a, us, n, rfl, hl, R⟩ := r.list_inv
  have hi := ints_of R
  obtain ⟨xs, e⟩ := hi.allInts.items
  have hns : ns = xs.toList.map (·.1) := by rw [← hi.numsOf, ← nums_intItems, ← e]
  have hL : s.heap.IsList a (intItems xs) := ⟨_, by rw [e] at hl; exact hl, rfl, _, rfl⟩
  refine sum_intListG F.handled hL fun h' tk t' hk => ?_
  have e1 : preSum (numAt xs) xs.size = ns.sum := by rw [preSum_eq, List.take_of_length_le (by simp), hns]
  exact h _ h' tk (Ext.up hk) (O.tab.ext hk) (e1 ▸ .int _ t')
theorem BFn.sorted {ns ms : List Int} (hp : ms.Perm ns) (hs : ms.Pairwise (· ≤ ·)) (h64 : ns.length < 64) : BFn "sorted" [.list (iL ns)] (.list (iL ms)) := fun G ρ Q Eh s vs F O R h => by
  cases R with | cons r R =>
  cases R; obtain ⟨a, us, n, rfl, hl, R⟩ := r.list_inv
  refine sorted_ints ⟨_, hl, rfl, _, rfl⟩ (ints_of R) (by rw [R.length]; simpa [iL] using h64) fun out ns' a1 a2 a3 => ?_
  obtain ⟨e, he⟩ := sortedAll_at s.heap us out
  have hk : Ext s.heap (sortedAll s.heap us out) := fun _ _ => sortedAll_old
  have : ns' = ms := (a2.trans hp.symm).eq_of_pairwise (le := (· ≤ ·)) (fun a b _ _ h1 h2 => Int.le_antisymm h1 h2) a3 hs
  subst this
  exact h _ _ s.toks (Ext.up hk) (O.tab.ext hk) (.list (vs := out.toList) (by simpa [seqObj] using he) (of_ints a1))
theorem BFn.divmod {a b : Int} (hb : b ≠ 0) (hp : Builtin.divisionGoesByPylong a b = false) : BFn "divmod" [.int a, .int b] (.tup [.int (a.fdiv b), .int (a.fmod b)]) := fun G ρ Q Eh s vs F O R h => by
  cases R with | cons r R =>
  cases R with | cons r2 R =>
  cases R; obtain ⟨t, rfl⟩ := r.int_inv; obtain ⟨u, rfl⟩ := r2.int_inv
  refine divmod_int hb (h _ _ _ (push_ext _ _).up (O.tab.ext (push_ext _ _)) ?_) (.inl hp)
  exact Rep.new_tup (vs := [.int (a.fdiv b) _, .int (a.fmod b) _]) O.tab.objs (.cons (.int _ _) (.cons (.int _ _) .nil))
theorem Reps.of_get {h : Heap} : ∀ {vs : List Value} {l : List SV}, vs.length = l.length → (∀ (i : Nat) (v : Value) (x : SV), vs[i]? = some v → l[i]? = some x → Rep h v x) → Reps h vs l
  | [], [], _, _ => .nil
  | v :: vs, x :: l, e, k => .cons (k 0 v x rfl rfl) (Reps.of_get (Nat.succ.inj e) fun i v x a b => k (i + 1) v x a b)
/-- list(range(e)) -/
theorem Ev.listRange {G : Ctx} {ρ : List (Str × SV)} {p p2 pos pos2 : Pos} {e : Expr} {n : Nat} (hl : G.env.kindOf "list" = some .globalImplicit) (hr : G.env.kindOf "range" = some .globalImplicit) (a : Ev G ρ e (.int n)) (hn : n ≤ 2 ^ 24)
    (he : ∀ env, starEach [e] env = (false, eval e env) :: starEach [] env := by intro _; rfl) : Ev G ρ (.Call (.Name "list" p) [.Call (.Name "range" p2) [e] [] pos2] [] pos) (.list (toN n)) := by
  intro F Q Eh s O h
  refine wpAny_Call_NameR (bi_eval b_list hl F O ?_)
  refine callWith_type1 (spliced_more (callT_eval b_range hr (.cons a .nil he) F O (fun vs h1 tk1 U1 T1 R1 => ?_) he) rfl) rfl rfl
  cases R1 with
  | cons r rs =>
  cases rs
  obtain ⟨t, rfl⟩ := r.int_inv
  refine call_range_1 (spliced_none ?_)
  have X1 := push_ext h1 { cls := .type "range", data := .fields #[.int 0 tk1, .int n t, .int 1 (tk1 + 1)] }
  have T2 := T1.ext X1
  have sz : Builtin.Range.rangeSize 0 (n : Int) 1 = (n : Int) := by rw [rangeSize_one]; split <;> omega
  refine call_list_range (n := n) F.handled (IsRange.new _ _ _ _ _ _ _) (small_one (by omega) (by omega) (by omega) (by omega)) sz hn fun h3 tk3 acc c X3 g it => ?_
  have X3' : Ext (h1.push { cls := .type "range", data := .fields #[.int 0 tk1, .int n t, .int 1 (tk1 + 1)] }) h3 := X3
  refine h _ h3 tk3 ((U1.trans X1.up).trans X3'.up) (T2.ext X3') (.list (vs := acc.toList) (by simpa using g) ?_)
  refine Reps.of_get (by simp [toN, it.1]) fun i v x e1 e2 => ?_
  obtain ⟨t, rfl⟩ := it.2 i v (by simpa using e1)
  have hi : i < n := by have := (List.getElem?_eq_some_iff.mp e2).1; simpa [toN] using this
  have : x = .int i := by simp [toN, hi] at e2; exact e2.symm
  rw [this, Int.zero_add, Int.mul_one]
  exact .int _ _

/-- a name set to a new list that will be built -/
theorem Rn.enter {G : Ctx} {ρ : List (Str × SV)} {x : Str} {p pos : Pos} {e : Expr} {l : List SV} {ss : List Stmt} {r : Fin'} (a : EvF G ρ e (.list l)) (hp : ∀ y ∈ l, Pure y) (hk : Settable G x) (hx : ρ.lookup x = none)
    (b : ∀ ad, Rn G ρ (some (x, ad, l)) ss r) (hs : swapsWith e (some (.Name x p)) pos.line G.env = pure false := by rfl) : Rn G ρ none (.Assign [.Name x p] e pos :: ss) r := by
  intro F S Q Eh s O P
  refine wpAny_execs_cons (wpAny_Assign_Name (a F _ _ s O.ok fun v h1 tk1 U1 T1 R1 new => ?_) hs)
  have O1 : Okay G ρ h1 := O.ok.up U1 T1
  refine store (s := { s with heap := h1, toks := tk1 }) F S hk O1 fun h2 tk2 st => ?_
  obtain ⟨ad, vs, n, rfl, hl, R⟩ := R1.list_inv
  have nw := new ad rfl
  have O2 : Okay G ((x, .list l) :: ρ) h2 := O1.sto st S.nw R1
  obtain ⟨m, F0⟩ := O.ok.fr
  have K1 : Kp none s.heap h2 := (U1.kp O.ok.tab.objs).trans st.kp
  refine b ad F S Q Eh { s with heap := h2, toks := tk2 } ⟨O2, ?_, st.new, ⟨vs, n, st.kp (m := none) _ _ hl trivial (fun z => nomatch z), R.kp st.kp⟩, hp, fun y sv e => ?_⟩ (P.fresh K1 nw)
  · cases q : G.h₀.get? ad with
    | none => rfl
    | some o => have := F0.keep ad o q; rw [nw] at this; cases this
  · have ne : y ≠ x := fun z => by rw [z, hx] at e; cases e
    obtain ⟨v, hv, r⟩ := O.ok.kn y sv e
    refine ⟨ne, v, st.has y v ne (hv.up U1 O.ok.tab.objs), r.seqs fun b o xs k e1 d => ?_⟩
    exact hideAll_get _ (K1 b o e1 (by unfold stays; rw [d]; trivial) (fun z => nomatch z)) fun hm => by rw [List.mem_singleton.mp hm, nw] at e1; cases e1
/-- the list under build changes -/
theorem OkS.turn {G : Ctx} {ρ : List (Str × SV)} {x : Str} {ad : Addr} {l l' : List SV} {h h' : Heap} (O : OkS G ρ (some (x, ad, l)) h) {vs' : List Value} {n' : Nat} (hs : Heap.SameBut ad h h') (e' : h'.get? ad = some ({ cls := .type "list", data := .seq vs'.toArray n' } : Obj)) (R' : Reps h vs' l') (p' : ∀ y ∈ l', Pure y) :
    OkS G ρ (some (x, ad, l')) h' := by
  obtain ⟨h0, hx, ⟨vs, n, e, R⟩, p, k⟩ := O.mu
  have off : ∀ {b : Addr} {o : Obj}, h.get? b = some o → b ≠ ad → h'.get? b = some o := fun e1 ne => (hs.2 _ ne).trans e1
  have ns : ∀ {a : Addr} {m : Str → Option Value}, h.Ns a m → h'.Ns a m := fun {a m} z => z.sameBut hs fun w => by
    obtain ⟨o, _, _, q, d, _⟩ := z
    rw [w, e] at q; cases q; cases d
  have ce : ∀ {a : Addr} {m : Option Value}, h.IsCell a m → h'.IsCell a m := fun {a m} z => z.sameBut hs fun w => by
    obtain ⟨o, q, d⟩ := z
    rw [w, e] at q; cases q; cases d
  have has : ∀ {y : Str} {v : Value}, Has G.env h y v → Has G.env h' y v := fun {y v} z => by
    cases z with
    | loc k m n e => exact .loc k m (ns n) e
    | cell k c l e => exact .cell k c l (ce e)
    | free k c l e => exact .free k c l (ce e)
  have hid : ∀ {v : Value} {sv : SV}, Rep (hideAll h [ad]) v sv → Rep (hideAll h' [ad]) v sv := fun r => r.seqs fun b o xs k e1 d => by
    have ne : b ∉ [ad] := fun m => by rw [hideAll_none _ m] at e1; cases e1
    exact hideAll_get _ (off (of_hideAll _ e1) fun w => ne (w ▸ .head _)) ne
  have k' : ∀ y sv, ρ.lookup y = some sv → y ≠ x ∧ ∃ v, Has G.env h' y v ∧ Rep (hideAll h' [ad]) v sv := fun y sv q => by
    obtain ⟨ne, v, hv, r⟩ := k y sv q
    exact ⟨ne, v, has hv, hid r⟩
  have R2 : Reps h' vs' l' := R'.pure p'
  obtain ⟨m, F⟩ := O.ok.fr
  obtain ⟨m1, n1⟩ := O.ok.ns
  refine ⟨⟨⟨m, ns F.ns, fun b o q => off (F.keep b o q) (fun w => by rw [w, h0] at q; cases q), F.above⟩, ?_, fun y sv q => ?_, fun y c hc => let ⟨⟨v, i⟩, j⟩ := O.ok.cs y c hc; ⟨⟨v, ce i⟩, j⟩, m1, ns n1⟩, h0, has hx, ⟨vs', n', e', R2⟩, p', k'⟩
  · obtain ⟨t1, t2, N, a, b⟩ := O.ok.tab
    have cr : ∀ {c : Value} {q : Str}, h.CodeRec c q → h'.CodeRec c q := by
      rintro c q ⟨a, o, us, t, e1, g, d, r⟩
      exact ⟨a, o, us, t, e1, off g (fun w => by rw [w, e] at g; cases g; cases d), d, r⟩
    refine ⟨t1, t2, fun p hp => ⟨off (N p hp).1 fun w => ?_, (N p hp).2⟩, a.keep fun _ _ e => cr e, b.keep fun _ _ e => cr e⟩
    have := (N p hp).1
    rw [w, e] at this
    rcases List.mem_cons.mp hp with rfl | hp'
    · cases this
    · rw [List.mem_singleton.mp hp'] at this; cases this
  · change ((x, SV.list l') :: ρ).lookup y = _ at q
    rw [List.lookup_cons] at q
    cases w : y == x with
    | true =>
      rw [w] at q; cases q
      rw [eq_of_beq w]
      exact ⟨_, has hx, .list e' R2⟩
    | false =>
      rw [w] at q
      obtain ⟨_, v, hv, r⟩ := k' y sv q
      exact ⟨v, hv, r.seqs fun b o xs k e1 d => of_hideAll _ e1⟩
theorem kp_turn {h h' : Heap} {ad : Addr} (hs : Heap.SameBut ad h h') : Kp (some ad) h h' := fun b o e _ ne => (hs.2 b fun w => ne (by rw [w])).trans e
theorem not_interactive {G : Ctx} (F : Fm G) : interactive G.env = false := by
  unfold interactive
  simp [F.kind]
/-- x.append(e) -/
theorem Rn.append {G : Ctx} {ρ : List (Str × SV)} {x : Str} {ad : Addr} {l : List SV} {px apos cpos pos : Pos} {e : Expr} {v : SV} {ss : List Stmt} {r : Fin'} (a : Ev G (view ρ (some (x, ad, l))) e v) (pv : Pure v) (hl : l.length ≤ sizeLine) (b : Rn G ρ (some (x, ad, l ++ [v])) ss r)
    (hd : (x == ("__debug__" : Str)) = false := by decide) (hn : (x == ("__classdict__" : Str)) = false := by decide) (hline : (apos.endLine == cpos.line) = true := by rfl)
    (hs : swapsWith (.Call (.Attribute (.Name x px) "append" apos) [e] [] cpos) Option.none pos.line G.env = pure false := by rfl)
    (he : ∀ env, starEach [e] env = (false, eval e env) :: starEach [] env := by intro _; rfl) : Rn G ρ (some (x, ad, l)) (.Expr (.Call (.Attribute (.Name x px) "append" apos) [e] [] cpos) pos :: ss) r := by
  intro F S Q Eh s O P
  refine wpAny_execs_cons (wpAny_Expr_any ?_ (not_interactive F) hs)
  refine meth_eval m_append F O.ok (.cons a .nil he) (name_val (sv := .list l) (by show List.lookup x ((x, SV.list l) :: ρ) = _; rw [List.lookup_cons, beq_self_eq_true]) F O.ok (fun v0 hv0 _ => ?_) hd hn) rfl (fun _ => by rw [he]; rfl) hline (fun _ => by rw [he]; rfl) (fun h => by rw [he] at h ⊢; exact evalArgs_plain h)
  have := Has.unique hv0 O.mu.2.1
  subst this
  obtain ⟨_, _, ⟨vs, n, el, _⟩, _⟩ := O.mu
  refine ⟨s.heap, s.toks, rfl, Up.refl _, O.ok.tab, ⟨_, el, rfl⟩, fun a e => by cases e; exact ⟨_, el, rfl⟩, fun us h2 tk2 U2 T2 R2 => ?_⟩
  have O2 := O.up U2 T2
  obtain ⟨_, _, ⟨vs2, n2, e2, RR⟩, pl, _⟩ := O2.mu
  cases R2 with | cons rv R2 =>
  cases R2
  refine wpAny_list_append_plain (s := { s with heap := h2, toks := tk2 }) ⟨n2, e2⟩ (fun h3 pl3 hs3 => ?_) (by rw [List.size_toArray, RR.length]; exact hl)
  obtain ⟨n3, e3⟩ := pl3
  rw [List.push_toArray] at e3
  have O3 := O2.turn hs3 e3 (RR.append (.cons rv .nil)) fun y hy => (List.mem_append.mp hy).elim (pl y) fun hy => List.mem_singleton.mp hy ▸ pv
  exact b F S Q Eh { s with heap := h3, toks := tk2 } O3 (P.after ((U2.kp O.ok.tab.objs).trans (kp_turn hs3)))
/-- x.reverse() -/
theorem Rn.reverse {G : Ctx} {ρ : List (Str × SV)} {x : Str} {ad : Addr} {l : List SV} {px apos cpos pos : Pos} {ss : List Stmt} {r : Fin'} (hl : l.length ≤ sizeLine) (b : Rn G ρ (some (x, ad, l.reverse)) ss r)
    (hd : (x == ("__debug__" : Str)) = false := by decide) (hn : (x == ("__classdict__" : Str)) = false := by decide) (hline : (apos.endLine == cpos.line) = true := by rfl)
    (hs : swapsWith (.Call (.Attribute (.Name x px) "reverse" apos) [] [] cpos) Option.none pos.line G.env = pure false := by rfl) : Rn G ρ (some (x, ad, l)) (.Expr (.Call (.Attribute (.Name x px) "reverse" apos) [] [] cpos) pos :: ss) r := by
  intro F S Q Eh s O P
  refine wpAny_execs_cons (wpAny_Expr_any ?_ (not_interactive F) hs)
  refine meth_eval m_reverse F O.ok .nil (name_val (sv := .list l) (by show List.lookup x ((x, SV.list l) :: ρ) = _; rw [List.lookup_cons, beq_self_eq_true]) F O.ok (fun v0 hv0 _ => ?_) hd hn) rfl (fun _ => rfl) hline (fun _ => rfl) (fun h => evalArgs_nilS h)
  have := Has.unique hv0 O.mu.2.1
  subst this
  obtain ⟨_, _, ⟨vs, n, el, RR⟩, pl, _⟩ := O.mu
  refine ⟨s.heap, s.toks, rfl, Up.refl _, O.ok.tab, ⟨_, el, rfl⟩, fun a e => by cases e; exact ⟨_, el, rfl⟩, fun us h2 tk2 U2 T2 R2 => ?_⟩
  cases R2
  have O2 := O.up U2 T2
  obtain ⟨_, _, ⟨vs2, n2, e2, RR⟩, pl, _⟩ := O2.mu
  have T2' : (Shared.TypeIs { s with heap := h2, toks := tk2 } (.ref ad) "list") := ⟨_, e2, rfl⟩
  refine call_meets (s := { s with heap := h2, toks := tk2 }) PySem.F.slot_list_reverse T2' PySem.F.entry_list_reverse (PySem.F.args_list_reverse_1 _) (AutoSeq1.list_reverse_list_0 ad vs2.toArray n2 (by rw [List.size_toArray, RR.length]; exact hl)) ⟨e2, ?_⟩
  have hs3 : Heap.SameBut ad h2 (h2.update ad (Obj.mapSeq fun x => x.reverse)) := Heap.SameBut.update ..
  have e3 := IsL.update (n := n2) e2 (fun x => x.reverse)
  have O3 := O2.turn (vs' := vs2.reverse) (l' := l.reverse) hs3 (by simpa using e3) (Reps.of_get (by simp [RR.length]) fun i v y a c => ?_) fun y hy => pl y (List.mem_reverse.mp hy)
  · exact b F S Q Eh { s with heap := _, toks := tk2 } O3 (P.after ((U2.kp O.ok.tab.objs).trans (kp_turn hs3)))
  · have hi : i < vs2.length := by have := (List.getElem?_eq_some_iff.mp a).1; simpa using this
    rw [List.getElem?_reverse hi] at a
    rw [List.getElem?_reverse (by rw [← RR.length]; exact hi), ← RR.length] at c
    obtain ⟨u, hu, r⟩ := RR.get c
    rw [a] at hu; cases hu
    exact r

/-- a while that takes k turns -/
theorem Rn.while {G : Ctx} {test : Expr} {body : List Stmt} {pos : Pos} {ρ : List (Str × SV)} {ss : List Stmt} {r : Fin'} (ρs : Nat → List (Str × SV)) (k : Nat) (h0 : ∀ x sv, (ρs 0).lookup x = some sv → ρ.lookup x = some sv)
    (tst : ∀ i, i ≤ k → Tst G (ρs i) test (decide (i < k))) (turn : ∀ i, i < k → Rn G (ρs i) none body (.next (ρs (i + 1)) none)) (rest : Rn G (ρs k) none ss r) : Rn G ρ none (.While test body [] pos :: ss) r := by
  intro F S Q Eh s O P
  refine wpAny_execs_cons (wpAny_While ?_)
  refine codeAny_whileLoop (fun n s' => ∃ i h' tk, s' = { s with heap := h', toks := tk } ∧ i ≤ k ∧ n = k - i ∧ OkS G (ρs i) none h' ∧ Kp none s.heap h') ?_ k ⟨0, s.heap, s.toks, rfl, Nat.zero_le _, rfl, O.sub h0, Kp.refl _ _⟩
  rintro n s' ⟨i, h2, tk2, rfl, hi, rfl, O2, K2⟩
  refine tst i hi F _ _ { s with heap := h2, toks := tk2 } O2.ok fun h3 tk3 U3 T3 => ?_
  have O3 := O2.up U3 T3
  have K3 : Kp none s.heap h3 := K2.trans (U3.kp O2.ok.tab.objs)
  by_cases hk : i < k
  · rw [decide_eq_true hk]
    refine turn i hk F S _ _ { s with heap := h3, toks := tk3 } O3 fun h4 tk4 K4 O4 => ?_
    exact ⟨k - (i + 1), by omega, i + 1, h4, tk4, rfl, hk, rfl, O4, K3.trans K4⟩
  · rw [decide_eq_false hk]
    have : i = k := by omega
    subst this
    exact wpAny_execs_nil (rest F S Q Eh { s with heap := h3, toks := tk3 } O3 (P.after K3))
/-- del x[i] of the list under build -/
theorem Rn.del {G : Ctx} {ρ : List (Str × SV)} {x : Str} {ad : Addr} {l : List SV} {px sp pos : Pos} {e : Expr} {i : Int} {k : Nat} {ss : List Stmt} {r : Fin'} (a : Ev G (view ρ (some (x, ad, l))) e (.int i)) (hk : seqIndex? i l.length = some k) (hkl : k < l.length) (hf : Builtin.List.listFitsIndex i = true) (hl : l.length ≤ sizeLine)
    (b : Rn G ρ (some (x, ad, l.eraseIdx k)) ss r) (hd : (x == ("__debug__" : Str)) = false := by decide) (hn : (x == ("__classdict__" : Str)) = false := by decide) : Rn G ρ (some (x, ad, l)) (.Delete [.Subscript (.Name x px) e sp] pos :: ss) r := by
  intro F S Q Eh s O P
  refine wpAny_execs_cons (wpAny_Delete (wpAny_deleteEach_cons ?_))
  rw [arm_delete_Subscript]
  refine wpAny_bind (name_val (sv := .list l) (by show List.lookup x ((x, SV.list l) :: ρ) = _; rw [List.lookup_cons, beq_self_eq_true]) F O.ok (fun v0 hv0 _ => ?_) hd hn)
  have := Has.unique hv0 O.mu.2.1
  subst this
  refine wpAny_bind (wpAny_holding (a F _ _ s O.ok fun vi h2 tk2 U2 T2 R2 => ?_))
  obtain ⟨t, rfl⟩ := R2.int_inv
  have O2 := O.up U2 T2
  obtain ⟨_, _, ⟨vs2, n2, e2, RR⟩, pl, _⟩ := O2.mu
  refine wpAny_bind (wpAny_standAt (wpAny_bind (wpAny_holding ?_)))
  refine wpAny_delItem_plain (s := { s with heap := h2, toks := tk2 }) (k := k) ⟨n2, e2⟩ hf (by rw [List.size_toArray, RR.length]; exact hk) (fun h3 pl3 hs3 => ?_) (by rw [List.size_toArray, RR.length]; exact hl)
  obtain ⟨n3, e3⟩ := pl3
  have O3 := O2.turn (vs' := vs2.eraseIdx k) (l' := l.eraseIdx k) hs3 (by simpa [Array.eraseIdxIfInBounds, RR.length, hkl] using e3) (Reps.of_get (by simp [List.length_eraseIdx, RR.length]) fun j v y c d => ?_) fun y hy => pl y (List.mem_of_mem_eraseIdx hy)
  · exact wpAny_release' (wpAny_deleteEach_nil (b F S Q Eh { s with heap := h3, toks := tk2 } O3 (P.after ((U2.kp O.ok.tab.objs).trans (kp_turn hs3)))))
  · rw [List.getElem?_eraseIdx] at c d
    split at c
    · rename_i h1
      rw [if_pos h1] at d
      obtain ⟨u, hu, r⟩ := RR.get d
      rw [c] at hu; cases hu; exact r
    · rename_i h1
      rw [if_neg h1] at d
      obtain ⟨u, hu, r⟩ := RR.get d
      rw [c] at hu; cases hu; exact r

theorem fill11 : fillDummy PySem.Challenge.rw_ti0025_01 hd.heap_1 := by
  k_fill
  trivial
theorem lenS {n : Nat} {vs : List Value} (e : vs.length = n + 1) : ∃ a r, vs = a :: r ∧ r.length = n := by
  cases vs with
  | nil => cases e
  | cons a r => exact ⟨a, r, rfl, Nat.succ.inj e⟩
theorem len1 {vs : List Value} (e : vs.length = 1) : ∃ a, vs = [a] := List.length_eq_one_iff.mp e
theorem len2 {vs : List Value} (e : vs.length = 2) : ∃ a b, vs = [a, b] := by obtain ⟨a, r, rfl, e1⟩ := lenS e; obtain ⟨b, rfl⟩ := len1 e1; exact ⟨a, b, rfl⟩
theorem len3 {vs : List Value} (e : vs.length = 3) : ∃ a b c, vs = [a, b, c] := by obtain ⟨a, r, rfl, e1⟩ := lenS e; obtain ⟨b, c, rfl⟩ := len2 e1; exact ⟨a, b, c, rfl⟩
theorem len4 {vs : List Value} (e : vs.length = 4) : ∃ a b c d, vs = [a, b, c, d] := by obtain ⟨a, r, rfl, e1⟩ := lenS e; obtain ⟨b, c, d, rfl⟩ := len3 e1; exact ⟨a, b, c, d, rfl⟩
theorem f_add {a b c : SV} (z : Bin .Add a b c) : FnSpec 70 1 3 [a, b] c := by
  refine FnSpec.of_body (d := 0) (u := 0) (xs := ["a", "b"]) (by intro w; k_is) (by intro w; k_is) (fun s vs hl => by obtain ⟨x, y, rfl⟩ := len2 hl; exact BindsTo.of_eq rfl) (by decide) rfl (by decide) rfl rfl rfl (by decide) fun G A => ?_
  exact Rn.ret (Ev.bin (Ev.name rfl) (Ev.name rfl) z)
theorem f_lshift {a b c : SV} (z : Bin .LShift a b c) : FnSpec 77 1 3 [a, b] c := by
  refine FnSpec.of_body (d := 0) (u := 0) (xs := ["a", "b"]) (by intro w; k_is) (by intro w; k_is) (fun s vs hl => by obtain ⟨x, y, rfl⟩ := len2 hl; exact BindsTo.of_eq rfl) (by decide) rfl (by decide) rfl rfl rfl (by decide) fun G A => ?_
  exact Rn.ret (Ev.bin (Ev.name rfl) (Ev.name rfl) z)
theorem f_mul {a b c : SV} (z : Bin .Mult a b c) : FnSpec 84 1 3 [a, b] c := by
  refine FnSpec.of_body (d := 0) (u := 0) (xs := ["a", "b"]) (by intro w; k_is) (by intro w; k_is) (fun s vs hl => by obtain ⟨x, y, rfl⟩ := len2 hl; exact BindsTo.of_eq rfl) (by decide) rfl (by decide) rfl rfl rfl (by decide) fun G A => ?_
  exact Rn.ret (Ev.bin (Ev.name rfl) (Ev.name rfl) z)
theorem f_sub {a b c : SV} (z : Bin .Sub a b c) : FnSpec 98 1 3 [a, b] c := by
  refine FnSpec.of_body (d := 0) (u := 0) (xs := ["a", "b"]) (by intro w; k_is) (by intro w; k_is) (fun s vs hl => by obtain ⟨x, y, rfl⟩ := len2 hl; exact BindsTo.of_eq rfl) (by decide) rfl (by decide) rfl rfl rfl (by decide) fun G A => ?_
  exact Rn.ret (Ev.bin (Ev.name rfl) (Ev.name rfl) z)
theorem f_neg {a : Int} : FnSpec 91 1 3 [.int a] (.int (-a)) := by
  refine FnSpec.of_body (d := 0) (u := 0) (xs := ["a"]) (by intro w; k_is) (by intro w; k_is) (fun s vs hl => by obtain ⟨x, rfl⟩ := len1 hl; exact BindsTo.of_eq rfl) (by decide) rfl (by decide) rfl rfl rfl (by decide) fun G A => ?_
  exact Rn.ret (Ev.un (Ev.name rfl) Un.neg)
theorem f_contains {a b : SV} {c : Bool} (z : Cmp .In b a c) : FnSpec 112 1 3 [a, b] (.bool c) := by
  refine FnSpec.of_body (d := 0) (u := 0) (xs := ["a", "b"]) (by intro w; k_is) (by intro w; k_is) (fun s vs hl => by obtain ⟨x, y, rfl⟩ := len2 hl; exact BindsTo.of_eq rfl) (by decide) rfl (by decide) rfl rfl rfl (by decide) fun G A => ?_
  exact Rn.ret (Ev.cmp (Ev.name rfl) (Ev.name rfl) z)
theorem sl {n : Nat} (h : n ≤ 1000000) : n ≤ sizeLine := Nat.le_trans h (by decide)
/-- answers: True or False alone -/
def bL (bs : List Bool) : List SV := bs.map .bool
theorem f_plain {bs : List Bool} (hl : bs.length ≤ 1000) : FnSpec 131 1 3 [.list (bL bs)] (.bool true) := by
  refine FnSpec.of_body (d := 0) (u := 0) (xs := ["answers"]) (by intro w; k_is) (by intro w; k_is) (fun s vs hl => by obtain ⟨x, rfl⟩ := len1 hl; exact BindsTo.of_eq rfl) (by decide) rfl (by decide) rfl rfl rfl (by decide) fun G A => ?_
  refine Rn.ret ?_
  refine Ev.cmp (c := eqv (.list []) (.list [])) (b := .list []) (comp1 (ρc := []) A (by decide) (fun _ _ e => nomatch e) (ItEv.listN rfl) (fun _ => false) (fun x => x) (fun G' A' y hy => ?_) (fun _ _ _ _ e => nomatch e) (fun _ _ e => nomatch e) ?_ (by simp)).evF.ev (Ev.list .nil) (Cmp.eq rfl rfl)
  · obtain ⟨b, _, rfl⟩ := List.mem_map.mp hy
    refine Tsts.one (Tst.op ?_)
    cases b
    · exact .andT (Tst.cmp (Ev.name rfl) Ev.bool (Cmp.isNot rfl)) (.andF (Tst.cmp (Ev.name rfl) Ev.bool (Cmp.isNot rfl)))
    · exact .andF (Tst.cmp (Ev.name rfl) Ev.bool (Cmp.isNot rfl))
  · rw [bL, List.length_map]; exact sl (by omega)


local macro_rules | `(tactic| tb_start) => `(tactic| first
  | with_reducible (first
      | refine wpAny_pure ?_ | refine wpAny_bind ?_ | refine wpAny_holding ?_ | refine wpAny_rule ?_ | refine wpAny_attempt ?_
      | refine wpAny_of_eq (by assumption) ?_ | refine wpAny_typeOf (by assumption) ?_
      | refine wpAny_specialOf_val (by assumption) (by assumption) ?_ | refine wpAny_specialOf (by assumption) (by assumption) ?_
      | refine wpAny_isInstance_val (by assumption) (by assumption) ?_ | refine wpAny_isInstance (by assumption) (by assumption) ?_
      | refine wpAny_call ?_ | refine wpAny_runValue ?_ | refine wpAny_run ?_)
  | wp_delta
  | wp_step)
namespace HF
theorem kind_hasattr : builtinKind "hasattr" = none := by decide +kernel
theorem plain_hasattr : plainId "hasattr" = true := by decide +kernel
theorem entry_hasattr : entryFor table "hasattr" = some Builtin.«hasattr» := entryFor_of_tree (by kernel_rfl)
theorem args_hasattr (a b : Value) : argsOk "hasattr" ⟨[a, b], []⟩ := by unfold argsOk; kernel_rfl
theorem lk_str_getitem : typeLookup (.type "str") "__getitem__" = pure (some (.builtin "str.__getitem__")) := by rw [typeLookup_type, builtinLookup_eq_fast]; kernel_rfl
theorem lk_str_getattribute : typeLookup (.type "str") "__getattribute__" = pure (some (.builtin "object.__getattribute__")) := by rw [typeLookup_type, builtinLookup_eq_fast]; kernel_rfl
theorem typeOf_str_getitem : typeOf (.builtin "str.__getitem__") = pure (.type "wrapper_descriptor") := by kernel_rfl
theorem slot_wd_get : Slot "wrapper_descriptor" "__get__" "wrapper_descriptor.__get__" :=
  .of (owner := "wrapper_descriptor") (n := "__get__") (by rw [typeLookup_type, builtinLookup_eq_fast]; kernel_rfl) (by decide +kernel) (by decide +kernel) (by decide +kernel)
    (by first | exact .inl (by decide +kernel) | exact .inr (by decide +kernel)) (by rw [isSubtype_type]; kernel_rfl)
theorem lk_wd_set : typeLookup (.type "wrapper_descriptor") "__set__" = pure none := by rw [typeLookup_type, builtinLookup_eq_fast]; kernel_rfl
theorem lk_wd_delete : typeLookup (.type "wrapper_descriptor") "__delete__" = pure none := by rw [typeLookup_type, builtinLookup_eq_fast]; kernel_rfl
theorem entry_wd_get : entryFor table "wrapper_descriptor.__get__" = some Builtin.«wrapper_descriptor.__get__» := entryFor_of_tree (by kernel_rfl)
theorem args_wd_get (a b c : Value) : argsOk "wrapper_descriptor.__get__" ⟨[a, b, c], []⟩ := by unfold argsOk; kernel_rfl
theorem owner_str_getitem : (".".intercalate ("str.__getitem__".cutAt '.').dropLast) = "str" := by
  have e0 : "str.__getitem__".cutAt '.' = ["str", "__getitem__"] := by first | rfl | decide +kernel
  rw [e0]; decide +kernel
end HF

section
variable {prog : Program} {w : World} {A : Around} {E : Value → Shared → Prop} {h : Heap} {g : Array GenState} {d : Drawn} {t : Nat} {os : OsState} {x : Str} {u : Tok}

theorem hf_get_str {R : Result → Shared → Prop} (hq : ∀ h' r, Ext h h' → R (.ok (.ret (.ref r))) ⟨h', g, d, t, os⟩) :
    codeAny (model prog w) A (.call (.builtin "wrapper_descriptor.__get__") ⟨[.builtin "str.__getitem__", .str x u, .type "str"], []⟩) R ⟨h, g, d, t, os⟩ := by
  have hT : (⟨h, g, d, t, os⟩ : Shared).TypeIs (.str x u) "str" := rfl
  have hT5 : (⟨h, g, d, t, os⟩ : Shared).TypeIs (.builtin "str.__getitem__") "wrapper_descriptor" := HF.typeOf_str_getitem
  have f8 : isSubtype (.type "str") (.type (".".intercalate ("str.__getitem__".cutAt '.').dropLast)) = pure true := by rw [HF.owner_str_getitem, isSubtype_type]; kernel_rfl
  refine codeAny_call_builtin HF.slot_wd_get.plain HF.entry_wd_get (HF.slot_wd_get.check _ _ _ _ _ _ _ _ hT5 (HF.args_wd_get _ _ _) ?_)
  repeat (any_goals (first | assumption | tb_start))
  exact hq _ _ (fun b o e => Heap.get?_push_of_some _ e)

theorem hf_entry_str {tk : Tok} {Q : Fin → Shared → Prop} (hq : ∀ h' r, Ext h h' → Q (.done (.ret (.ref r))) ⟨h', g, d, t, os⟩) :
    wpAny (model prog w) A (Builtin.«object.__getattribute__» ⟨[.str x u, .str "__getitem__" tk], []⟩) Q E ⟨h, g, d, t, os⟩ := by
  have hT : (⟨h, g, d, t, os⟩ : Shared).TypeIs (.str x u) "str" := rfl
  have hT5 : (⟨h, g, d, t, os⟩ : Shared).TypeIs (.builtin "str.__getitem__") "wrapper_descriptor" := HF.typeOf_str_getitem
  have f4 := HF.lk_str_getitem
  have f5 := HF.typeOf_str_getitem
  have f6 := HF.slot_wd_get.lookup
  have f7 := HF.lk_wd_set
  have f9 := HF.lk_wd_delete
  repeat (any_goals (first | assumption | tb_start))
  refine hf_get_str fun h' r e => ?_
  repeat (any_goals (first | assumption | tb_start))
  exact hq _ _ e

theorem hf_call_str {tk : Tok} {R : Result → Shared → Prop} (hq : ∀ h' r, Ext h h' → R (.ok (.ret (.ref r))) ⟨h', g, d, t, os⟩) :
    codeAny (model prog w) A (.call (.builtin "object.__getattribute__") ⟨[.str x u, .str "__getitem__" tk], []⟩) R ⟨h, g, d, t, os⟩ :=
  codeAny_call_builtin F.slot_str_getattribute.plain F.entry_object_getattribute (F.slot_str_getattribute.check _ _ _ _ _ _ _ _ (show (⟨h, g, d, t, os⟩ : Shared).TypeIs (.str x u) "str" from rfl) (F.args_object_getattribute_2 _ _) (hf_entry_str hq))

theorem hf_by_str {tk : Tok} {Q : Value → Shared → Prop} (hq : ∀ h' r, Ext h h' → Q (.ref r) ⟨h', g, d, t, os⟩) : wpAny (model prog w) A (getAttrBy (.str x u) (.str "__getitem__" tk) false) Q E ⟨h, g, d, t, os⟩ := by
  have hT : (⟨h, g, d, t, os⟩ : Shared).TypeIs (.str x u) "str" := rfl
  have f2 := F.slot_str_getattribute.lookup
  have f3 := F.slot_str_getattribute.bind (.str x u)
  repeat (any_goals (first | assumption | tb_start))
  refine hf_call_str fun h' r e => ?_
  repeat (any_goals (first | assumption | tb_start))
  exact hq _ _ e


theorem hasattr_str {s : Shared} {tk : Tok} {Q : Value → Shared → Prop} (hq : ∀ h', Ext s.heap h' → Q (.bool true) {s with heap := h'}) : wpAny (model prog w) A (call (.builtin "hasattr") [.str x u, .str (Str.ofString "__getitem__") tk]) Q E s := by
  obtain ⟨h, g, d, t, os⟩ := s
  have hT : (⟨h, g, d, t, os⟩ : Shared).TypeIs (.str x u) "str" := rfl
  have f1 := HF.lk_str_getitem
  have f2 := F.slot_str_getattribute.lookup
  refine Calls.call_function_entry HF.kind_hasattr HF.plain_hasattr HF.entry_hasattr (HF.args_hasattr _ _) ?_
  unfold Builtin.«hasattr»
  refine wpAny_bind (wpAny_of_eq (a := [.str x u, .str (Str.ofString "__getitem__") tk]) (by first | rfl | kernel_rfl) ?_)
  repeat (any_goals (first | assumption | ((with_reducible apply hf_by_str); intro h' r e) | tb_start))
  exact ⟨_, rfl, hq _ e⟩


end


local macro_rules | `(tactic| tb_start) => `(tactic| first
  | with_reducible (first
      | refine wpAny_pure ?_ | refine wpAny_bind ?_ | refine wpAny_holding ?_ | refine wpAny_rule ?_ | refine wpAny_attempt ?_
      | refine wpAny_of_eq (by assumption) ?_ | refine wpAny_typeOf (by assumption) ?_
      | refine wpAny_specialOf_val (by assumption) (by assumption) ?_ | refine wpAny_specialOf (by assumption) (by assumption) ?_
      | refine wpAny_isInstance_val (by assumption) (by assumption) ?_ | refine wpAny_isInstance (by assumption) (by assumption) ?_
      | refine wpAny_call ?_ | refine wpAny_runValue ?_ | refine wpAny_run ?_)
  | wp_delta
  | wp_step)
namespace HL
theorem lk_getitem : typeLookup (.type "list") "__getitem__" = pure (some (.builtin "list.__getitem__")) := by rw [typeLookup_type, builtinLookup_eq_fast]; kernel_rfl
theorem ty_getitem : typeOf (.builtin "list.__getitem__") = pure (.type "method_descriptor") := by kernel_rfl
theorem slot_get : Slot "method_descriptor" "__get__" "method_descriptor.__get__" :=
  .of (owner := "method_descriptor") (n := "__get__") (by rw [typeLookup_type, builtinLookup_eq_fast]; kernel_rfl) (by decide +kernel) (by decide +kernel) (by decide +kernel)
    (by first | exact .inl (by decide +kernel) | exact .inr (by decide +kernel)) (by rw [isSubtype_type]; kernel_rfl)
theorem lk_set : typeLookup (.type "method_descriptor") "__set__" = pure none := by rw [typeLookup_type, builtinLookup_eq_fast]; kernel_rfl
theorem lk_delete : typeLookup (.type "method_descriptor") "__delete__" = pure none := by rw [typeLookup_type, builtinLookup_eq_fast]; kernel_rfl
theorem entry_get : entryFor table "method_descriptor.__get__" = some Builtin.«method_descriptor.__get__» := entryFor_of_tree (by kernel_rfl)
theorem args_get (a b c : Value) : argsOk "method_descriptor.__get__" ⟨[a, b, c], []⟩ := by unfold argsOk; kernel_rfl
theorem owner : (".".intercalate ("list.__getitem__".cutAt '.').dropLast) = "list" := by
  have e0 : "list.__getitem__".cutAt '.' = ["list", "__getitem__"] := by first | rfl | decide +kernel
  rw [e0]; decide +kernel
end HL
section
variable {prog : Program} {w : World} {A : Around} {E : Value → Shared → Prop} {h : Heap} {g : Array GenState} {d : Drawn} {t : Nat} {os : OsState} {a : Addr} {xs : Array Value} {n : Nat}
theorem hfl_get {R : Result → Shared → Prop} (hx : h.get? a = some ({ cls := .type "list", data := .seq xs n } : Obj)) (hq : ∀ h' r, Ext h h' → R (.ok (.ret (.ref r))) ⟨h', g, d, t, os⟩) :
    codeAny (model prog w) A (.call (.builtin "method_descriptor.__get__") ⟨[.builtin "list.__getitem__", .ref a, .type "list"], []⟩) R ⟨h, g, d, t, os⟩ := by
  have hT : (⟨h, g, d, t, os⟩ : Shared).TypeIs (.ref a) "list" := ⟨_, hx, rfl⟩
  have hT5 : (⟨h, g, d, t, os⟩ : Shared).TypeIs (.builtin "list.__getitem__") "method_descriptor" := HL.ty_getitem
  have f8 : isSubtype (.type "list") (.type (".".intercalate ("list.__getitem__".cutAt '.').dropLast)) = pure true := by rw [HL.owner, isSubtype_type]; kernel_rfl
  refine codeAny_call_builtin HL.slot_get.plain HL.entry_get (HL.slot_get.check _ _ _ _ _ _ _ _ hT5 (HL.args_get _ _ _) ?_)
  repeat (any_goals (first | assumption | tb_start))
  exact hq _ _ (fun b o e => Heap.get?_push_of_some _ e)
theorem hfl_entry {tk : Tok} {Q : Fin → Shared → Prop} (hx : h.get? a = some ({ cls := .type "list", data := .seq xs n } : Obj)) (hq : ∀ h' r, Ext h h' → Q (.done (.ret (.ref r))) ⟨h', g, d, t, os⟩) :
    wpAny (model prog w) A (Builtin.«object.__getattribute__» ⟨[.ref a, .str "__getitem__" tk], []⟩) Q E ⟨h, g, d, t, os⟩ := by
  have hT : (⟨h, g, d, t, os⟩ : Shared).TypeIs (.ref a) "list" := ⟨_, hx, rfl⟩
  have hT5 : (⟨h, g, d, t, os⟩ : Shared).TypeIs (.builtin "list.__getitem__") "method_descriptor" := HL.ty_getitem
  have f4 := HL.lk_getitem
  have f5 := HL.ty_getitem
  have f6 := HL.slot_get.lookup
  have f7 := HL.lk_set
  have f9 := HL.lk_delete
  repeat (any_goals (first | assumption | tb_start))
  refine hfl_get hx fun h' r e => ?_
  repeat (any_goals (first | assumption | tb_start))
  exact hq _ _ e
theorem hfl_call {tk : Tok} {R : Result → Shared → Prop} (hx : h.get? a = some ({ cls := .type "list", data := .seq xs n } : Obj)) (hq : ∀ h' r, Ext h h' → R (.ok (.ret (.ref r))) ⟨h', g, d, t, os⟩) :
    codeAny (model prog w) A (.call (.builtin "list.__getattribute__") ⟨[.ref a, .str "__getitem__" tk], []⟩) R ⟨h, g, d, t, os⟩ :=
  codeAny_call_builtin F.slot_list_getattribute.plain F.entry_list_ga (F.slot_list_getattribute.check _ _ _ _ _ _ _ _ (show (⟨h, g, d, t, os⟩ : Shared).TypeIs (.ref a) "list" from ⟨_, hx, rfl⟩) (F.args_list_getattribute_2 _ _) (hfl_entry hx hq))
theorem hfl_by {tk : Tok} {Q : Value → Shared → Prop} (hx : h.get? a = some ({ cls := .type "list", data := .seq xs n } : Obj)) (hq : ∀ h' r, Ext h h' → Q (.ref r) ⟨h', g, d, t, os⟩) : wpAny (model prog w) A (getAttrBy (.ref a) (.str "__getitem__" tk) false) Q E ⟨h, g, d, t, os⟩ := by
  have hT : (⟨h, g, d, t, os⟩ : Shared).TypeIs (.ref a) "list" := ⟨_, hx, rfl⟩
  have f2 := F.slot_list_getattribute.lookup
  have f3 := F.slot_list_getattribute.bind (.ref a)
  repeat (any_goals (first | assumption | tb_start))
  refine hfl_call hx fun h' r e => ?_
  repeat (any_goals (first | assumption | tb_start))
  exact hq _ _ e
theorem hasattr_list {s : Shared} {tk : Tok} {Q : Value → Shared → Prop} (hx : s.heap.get? a = some ({ cls := .type "list", data := .seq xs n } : Obj)) (hq : ∀ h', Ext s.heap h' → Q (.bool true) {s with heap := h'}) : wpAny (model prog w) A (call (.builtin "hasattr") [.ref a, .str (Str.ofString "__getitem__") tk]) Q E s := by
  obtain ⟨h, g, d, t, os⟩ := s
  have hT : (⟨h, g, d, t, os⟩ : Shared).TypeIs (.ref a) "list" := ⟨_, hx, rfl⟩
  have f1 := HL.lk_getitem
  have f2 := F.slot_list_getattribute.lookup
  have f10 : isSubtype (.type "list") (.type "module") = pure false := by rw [isSubtype_type]; kernel_rfl
  refine Calls.call_function_entry HF.kind_hasattr HF.plain_hasattr HF.entry_hasattr (HF.args_hasattr _ _) ?_
  unfold Builtin.«hasattr»
  refine wpAny_bind (wpAny_of_eq (a := [.ref a, .str (Str.ofString "__getitem__") tk]) (by first | rfl | kernel_rfl) ?_)
  repeat (any_goals (first | assumption | ((with_reducible apply hfl_by hx); intro h' r e) | tb_start))
  exact ⟨_, rfl, hq _ e⟩
end

theorem cut_plain (l : List SV) (lo hi : Option Int) : cutL l lo hi none = (l.drop (lo.elim 0 (clipAt l.length))).take (hi.elim l.length (clipAt l.length) - lo.elim 0 (clipAt l.length)) := by
  unfold cutL
  rw [sliceBounds_plain]
  have := pick_run l.toArray
  simp only [sliceRange_one]
  have e : (fun x : Nat => l[x]?) = (fun x : Nat => l.toArray[x]?) := by funext x; simp
  rw [e, pick_run]
theorem rev_run (l : List SV) : ∀ m, m ≤ l.length → ((List.range m).map fun k => l.length - 1 - k).filterMap (fun x : Nat => l[x]?) = l.reverse.take m
  | 0, _ => by simp
  | m + 1, h => by
    rw [List.range_succ, List.map_append, List.filterMap_append, rev_run l m (by omega), List.take_add_one, List.getElem?_reverse (by omega)]
    congr 1
theorem cut_rev (l : List SV) : cutL l none none (some (-1)) = l.reverse := by
  have e : (sliceRange ((l.length : Int) - 1) (-1) (-1)) = (List.range l.length).map fun k => l.length - 1 - k := by
    unfold sliceRange
    simp only [show ¬ ((-1 : Int) > 0) by decide, if_false]
    have : (if (l.length : Int) - 1 > -1 then ((l.length : Int) - 1 - -1 - -1 - 1) / (- -1) else 0).toNat = l.length := by split <;> simp <;> omega
    rw [this]
    apply List.map_congr_left
    intro k _
    omega
  show (sliceRange ((l.length : Int) - 1) (-1) (-1)).filterMap (fun x : Nat => l[x]?) = _
  rw [e, rev_run l l.length (Nat.le_refl _), List.take_of_length_le (by simp)]
theorem cut_from (l : List SV) (a : Nat) : cutL l (some (a : Int)) none none = l.drop a := by
  rw [cut_plain]
  simp only [Option.elim, clipAt_nat]
  rw [List.take_of_length_le (by simp)]
  rcases Nat.le_total a l.length with h | h
  · rw [Nat.min_eq_left h]
  · rw [Nat.min_eq_right h, List.drop_eq_nil_of_le (Nat.le_refl _), List.drop_eq_nil_of_le h]
theorem cut_init (l : List SV) : cutL l none (some (-1)) none = l.dropLast := by
  rw [cut_plain]
  have : clipAt l.length (-1) = l.length - 1 := clipAt_neg l.length 1 (Nat.le_refl _)
  simp only [Option.elim, this, List.drop_zero, Nat.sub_zero, List.dropLast_eq_take]
theorem cut_run (l : List SV) (a b : Nat) : cutL l (some (a : Int)) (some (b : Int)) none = (l.take b).drop a := by
  rw [cut_plain]
  simp only [Option.elim, clipAt_nat]
  rw [List.drop_take]
  rcases Nat.le_total a l.length with h | h
  · rw [Nat.min_eq_left h]
    rcases Nat.le_total b l.length with h2 | h2
    · rw [Nat.min_eq_left h2]
    · rw [Nat.min_eq_right h2, List.take_of_length_le (by simp), List.take_of_length_le (by simp; omega)]
  · rw [Nat.min_eq_right h, List.drop_eq_nil_of_le (Nat.le_refl _), List.drop_eq_nil_of_le h]; simp
theorem cut_ints (ns : List Int) (a b c : Option Int) : ∃ ms : List Int, cutL (ns.map .int) a b c = ms.map .int := by
  unfold cutL
  generalize sliceRange _ _ _ = ks
  induction ks with
  | nil => exact ⟨[], rfl⟩
  | cons k ks ih =>
    obtain ⟨ms, e⟩ := ih
    rw [List.filterMap_cons, e]
    cases q : (ns.map SV.int)[k]? with
    | none => exact ⟨ms, rfl⟩
    | some x =>
      rw [List.getElem?_map] at q
      cases w : ns[k]? with
      | none => rw [w] at q; cases q
      | some n => rw [w] at q; cases q; exact ⟨n :: ms, rfl⟩

theorem fill12 : fillDummy PySem.Challenge.rw_ti0025_01 hd.heap_1 := by
  k_fill
  trivial
theorem BFn.has_str {x : Str} : BFn "hasattr" [.str x, .str "__getitem__"] (.bool true) := fun G ρ Q Eh s vs F O R h => by
  cases R with | cons r R =>
  cases R with | cons r2 R =>
  cases R; obtain ⟨t, rfl⟩ := r.str_inv; obtain ⟨u, rfl⟩ := r2.str_inv
  exact hasattr_str fun h' e => h _ h' s.toks (Ext.up e) (O.tab.ext e) (.bool _)
theorem BFn.has_list {l : List SV} : BFn "hasattr" [.list l, .str "__getitem__"] (.bool true) := fun G ρ Q Eh s vs F O R h => by
  cases R with | cons r R =>
  cases R with | cons r2 R =>
  cases R; obtain ⟨a, us, n, rfl, hl, _⟩ := r.list_inv; obtain ⟨u, rfl⟩ := r2.str_inv
  exact hasattr_list hl fun h' e => h _ h' s.toks (Ext.up e) (O.tab.ext e) (.bool _)
theorem f_concat {a b c : SV} (p : BFn "hasattr" [a, .str "__getitem__"] (.bool true)) (z : Bin .Add a b c) : FnSpec 105 1 3 [a, b] c := by
  refine FnSpec.of_body (d := 0) (u := 0) (xs := ["a", "b"]) (by intro w; k_is) (by intro w; k_is) (fun s vs hl => by obtain ⟨x, y, rfl⟩ := len2 hl; exact BindsTo.of_eq rfl) (by decide) rfl (by decide) rfl rfl rfl (by decide) fun G A => ?_
  refine Rn.ite (b := false) (Tst.not (b := true) (Tst.val (Ev.callB b_hasattr (A.glb rfl) (.cons (Ev.name rfl) (.cons Ev.str .nil)) p))) Rn.nil ?_
  exact Rn.ret (Ev.bin (Ev.name rfl) (Ev.name rfl) z)
theorem EvF.list {G : Ctx} {ρ : List (Str × SV)} {es : List Expr} {l : List SV} {pos : Pos} (a : EvAll G ρ es l) (hl : l.length ≤ sizeLine := by exact Nat.le_trans (Nat.le_of_ble_eq_true rfl) (show 100 ≤ sizeLine by decide)) : EvF G ρ (.List es pos) (.list l) := by
  intro F Q Eh s O h
  refine wpAny_List (a F _ _ _ s O fun vs h1 tk1 U1 T1 R1 => ⟨by rw [R1.length]; exact hl, ?_⟩)
  refine h _ _ _ (U1.trans (push_ext _ _).up) (T1.ext (push_ext _ _)) (Rep.new_list T1.objs R1) fun a e => ?_
  cases e
  exact up_none T1.objs U1 (get_none (Nat.le_refl _))
/-- synthetic division by X - 2 -/
def byTwo : Int → List Int → List Int
  | a, [] => [a]
  | a, b :: l => a :: byTwo (b + 2 * a) l
def byTwoAt (a : Int) (l : List Int) (i : Nat) : List Int := byTwo a (l.take i)
def lastTwo : Int → List Int → Int
  | a, [] => a
  | a, b :: l => lastTwo (b + 2 * a) l
theorem byTwo_snoc : ∀ (a : Int) (l : List Int) (b : Int), byTwo a (l ++ [b]) = byTwo a l ++ [b + 2 * lastTwo a l]
  | a, [], b => rfl
  | a, c :: l, b => by
    show a :: byTwo (c + 2 * a) (l ++ [b]) = a :: (byTwo (c + 2 * a) l ++ [b + 2 * lastTwo (c + 2 * a) l])
    rw [byTwo_snoc]
theorem byTwo_last : ∀ (a : Int) (l : List Int), (byTwo a l).getLast? = some (lastTwo a l)
  | a, [] => rfl
  | a, c :: l => by
    show (a :: byTwo (c + 2 * a) l).getLast? = some (lastTwo (c + 2 * a) l)
    rw [List.getLast?_cons, byTwo_last]; rfl
theorem byTwo_len : ∀ (a : Int) (l : List Int), (byTwo a l).length = l.length + 1
  | a, [] => rfl
  | a, c :: l => by show (a :: byTwo (c + 2 * a) l).length = _; rw [List.length_cons, byTwo_len]; rfl
theorem pick_last {l : List SV} {x : SV} (h : l.getLast? = some x) : pick l (-1) = some x := by
  unfold pick
  have hne : l ≠ [] := by rintro rfl; cases h
  have h0 : 0 < l.length := List.length_pos_iff.mpr hne
  rw [if_neg (by omega), if_pos (by omega)]
  rw [List.getLast?_eq_getElem?] at h
  rw [show ((-1 : Int) + l.length).toNat = l.length - 1 by omega]
  exact h
theorem f_by_two {a : Int} {l : List Int} (hl : l.length ≤ 100) : FnSpec 148 1 3 [.list (iL (a :: l))] (.list (iL (byTwo a l))) := by
  refine FnSpec.of_body (d := 0) (u := 0) (xs := ["row"]) (by intro w; k_is) (by intro w; k_is) (fun s vs hl => by obtain ⟨x, rfl⟩ := len1 hl; exact BindsTo.of_eq rfl) (by decide) rfl (by decide) rfl rfl rfl (by decide) fun G A => ?_
  refine Rn.enter (l := [.int a]) (EvF.list (.cons (Ev.sub (Ev.name rfl) Ev.int (Get.list (x := .int a) rfl (by simp [iL]; omega))) .nil)) (fun y hy => by rw [List.mem_singleton.mp hy]; trivial) (A.loc rfl) rfl fun ad => ?_
  refine Rn.loop (ρs := fun _ => [("row", .list (iL (a :: l)))]) (ρt := fun i => [("one", .int (l.getD i 0)), ("row", .list (iL (a :: l)))]) (fun i => some ("out", ad, iL (byTwoAt a l i))) (xs := ["one"]) (items := iL l) (ItEv.listF (EvF.slice (Ev.name rfl) (.some Ev.int) .none .none (by decide) (sl (by simp [iL]; omega)) (cut_from _ 1))) (.inr rfl) (fun _ => rfl) (.inr (fun x hx => by obtain ⟨n, _, rfl⟩ := List.mem_map.mp hx; trivial)) (fun _ _ e => e) rfl (fun i x hx => ?_) (fun i hi => ?_) ?_
  · have : x = .int (l.getD i 0) := by
      unfold iL at hx
      rw [List.getElem?_map] at hx
      cases q : l[i]? with
      | none => rw [q] at hx; cases hx
      | some n => rw [q] at hx; cases hx; rw [List.getD_eq_getElem?_getD, q]; rfl
    subst this
    exact AsgTo.name (A.loc rfl) ⟨by decide, trivial⟩
  · have hi' : i < l.length := by simpa [iL] using hi
    have hp : pick (iL (byTwoAt a l i)) (-1) = some (.int (lastTwo a (l.take i))) := pick_last (by unfold iL byTwoAt; rw [List.getLast?_map, byTwo_last]; rfl)
    have hlen : (iL (byTwoAt a l i)).length = i + 1 := by unfold iL byTwoAt; rw [List.length_map, byTwo_len, List.length_take]; omega
    have hs : iL (byTwoAt a l (i + 1)) = iL (byTwoAt a l i) ++ [.int (l.getD i 0 + 2 * lastTwo a (l.take i))] := by
      unfold iL byTwoAt
      rw [List.take_add_one, List.getElem?_eq_getElem hi', List.getD_eq_getElem?_getD, List.getElem?_eq_getElem hi']
      rw [show (some l[i]).toList = [l[i]] from rfl, byTwo_snoc, List.map_append]; rfl
    show Rn G _ _ _ (.next _ (some ("out", ad, iL (byTwoAt a l (i + 1)))))
    rw [hs]
    refine Rn.append (Ev.bin (Ev.name rfl) (Ev.bin Ev.int (Ev.sub (Ev.name rfl) (Ev.un Ev.int Un.neg) (Get.list hp (by rw [hlen]; omega))) (Bin.mul_int ?_)) Bin.add_int) trivial (by rw [hlen]; exact sl (by omega)) (Rn.done (sub_cons rfl sub_nil))
    exact .of_left (by decide)
  · refine Rn.freeze (Rn.ret ?_)
    have : byTwoAt a l (iL l).length = byTwo a l := by unfold byTwoAt iL; rw [List.length_map, List.take_of_length_le (Nat.le_refl _)]
    rw [this]
    exact Ev.name rfl

theorem fill13 : fillDummy PySem.Challenge.rw_ti0025_01 hd.heap_1 := by
  k_fill
  trivial
theorem bL_get {bs : List Bool} {i : Nat} {x : SV} (h : (bL bs)[i]? = some x) : x = .bool (bs.getD i false) ∧ i < bs.length := by
  unfold bL at h
  rw [List.getElem?_map] at h
  cases q : bs[i]? with
  | none => rw [q] at h; cases h
  | some n =>
    rw [q] at h; cases h
    exact ⟨by rw [List.getD_eq_getElem?_getD, q]; rfl, (List.getElem?_eq_some_iff.mp q).1⟩
/-- «x is y or x == y» -/
theorem is_or_eq {G : Ctx} {ρ : List (Str × SV)} {a b : SV} {c : Bool} {x y x' y' : Expr} {p1 p2 pos : Pos} (h1 : Ev G ρ x a) (h2 : Ev G ρ y b) (h3 : Ev G ρ x' a) (h4 : Ev G ρ y' b) (i : Cmp .Is a b c) (e : Cmp .Eq a b c)
    (m1 : behindInMarks .Is y = false := by with_unfolding_all rfl) (m2 : behindInMarks .Eq y' = false := by with_unfolding_all rfl) :
    Tst G ρ (.BoolOp .Or [.Compare x [.Is] [y] p1, .Compare x' [.Eq] [y'] p2] pos) c := by
  refine Tst.op ?_
  cases c with
  | true => exact .orT (Tst.cmp h1 h2 i m1)
  | false => exact .orF (Tst.cmp h1 h2 i m1) (.orF (Tst.cmp h3 h4 e m2) .orNil)
theorem is_bools {a b c : Bool} (e : (a == b) = c) : Cmp .Is (.bool a) (.bool b) c ∧ Cmp .Eq (.bool a) (.bool b) c := by
  subst e
  exact ⟨Cmp.is (a := .bool a) (b := .bool b) rfl, Cmp.eq (a := .bool a) (b := .bool b) rfl rfl⟩
/-- how many of a list are so -/
theorem f_countG {α : Type} {g : α → SV} {l : List α} {sb : SV} (t : α → Bool) (h : ∀ a, Cmp .Is (g a) sb (t a) ∧ Cmp .Eq (g a) sb (t a)) : FnSpec 119 1 3 [.list (l.map g), sb] (.int (l.countP t)) := by
  refine FnSpec.of_body (d := 0) (u := 0) (xs := ["a", "b"]) (by intro w; k_is) (by intro w; k_is) (fun s vs hl => by obtain ⟨x, y, rfl⟩ := len2 hl; exact BindsTo.of_eq rfl) (by decide) rfl (by decide) rfl rfl rfl (by decide) fun G A => ?_
  refine Rn.assign Ev.int (A.loc rfl) ?_
  refine Rn.loop (ρs := fun i => [("count", .int ((l.take i).countP t)), ("b", sb), ("a", .list (l.map g))]) (ρt := fun i => [("i", (l.map g).getD i .none), ("count", .int ((l.take i).countP t)), ("b", sb), ("a", .list (l.map g))]) (fun _ => none) (xs := ["i"]) (items := l.map g) (ItEv.listN rfl) (.inl rfl) (fun _ => rfl) (.inl rfl) (fun _ _ e => e) rfl (fun i x hx => ?_) (fun i hi => ?_) ?_
  · rw [List.getD_eq_getElem?_getD, hx]
    exact AsgTo.name (A.loc rfl)
  · have hi' : i < l.length := by rwa [List.length_map] at hi
    obtain ⟨h1, h2⟩ := h l[i]
    have hs : ((l.take (i + 1)).countP t : Int) = (l.take i).countP t + (if t l[i] then 1 else 0) := by
      rw [List.take_add_one, List.getElem?_eq_getElem hi', List.countP_append]
      simp only [Option.toList_some, List.countP_cons, List.countP_nil]
      split <;> simp
    have hg : (l.map g).getD i .none = g l[i] := by rw [List.getD_eq_getElem?_getD, List.getElem?_map, List.getElem?_eq_getElem hi']; rfl
    show Rn G [("i", (l.map g).getD i .none), _, _, _] _ _ (.next [("count", .int ((l.take (i + 1)).countP t)), ("b", sb), ("a", .list (l.map g))] none)
    rw [hs, hg]
    generalize g l[i] = x at h1 h2
    cases q : t l[i] with
    | true =>
      rw [q] at h1 h2
      exact Rn.ite (b := true) (is_or_eq (Ev.name rfl) (Ev.name rfl) (Ev.name rfl) (Ev.name rfl) h1 h2) (Rn.aug rfl Ev.int InB.add (A.loc rfl) Rn.nil) (Rn.done (sub_cons rfl (sub_cons rfl (sub_cons rfl sub_nil))))
    | false =>
      rw [q] at h1 h2
      exact Rn.ite (b := false) (is_or_eq (Ev.name rfl) (Ev.name rfl) (Ev.name rfl) (Ev.name rfl) h1 h2) Rn.nil (Rn.done (sub_cons (by rw [if_neg (by decide), Int.add_zero]; rfl) (sub_cons rfl (sub_cons rfl sub_nil))))
  · refine Rn.ret ?_
    rw [List.length_map, List.take_of_length_le (Nat.le_refl _)]
    exact Ev.name rfl
theorem f_count {bs : List Bool} {b : Bool} : FnSpec 119 1 3 [.list (bL bs), .bool b] (.int (bs.count b)) := f_countG (· == b) fun a => is_bools rfl
theorem f_index {bs : List Bool} {b : Bool} {k : Nat} (hk : bs[k]? = some b) (h0 : ∀ i, i < k → bs.getD i false ≠ b) : FnSpec 126 1 3 [.list (bL bs), .bool b] (.int k) := by
  have hkl : k < bs.length := (List.getElem?_eq_some_iff.mp hk).1
  refine FnSpec.of_body (d := 0) (u := 0) (xs := ["a", "b"]) (by intro w; k_is) (by intro w; k_is) (fun s vs hl => by obtain ⟨x, y, rfl⟩ := len2 hl; exact BindsTo.of_eq rfl) (by decide) rfl (by decide) rfl rfl rfl (by decide) fun G A => ?_
  refine Rn.loopRet (ρs := fun _ => [("b", .bool b), ("a", .list (bL bs))]) (ρt := fun i => [("j", .bool (bs.getD i false)), ("i", .int i), ("b", .bool b), ("a", .list (bL bs))]) (fun _ => none) k (xs := ["i", "j"]) (items := enumN (bL bs)) (ItEv.enumerate (A.glb rfl) (Ev.name rfl)) (.inl rfl) (fun _ => rfl) (.inl rfl) (fun _ _ e => e) rfl (fun i x hx _ => ?_) (by simpa [enumN, bL] using hkl) (fun i hi => ?_) ?_
  · have hi : i < bs.length := by have := (List.getElem?_eq_some_iff.mp hx).1; simpa [enumN, bL] using this
    have : x = .tup [.int i, .bool (bs.getD i false)] := by
      simp only [enumN, List.getElem?_map, List.getElem?_zipIdx, bL, List.getElem?_eq_getElem hi, Option.map_some] at hx
      rw [← Option.some.inj hx, List.getD_eq_getElem?_getD, List.getElem?_eq_getElem hi]; simp
    rw [this]
    exact AsgTo.tup (xs := ["i", "j"]) rfl (fun x hx => by rcases List.mem_cons.mp hx with rfl | hx; exact A.loc rfl; rw [List.mem_singleton.mp hx]; exact A.loc rfl) rfl rfl rfl
  · have q : (bs.getD i false == b) = false := by simpa using h0 i hi
    exact Rn.ite (b := false) (is_or_eq (Ev.name rfl) (Ev.name rfl) (Ev.name rfl) (Ev.name rfl) (is_bools q).1 (is_bools q).2) Rn.nil (Rn.done (sub_cons rfl (sub_cons rfl sub_nil)))
  · have q : (bs.getD k false == b) = true := by rw [List.getD_eq_getElem?_getD, hk]; simp
    exact Rn.iteRet (b := true) (is_or_eq (Ev.name rfl) (Ev.name rfl) (Ev.name rfl) (Ev.name rfl) (is_bools q).1 (is_bools q).2) (Rn.ret (Ev.name rfl))

theorem fill14 : fillDummy PySem.Challenge.rw_ti0025_01 hd.heap_1 := by
  k_fill
  trivial
/-- a function of the program by its name -/
structure Gf (x : Str) (f : Addr) : Prop where
  g : Glob x (.ref f)
  i : IsDef f
  b : (x == ("__debug__" : Str)) = false
theorem g_div2 : Gf "_div2n1n" 21 := ⟨fun w => by k_is, fun w => ⟨_, _, _, _, by k_is⟩, by decide⟩
theorem g_div3 : Gf "_div3n2n" 28 := ⟨fun w => by k_is, fun w => ⟨_, _, _, _, by k_is⟩, by decide⟩
theorem g_i2d : Gf "_int2digits" 35 := ⟨fun w => by k_is, fun w => ⟨_, _, _, _, by k_is⟩, by decide⟩
theorem g_d2i : Gf "_digits2int" 42 := ⟨fun w => by k_is, fun w => ⟨_, _, _, _, by k_is⟩, by decide⟩
theorem g_pos : Gf "_divmod_pos" 49 := ⟨fun w => by k_is, fun w => ⟨_, _, _, _, by k_is⟩, by decide⟩
theorem g_divmod : Gf "int_divmod" 56 := ⟨fun w => by k_is, fun w => ⟨_, _, _, _, by k_is⟩, by decide⟩
theorem g_match : Gf "_ellipsis_match" 63 := ⟨fun w => by k_is, fun w => ⟨_, _, _, _, by k_is⟩, by decide⟩
theorem g_add : Gf "add" 70 := ⟨fun w => by k_is, fun w => ⟨_, _, _, _, by k_is⟩, by decide⟩
theorem g_lshift : Gf "lshift" 77 := ⟨fun w => by k_is, fun w => ⟨_, _, _, _, by k_is⟩, by decide⟩
theorem g_mul : Gf "mul" 84 := ⟨fun w => by k_is, fun w => ⟨_, _, _, _, by k_is⟩, by decide⟩
theorem g_neg : Gf "neg" 91 := ⟨fun w => by k_is, fun w => ⟨_, _, _, _, by k_is⟩, by decide⟩
theorem g_sub : Gf "sub" 98 := ⟨fun w => by k_is, fun w => ⟨_, _, _, _, by k_is⟩, by decide⟩
theorem g_concat : Gf "concat" 105 := ⟨fun w => by k_is, fun w => ⟨_, _, _, _, by k_is⟩, by decide⟩
theorem g_contains : Gf "contains" 112 := ⟨fun w => by k_is, fun w => ⟨_, _, _, _, by k_is⟩, by decide⟩
theorem g_count : Gf "countOf" 119 := ⟨fun w => by k_is, fun w => ⟨_, _, _, _, by k_is⟩, by decide⟩
theorem g_index : Gf "indexOf" 126 := ⟨fun w => by k_is, fun w => ⟨_, _, _, _, by k_is⟩, by decide⟩
theorem g_plain : Gf "_law_plain" 131 := ⟨fun w => by k_is, fun w => ⟨_, _, _, _, by k_is⟩, by decide⟩
theorem g_grown : Gf "_law_grown" 136 := ⟨fun w => by k_is, fun w => ⟨_, _, _, _, by k_is⟩, by decide⟩
theorem g_code : Gf "_law_code" 141 := ⟨fun w => by k_is, fun w => ⟨_, _, _, _, by k_is⟩, by decide⟩
theorem g_two : Gf "_law_by_two" 148 := ⟨fun w => by k_is, fun w => ⟨_, _, _, _, by k_is⟩, by decide⟩
theorem g_mean : Gf "_law_mean" 153 := ⟨fun w => by k_is, fun w => ⟨_, _, _, _, by k_is⟩, by decide⟩
theorem g_one : Gf "_law_one" 160 := ⟨fun w => by k_is, fun w => ⟨_, _, _, _, by k_is⟩, by decide⟩
theorem g_read : Gf "_law_read" 165 := ⟨fun w => by k_is, fun w => ⟨_, _, _, _, by k_is⟩, by decide⟩
theorem g_round : Gf "_law_round" 170 := ⟨fun w => by k_is, fun w => ⟨_, _, _, _, by k_is⟩, by decide⟩
theorem Ev.fn {G : Ctx} {ρ : List (Str × SV)} {x : Str} {f : Addr} {e : Expr} {es : List Expr} {p pos : Pos} {l : List SV} {sv : SV} {d u : Nat} {names : List (Str × NameKind)} {dG uG : Nat} (A : At G names dG uG) (g : Gf x f) (hx : names.lookup x = some .globalImplicit)
    (a : EvAll G ρ (e :: es) l) (c : FnSpec f d u l sv) (hd : d ≤ dG := by exact Nat.le_of_ble_eq_true rfl) (hu : u ≤ uG := by exact Nat.le_of_ble_eq_true rfl)
    (he : ∀ env, starEach (e :: es) env = (false, eval e env) :: starEach es env := by intro _; rfl) : Ev G ρ (.Call (.Name x p) (e :: es) [] pos) sv :=
  Ev.call g.g g.i (A.glb hx) a c (by rw [A.d]; exact hd) (by rw [A.u]; exact hu) g.b he
theorem Tst.cast {G : Ctx} {ρ : List (Str × SV)} {e : Expr} {b c : Bool} (t : Tst G ρ e b) (h : b = c) : Tst G ρ e c := h ▸ t
theorem Ev.cast {G : Ctx} {ρ : List (Str × SV)} {e : Expr} {b c : SV} (t : Ev G ρ e b) (h : b = c) : Ev G ρ e c := h ▸ t
theorem eqv_int (a b : Int) : eqv (.int a) (.int b) = (a == b) := by simp [eqv, dat, PyData.eqv]
theorem one_count : ∀ {bs : List Bool} {k : Nat}, bs[k]? = some true → (∀ i, i ≠ k → bs.getD i false = false) → bs.count true = 1
  | [], k, h, _ => by cases k <;> cases h
  | b :: bs, 0, h, h0 => by
    cases h
    have : bs.count true = 0 := List.count_eq_zero.mpr fun hm => by
      obtain ⟨i, hi, e⟩ := List.getElem_of_mem hm
      have := h0 (i + 1) (by omega)
      rw [List.getD_eq_getElem?_getD, List.getElem?_cons_succ, List.getElem?_eq_getElem hi, e] at this
      cases this
    rw [List.count_cons, this]; rfl
  | b :: bs, k + 1, h, h0 => by
    have hb : b = false := h0 0 (by omega)
    have := one_count (bs := bs) (k := k) h fun i hi => h0 (i + 1) (by omega)
    rw [List.count_cons, this, hb]; rfl
theorem f_one {codes : List SV} {bs : List Bool} {k : Nat} {w : SV} (hk : bs[k]? = some true) (h0 : ∀ i, i ≠ k → bs.getD i false = false) (h2 : 2 ≤ bs.length) (hl : bs.length ≤ 1000) (hw : codes[k]? = some w) (hlc : codes.length ≤ 1000) : FnSpec 160 2 6 [.list codes, .list (bL bs)] w := by
  have hc1 := one_count hk h0
  have hkl : k < bs.length := (List.getElem?_eq_some_iff.mp hk).1
  have hb0 : (bL bs)[0]? = some (.bool (bs.getD 0 false)) := by
    unfold bL
    rw [List.getElem?_map, List.getD_eq_getElem?_getD, List.getElem?_eq_getElem (show 0 < bs.length by omega)]; rfl
  have hidx : FnSpec 126 1 3 [.list (bL bs), .bool false] (.int (if bs.getD 0 false then 1 else 0)) := by
    cases q : bs.getD 0 false with
    | true =>
      have k0 : k = 0 := by
        rcases Nat.eq_zero_or_pos k with h | h
        · exact h
        · rw [h0 0 (by omega)] at q; cases q
      have := h0 1 (by omega)
      exact f_index (k := 1) (by rw [List.getElem?_eq_getElem (show 1 < bs.length by omega)]; rw [List.getD_eq_getElem?_getD, List.getElem?_eq_getElem (show 1 < bs.length by omega)] at this; exact congrArg some this) fun i hi => by
        have : i = 0 := by omega
        rw [this, q]; decide
    | false =>
      exact f_index (k := 0) (by rw [List.getElem?_eq_getElem (show 0 < bs.length by omega)]; rw [List.getD_eq_getElem?_getD, List.getElem?_eq_getElem (show 0 < bs.length by omega)] at q; exact congrArg some q) fun i hi => absurd hi (Nat.not_lt_zero _)
  have hidt : FnSpec 126 1 3 [.list (bL bs), .bool true] (.int k) := f_index hk fun i hi => by rw [h0 i (by omega)]; decide
  refine FnSpec.of_body (d := 1) (u := 3) (xs := ["code", "answers"]) (by intro w; k_is) (by intro w; k_is) (fun s vs hl => by obtain ⟨x, y, rfl⟩ := len2 hl; exact BindsTo.of_eq rfl) (by decide) rfl (by decide) rfl rfl rfl (by decide) fun G A => ?_
  refine Rn.ite (b := false) (Tst.op (.orF (Tst.not (b := true) (Tst.val (Ev.fn A g_plain rfl (.cons (Ev.name rfl) .nil) (f_plain hl)))) (.orF ((Tst.cmp (Ev.fn A g_count rfl (.cons (Ev.name rfl) (.cons Ev.bool .nil)) f_count) Ev.int (Cmp.ne rfl rfl)).cast ?_) .orNil))) Rn.nil ?_
  · rw [eqv_int, hc1]; rfl
  refine Rn.ite (b := false) ((Tst.cmp (Ev.fn A g_index rfl (.cons (Ev.name rfl) (.cons Ev.bool .nil)) hidx) (b := .int (if bs.getD 0 false then 1 else 0)) (Ev.ite (b := bs.getD 0 false) ((Tst.val (Ev.sub (Ev.name rfl) Ev.int (Get.list (x := .bool (bs.getD 0 false)) ?_ ?_))).cast rfl) ?_) (Cmp.ne rfl rfl)).cast ?_) Rn.nil (Rn.ret (Ev.sub (Ev.name rfl) (Ev.fn A g_index rfl (.cons (Ev.name rfl) (.cons Ev.bool .nil)) hidt) (Get.list (l := codes) (i := k) (by unfold pick; rw [if_pos (Int.natCast_nonneg _), Int.toNat_natCast]; exact hw) (by omega))))
  · exact hb0
  · simp [bL]; omega
  · cases bs.getD 0 false <;> exact Ev.int
  · rw [eqv_int]; simp

theorem fill15 : fillDummy PySem.Challenge.rw_ti0025_01 hd.heap_1 := by
  k_fill
  trivial
/-- a global that is a text -/
theorem Ev.globS {G : Ctx} {ρ : List (Str × SV)} {names : List (Str × NameKind)} {d u : Nat} (A : At G names d u) {x y : Str} {t : Tok} {pos : Pos} (g : Glob x (.str y t)) (hx : names.lookup x = some .globalImplicit) (hd : (x == ("__debug__" : Str)) = false := by decide) : Ev G ρ (.Name x pos) (.str y) :=
  fun F Q Eh s O h => glob_eval g (A.glb hx) F O (h _ _ s.toks (Up.refl _) O.tab (.str _ _)) hd
theorem Ev.globI {G : Ctx} {ρ : List (Str × SV)} {names : List (Str × NameKind)} {d u : Nat} (A : At G names d u) {x : Str} {y : Int} {t : Tok} {pos : Pos} (g : Glob x (.int y t)) (hx : names.lookup x = some .globalImplicit) (hd : (x == ("__debug__" : Str)) = false := by decide) : Ev G ρ (.Name x pos) (.int y) :=
  fun F Q Eh s O h => glob_eval g (A.glb hx) F O (h _ _ s.toks (Up.refl _) O.tab (.int _ _)) hd
theorem g_marker : ∃ t, Glob "ELLIPSIS_MARKER" (.str "..." t) := ⟨_, fun w => by k_is⟩
theorem Cmp.notIn_str {x y : Str} : Cmp .NotIn (.str y) (.str x) (Builtin.Str.occurrences x y 0 x.length 1).isEmpty := fun G ρ Q Eh s va vb F O ra rb h => by
  obtain ⟨t, rfl⟩ := ra.str_inv; obtain ⟨u, rfl⟩ := rb.str_inv
  exact P.notIn_str (by rw [Bool.not_not]; exact h s.toks)
theorem Cmp.eq_str {x y : Str} : Cmp .Eq (.str x) (.str y) (x.cps.toList == y.cps.toList) := fun G ρ Q Eh s va vb F O ra rb h => by
  obtain ⟨t, rfl⟩ := ra.str_inv; obtain ⟨u, rfl⟩ := rb.str_inv
  exact P.eq_str (h s.toks)
def sL (xs : List Str) : List SV := xs.map .str
theorem strs_from {h : Heap} : ∀ (tk : Nat) (xs : List Str), Reps h (strsFrom tk xs) (sL xs)
  | _, [] => .nil
  | tk, x :: r => .cons (.str _ _) (strs_from (tk + 1) r)
theorem Meth.split {x y : Str} {ws : List Str} (h1 : (decide (x.length < y.length) || decide (Builtin.Str.strKind x < Builtin.Str.strKind y)) = false) (hy : (y.length == 0) = false) (hf : (Builtin.Str.occurrences x y 0 x.length (x.length + 1)).isEmpty = false)
    (e : Builtin.Str.partsBetween x (Builtin.Str.occurrences x y 0 x.length (x.length + 1)) y.length = ws) (hx : x.length ≤ sizeLine) (hn : ws.length ≤ sizeLine) : Meth "str" "str.split" (.str x) [.str y] (.list (sL ws)) := fun G ρ Q Eh s vo vs F O ro R h => by
  obtain ⟨t, rfl⟩ := ro.str_inv
  cases R with | cons r R =>
  cases R; obtain ⟨u, rfl⟩ := r.str_inv
  refine call_meets PySem.F.slot_str_split (typeIs_str _ _ _) PySem.F.entry_str_split (PySem.F.args_str_split_2 _ _) (meets_str_split_sep x y t u h1 hy hf hx (by rw [e]; exact hn)) ?_
  rw [e]
  refine h _ _ _ (push_ext _ _).up (O.tab.ext (push_ext _ _)) (Rep.new_list O.tab.objs (strs_from _ _)) fun a e => ?_
  cases e; exact get_none (Nat.le_refl _)
/-- where y lies in x from i up to j -/
def findIn (x y : Str) (i j : Int) : Int := match Builtin.Str.occurrences x y (fromIndex x.length i) (min (fromIndex x.length j) x.length) 1 with | k :: _ => (k : Int) | [] => -1
theorem gives_find4 (x y : Str) (i j : Int) (t u v v2 : Tok) : Gives (Builtin.«str.find» ⟨[.str x t, .str y u, .int i v, .int j v2], []⟩) (.int (findIn x y i j)) := by
  show Gives (match Builtin.Str.occurrences x y (fromIndex x.length i) (min (fromIndex x.length j) x.length) 1 with | k :: _ => retInt k | [] => (do rule "str.find.not-found"; retInt (-1))) _
  unfold findIn
  cases Builtin.Str.occurrences x y (fromIndex x.length i) (min (fromIndex x.length j) x.length) 1 with
  | nil => exact .rule (.of_eq rfl)
  | cons k _ => exact .of_eq rfl
theorem Meth.find {x y : Str} {i j : Int} : Meth "str" "str.find" (.str x) [.str y, .int i, .int j] (.int (findIn x y i j)) := fun G ρ Q Eh s vo vs F O ro R h => by
  obtain ⟨t, rfl⟩ := ro.str_inv
  cases R with | cons r R =>
  cases R with | cons r2 R =>
  cases R with | cons r3 R =>
  cases R; obtain ⟨u, rfl⟩ := r.str_inv; obtain ⟨v, rfl⟩ := r2.int_inv; obtain ⟨v2, rfl⟩ := r3.int_inv
  exact call_gives PySem.F.slot_str_find (typeIs_str _ _ _) PySem.F.entry_str_find (PySem.F.args_str_find_4 _ _ _ _) (gives_find4 x y i j t u v v2) (h _ _ _ (Up.refl _) O.tab (.int _ _) fun a e => nomatch e)

theorem fill16 : fillDummy PySem.Challenge.rw_ti0025_01 hd.heap_1 := by
  k_fill
  trivial
theorem ev_tup {G : Ctx} {ρ : List (Str × SV)} {es : List Expr} {l : List SV} {k : Nat} {pos : Pos} (a : EvAll G ρ es l) (hl : l.length ≤ sizeLine := by exact Nat.le_trans (Nat.le_of_ble_eq_true rfl) (show 100 ≤ sizeLine by decide)) : Ev G ρ (.Tuple es k pos) (.tup l) := Ev.tup a hl
/-- an if that goes on in one of several ways, or gives back v -/
theorem Rn.branch {α : Type} {ρf : α → List (Str × SV)} {μf : α → Mu} {res : α → SV} {v : SV} {o : Option α} {P : α → Prop} {G : Ctx} {ρ : List (Str × SV)} {μ : Mu} {t : Expr} {x y ss : List Stmt} {pos : Pos} {b : Bool} (c : Tst G (view ρ μ) t b)
    (a : (∃ z, o = some z ∧ P z ∧ Rn G ρ μ (if b then x else y) (.next (ρf z) (μf z))) ∨ (o = none ∧ Rn G ρ μ (if b then x else y) (.ret v))) (K : ∀ z, P z → Rn G (ρf z) (μf z) ss (.ret (res z))) (e : ∀ z, (μf z).adr = μ.adr) :
    Rn G ρ μ (.If t x y pos :: ss) (.ret (o.elim v res)) := by
  rcases a with ⟨z, rfl, p, a⟩ | ⟨rfl, a⟩
  · exact Rn.ite c a (K z p) (e z)
  · exact Rn.iteRet c a
/-- the first piece -/
def ell1 (got : Str) (ws : List Str) : Option (Int × List Str) :=
  let w := ws.headD Str.empty
  if (w.length : Int) != 0 then (if Txt.startswith got w then some (w.length, ws.eraseIdx 0) else none) else some (0, ws)
/-- the last piece -/
def ell2 (got : Str) (sp : Int) (ws : List Str) : Option (Int × List Str) :=
  let w := ws.getLastD Str.empty
  if (w.length : Int) != 0 then (if Txt.endswith got w then some (got.length - w.length, ws.eraseIdx (ws.length - 1)) else none) else some (got.length, ws)
def step (got : Str) (ep : Int) (p : Option Int) (w : Str) : Option Int := p.bind fun q => if findIn got w q ep < 0 then none else some (findIn got w q ep + w.length)
def run (got : Str) (ep sp : Int) (ws : List Str) : Option Int := ws.foldl (step got ep) (some sp)
def ellC (got : Str) (sp : Int) (y : Int × List Str) : Bool := if sp > y.1 then false else (run got y.1 sp y.2).isSome
def ellB (got : Str) (z : Int × List Str) : Bool := (ell2 got z.1 z.2).elim false (ellC got z.1)
def ellip (got : Str) (ws : List Str) : Bool := (ell1 got ws).elim false (ellB got)
theorem ellip_eq (got : Str) (ws : List Str) : SV.bool (ellip got ws) = (ell1 got ws).elim (.bool false) (fun z => .bool (ellB got z)) := by unfold ellip; cases ell1 got ws <;> rfl
theorem ellB_eq (got : Str) (z : Int × List Str) : SV.bool (ellB got z) = (ell2 got z.1 z.2).elim (.bool false) (fun y => .bool (ellC got z.1 y)) := by unfold ellB; cases ell2 got z.1 z.2 <;> rfl
theorem sL_get {ws : List Str} {i : Nat} (h : i < ws.length) : (sL ws)[i]? = some (.str (ws.getD i Str.empty)) := by
  unfold sL
  rw [List.getElem?_map, List.getD_eq_getElem?_getD, List.getElem?_eq_getElem h]; rfl
theorem step_none {got : Str} {ep : Int} : ∀ ws : List Str, ws.foldl (step got ep) none = none
  | [] => rfl
  | _ :: r => step_none r
theorem run_take {got : Str} {ep sp : Int} {ws : List Str} {i : Nat} (h : i < ws.length) : run got ep sp (ws.take (i + 1)) = step got ep (run got ep sp (ws.take i)) (ws.getD i Str.empty) := by
  unfold run
  rw [List.take_add_one, List.foldl_append, List.getElem?_eq_getElem h, List.getD_eq_getElem?_getD, List.getElem?_eq_getElem h]; rfl
theorem run_pre {got : Str} {ep sp : Int} {ws : List Str} : ∀ (n : Nat), n ≤ ws.length → (run got ep sp (ws.take n)).isSome = true → ∀ i, i ≤ n → (run got ep sp (ws.take i)).isSome = true := by
  intro n
  induction n with
  | zero => intro _ h i hi; rw [Nat.le_zero.mp hi]; exact h
  | succ n ih =>
    intro hn h i hi
    rcases Nat.lt_or_ge i (n + 1) with h1 | h1
    · refine ih (by omega) ?_ i (by omega)
      rw [run_take (by omega)] at h
      cases q : run got ep sp (ws.take n) with
      | none => rw [q] at h; cases h
      | some p => rfl
    · rw [show i = n + 1 by omega]; exact h
theorem sL_erase (ws : List Str) (k : Nat) : (sL ws).eraseIdx k = sL (ws.eraseIdx k) := by
  unfold sL
  induction ws generalizing k with
  | nil => cases k <;> rfl
  | cons a l ih => cases k with
    | zero => rfl
    | succ k => exact congrArg (SV.str a :: ·) (ih k)
theorem idx_zero {n : Nat} (h : 0 < n) : seqIndex? 0 n = some 0 := by
  unfold seqIndex?
  simp; omega
theorem idx_last {n : Nat} (h : 0 < n) : seqIndex? (-1) n = some (n - 1) := by
  unfold seqIndex?
  simp; omega
theorem last_some {ws : List Str} (h : ws ≠ []) : ws.getLast? = some (ws.getLastD Str.empty) := by
  cases q : ws.getLast? with
  | none => exact absurd (List.getLast?_eq_none_iff.mp q) h
  | some x => rw [List.getLastD_eq_getLast?, q]; rfl
theorem sL_last {ws : List Str} (h : ws ≠ []) : (sL ws).getLast? = some (.str (ws.getLastD Str.empty)) := by
  unfold sL
  rw [List.getLast?_map, last_some h]; rfl
theorem last_mem {ws : List Str} (h : ws ≠ []) : ws.getLastD Str.empty ∈ ws := List.mem_of_getLast? (last_some h)
/-- a loop that gives v back at the first turn that is not ok -/
theorem Rn.search {pr : Bool} {G : Ctx} {tgt iter : Expr} {body : List Stmt} {pos : Pos} {xs : List Str} {items : List SV} {ρ : List (Str × SV)} {ss : List Stmt} {v w res : SV} (ok : Nat → Bool) (ρs ρt : Nat → List (Str × SV))
    (src : ItEv G ρ tgt iter items false pr) (h0 : ∀ x sv, (ρs 0).lookup x = some sv → ρ.lookup x = some sv)
    (asg : ∀ i x, items[i]? = some x → AsgTo G xs tgt x (ρs i) (ρt i) none)
    (turn : ∀ i, i < items.length → (∀ j, j < i → ok j = true) → Rn G (ρt i) none body (if ok i then .next (ρs (i + 1)) none else .ret v))
    (rest : Rn G (ρs items.length) none ss (.ret w)) (r1 : (∀ i, i < items.length → ok i = true) → res = w) (r2 : ∀ k, k < items.length → ok k = false → res = v) (hs : ∀ x, foldedSetIterable iter G.env x = Pure.pure x := by intro _; rfl) : Rn G ρ none (.For tgt iter body [] pos :: ss) (.ret res) := by
  have key : ∀ n, n ≤ items.length → (∀ i, i < n → ok i = true) ∨ ∃ k, k < n ∧ (∀ i, i < k → ok i = true) ∧ ok k = false := by
    intro n
    induction n with
    | zero => exact fun _ => .inl fun i hi => absurd hi (Nat.not_lt_zero _)
    | succ n ih =>
      intro hn
      rcases ih (by omega) with h | ⟨k, a, b, c⟩
      · cases q : ok n with
        | true => exact .inl fun i hi => (Nat.lt_succ_iff_lt_or_eq.mp hi).elim (h i) fun e => e ▸ q
        | false => exact .inr ⟨n, by omega, h, q⟩
      · exact .inr ⟨k, by omega, b, c⟩
  rcases key items.length (Nat.le_refl _) with h | ⟨k, a, b, c⟩
  · rw [r1 h]
    exact Rn.loop ρs ρt (fun _ => none) src (.inl rfl) (fun _ => rfl) (.inl rfl) h0 rfl asg (fun i hi => by have := turn i hi fun j hj => h j (by omega); rwa [h i hi, if_pos rfl] at this) rest hs
  · rw [r2 k a c]
    exact Rn.loopRet ρs ρt (fun _ => none) k src (.inl rfl) (fun _ => rfl) (.inl rfl) h0 rfl (fun i x hx _ => asg i x hx) a (fun i hi => by have := turn i (by omega) fun j hj => b j (by omega); rwa [b i hi, if_pos rfl] at this) (by have := turn k a b; rwa [c, if_neg (by decide)] at this) hs
theorem sL_len (ws : List Str) : (sL ws).length = ws.length := List.length_map ..
theorem f_match {want got : Str} {ws : List Str} (hin : (Builtin.Str.occurrences want "..." 0 want.length 1).isEmpty = false) (h1 : (decide (want.length < ("..." : Str).length) || decide (Builtin.Str.strKind want < Builtin.Str.strKind "...")) = false) (hf : (Builtin.Str.occurrences want "..." 0 want.length (want.length + 1)).isEmpty = false)
    (e : Builtin.Str.partsBetween want (Builtin.Str.occurrences want "..." 0 want.length (want.length + 1)) ("..." : Str).length = ws) (hw : want.length ≤ 1000000) (hg : got.length ≤ 1000000) (h2 : 2 ≤ ws.length) (hl : ws.length ≤ 1000) (hs : ∀ w ∈ ws, w.length ≤ 1000000) : FnSpec 63 1 3 [.str want, .str got] (.bool (ellip got ws)) := by
  obtain ⟨t, gm⟩ := g_marker
  refine FnSpec.of_body (d := 0) (u := 0) (xs := ["want", "got"]) (by intro w; k_is) (by intro w; k_is) (fun s vs hl => by obtain ⟨x, y, rfl⟩ := len2 hl; exact BindsTo.of_eq rfl) (by decide) rfl (by decide) rfl rfl rfl (by decide) fun G A => ?_
  refine Rn.ite (b := false) ((Tst.cmp (Ev.globS A gm rfl) (Ev.name rfl) Cmp.notIn_str).cast hin) Rn.nil ?_
  refine Rn.enter (l := sL ws) (EvF.meth m_split (Ev.name rfl) (.cons (Ev.globS A gm rfl) .nil) (Meth.split h1 rfl hf e (sl hw) (sl (by omega))) strT) (fun y hy => by obtain ⟨_, _, rfl⟩ := List.mem_map.mp hy; trivial) (A.loc rfl) rfl fun ad => ?_
  refine Rn.assert ((Tst.cmp (Ev.callB b_len (A.glb rfl) (.cons (Ev.name rfl) .nil) (BFn.len_list (by simp [sL]; omega))) Ev.int Cmp.ge).cast (by simp [sL]; omega)) ?_
  refine Rn.assignSw (ev_tup (.cons Ev.int (.cons (Ev.callB b_len (A.glb rfl) (.cons (Ev.name rfl) .nil) (BFn.len_str (by omega))) .nil))) (A.kind _ _ rfl (fun z => nomatch z)) (A.kind _ _ rfl (fun z => nomatch z)) ?_ ⟨by decide, trivial⟩ ⟨by decide, trivial⟩ fun env e1 e2 e3 => sw_two e1 e2 e3 rfl rfl rfl rfl rfl
  have hne : ws ≠ [] := by rintro rfl; simp at h2
  have hw0 : (sL ws)[0]? = some (.str (ws.headD Str.empty)) := by
    rw [sL_get (by omega)]
    cases ws with | nil => exact absurd rfl hne | cons a l => rfl
  have h0m : ws.headD Str.empty ∈ ws := by cases ws with | nil => exact absurd rfl hne | cons a l => exact .head _
  refine Rn.assign (Ev.sub (Ev.name rfl) Ev.int (Get.list (x := .str (ws.headD Str.empty)) (by unfold pick; exact hw0) (by simp [sL]; omega))) (A.loc rfl) ?_ ⟨by decide, trivial⟩
  have hs0 := hs _ h0m
  rw [ellip_eq]
  refine Rn.branch (res := fun z => .bool (ellB got z)) (α := Int × List Str) (P := fun z => z.2 ≠ [] ∧ z.2.length ≤ 1000 ∧ ∀ w ∈ z.2, w.length ≤ 1000000) (ρf := fun z => [("startpos", .int z.1), ("endpos", .int got.length), ("got", .str got)]) (μf := fun z => some ("ws", ad, sL z.2)) (o := ell1 got ws) (v := .bool false) (Tst.val (Ev.name rfl) (by unfold Small; omega)) ?_ (fun z hz => ?_) (fun _ => rfl)
  · cases q : (((ws.headD Str.empty).length : Int) != 0) with
    | false =>
      refine .inl ⟨(0, ws), by unfold ell1; simp only [q]; rfl, ⟨hne, hl, hs⟩, ?_⟩
      rw [show tru (.str (ws.headD Str.empty)) = false from q]
      exact Rn.done (sub_cons rfl (sub_cons rfl (sub_cons rfl sub_nil)))
    | true =>
      rw [show tru (.str (ws.headD Str.empty)) = true from q]
      cases q2 : Txt.startswith got (ws.headD Str.empty) with
      | false =>
        refine .inr ⟨by unfold ell1; simp only [q, q2]; rfl, ?_⟩
        exact Rn.iteRet (b := false) ((Tst.val (EvF.meth m_startswith (Ev.name rfl) (.cons (Ev.name rfl) .nil) Meth.startswith strT).ev).cast q2) (Rn.ret Ev.bool)
      | true =>
        refine .inl ⟨((ws.headD Str.empty).length, ws.eraseIdx 0), by unfold ell1; simp only [q, q2]; rfl, ⟨?_, ?_, ?_⟩, ?_⟩
        · intro e0
          have := congrArg List.length e0
          simp only [List.length_eraseIdx, List.length_nil] at this
          split at this <;> omega
        · exact Nat.le_trans (List.length_eraseIdx_le ..) hl
        · exact fun w hw => hs w (List.mem_of_mem_eraseIdx hw)
        · refine Rn.ite (b := true) ((Tst.val (EvF.meth m_startswith (Ev.name rfl) (.cons (Ev.name rfl) .nil) Meth.startswith strT).ev).cast q2) ?_ Rn.nil
          refine Rn.assign (Ev.callB b_len (A.glb rfl) (.cons (Ev.name rfl) .nil) (BFn.len_str (by omega))) (A.loc rfl) ?_ ⟨by decide, trivial⟩
          refine Rn.del (k := 0) Ev.int (by rw [sL_len]; exact idx_zero (by omega)) (by rw [sL_len]; omega) rfl (by rw [sL_len]; exact sl (by omega)) ?_
          rw [sL_erase]
          exact Rn.done (sub_cons rfl (sub_cons rfl (sub_cons rfl sub_nil)))
  obtain ⟨hz1, hz2, hz3⟩ := hz
  obtain ⟨sp, zs⟩ := z
  replace hz1 : zs ≠ [] := hz1
  replace hz2 : zs.length ≤ 1000 := hz2
  replace hz3 : ∀ w ∈ zs, w.length ≤ 1000000 := hz3
  show Rn G [("startpos", .int sp), ("endpos", .int got.length), ("got", .str got)] (some ("ws", ad, sL zs)) _ (.ret (.bool (ellB got (sp, zs))))
  have hzl : 0 < zs.length := List.length_pos_iff.mpr hz1
  have hw1 := hz3 _ (last_mem hz1)
  refine Rn.assign (Ev.sub (Ev.name rfl) (Ev.un Ev.int Un.neg) (Get.list (pick_last (sL_last hz1)) (by rw [sL_len]; omega))) (A.loc rfl) ?_ ⟨by decide, trivial⟩
  rw [ellB_eq]
  refine Rn.branch (res := fun y => .bool (ellC got sp y)) (α := Int × List Str) (P := fun y => y.2.length ≤ 1000 ∧ ∀ w ∈ y.2, w.length ≤ 1000000) (ρf := fun y => [("startpos", .int sp), ("endpos", .int y.1), ("got", .str got)]) (μf := fun y => some ("ws", ad, sL y.2)) (o := ell2 got sp zs) (v := .bool false) (Tst.val (Ev.name rfl) (by unfold Small; omega)) ?_ (fun y hy => ?_) (fun _ => rfl)
  · cases q : (((zs.getLastD Str.empty).length : Int) != 0) with
    | false =>
      refine .inl ⟨(got.length, zs), by unfold ell2; simp only [q]; rfl, ⟨hz2, hz3⟩, ?_⟩
      rw [show tru (.str (zs.getLastD Str.empty)) = false from q]
      exact Rn.done (sub_cons rfl (sub_cons rfl (sub_cons rfl sub_nil)))
    | true =>
      rw [show tru (.str (zs.getLastD Str.empty)) = true from q]
      cases q2 : Txt.endswith got (zs.getLastD Str.empty) with
      | false =>
        refine .inr ⟨by unfold ell2; simp only [q, q2]; rfl, ?_⟩
        exact Rn.iteRet (b := false) ((Tst.val (EvF.meth m_endswith (Ev.name rfl) (.cons (Ev.name rfl) .nil) Meth.endswith strT).ev).cast q2) (Rn.ret Ev.bool)
      | true =>
        refine .inl ⟨(got.length - (zs.getLastD Str.empty).length, zs.eraseIdx (zs.length - 1)), by unfold ell2; simp only [q, q2]; rfl, ⟨?_, ?_⟩, ?_⟩
        · exact Nat.le_trans (List.length_eraseIdx_le ..) hz2
        · exact fun w hw => hz3 w (List.mem_of_mem_eraseIdx hw)
        · refine Rn.ite (b := true) ((Tst.val (EvF.meth m_endswith (Ev.name rfl) (.cons (Ev.name rfl) .nil) Meth.endswith strT).ev).cast q2) ?_ Rn.nil
          refine Rn.aug rfl (Ev.callB b_len (A.glb rfl) (.cons (Ev.name rfl) .nil) (BFn.len_str (by omega))) InB.sub (A.loc rfl) ?_ ⟨by decide, trivial⟩
          refine Rn.del (k := zs.length - 1) (Ev.un Ev.int Un.neg) (by rw [sL_len]; exact idx_last hzl) (by rw [sL_len]; omega) rfl (by rw [sL_len]; exact sl (by omega)) ?_
          rw [sL_erase]
          exact Rn.done (sub_cons rfl (sub_cons rfl (sub_cons rfl sub_nil)))
  obtain ⟨ep, ys⟩ := y
  obtain ⟨hy1, hy2⟩ := hy
  replace hy1 : ys.length ≤ 1000 := hy1
  replace hy2 : ∀ w ∈ ys, w.length ≤ 1000000 := hy2
  show Rn G [("startpos", .int sp), ("endpos", .int ep), ("got", .str got)] (some ("ws", ad, sL ys)) _ (.ret (.bool (ellC got sp (ep, ys))))
  by_cases hgt : sp > ep
  · refine Rn.iteRet (b := true) ((Tst.cmp (Ev.name rfl) (Ev.name rfl) Cmp.gt).cast (decide_eq_true hgt)) ?_
    rw [show ellC got sp (ep, ys) = false by unfold ellC; rw [if_pos hgt]]
    exact Rn.ret Ev.bool
  refine Rn.ite (b := false) ((Tst.cmp (Ev.name rfl) (Ev.name rfl) Cmp.gt).cast (decide_eq_false hgt)) Rn.nil ?_
  refine Rn.freeze ?_
  have he : ellC got sp (ep, ys) = (run got ep sp ys).isSome := by unfold ellC; rw [if_neg hgt]
  have full : ys.take ys.length = ys := List.take_of_length_le (Nat.le_refl _)
  refine Rn.search (ok := fun i => (run got ep sp (ys.take (i + 1))).isSome) (v := .bool false) (w := .bool true) (ρs := fun i => [("startpos", .int ((run got ep sp (ys.take i)).getD 0)), ("endpos", .int ep), ("got", .str got), ("ws", .list (sL ys))]) (ρt := fun i => [("w", .str (ys.getD i Str.empty)), ("startpos", .int ((run got ep sp (ys.take i)).getD 0)), ("endpos", .int ep), ("got", .str got), ("ws", .list (sL ys))]) (xs := ["w"]) (items := sL ys) (ItEv.listN rfl) (sub_cons rfl (sub_cons rfl (sub_cons rfl (sub_cons rfl sub_nil)))) (fun i x hx => ?_) (fun i hi hp => ?_) (Rn.ret Ev.bool) (fun hall => ?_) (fun k hk hf => ?_)
  · have hi : i < ys.length := by have := (List.getElem?_eq_some_iff.mp hx).1; rwa [sL_len] at this
    rw [sL_get hi] at hx
    cases hx
    exact AsgTo.name (A.loc rfl)
  · rw [sL_len] at hi
    have hw2 : (ys.getD i Str.empty).length ≤ 1000000 := hy2 _ (by rw [List.getD_eq_getElem?_getD, List.getElem?_eq_getElem hi]; exact List.getElem_mem hi)
    have h0 : (run got ep sp (ys.take i)).isSome = true := by
      cases i with
      | zero => rfl
      | succ i => exact hp i (Nat.lt_succ_self i)
    obtain ⟨p, e1⟩ := Option.isSome_iff_exists.mp h0
    have e2 : run got ep sp (ys.take (i + 1)) = if findIn got (ys.getD i Str.empty) p ep < 0 then none else some (findIn got (ys.getD i Str.empty) p ep + (ys.getD i Str.empty).length) := by rw [run_take hi, e1]; rfl
    rw [e1, e2]
    refine Rn.assign (EvF.meth m_find (Ev.name rfl) (.cons (Ev.name rfl) (.cons (Ev.name rfl) (.cons (Ev.name rfl) .nil))) Meth.find strT).ev (A.loc rfl) ?_
    by_cases c : findIn got (ys.getD i Str.empty) p ep < 0
    · rw [if_pos c]
      exact Rn.iteRet (b := true) ((Tst.cmp (Ev.name rfl) Ev.int Cmp.lt).cast (decide_eq_true c)) (Rn.ret Ev.bool)
    · rw [if_neg c]
      refine Rn.ite (b := false) ((Tst.cmp (Ev.name rfl) Ev.int Cmp.lt).cast (decide_eq_false c)) Rn.nil ?_
      refine Rn.aug rfl (Ev.callB b_len (A.glb rfl) (.cons (Ev.name rfl) .nil) (BFn.len_str (by omega))) InB.add (A.loc rfl) ?_
      exact Rn.done (sub_cons rfl (sub_cons rfl (sub_cons rfl (sub_cons rfl sub_nil))))
  · rw [he]
    rw [sL_len] at hall
    cases q : ys.length with
    | zero => rw [List.length_eq_zero_iff.mp q]; rfl
    | succ n =>
      have := hall n (by omega)
      rw [← q, full] at this
      rw [this]
  · rw [he]
    rw [sL_len] at hk
    cases q : (run got ep sp ys).isSome with
    | false => rfl
    | true => rw [run_pre ys.length (Nat.le_refl _) (by rw [full]; exact q) (k + 1) hk] at hf; cases hf
/-- without dots -/
theorem f_match0 {want got : Str} (hin : (Builtin.Str.occurrences want "..." 0 want.length 1).isEmpty = true) : FnSpec 63 1 3 [.str want, .str got] (.bool (want.cps.toList == got.cps.toList)) := by
  obtain ⟨t, gm⟩ := g_marker
  refine FnSpec.of_body (d := 0) (u := 0) (xs := ["want", "got"]) (by intro w; k_is) (by intro w; k_is) (fun s vs hl => by obtain ⟨x, y, rfl⟩ := len2 hl; exact BindsTo.of_eq rfl) (by decide) rfl (by decide) rfl rfl rfl (by decide) fun G A => ?_
  exact Rn.iteRet (b := true) ((Tst.cmp (Ev.globS A gm rfl) (Ev.name rfl) Cmp.notIn_str).cast hin) (Rn.ret (Ev.cmp (Ev.name rfl) (Ev.name rfl) Cmp.eq_str))

section
open PySem.Builtin.Str PySem.StrLaws
/-- a text of these signs -/
def mk (l : List Nat) : Str := ⟨l.toArray⟩
theorem mk_len (l : List Nat) : (mk l).length = l.length := List.size_toArray ..
theorem mk_app (a b : List Nat) : mk a ++ mk b = mk (a ++ b) := Str.ext' (by simp [mk, Str.cps_append])
theorem mk_sub (l : List Nat) (i j : Nat) : strSub (mk l) i j = mk ((l.drop i).take (j - i)) := Str.ext' (Array.toList_inj.mp (by rw [strSub_toList]; rfl))
theorem mk_eta (x : Str) : mk x.cps.toList = x := rfl
/-- b lies in l at i -/
def In (l b : List Nat) (i : Nat) : Prop := i + b.length ≤ l.length ∧ (l.drop i).take b.length = b
theorem at_iff {l b : List Nat} {hi i : Nat} (h : hi ≤ l.length) : StrLaws.At (mk l) (mk b) hi i ↔ i + b.length ≤ hi ∧ (l.drop i).take b.length = b := by
  unfold StrLaws.At
  rw [subAt_eq, mk_len]
  exact ⟨fun ⟨a, c⟩ => ⟨a, eq_of_beq c⟩, fun ⟨a, c⟩ => ⟨a, beq_iff_eq.mpr c⟩⟩
def dots : List Nat := [46, 46, 46]
theorem dots_eq : ("..." : Str) = mk dots := by rfl
/-- the pieces with dots between them -/
def glue : List (List Nat) → List Nat
  | [] => []
  | [w] => w
  | w :: r => w ++ dots ++ glue r
def Free (w : List Nat) : Prop := 46 ∉ w
theorem no_at {p w t : List Nat} {k : Nat} (hf : Free w) (h1 : p.length ≤ k) (h2 : k < p.length + w.length) : ((p ++ w ++ t).drop k).take 3 ≠ dots := by
  intro e
  have e0 := congrArg (fun l : List Nat => l[0]?) e
  simp only [dots, List.getElem?_take_of_lt (show 0 < 3 by decide), List.getElem?_drop, Nat.add_zero, List.getElem?_cons_zero] at e0
  rw [List.getElem?_append_left (by rw [List.length_append]; exact h2), List.getElem?_append_right h1] at e0
  exact hf (List.mem_of_getElem? e0)
theorem parts_glue : ∀ (ws : List (List Nat)) (p : List Nat) (cuts : List Nat) (f : Nat), ws ≠ [] → (∀ w ∈ ws, Free w) → ChainG (mk (p ++ glue ws)) (mk dots) (p ++ glue ws).length p.length cuts f → (∀ k, f ≤ k → ¬ StrLaws.At (mk (p ++ glue ws)) (mk dots) (p ++ glue ws).length k) →
    partsFrom (mk (p ++ glue ws)) 3 p.length cuts = ws.map mk
  | [], _, _, _, h, _, _, _ => absurd rfl h
  | [w], p, cuts, f, _, hf, C, T => by
    have no : ∀ k, p.length ≤ k → ¬ StrLaws.At (mk (p ++ w)) (mk dots) (p ++ w).length k := fun k hk h => by
      rw [at_iff (Nat.le_refl _)] at h
      have hlt : k < p.length + w.length := by have := h.1; rw [List.length_append] at this; exact Nat.lt_of_lt_of_le (Nat.lt_add_of_pos_right (show 0 < dots.length by decide)) this
      exact no_at (t := []) (hf w (.head _)) hk hlt (by rw [List.append_nil]; exact h.2)
    cases cuts with
    | nil =>
      show [strSub (mk (p ++ w)) p.length (mk (p ++ w)).length] = [mk w]
      rw [mk_sub, mk_len, List.drop_left, List.take_of_length_le (by rw [List.length_append, Nat.add_sub_cancel_left]; exact Nat.le_refl _)]
    | cons c r => exact absurd C.2.1 (no c C.1)
  | w :: v :: r, p, cuts, f, _, hf, C, T => by
    have hfw := hf w (.head _)
    have hx : p ++ glue (w :: v :: r) = p ++ w ++ dots ++ glue (v :: r) := by show p ++ (w ++ dots ++ glue (v :: r)) = _; simp only [List.append_assoc]
    have hx2 : p ++ glue (w :: v :: r) = p ++ w ++ (dots ++ glue (v :: r)) := by rw [hx, List.append_assoc (p ++ w)]
    have yes : StrLaws.At (mk (p ++ glue (w :: v :: r))) (mk dots) (p ++ glue (w :: v :: r)).length (p.length + w.length) := by
      rw [at_iff (Nat.le_refl _), hx]
      have e : p.length + w.length = (p ++ w).length := (List.length_append ..).symm
      refine ⟨by rw [e]; simp only [List.length_append]; omega, ?_⟩
      rw [e, List.append_assoc (p ++ w), List.drop_left, List.take_left]
    have no : ∀ k, p.length ≤ k → k < p.length + w.length → ¬ StrLaws.At (mk (p ++ glue (w :: v :: r))) (mk dots) (p ++ glue (w :: v :: r)).length k := fun k hk hk2 h => by
      rw [at_iff (Nat.le_refl _)] at h
      rw [hx2] at h
      exact no_at hfw hk hk2 h.2
    cases cuts with
    | nil =>
      have e : f = p.length := C
      exact absurd yes (T _ (by omega))
    | cons c q =>
      obtain ⟨c1, c2, c3, c4⟩ := C
      have ec : c = p.length + w.length := by
        rcases Nat.lt_trichotomy c (p.length + w.length) with h | h | h
        · exact absurd c2 (no c c1 h)
        · exact h
        · exact absurd yes (c3 _ (Nat.le_add_right _ _) h)
      subst ec
      have e2 : p.length + w.length + (mk dots).length = (p ++ w ++ dots).length := by simp only [List.length_append, mk_len]
      rw [e2] at c4
      have e3 : strSub (mk (p ++ glue (w :: v :: r))) p.length (p.length + w.length) = mk w := by
        rw [mk_sub, hx2, Nat.add_sub_cancel_left, List.append_assoc, List.drop_left, List.take_left]
      show strSub (mk (p ++ glue (w :: v :: r))) p.length (p.length + w.length) :: partsFrom (mk (p ++ glue (w :: v :: r))) 3 (p.length + w.length + 3) q = mk w :: (v :: r).map mk
      rw [e3, show p.length + w.length + 3 = (p ++ w ++ dots).length from e2, hx]
      rw [hx] at c4 T
      rw [parts_glue (v :: r) (p ++ w ++ dots) q f (fun h => nomatch h) (fun y hy => hf y (.tail _ hy)) c4 T]
theorem glue_at (w v : List Nat) (r : List (List Nat)) : (glue (w :: v :: r)).length = w.length + 3 + (glue (v :: r)).length ∧ ((glue (w :: v :: r)).drop w.length).take 3 = dots := by
  have : glue (w :: v :: r) = w ++ (dots ++ glue (v :: r)) := by show w ++ dots ++ glue (v :: r) = _; rw [List.append_assoc]
  rw [this]
  exact ⟨by simp only [List.length_append, dots, List.length_cons, List.length_nil]; omega, by rw [List.drop_left]; exact List.take_left (l₁ := dots)⟩
theorem split_glue {ws : List (List Nat)} (h2 : 2 ≤ ws.length) (hf : ∀ w ∈ ws, Free w) :
    (occurrences (mk (glue ws)) "..." 0 (mk (glue ws)).length 1).isEmpty = false ∧ (decide ((mk (glue ws)).length < ("..." : Str).length) || decide (strKind (mk (glue ws)) < strKind "...")) = false ∧
    (occurrences (mk (glue ws)) "..." 0 (mk (glue ws)).length ((mk (glue ws)).length + 1)).isEmpty = false ∧ partsBetween (mk (glue ws)) (occurrences (mk (glue ws)) "..." 0 (mk (glue ws)).length ((mk (glue ws)).length + 1)) ("..." : Str).length = ws.map mk := by
  rw [dots_eq]
  match ws, h2 with
  | w :: v :: r, _ =>
  obtain ⟨g1, g2⟩ := glue_at w v r
  have hat : StrLaws.At (mk (glue (w :: v :: r))) (mk dots) (glue (w :: v :: r)).length w.length := (at_iff (Nat.le_refl _)).mpr ⟨by rw [g1]; exact Nat.le_add_right _ _, g2⟩
  obtain ⟨f, C, T⟩ := occ_tight (mk (glue (w :: v :: r))) (mk dots) (by decide)
  refine ⟨?_, ?_, ?_, ?_⟩
  · have := (found_iff (mk (glue (w :: v :: r))) (mk dots)).mpr ⟨w.length, by rw [mk_len]; exact hat.1, hat.2⟩
    rwa [Bool.not_eq_true'] at this
  · rw [mk_len, mk_len, g1]
    have k1 : Builtin.Str.strKind (mk dots) = 1 := by unfold Builtin.Str.strKind; rw [if_pos (by simp [mk, dots])]
    have k2 : 1 ≤ Builtin.Str.strKind (mk (glue (w :: v :: r))) := by unfold Builtin.Str.strKind; split; exact Nat.le_refl _; split <;> decide
    rw [k1, decide_eq_false (by show ¬ _ < 3; omega), decide_eq_false (by omega)]; rfl
  · rcases occ_head (mk (glue (w :: v :: r))) (mk dots) ((mk (glue (w :: v :: r))).length + 1) (Nat.le_add_left _ _) with ⟨_, n⟩ | ⟨i, q, e, _⟩
    · rw [mk_len] at n; exact absurd hat (n _)
    · rw [e]; rfl
  · rw [partsBetween_eq]
    rw [mk_len (glue _)] at C T ⊢
    exact parts_glue (w :: v :: r) [] _ f (fun h => nomatch h) hf C T
theorem startswith_mk (g w : List Nat) : Txt.startswith (mk g) (mk w) = w.isPrefixOf g := by
  unfold Txt.startswith
  rw [subAt_eq, mk_len, mk_len]
  rw [Bool.eq_iff_iff, List.isPrefixOf_iff_prefix, List.prefix_iff_eq_take, Bool.and_eq_true, decide_eq_true_iff, beq_iff_eq]
  exact ⟨fun ⟨_, h⟩ => h.symm, fun h => ⟨by have := congrArg List.length h; rw [List.length_take] at this; omega, h.symm⟩⟩
theorem endswith_mk (g w : List Nat) : Txt.endswith (mk g) (mk w) = w.isSuffixOf g := by
  unfold Txt.endswith
  rw [subAt_eq, mk_len, mk_len]
  rw [Bool.eq_iff_iff, List.isSuffixOf_iff_suffix, List.suffix_iff_eq_drop, Bool.and_eq_true, decide_eq_true_iff, beq_iff_eq]
  have hl : w.length ≤ g.length → (g.drop (g.length - w.length)).take w.length = g.drop (g.length - w.length) := fun h => List.take_of_length_le (by rw [List.length_drop]; omega)
  refine ⟨fun ⟨a, h⟩ => ?_, fun h => ?_⟩
  · rw [← hl (by omega)]; exact h.symm
  · have : w.length ≤ g.length := by have := congrArg List.length h; rw [List.length_drop] at this; omega
    exact ⟨by omega, by show List.take w.length (List.drop (g.length - w.length) g) = w; rw [hl this]; exact h.symm⟩
theorem from_nat (n a : Nat) : fromIndex n (a : Int) = a := by unfold fromIndex; rw [if_neg (by omega)]; omega
theorem find_spec (g y : List Nat) (a b : Nat) (hb : b ≤ g.length) : (findIn (mk g) (mk y) a b = -1 ∧ ∀ k, a ≤ k → ¬ StrLaws.At (mk g) (mk y) b k) ∨ ∃ k : Nat, findIn (mk g) (mk y) a b = k ∧ a ≤ k ∧ StrLaws.At (mk g) (mk y) b k ∧ ∀ j, a ≤ j → j < k → ¬ StrLaws.At (mk g) (mk y) b j := by
  unfold findIn
  rw [from_nat, from_nat, mk_len, Nat.min_eq_left hb, occ_eq]
  rcases occ_first (mk g) (mk y) b 1 (Nat.le_refl _) (List.range' a (b + 1 - a)) a (fun i hi => by have := List.mem_range'_1.mp hi; omega) with ⟨h0, hn⟩ | ⟨pre, c, post, e, h0, hc, hn⟩
  · refine .inl ⟨by rw [h0], fun k hk hA => hn k ?_ hA⟩
    have := hA.1; rw [List.mem_range'_1]; omega
  · have hs := range'_split_from e
    refine .inr ⟨c, ?_, hs.1, hc, fun j h1 h2 => hn j (hs.2 j h1 h2)⟩
    generalize (forIn (List.range' a (b + 1 - a)) ((#[] : Array Nat), a) (occBody (mk g) (mk y) b 1)).run.fst = arr at h0
    have h1 : arr.toList[0]? = some c := by simpa using h0
    cases hL : arr.toList with
    | nil => rw [hL] at h1; cases h1
    | cons b t => rw [hL] at h1; simp at h1; rw [h1]
theorem run_cons (got : Str) (ep sp : Int) (w : Str) (r : List Str) : run got ep sp (w :: r) = if findIn got w sp ep < 0 then none else run got ep (findIn got w sp ep + w.length) r := by
  unfold run
  rw [List.foldl_cons]
  show List.foldl (step got ep) (if findIn got w sp ep < 0 then none else some (findIn got w sp ep + w.length)) r = _
  split
  · exact step_none r
  · rfl
def total (ws : List (List Nat)) : Nat := (ws.map List.length).sum
theorem run_len {g : List Nat} {b : Nat} (hb : b ≤ g.length) : ∀ (ws : List (List Nat)) (a : Nat), ws ≠ [] → (run (mk g) b a (ws.map mk)).isSome = true → a + total ws ≤ b
  | [], _, h, _ => absurd rfl h
  | w :: r, a, _, h => by
    rw [List.map_cons, run_cons] at h
    rcases find_spec g w a b hb with ⟨e, _⟩ | ⟨k, e, h1, h2, _⟩
    · rw [e] at h; cases h
    · rw [e, if_neg (by omega), mk_len] at h
      have hk := h2.1
      rw [mk_len] at hk
      show a + (w.length + total r) ≤ b
      cases r with
      | nil => show a + (w.length + 0) ≤ b; omega
      | cons v r =>
        have := run_len hb (v :: r) (k + w.length) (fun z => nomatch z) (by rw [Int.natCast_add]; exact h)
        omega
theorem run_exact {g : List Nat} {b : Nat} (hb : b ≤ g.length) : ∀ (ws : List (List Nat)) (a : Nat), a + total ws ≤ b → (g.drop a).take (total ws) = ws.flatten → run (mk g) b a (ws.map mk) = some ((a + total ws : Nat) : Int)
  | [], a, _, _ => rfl
  | w :: r, a, h, e => by
    have ht : total (w :: r) = w.length + total r := rfl
    rw [ht] at h e ⊢
    rw [List.flatten_cons, List.take_add] at e
    have hw : ((g.drop a).take w.length).length = w.length := by rw [List.length_take, List.length_drop]; omega
    obtain ⟨e1, e2⟩ := List.append_inj e hw
    have hA : StrLaws.At (mk g) (mk w) b a := (at_iff hb).mpr ⟨by omega, e1⟩
    rw [List.map_cons, run_cons]
    have hf : findIn (mk g) (mk w) a b = a := by
      rcases find_spec g w a b hb with ⟨_, n⟩ | ⟨k, e, h1, _, n⟩
      · exact absurd hA (n a (Nat.le_refl _))
      · rcases Nat.lt_or_ge a k with c | c
        · exact absurd hA (n a (Nat.le_refl _) c)
        · rw [e]; congr 1; omega
    rw [hf, if_neg (by omega), mk_len, ← Int.natCast_add, run_exact hb r (a + w.length) (by omega) (by rw [← List.drop_drop]; exact e2)]
    congr 2; omega
theorem ell_pp {g a c : List Nat} {ws ws1 mid : List Str} (ha : a ≠ []) (hc : c ≠ []) (h1 : ws.headD Str.empty = mk a := by rfl) (e1 : ws.eraseIdx 0 = ws1 := by rfl) (h2 : ws1.getLastD Str.empty = mk c := by rfl) (e2 : ws1.eraseIdx (ws1.length - 1) = mid := by rfl) :
    ellip (mk g) ws = (a.isPrefixOf g && (c.isSuffixOf g && (decide (a.length + c.length ≤ g.length) && (run (mk g) (g.length - c.length : Int) a.length mid).isSome))) := by
  have la : ((a.length : Int) != 0) = true := bne_iff_ne.mpr fun h => ha (List.length_eq_zero_iff.mp (by omega))
  have lc : ((c.length : Int) != 0) = true := bne_iff_ne.mpr fun h => hc (List.length_eq_zero_iff.mp (by omega))
  unfold ellip ell1
  simp only [h1, e1, mk_len, startswith_mk, la, if_true]
  cases a.isPrefixOf g with
  | false => rfl
  | true =>
    show ellB (mk g) ((a.length : Int), ws1) = _
    unfold ellB ell2
    simp only [h2, e2, mk_len, endswith_mk, lc, if_true, Bool.true_and]
    cases c.isSuffixOf g with
    | false => rfl
    | true =>
      show ellC (mk g) (a.length : Int) ((g.length - c.length : Int), mid) = _
      unfold ellC
      by_cases k : a.length + c.length ≤ g.length
      · rw [decide_eq_true k, if_neg (by show ¬ _ > _; simp only []; omega)]; rfl
      · rw [decide_eq_false k, if_pos (by show _ > _; simp only []; omega)]; rfl
theorem ell_pe {g a : List Nat} {ws ws1 : List Str} (ha : a ≠ []) (h1 : ws.headD Str.empty = mk a := by rfl) (e1 : ws.eraseIdx 0 = ws1 := by rfl) (h2 : ws1.getLastD Str.empty = mk [] := by rfl) :
    ellip (mk g) ws = (a.isPrefixOf g && (run (mk g) g.length a.length ws1).isSome) := by
  have la : ((a.length : Int) != 0) = true := bne_iff_ne.mpr fun h => ha (List.length_eq_zero_iff.mp (by omega))
  unfold ellip ell1
  simp only [h1, e1, mk_len, startswith_mk, la, if_true]
  cases q : a.isPrefixOf g with
  | false => rfl
  | true =>
    have hl := (List.isPrefixOf_iff_prefix.mp q).length_le
    show ellB (mk g) ((a.length : Int), ws1) = _
    unfold ellB ell2
    simp only [h2, mk_len]
    show ellC (mk g) (a.length : Int) ((g.length : Int), ws1) = _
    unfold ellC
    rw [if_neg (by show ¬ _ > _; simp only []; omega)]; rfl
theorem ell_e {g : List Nat} {ws : List Str} (h1 : ws.headD Str.empty = mk []) : ellip (mk g) ws = ellB (mk g) (0, ws) := by
  unfold ellip ell1
  simp only [h1]
  rfl
theorem ell_ep {g c : List Nat} {ws mid : List Str} (hc : c ≠ []) (h1 : ws.headD Str.empty = mk [] := by rfl) (h2 : ws.getLastD Str.empty = mk c := by rfl) (e2 : ws.eraseIdx (ws.length - 1) = mid := by rfl) :
    ellip (mk g) ws = (c.isSuffixOf g && (run (mk g) (g.length - c.length : Int) 0 mid).isSome) := by
  have lc : ((c.length : Int) != 0) = true := bne_iff_ne.mpr fun h => hc (List.length_eq_zero_iff.mp (by omega))
  rw [ell_e h1]
  unfold ellB ell2
  simp only [h2, e2, mk_len, endswith_mk, lc, if_true]
  cases q : c.isSuffixOf g with
  | false => rfl
  | true =>
    have hl := (List.isSuffixOf_iff_suffix.mp q).length_le
    show ellC (mk g) 0 ((g.length - c.length : Int), mid) = _
    unfold ellC
    rw [if_neg (by show ¬ _ > _; simp only []; omega)]; rfl
theorem ell_ee {g : List Nat} {ws : List Str} (h1 : ws.headD Str.empty = mk [] := by rfl) (h2 : ws.getLastD Str.empty = mk [] := by rfl) : ellip (mk g) ws = (run (mk g) g.length 0 ws).isSome := by
  rw [ell_e h1]
  unfold ellB ell2
  simp only [h2, mk_len]
  show ellC (mk g) 0 ((g.length : Int), ws) = _
  unfold ellC
  rw [if_neg (by show ¬ _ > _; simp only []; omega)]
/-- w and dots -/
theorem match_pre (g : List Nat) {w : List Nat} (hw : w ≠ []) : ellip (mk g) ([w, []].map mk) = w.isPrefixOf g := by
  rw [ell_pe (a := w) hw]
  cases q : w.isPrefixOf g with
  | false => rfl
  | true =>
    rw [Bool.true_and]
    have := run_exact (g := g) (Nat.le_refl _) [[]] w.length (by have := (List.isPrefixOf_iff_prefix.mp q).length_le; simpa [total] using this) rfl
    show (run (mk g) g.length w.length ([[]].map mk)).isSome = true
    rw [this]; rfl
theorem match_suf (g : List Nat) {w : List Nat} (hw : w ≠ []) : ellip (mk g) ([[], w].map mk) = w.isSuffixOf g := by
  rw [ell_ep (c := w) hw]
  cases q : w.isSuffixOf g with
  | false => rfl
  | true =>
    rw [Bool.true_and]
    have hl := (List.isSuffixOf_iff_suffix.mp q).length_le
    have := run_exact (g := g) (b := g.length - w.length) (Nat.sub_le _ _) [[]] 0 (Nat.zero_le _) rfl
    show (run (mk g) (g.length - w.length : Int) 0 ([[]].map mk)).isSome = true
    rw [← Int.ofNat_sub hl]
    show (run (mk g) ((g.length - w.length : Nat) : Int) ((0 : Nat) : Int) ([[]].map mk)).isSome = true
    rw [this]; rfl
theorem match_both (g : List Nat) {w v : List Nat} (hw : w ≠ []) (hv : v ≠ []) : ellip (mk g) ([w, v].map mk) = (w.isPrefixOf g && (v.isSuffixOf g && decide (w.length + v.length ≤ g.length))) := by
  rw [ell_pp (a := w) (c := v) hw hv]
  show (_ && (_ && (_ && true))) = _
  rw [Bool.and_true]
theorem match_in (g x : List Nat) : ellip (mk g) ([[], x, []].map mk) = true ↔ ∃ k, k + x.length ≤ g.length ∧ (g.drop k).take x.length = x := by
  rw [ell_ee]
  have z : run (mk g) (g.length : Int) 0 ([[], x, []].map mk) = run (mk g) (g.length : Int) 0 ([x, []].map mk) := by
    have := run_exact (g := g) (b := g.length) (Nat.le_refl _) [[]] 0 (Nat.zero_le _) rfl
    show run (mk g) _ ((0 : Nat) : Int) (mk [] :: _) = _
    have f : findIn (mk g) (mk []) ((0 : Nat) : Int) (g.length : Int) = 0 := by
      rcases find_spec g [] 0 g.length (Nat.le_refl _) with ⟨_, n⟩ | ⟨k, e, _, _, n⟩
      · exact (n 0 (Nat.le_refl _) ((at_iff (Nat.le_refl _)).mpr ⟨Nat.zero_le _, rfl⟩)).elim
      · rcases Nat.eq_zero_or_pos k with c | c
        · rw [e, c]; rfl
        · exact (n 0 (Nat.le_refl _) c ((at_iff (Nat.le_refl _)).mpr ⟨Nat.zero_le _, rfl⟩)).elim
    rw [run_cons, f]; rfl
  rw [z, List.map_cons, run_cons]
  rcases find_spec g x 0 g.length (Nat.le_refl _) with ⟨e, n⟩ | ⟨k, e, _, h, _⟩
  · rw [show ((0 : Nat) : Int) = 0 from rfl] at e
    rw [e]
    refine ⟨fun h => (nomatch h), fun ⟨k, h⟩ => (n k (Nat.zero_le _) ((at_iff (Nat.le_refl _)).mpr h)).elim⟩
  · rw [show ((0 : Nat) : Int) = 0 from rfl] at e
    have h' := (at_iff (Nat.le_refl _)).mp h
    rw [e, if_neg (by omega), mk_len]
    refine ⟨fun _ => ⟨k, h'⟩, fun _ => ?_⟩
    have := run_exact (g := g) (b := g.length) (Nat.le_refl _) [[]] (k + x.length) (by simpa [total] using h'.1) rfl
    rw [← Int.natCast_add]
    show (run (mk g) _ _ ([[]].map mk)).isSome = true
    rw [this]; rfl
end

theorem fill17 : fillDummy PySem.Challenge.rw_ti0025_01 hd.heap_1 := by
  k_fill
  trivial
/-- the text of these signs, as a value -/
abbrev S (l : List Nat) : SV := .str (mk l)
def sN (ls : List (List Nat)) : List SV := ls.map S
theorem sN_eq (ls : List (List Nat)) : sN ls = sL (ls.map mk) := by unfold sN sL; rw [List.map_map]; rfl
theorem strs_of {h : Heap} : ∀ {vs : List Value} {xs : List Str}, Reps h vs (sL xs) → ∃ l, vs = strValues l ∧ l.map (·.1) = xs
  | _, [], .nil => ⟨[], rfl, rfl⟩
  | _, x :: r, .cons a b => by
    obtain ⟨t, rfl⟩ := a.str_inv
    obtain ⟨l, e1, e2⟩ := strs_of b
    exact ⟨(x, t) :: l, by rw [e1]; rfl, by rw [← e2]; rfl⟩
theorem Meth.join {x : Str} {xs : List Str} (hok : JoinOk x xs = true) : Meth "str" "str.join" (.str x) [.list (sL xs)] (.str (Txt.join x xs)) := fun G ρ Q Eh s vo vs F O ro R h => by
  obtain ⟨t, rfl⟩ := ro.str_inv
  cases R with | cons r R =>
  cases R
  obtain ⟨a, us, n, rfl, hl, RR⟩ := r.list_inv
  obtain ⟨l, rfl, e2⟩ := strs_of RR
  exact SC.join ⟨_, hl, rfl, _, rfl⟩ e2 hok fun t' k => h _ _ _ (Up.refl _) O.tab (.str _ _) fun a e => nomatch e
theorem join_dots : ∀ ws : List (List Nat), Str.join "..." (ws.map mk) = mk (glue ws)
  | [] => rfl
  | [w] => rfl
  | w :: v :: r => by
    show mk w ++ "..." ++ Str.join "..." ((v :: r).map mk) = _
    rw [join_dots (v :: r), dots_eq, mk_app, mk_app]; rfl
theorem join_none : ∀ ws : List (List Nat), Str.join "" (ws.map mk) = mk ws.flatten
  | [] => rfl
  | [w] => by show mk w = _; rw [List.flatten_cons, List.flatten_nil, List.append_nil]
  | w :: v :: r => by
    show mk w ++ "" ++ Str.join "" ((v :: r).map mk) = _
    rw [join_none (v :: r), show ("" : Str) = mk [] from rfl, mk_app, mk_app, List.append_nil]; rfl
theorem sum_le {B : Nat} : ∀ {ws : List (List Nat)}, (∀ w ∈ ws, w.length ≤ B) → total ws ≤ ws.length * B
  | [], _ => Nat.zero_le _
  | w :: r, h => by
    have := sum_le fun v hv => h v (.tail _ hv)
    have := h w (.head _)
    show w.length + total r ≤ (r.length + 1) * B
    rw [Nat.succ_mul]; omega
theorem join_fits {ws : List (List Nat)} {x : Str} (hx : x.length ≤ 3) (h : ∀ w ∈ ws, w.length ≤ 1000) (hn : ws.length ≤ 100) : JoinOk x (ws.map mk) = true := by
  refine joinOk_of ?_
  have e : ((ws.map mk).map (·.length)).sum = total ws := by
    unfold total; rw [List.map_map]; exact congrArg List.sum (List.map_congr_left fun w _ => mk_len w)
  rw [e, List.length_map]
  have := sum_le h
  have : ws.length * x.length ≤ 100 * 3 := Nat.mul_le_mul hn hx
  omega
/-- pieces put together, dots between them -/
theorem Meth.joinDots {ws : List (List Nat)} (h : ∀ w ∈ ws, w.length ≤ 1000) (hn : ws.length ≤ 100) : Meth "str" "str.join" (.str "...") [.list (sN ws)] (S (glue ws)) := by
  have := Meth.join (join_fits (x := "...") (by decide) h hn)
  rw [show Txt.join "..." (ws.map mk) = Str.join "..." (ws.map mk) from StrLaws.glued_eq_join _ _, join_dots, ← sN_eq] at this
  exact this
theorem Meth.joinNone {ws : List (List Nat)} (h : ∀ w ∈ ws, w.length ≤ 1000) (hn : ws.length ≤ 100) : Meth "str" "str.join" (.str "") [.list (sN ws)] (S ws.flatten) := by
  have := Meth.join (join_fits (x := "") (by decide) h hn)
  rw [show Txt.join "" (ws.map mk) = Str.join "" (ws.map mk) from StrLaws.glued_eq_join _ _, join_none, ← sN_eq] at this
  exact this
theorem Get.str {l : List Nat} {i c : Nat} (e : l[i]? = some c) (hf : l.length < 1000000 := by decide) : Get (S l) (.int i) (S [c]) := by
  intro G ρ Q Eh s vo vi F O ro ri
  obtain ⟨u, rfl⟩ := ro.str_inv
  obtain ⟨t, rfl⟩ := ri.int_inv
  have hl := (List.getElem?_eq_some_iff.mp e).1
  refine ⟨_, _, typeIs_str _ _ _, PySem.F.slot_str_getitem.lookup, fun h => ?_⟩
  refine P.getItem_str (c := c) ?_ ?_ (h _ _ _ (Up.refl _) O.tab (.str (mk [c]) _))
  · rw [decide_eq_false (by omega), decide_eq_false (by omega)]; rfl
  · rw [mk_len, StrLaws.seqIndex_nonneg (Int.natCast_nonneg _) (by omega)]
    show (mk l).cps[((i : Int)).toNat]? = _
    rw [Int.toNat_natCast]
    simpa [mk] using e
theorem foldl_cps (l : List Nat) : ∀ (n : Nat) (acc : Array Nat), (List.replicate n (mk l).cps).foldl (· ++ ·) acc = (acc.toList ++ (List.replicate n l).flatten).toArray
  | 0, acc => by simp
  | n + 1, acc => by
    rw [List.replicate_succ, List.foldl_cons, foldl_cps l n, List.replicate_succ, List.flatten_cons]
    simp [mk]
theorem Bin.mul_str {l : List Nat} {n : Nat} (h1 : 2 ≤ n) (h0 : l ≠ []) (hl : l.length * n ≤ 1000000) : Bin .Mult (S l) (.int n) (S (List.replicate n l).flatten) := by
  intro G ρ Q Eh s va vb F O ra rb h
  obtain ⟨t, rfl⟩ := ra.str_inv; obtain ⟨u, rfl⟩ := rb.int_inv
  have hp : 0 < l.length := List.length_pos_iff.mpr h0
  have hn : n ≤ l.length * n := Nat.le_mul_of_pos_left _ hp
  refine P.mul_str ?_ (fun _ _ => ?_) (fun _ _ => ?_) ?_
  · rw [decide_eq_false (by omega), decide_eq_false (by omega)]; rfl
  · rw [mk_len]
    have : (l.length : Int) ≤ (2 ^ 63 - 1) / (n : Int) := by
      rw [Int.le_ediv_iff_mul_le (by omega)]
      have : ((l.length * n : Nat) : Int) ≤ 1000000 := Int.ofNat_le.mpr hl
      rw [Int.natCast_mul] at this; omega
    omega
  · rw [mk_len, Int.toNat_natCast]
    unfold Builtin.Str.tooLong
    exact decide_eq_false (by have : sizeLine = 16777216 := by decide
                              omega)
  · rw [if_neg (by omega), if_neg]
    · rw [Int.toNat_natCast, foldl_cps, List.nil_append]
      refine ⟨?_, h _ _ _ (Up.refl _) O.tab (.str _ _)⟩
      show (mk _).length ≤ _
      rw [mk_len, List.length_flatten, List.map_replicate, List.sum_replicate_nat]
      exact sl (by rw [Nat.mul_comm]; exact hl)
    · rw [mk_len]
      intro e
      rw [Bool.or_eq_true, beq_iff_eq, beq_iff_eq] at e
      omega
theorem slice_from (l : List Nat) {i : Nat} (h : i ≤ l.length) : Txt.slice (mk l) (some (i : Int)) Option.none = mk (l.drop i) := by
  have := StrLaws.sliceText_from (x := mk l) (i := i) ⟨Int.natCast_nonneg _, by simpa [mk] using h⟩
  refine Eq.trans this ?_
  rw [Int.toNat_natCast]
  show mk _ = _
  congr 1
  exact List.take_of_length_le (by show (l.drop i).length ≤ ((l.length : Int) - i).toNat; rw [List.length_drop]; omega)
theorem slice_to (l : List Nat) {j : Nat} (h : j ≤ l.length) : Txt.slice (mk l) Option.none (some (j : Int)) = mk (l.take j) := by
  have := StrLaws.sliceText_to (x := mk l) (j := j) ⟨Int.natCast_nonneg _, by simpa [mk] using h⟩
  refine Eq.trans this ?_
  rw [Int.sub_zero, Int.toNat_natCast]; rfl
/-- the match, in signs -/
theorem f_mt {ws : List (List Nat)} {g : List Nat} (h2 : 2 ≤ ws.length) (hf : ∀ w ∈ ws, Free w) (hn : ws.length ≤ 100) (hw : ∀ w ∈ ws, w.length ≤ 1000) (hg : g.length ≤ 1000000) : FnSpec 63 1 3 [S (glue ws), S g] (.bool (ellip (mk g) (ws.map mk))) := by
  obtain ⟨a, b, c, d⟩ := split_glue h2 hf
  refine f_match a b c d ?_ (by rw [mk_len]; exact hg) (by rw [List.length_map]; exact h2) (by rw [List.length_map]; omega) (fun w h => by obtain ⟨v, hv, rfl⟩ := List.mem_map.mp h; rw [mk_len]; exact Nat.le_trans (hw v hv) (by decide))
  have : ∀ ws : List (List Nat), (glue ws).length ≤ total ws + 3 * ws.length := by
    intro ws
    induction ws with
    | nil => exact Nat.le_refl _
    | cons w r ih =>
      cases r with
      | nil => show w.length ≤ w.length + 0 + 3; omega
      | cons v r => rw [(glue_at w v r).1]; show _ ≤ w.length + total (v :: r) + 3 * ((v :: r).length + 1); omega
  have h1 := this ws
  have h3 := sum_le hw
  rw [mk_len]; omega
theorem free_glue {w : List Nat} (hf : Free w) : ∀ i, ¬ StrLaws.At (mk w) (mk dots) w.length i := fun i h => by
  rw [at_iff (Nat.le_refl _)] at h
  have h1 := h.1
  have h3 : dots.length = 3 := rfl
  exact no_at (p := []) (w := w) (t := []) (k := i) hf (Nat.zero_le _) (by simp only [List.length_nil]; omega) (by rw [List.nil_append, List.append_nil]; exact h.2)
theorem f_mt0 {w g : List Nat} (hf : Free w) : FnSpec 63 1 3 [S w, S g] (.bool (w == g)) := by
  refine f_match0 (want := mk w) (got := mk g) ?_
  rw [dots_eq]
  cases q : (Builtin.Str.occurrences (mk w) (mk dots) 0 (mk w).length 1).isEmpty with
  | true => rfl
  | false =>
    obtain ⟨i, h1, h2⟩ := (StrLaws.found_iff (mk w) (mk dots)).mp (by rw [q]; rfl)
    rw [mk_len] at h1
    exact absurd ⟨h1, h2⟩ (free_glue hf i)
/-- a text and dots, and so on -/
theorem f_cat {a b : List Nat} {c : List Nat} (e : a ++ b = c) (hl : c.length ≤ 1000000) : FnSpec 105 1 3 [S a, S b] (S c) := by
  subst e
  have := Bin.add_str (a := mk a) (b := mk b) (by rw [mk_app, mk_len]; exact sl hl)
  rw [mk_app] at this
  exact f_concat BFn.has_str this

open Classical in
/-- k read through gi -/
noncomputable def lift {α β : Type} (gi : α → SV) (k : α → β) (d : β) : SV → β := fun y => if h : ∃ a, gi a = y then k h.choose else d
theorem lift_eq {α β : Type} {gi : α → SV} {k : α → β} {d : β} (inj : ∀ a b, gi a = gi b → a = b) (a : α) : lift gi k d (gi a) = k a := by
  unfold lift
  have h : ∃ b, gi b = gi a := ⟨a, rfl⟩
  rw [dif_pos h, inj _ _ h.choose_spec]
theorem lift_out {α : Type} {gi : α → SV} (inj : ∀ a b, gi a = gi b → a = b) (t : α → Bool) (k : α → SV) (as : List α) : ((as.map gi).filter (lift gi t false)).map (lift gi k .none) = (as.filter t).map k := by
  induction as with
  | nil => rfl
  | cons a r ih =>
    rw [List.map_cons, List.filter_cons, List.filter_cons, lift_eq inj]
    cases t a with
    | false => exact ih
    | true =>
      rw [if_pos rfl, if_pos rfl, List.map_cons, List.map_cons, lift_eq inj, ih]
/-- one clause, one name, over a list that stands for as -/
theorem comp1MN {N : Tok} {tf : Bool} {α : Type} {as : List α} {gi : α → SV} (inj : ∀ a b, gi a = gi b → a = b) {G : Ctx} {elt iter : Expr} {ifs : List Expr} {scope : Scope} {pos p : Pos} {x : Str} {namesG : List (Str × NameKind)} {d u : Nat} (A : At G namesG d u) (so : scopeB scope namesG [x] = true) {pr : Bool} {ρ ρc : List (Str × SV)}
    (hρ : ∀ x sv, ρc.lookup x = some sv → ρ.lookup x = some sv ∧ scope.names.lookup x = some .free) (src : ItEvN N G ρ (.Name x p) iter (as.map gi) false pr) (t : α → Bool) (k : α → SV)
    (tst : ∀ G', At G' scope.names d u → ∀ a ∈ as, Tsts G' ((x, gi a) :: ρc) ifs (t a)) (val : ∀ G', At G' scope.names d u → ∀ a ∈ as, t a = true → EvT tf G' ((x, gi a) :: ρc) elt (k a)) (fl : ∀ a, OutFlat false (k a)) (hl : as.length ≤ sizeLine)
    {out : List SV} (ho : (as.filter t).map k = out) (hs : ∀ x, foldedSetIterable iter G.env x = pure x := by intro _; rfl) : CompEvN N tf G ρ elt [⟨.Name x p, iter, ifs, 0⟩] scope pos iter out :=
  comp1N A so hρ src (lift gi t false) (lift gi k .none) 
    (fun G' A' y hy => by obtain ⟨a, ha, rfl⟩ := List.mem_map.mp hy; rw [lift_eq inj]; exact tst G' A' a ha)
    (fun G' A' y hy ht => by obtain ⟨a, ha, rfl⟩ := List.mem_map.mp hy; rw [lift_eq inj] at ht ⊢; exact val G' A' a ha ht)
    (fun y hy _ => by obtain ⟨a, _, rfl⟩ := List.mem_map.mp hy; rw [lift_eq inj]; exact fl a) (by rw [List.length_map]; exact hl) ((lift_out inj t k as).trans ho) hs
theorem comp1M {α : Type} {as : List α} {gi : α → SV} (inj : ∀ a b, gi a = gi b → a = b) {G : Ctx} {elt iter : Expr} {ifs : List Expr} {scope : Scope} {pos p : Pos} {x : Str} {namesG : List (Str × NameKind)} {d u : Nat} (A : At G namesG d u) (so : scopeB scope namesG [x] = true) {pr : Bool} {ρ ρc : List (Str × SV)}
    (hρ : ∀ x sv, ρc.lookup x = some sv → ρ.lookup x = some sv ∧ scope.names.lookup x = some .free) (src : ItEv G ρ (.Name x p) iter (as.map gi) false pr) (t : α → Bool) (k : α → SV)
    (tst : ∀ G', At G' scope.names d u → ∀ a ∈ as, Tsts G' ((x, gi a) :: ρc) ifs (t a)) (val : ∀ G', At G' scope.names d u → ∀ a ∈ as, t a = true → Ev G' ((x, gi a) :: ρc) elt (k a)) (fl : ∀ a, OutFlat false (k a)) (hl : as.length ≤ sizeLine)
    {out : List SV} (ho : (as.filter t).map k = out) (hs : ∀ x, foldedSetIterable iter G.env x = pure x := by intro _; rfl) : CompEv G ρ elt [⟨.Name x p, iter, ifs, 0⟩] scope pos iter out :=
  comp1MN inj A so hρ src.n t k tst (fun G' A' a ha ht => (val G' A' a ha ht).t) fl hl ho hs
/-- the same, several names -/
theorem compTM {α : Type} {as : List α} {gi : α → List SV} (inj : ∀ a b, gi a = gi b → a = b) {G : Ctx} {elt iter : Expr} {ifs es : List Expr} {k' : Nat} {scope : Scope} {pos p : Pos} {xs : List Str} {namesG : List (Str × NameKind)} {d u : Nat} (A : At G namesG d u) (so : scopeB scope namesG xs = true) {zw pr : Bool} {ρ ρc : List (Str × SV)}
    (hρ : ∀ x sv, ρc.lookup x = some sv → ρ.lookup x = some sv ∧ scope.names.lookup x = some .free) (src : ItEv G ρ (.Tuple es k' p) iter (as.map fun a => .tup (gi a)) zw pr) (t : α → Bool) (k : α → SV) (hlen : ∀ a, (gi a).length = xs.length)
    (tst : ∀ G', At G' scope.names d u → ∀ a ∈ as, Tsts G' ((xs.zip (gi a)).reverse ++ ρc) ifs (t a)) (val : ∀ G', At G' scope.names d u → ∀ a ∈ as, t a = true → Ev G' ((xs.zip (gi a)).reverse ++ ρc) elt (k a)) (fl : ∀ a, OutFlat true (k a)) (hl : as.length ≤ sizeLine)
    {out : List SV} (ho : (as.filter t).map k = out) (he : es.map (fun e => match e with | .Name x _ => some x | _ => none) = xs.map some := by rfl) (hn : ∀ env, (assignEach es env).length = xs.length := by intro _; rfl) (hst : ∀ env, (assignEach es env).findIdx? (·.1) = none := by intro _; rfl)
    (hs : ∀ x, foldedSetIterable iter G.env x = pure x := by intro _; rfl) : CompEv G ρ elt [⟨.Tuple es k' p, iter, ifs, 0⟩] scope pos iter out :=
  have inj' : ∀ a b, SV.tup (gi a) = SV.tup (gi b) → a = b := fun a b e => inj a b (by injection e)
  compT A so hρ src (lift (fun a => .tup (gi a)) t false) (lift (fun a => .tup (gi a)) k .none) (fun y hy => by obtain ⟨a, _, rfl⟩ := List.mem_map.mp hy; exact ⟨rfl, hlen a⟩)
    (fun G' A' y hy => by obtain ⟨a, ha, rfl⟩ := List.mem_map.mp hy; rw [lift_eq (gi := fun a => SV.tup (gi a)) inj']; exact tst G' A' a ha)
    (fun G' A' y hy ht => by obtain ⟨a, ha, rfl⟩ := List.mem_map.mp hy; rw [lift_eq (gi := fun a => SV.tup (gi a)) inj'] at ht ⊢; exact val G' A' a ha ht)
    (fun y hy _ => by obtain ⟨a, _, rfl⟩ := List.mem_map.mp hy; rw [lift_eq (gi := fun a => SV.tup (gi a)) inj']; exact fl a) (by rw [List.length_map]; exact hl) ((lift_out inj' t k as).trans ho) he hn hst hs
theorem fr_nil {ρ : List (Str × SV)} {names : List (Str × NameKind)} : ∀ (x : Str) (sv : SV), ([] : List (Str × SV)).lookup x = some sv → ρ.lookup x = some sv ∧ names.lookup x = some .free := fun _ _ e => nomatch e
theorem fr_cons {ρ ρc : List (Str × SV)} {names : List (Str × NameKind)} {y : Str} {z : SV} (a : ρ.lookup y = some z) (b : names.lookup y = some .free) (c : ∀ (x : Str) (sv : SV), ρc.lookup x = some sv → ρ.lookup x = some sv ∧ names.lookup x = some .free) :
    ∀ (x : Str) (sv : SV), ((y, z) :: ρc).lookup x = some sv → ρ.lookup x = some sv ∧ names.lookup x = some .free := fun x sv e => by
  rw [List.lookup_cons] at e
  cases q : x == y with
  | true => rw [q] at e; cases e; rw [eq_of_beq q]; exact ⟨a, b⟩
  | false => rw [q] at e; exact c x sv e
theorem Get.pair0 {a b : SV} : Get (.tup [a, b]) (.int 0) a := Get.tup (i := 0) rfl (by show ((2 : Nat) : Int) < 2 ^ 63; decide)
theorem Get.pair1 {a b : SV} : Get (.tup [a, b]) (.int 1) b := Get.tup (i := 1) rfl (by show ((2 : Nat) : Int) < 2 ^ 63; decide)
theorem lenOk {n : Nat} (h : Nat.ble n 100 = true) : n ≤ sizeLine := Nat.le_trans (Nat.le_of_ble_eq_true h) (show 100 ≤ sizeLine by decide)
theorem ev_lst {G : Ctx} {ρ : List (Str × SV)} {es : List Expr} {l : List SV} {pos : Pos} (a : EvAll G ρ es l) (h : Nat.ble l.length 100 = true := by rfl) : Ev G ρ (.List es pos) (.list l) := Ev.list a (lenOk h)
theorem S_inj (a b : List Nat) (e : S a = S b) : a = b := by
  have e1 : mk a = mk b := by injection e
  exact congrArg (fun x : Str => x.cps.toList) e1
theorem sN_inj : ∀ (a b : List (List Nat)), sN a = sN b → a = b
  | [], [], _ => rfl
  | x :: r, y :: q, e => by
    have e' : S x :: sN r = S y :: sN q := e
    rw [S_inj x y (by injection e'), sN_inj r q (by injection e')]
/-- two clauses of texts -/
theorem comp2M {G : Ctx} {elt iter iter2 : Expr} {scope : Scope} {pos p p2 : Pos} {x y : Str} {namesG : List (Str × NameKind)} {d u : Nat} (A : At G namesG d u) (so : scopeB scope namesG [x, y] = true) (hxy : x ≠ y) {as bs : List (List Nat)} {pr : Bool} {ρ ρc : List (Str × SV)}
    (hρ : ∀ x sv, ρc.lookup x = some sv → ρ.lookup x = some sv ∧ scope.names.lookup x = some .free) (src : ItEv G ρ (.Name x p) iter (sN as) false pr)
    (src2 : ∀ G', At G' scope.names d u → ∀ a ∈ as, ItEv G' ((x, S a) :: ρc) (.Name y p2) iter2 (sN bs) false true) (k : List Nat → List Nat → List Nat) (val : ∀ G', At G' scope.names d u → ∀ a ∈ as, ∀ b ∈ bs, Ev G' ((y, S b) :: (x, S a) :: ρc) elt (S (k a b))) (hl : as.length * bs.length ≤ sizeLine)
    {out : List (List Nat)} (ho : (as.flatMap fun a => bs.map (k a)) = out) (hs : ∀ x, foldedSetIterable iter G.env x = pure x := by intro _; rfl) (hs2 : ∀ env x, foldedSetIterable iter2 env x = pure x := by intro _ _; rfl) :
    CompEv G ρ elt [⟨.Name x p, iter, [], 0⟩, ⟨.Name y p2, iter2, [], 0⟩] scope pos iter (sN out) := by
  have pS : ∀ (l : List (List Nat)), ∀ v ∈ sN l, Pure v := fun l v hv => by obtain ⟨a, _, rfl⟩ := List.mem_map.mp hv; trivial
  have e : ∀ a b, lift S (fun a => lift S (fun b => S (k a b)) .none) (fun _ => .none) (S a) (S b) = S (k a b) := fun a b => by rw [lift_eq S_inj, lift_eq S_inj]
  refine comp2 A so hxy hρ src (pS as) (pS bs) (fun G' A' v hv => by obtain ⟨a, ha, rfl⟩ := List.mem_map.mp hv; exact src2 G' A' a ha) (lift S (fun a => lift S (fun b => S (k a b)) .none) (fun _ => .none))
    (fun G' A' v hv w hw => by obtain ⟨a, ha, rfl⟩ := List.mem_map.mp hv; obtain ⟨b, hb, rfl⟩ := List.mem_map.mp hw; rw [e]; exact val G' A' a ha b hb)
    (fun v hv w hw => by obtain ⟨a, ha, rfl⟩ := List.mem_map.mp hv; obtain ⟨b, hb, rfl⟩ := List.mem_map.mp hw; rw [e]; trivial) (by unfold sN; rw [List.length_map, List.length_map]; exact hl) ?_ hs hs2
  subst ho
  have key : ∀ as : List (List Nat), ((sN as).flatMap fun v => (sN bs).map (lift S (fun a => lift S (fun b => S (k a b)) .none) (fun _ => .none) v)) = sN (as.flatMap fun a => bs.map (k a)) := by
    intro as
    induction as with
    | nil => rfl
    | cons a r ih =>
      unfold sN at ih ⊢
      rw [List.map_cons, List.flatMap_cons, List.flatMap_cons, List.map_append, ih, List.map_map, List.map_map]
      congr 1
      exact List.map_congr_left fun b _ => e a b
  exact key as

theorem fill18 : fillDummy PySem.Challenge.rw_ti0025_01 hd.heap_1 := by
  k_fill
  trivial
/-- what the match tells of these pieces -/
def mt (g : List Nat) : List (List Nat) → Bool
  | [w] => w == g
  | ws => ellip (mk g) (ws.map mk)
theorem f_any {ws : List (List Nat)} {g : List Nat} (h1 : ws ≠ []) (hf : ∀ w ∈ ws, Free w) (hn : ws.length ≤ 100) (hw : ∀ w ∈ ws, w.length ≤ 1000) (hg : g.length ≤ 1000000) : FnSpec 63 1 3 [S (glue ws), S g] (.bool (mt g ws)) := by
  match ws, h1 with
  | [w], _ => exact f_mt0 (hf w (.head _))
  | w :: v :: r, _ => exact f_mt (by simp) hf hn hw hg
def wants (a b c : List Nat) : List (List (List Nat)) := [[a, b, c], [[], a, b, c, []], [[a, b, c].flatten], [a, a, b, c], [a, b, c, c], [[], a, b, c, c, []], [a]]
theorem wants_told {a b c : List Nat} (ha : a ≠ []) (hb : b ≠ []) (hc : c ≠ []) : (wants a b c).map (mt [a, b, c].flatten) = [true, true, true, false, false, false, false] := by
  have la := List.length_pos_iff.mpr ha
  have lb := List.length_pos_iff.mpr hb
  have lc := List.length_pos_iff.mpr hc
  have hg : [a, b, c].flatten = a ++ (b ++ c) := by simp
  have hgl : [a, b, c].flatten.length = a.length + (b.length + c.length) := by rw [hg, List.length_append, List.length_append]
  have pa : a.isPrefixOf [a, b, c].flatten = true := List.isPrefixOf_iff_prefix.mpr ⟨b ++ c, hg.symm⟩
  have sc : c.isSuffixOf [a, b, c].flatten = true := List.isSuffixOf_iff_suffix.mpr ⟨a ++ b, by rw [hg, List.append_assoc]⟩
  have hcle : ((([a, b, c].flatten.length : Int) - (c.length : Int))) = (((a.length + b.length : Nat) : Int)) := by rw [hgl]; omega
  have e1 : mt [a, b, c].flatten [a, b, c] = true := by
    show ellip _ ([a, b, c].map mk) = true
    rw [ell_pp (a := a) (c := c) (mid := [b].map mk) ha hc, pa, sc, hcle, run_exact (by rw [hgl]; omega) [b] a.length (by show _ + (b.length + 0) ≤ _; omega), decide_eq_true (by rw [hgl]; omega)]
    · rfl
    · rw [hg, List.drop_left]; show (b ++ c).take (b.length + 0) = [b].flatten; rw [Nat.add_zero, List.take_left]; simp
  have e2 : mt [a, b, c].flatten [[], a, b, c, []] = true := by
    show ellip _ ([[], a, b, c, []].map mk) = true
    rw [ell_ee, show (0 : Int) = ((0 : Nat) : Int) from rfl, run_exact (Nat.le_refl _) [[], a, b, c, []] 0 (by rw [hgl]; show 0 + (0 + (a.length + (b.length + (c.length + (0 + 0))))) ≤ _; omega)]
    · rfl
    · rw [List.drop_zero, List.take_of_length_le (by rw [hgl]; show _ ≤ 0 + (a.length + (b.length + (c.length + (0 + 0)))); omega)]; simp
  have e4 : mt [a, b, c].flatten [a, a, b, c] = false := by
    show ellip _ ([a, a, b, c].map mk) = false
    rw [ell_pp (a := a) (c := c) (mid := [a, b].map mk) ha hc, pa, sc, hcle, decide_eq_true (by rw [hgl]; omega), Bool.true_and, Bool.true_and, Bool.true_and]
    cases q : (run (mk [a, b, c].flatten) ((a.length + b.length : Nat) : Int) a.length ([a, b].map mk)).isSome with
    | false => rfl
    | true => have h1 := run_len (by rw [hgl]; omega) [a, b] a.length (fun z => nomatch z) q; have : total [a, b] = a.length + (b.length + 0) := rfl; omega
  have e5 : mt [a, b, c].flatten [a, b, c, c] = false := by
    show ellip _ ([a, b, c, c].map mk) = false
    rw [ell_pp (a := a) (c := c) (mid := [b, c].map mk) ha hc, pa, sc, hcle, decide_eq_true (by rw [hgl]; omega), Bool.true_and, Bool.true_and, Bool.true_and]
    cases q : (run (mk [a, b, c].flatten) ((a.length + b.length : Nat) : Int) a.length ([b, c].map mk)).isSome with
    | false => rfl
    | true => have h1 := run_len (by rw [hgl]; omega) [b, c] a.length (fun z => nomatch z) q; have : total [b, c] = b.length + (c.length + 0) := rfl; omega
  have e6 : mt [a, b, c].flatten [[], a, b, c, c, []] = false := by
    show ellip _ ([[], a, b, c, c, []].map mk) = false
    rw [ell_ee, show (0 : Int) = ((0 : Nat) : Int) from rfl]
    cases q : (run (mk [a, b, c].flatten) ([a, b, c].flatten.length : Int) ((0 : Nat) : Int) ([[], a, b, c, c, []].map mk)).isSome with
    | false => rfl
    | true => have h1 := run_len (Nat.le_refl _) [[], a, b, c, c, []] 0 (fun z => nomatch z) q; have : total [[], a, b, c, c, []] = 0 + (a.length + (b.length + (c.length + (c.length + (0 + 0))))) := rfl; omega
  have e7 : mt [a, b, c].flatten [a] = false := by
    show (a == [a, b, c].flatten) = false
    refine beq_eq_false_iff_ne.mpr fun e => ?_
    have := congrArg List.length e
    omega
  have e3 : mt [a, b, c].flatten [[a, b, c].flatten] = true := by show (_ == _) = true; exact beq_self_eq_true _
  show [_, _, _, _, _, _, _] = _
  rw [e1, e2, e3, e4, e5, e6, e7]
def thT (l : List (Int × Nat)) : List SV := l.map fun p => .tup [.int p.1, .int p.2]
theorem thT_get {l : List (Int × Nat)} {i : Nat} {p : Int × Nat} (h : l[i]? = some p) : pick (thT l) (i : Int) = some (.tup [.int p.1, .int p.2]) := by
  unfold pick thT
  rw [if_pos (Int.natCast_nonneg _), Int.toNat_natCast, List.getElem?_map, h]; rfl
theorem sN_get {l : List (List Nat)} {i : Nat} {p : List Nat} (h : l[i]? = some p) : pick (sN l) (i : Int) = some (S p) := by
  unfold pick sN
  rw [if_pos (Int.natCast_nonneg _), Int.toNat_natCast, List.getElem?_map, h]; rfl
theorem f_read {words : List (List Nat)} {thrown : List (Int × Nat)} {a b c : List Nat} {r0 r1 : Int} {i1 i2 : Nat} (h0 : words[0]? = some a) (t0 : thrown[0]? = some (r0, i1)) (h1 : words[i1]? = some b) (t1 : thrown[i1]? = some (r1, i2)) (h2 : words[i2]? = some c)
    (ne : ∀ w ∈ words, w ≠ []) (fr : ∀ w ∈ words, Free w) (hw : ∀ w ∈ words, w.length ≤ 100) (hl : words.length ≤ 1000) (ht : thrown.length ≤ 1000) : FnSpec 165 2 6 [.list (sN words), .list (thT thrown)] (.bool true) := by
  have ma := List.mem_of_getElem? h0
  have mb := List.mem_of_getElem? h1
  have mc := List.mem_of_getElem? h2
  have la := hw _ ma; have lb := hw _ mb; have lc := hw _ mc
  have hgl : [a, b, c].flatten.length ≤ 1000 := by simp; omega
  have frg : Free [a, b, c].flatten := fun hm => by
    simp only [List.flatten_cons, List.flatten_nil, List.append_nil, List.mem_append] at hm
    exact hm.elim (fr a ma) fun hm => hm.elim (fr b mb) (fr c mc)
  have hlw : (sN words).length ≤ 1000 := by unfold sN; rw [List.length_map]; exact hl
  have hlt : (thT thrown).length ≤ 1000 := by unfold thT; rw [List.length_map]; exact ht
  have e0 : Free ([] : List Nat) := fun h => nomatch h
  refine FnSpec.of_body (d := 1) (u := 3) (xs := ["words", "thrown"]) (by intro w; k_is) (by intro w; k_is) (fun s vs hl => by obtain ⟨x, y, rfl⟩ := len2 hl; exact BindsTo.of_eq rfl) (by decide) rfl (by decide) rfl rfl rfl (by decide) fun G A => ?_
  have idx : ∀ {ρ : List (Str × SV)} {p1 p2 p3 p4 p5 : Pos} {k1 k2 : Nat}, ρ.lookup ("thrown" : Str) = some (.list (thT thrown)) → Ev G ρ (.Subscript (.Subscript (.Name "thrown" p1) (.Constant (.int 0) k1 p2) p3) (.Constant (.int 1) k2 p4) p5) (.int i1) := fun h => Ev.sub (Ev.sub (Ev.name h) Ev.int (Get.list (i := 0) (thT_get t0) (by omega))) Ev.int (Get.pair1)
  refine Rn.assignSw (x := S a) (y := S b) (ev_tup (.cons (Ev.sub (Ev.name rfl) Ev.int (Get.list (i := 0) (sN_get h0) (by omega))) (.cons (Ev.sub (Ev.name rfl) (idx rfl) (Get.list (i := i1) (sN_get h1) (by omega))) .nil))) (A.kind _ _ rfl (fun z => nomatch z)) (A.kind _ _ rfl (fun z => nomatch z)) ?_ trivial trivial fun env e1 e2 e3 => sw_two e1 e2 e3 rfl rfl rfl rfl rfl
  refine Rn.assign (Ev.sub (Ev.name rfl) (Ev.sub (Ev.sub (Ev.name rfl) (idx rfl) (Get.list (i := i1) (thT_get t1) (by omega))) Ev.int (Get.pair1)) (Get.list (i := i2) (sN_get h2) (by omega))) (A.loc rfl) ?_
  refine Rn.assign (EvF.meth m_join Ev.str (.cons (ev_lst (l := sN [a, b, c]) (.cons (Ev.name rfl) (.cons (Ev.name rfl) (.cons (Ev.name rfl) .nil)))) .nil) (Meth.joinNone (ws := [a, b, c]) (fun w hw' => ?_) (Nat.le_of_ble_eq_true rfl)) strT).ev (A.cel rfl) ?_
  · rcases List.mem_cons.mp hw' with rfl | hw'; omega
    rcases List.mem_cons.mp hw' with rfl | hw'; omega
    rw [List.mem_singleton.mp hw']; omega
  refine Rn.assign (sv := .list [.list (sN [a, b, c]), .list (sN [[], a, b, c, []]), .list (sN [[a, b, c].flatten])]) (ev_lst (.cons (ev_lst (.cons (Ev.name rfl) (.cons (Ev.name rfl) (.cons (Ev.name rfl) .nil)))) (.cons (ev_lst (.cons Ev.str (.cons (Ev.name rfl) (.cons (Ev.name rfl) (.cons (Ev.name rfl) (.cons Ev.str .nil)))))) (.cons (ev_lst (.cons (Ev.name rfl) .nil)) .nil)))) (A.loc rfl) ?_
  refine Rn.assign (sv := .list [.list (sN [a, a, b, c]), .list (sN [a, b, c, c]), .list (sN [[], a, b, c, c, []]), .list (sN [a])]) (ev_lst (.cons (ev_lst (.cons (Ev.name rfl) (.cons (Ev.name rfl) (.cons (Ev.name rfl) (.cons (Ev.name rfl) .nil))))) (.cons (ev_lst (.cons (Ev.name rfl) (.cons (Ev.name rfl) (.cons (Ev.name rfl) (.cons (Ev.name rfl) .nil))))) (.cons (ev_lst (.cons Ev.str (.cons (Ev.name rfl) (.cons (Ev.name rfl) (.cons (Ev.name rfl) (.cons (Ev.name rfl) (.cons Ev.str .nil))))))) (.cons (ev_lst (.cons (Ev.name rfl) .nil)) .nil))))) (A.loc rfl) ?_
  have hwant : ∀ ws ∈ wants a b c, ws ≠ [] ∧ ws.length ≤ 100 ∧ ∀ w ∈ ws, w = [] ∨ w = a ∨ w = b ∨ w = c ∨ w = [a, b, c].flatten := by
    intro ws hws
    have : ws = [a, b, c] ∨ ws = [[], a, b, c, []] ∨ ws = [[a, b, c].flatten] ∨ ws = [a, a, b, c] ∨ ws = [a, b, c, c] ∨ ws = [[], a, b, c, c, []] ∨ ws = [a] := by simpa only [wants, List.mem_cons, List.not_mem_nil, or_false] using hws
    rcases this with rfl | rfl | rfl | rfl | rfl | rfl | rfl <;> exact ⟨(fun z => nomatch z), Nat.le_of_ble_eq_true rfl, by simp [-List.flatten_cons]⟩
  refine rn_assignComp (comp1M (as := wants a b c) (gi := fun ws => .list (sN ws)) (fun x y e => sN_inj x y (by injection e)) A (by decide) (ρc := [("text", S [a, b, c].flatten)]) (fun x sv h => ?_) (ItEv.list (Ev.bin (Ev.name rfl) (Ev.name rfl) (Bin.add_list (lenOk rfl)))) (fun _ => true) (fun ws => .bool (mt [a, b, c].flatten ws)) (fun _ _ _ _ => Tsts.nil) (fun G' A' ws hws _ => ?_) (fun _ => .inl trivial) (lenOk rfl) (out := bL [true, true, true, false, false, false, false]) ?_) (A.kind _ _ rfl (fun z => nomatch z)) ?_
  · exact fr_cons rfl rfl fr_nil x sv h
  · obtain ⟨w1, w2, w3⟩ := hwant ws hws
    have w4 : ∀ w ∈ ws, w.length ≤ 1000 := fun w hw => by rcases w3 w hw with rfl | rfl | rfl | rfl | rfl <;> first | exact Nat.zero_le _ | omega
    have w5 : ∀ w ∈ ws, Free w := fun w hw => by rcases w3 w hw with rfl | rfl | rfl | rfl | rfl; exact e0; exact fr _ ma; exact fr _ mb; exact fr _ mc; exact frg
    exact Ev.fn A' g_match rfl (.cons (EvF.meth m_join Ev.str (.cons (Ev.name rfl) .nil) (Meth.joinDots w4 w2) strT).ev (.cons (Ev.name rfl) .nil)) (f_any w1 w5 w2 w4 (by omega))
  · rw [List.filter_eq_self.mpr fun _ _ => rfl, ← wants_told (ne a ma) (ne b mb) (ne c mc)]
    unfold bL
    rw [List.map_map]; rfl
  · refine Rn.ret (Ev.andT (Ev.fn A g_plain rfl (.cons (Ev.name rfl) .nil) (f_plain (by decide))) rfl ?_)
    exact (Ev.cmp (Ev.name rfl) (ev_lst (l := bL [true, true, true, false, false, false, false]) (.cons Ev.bool (.cons Ev.bool (.cons Ev.bool (.cons Ev.bool (.cons Ev.bool (.cons Ev.bool (.cons Ev.bool .nil)))))))) (Cmp.eq (by decide) (by decide))).cast rfl

theorem fill19 : fillDummy PySem.Challenge.rw_ti0025_01 hd.heap_1 := by
  k_fill
  trivial
theorem TAll.and {G : Ctx} {ρ : List (Str × SV)} {x : Expr} {r : List Expr} {a b : Bool} (s : Tst G ρ x a) (t : TAll G ρ .And r b) : TAll G ρ .And (x :: r) (a && b) := by
  cases a with
  | false => exact .andF s
  | true => exact .andT s t
theorem TAll.or {G : Ctx} {ρ : List (Str × SV)} {x : Expr} {r : List Expr} {a b : Bool} (s : Tst G ρ x a) (t : TAll G ρ .Or r b) : TAll G ρ .Or (x :: r) (a || b) := by
  cases a with
  | false => exact .orF s t
  | true => exact .orT s
/-- letters that are no dots -/
def Wd (w : List Nat) : Prop := ∀ c ∈ w, c ≠ 46 ∧ c < 200
theorem Wd.free {w : List Nat} (h : Wd w) : Free w := fun hm => (h 46 hm).1 rfl
theorem Wd.ok {w : List Nat} (h : Wd w) : SOk (S w) = true := by
  show PyData.strOk (mk w) = true
  unfold PyData.strOk mk
  rw [List.all_toArray, List.all_eq_true]
  exact fun c hc => decide_eq_true (Nat.lt_trans (h c hc).2 (by decide))
theorem shp_sN {l : List (List Nat)} (h : ∀ w ∈ l, Wd w) : shp (.list (sN l)) = true := shp_list fun x hx => by obtain ⟨w, hw, rfl⟩ := List.mem_map.mp hx; exact (h w hw).ok
theorem eqv_nil (l : List SV) : eqv (.list l) (.list []) = l.isEmpty := by cases l <;> rfl
theorem ev_dots {G : Ctx} {ρ : List (Str × SV)} {k : Nat} {pos : Pos} : Ev G ρ (.Constant (.str "...") k pos) (S dots) := Ev.str
theorem zip3_map {α : Type} (a b c : α → SV) : ∀ l : List α, zip3N (l.map a) (l.map b) (l.map c) = l.map fun x => .tup [a x, b x, c x]
  | [] => rfl
  | x :: r => by rw [List.map_cons, List.map_cons, List.map_cons, zip3N, zip3_map a b c r]; rfl
theorem zip2_map {α : Type} (a b : α → SV) : ∀ l : List α, zip2N (l.map a) (l.map b) = l.map fun x => .tup [a x, b x]
  | [] => rfl
  | x :: r => by rw [List.map_cons, List.map_cons, zip2N, zip2_map a b r]; rfl
def heads {α : Type} [BEq α] (code : List (List α)) (w : List α) : List (List α) := code.filter (w.isSuffixOf ·)
def tails {α : Type} [BEq α] (code : List (List α)) (w : List α) : List (List α) := (code.filter (w.isPrefixOf ·)).map (·.drop w.length)
def both {α : Type} [BEq α] (code : List (List α)) (w : List α) : List (List α) := code.filter fun x => w.isPrefixOf x && w.isSuffixOf x
def kept {α : Type} [BEq α] (code : List (List α)) (w : List α) : List (List α) := code.filter fun x => !w.isPrefixOf x && !w.isSuffixOf x
def stop {α : Type} [BEq α] (code : List (List α)) (w : List α) : Bool := !(both code w).isEmpty || ((heads code w).isEmpty || ((tails code w).isEmpty || decide ((heads code w).length * (tails code w).length > 15)))
/-- the next code -/
def grow {α : Type} [BEq α] (code : List (List α)) (w : List α) : List (List α) :=
  if stop code w then code else kept code w ++ [w] ++ (heads code w).flatMap fun x => (tails code w).map (x ++ ·)
def pres (code : List (List Nat)) (w : List Nat) : List Bool := code.map (w.isPrefixOf ·)
def sufs (code : List (List Nat)) (w : List Nat) : List Bool := code.map (w.isSuffixOf ·)
theorem sN_len (l : List (List Nat)) : (sN l).length = l.length := List.length_map ..
theorem sN_app (a b : List (List Nat)) : sN a ++ sN b = sN (a ++ b) := (List.map_append ..).symm
theorem sN_empty (l : List (List Nat)) : (sN l).isEmpty = l.isEmpty := by cases l <;> rfl
theorem f_pre {w x : List Nat} (hw : w ≠ []) (fw : Free w) (lw : w.length ≤ 1000) (lx : x.length ≤ 1000000) : FnSpec 63 1 3 [S (glue [w, []]), S x] (.bool (w.isPrefixOf x)) := by
  rw [← match_pre x hw]
  exact f_mt (Nat.le_refl _) (fun v hv => by rcases List.mem_cons.mp hv with rfl | hv; exact fw; rw [List.mem_singleton.mp hv]; exact fun h => nomatch h) (show 2 ≤ 100 by decide) (fun v hv => by rcases List.mem_cons.mp hv with rfl | hv; exact lw; rw [List.mem_singleton.mp hv]; exact Nat.zero_le _) lx
theorem f_suf {w x : List Nat} (hw : w ≠ []) (fw : Free w) (lw : w.length ≤ 1000) (lx : x.length ≤ 1000000) : FnSpec 63 1 3 [S (glue [[], w]), S x] (.bool (w.isSuffixOf x)) := by
  rw [← match_suf x hw]
  exact f_mt (Nat.le_refl _) (fun v hv => by rcases List.mem_cons.mp hv with rfl | hv; exact fun h => nomatch h; rw [List.mem_singleton.mp hv]; exact fw) (show 2 ≤ 100 by decide) (fun v hv => by rcases List.mem_cons.mp hv with rfl | hv; exact Nat.zero_le _; rw [List.mem_singleton.mp hv]; exact lw) lx
theorem f_twice {w x : List Nat} (hw : w ≠ []) (fw : Free w) (lw : w.length ≤ 1000) (lx : x.length ≤ 1000000) : FnSpec 63 1 3 [S (glue [w, w]), S x] (.bool (w.isPrefixOf x && (w.isSuffixOf x && decide (w.length + w.length ≤ x.length)))) := by
  rw [← match_both x hw hw]
  have : ∀ v ∈ [w, w], v = w := fun v hv => by rcases List.mem_cons.mp hv with rfl | hv; rfl; exact List.mem_singleton.mp hv
  exact f_mt (Nat.le_refl _) (fun v hv => this v hv ▸ fw) (show 2 ≤ 100 by decide) (fun v hv => this v hv ▸ lw) lx
theorem bits_small {n : Nat} (h : n ≤ 1000000) : Builtin.Int.intBits (n : Int) ≤ 64 := by
  unfold Builtin.Int.intBits
  split
  · exact Nat.zero_le _
  · rename_i q
    have hn : n ≠ 0 := fun e => q (by rw [e]; rfl)
    exact Nat.succ_le_of_lt (Nat.lt_succ_of_lt ((Nat.log2_lt hn).mpr (Nat.lt_of_le_of_lt h (by decide) : n < 2 ^ 63)))
theorem sN_at {l : List (List Nat)} {i : Nat} {x : SV} (h : (sN l)[i]? = some x) : ∃ w, l[i]? = some w ∧ x = S w := by
  unfold sN at h
  rw [List.getElem?_map] at h
  cases q : l[i]? with
  | none => rw [q] at h; cases h
  | some w => rw [q] at h; cases h; exact ⟨w, rfl, rfl⟩
theorem len_wd {code : List (List Nat)} (h : ∀ x ∈ code, x.length ≤ 100) {x : List Nat} (hx : x ∈ code) : x.length ≤ 1000000 := Nat.le_trans (h x hx) (by decide)
theorem glue_pre (w : List Nat) : w ++ dots = glue [w, []] := (List.append_nil _).symm
theorem glue_suf (w : List Nat) : dots ++ w = glue [[], w] := rfl
theorem f_grown {code : List (List Nat)} {w : List Nat} (hc : ∀ x ∈ code, Wd x) (hl : ∀ x ∈ code, x.length ≤ 100) (hn : code.length ≤ 100) (hw : w ≠ []) (fw : Wd w) (lw : w.length ≤ 10) : FnSpec 136 2 6 [.list (sN code), S w] (.list (sN (grow code w))) := by
  have lw1 : w.length ≤ 1000 := Nat.le_trans lw (by decide)
  have lg : ∀ v : List Nat, v.length ≤ 103 → v.length ≤ 1000000 := fun v h => Nat.le_trans h (by decide)
  have gp : (glue [w, []]).length ≤ 13 := by rw [← glue_pre, List.length_append]; exact Nat.add_le_add_right lw 3
  have lb : ∀ f : List Nat → Bool, (code.map f).length = code.length := fun f => List.length_map _
  refine FnSpec.of_body (d := 1) (u := 3) (xs := ["code", "w"]) (by intro w; k_is) (by intro w; k_is) (fun s vs hl => by obtain ⟨x, y, rfl⟩ := len2 hl; exact BindsTo.of_eq rfl) (by decide) rfl (by decide) rfl rfl rfl (by decide) fun G A => ?_
  refine rn_assignComp (comp1M (as := code) (gi := S) S_inj A (by decide) (ρc := [("w", S w)]) (fr_cons rfl rfl fr_nil) (ItEv.listN rfl) (fun _ => true) (fun x => .bool (w.isPrefixOf x)) (fun _ _ _ _ => Tsts.nil) (fun G' A' x hx _ => ?_) (fun _ => .inl trivial) (sl (by omega)) (out := bL (pres code w)) ?_) (A.kind _ _ rfl (fun z => nomatch z)) ?_
  · exact Ev.fn A' g_match rfl (.cons (Ev.fn A' g_concat rfl (.cons (Ev.name rfl) (.cons ev_dots .nil)) (f_cat (glue_pre w) (Nat.le_trans gp (by decide)))) (.cons (Ev.name rfl) .nil)) (f_pre hw fw.free lw1 (len_wd hl hx))
  · rw [List.filter_eq_self.mpr fun _ _ => rfl]; exact (List.map_map ..).symm
  refine rn_assignComp (comp1M (as := code) (gi := S) S_inj A (by decide) (ρc := [("w", S w)]) (fr_cons rfl rfl fr_nil) (ItEv.listN rfl) (fun _ => true) (fun x => .bool (w.isSuffixOf x)) (fun _ _ _ _ => Tsts.nil) (fun G' A' x hx _ => ?_) (fun _ => .inl trivial) (sl (by omega)) (out := bL (sufs code w)) ?_) (A.kind _ _ rfl (fun z => nomatch z)) ?_
  · exact Ev.fn A' g_match rfl (.cons (Ev.fn A' g_concat rfl (.cons ev_dots (.cons (Ev.name rfl) .nil)) (f_cat (glue_suf w) (by show (dots ++ w).length ≤ _; rw [List.length_append, Nat.add_comm]; exact Nat.le_trans (Nat.add_le_add_right lw 3) (by decide)))) (.cons (Ev.name rfl) .nil)) (f_suf hw fw.free lw1 (len_wd hl hx))
  · rw [List.filter_eq_self.mpr fun _ _ => rfl]; exact (List.map_map ..).symm
  have lbL : ∀ f : List Nat → Bool, (bL (code.map f)).length = code.length := fun f => by unfold bL; rw [List.length_map, List.length_map]
  have hcl : ((sN code).length : Int) < 2 ^ 63 := by rw [sN_len]; omega
  refine Rn.ite (b := false) (Tst.op (.orF (Tst.not (b := true) (Tst.val (Ev.fn A g_plain rfl (.cons (Ev.fn A g_concat rfl (.cons (Ev.name rfl) (.cons (Ev.name rfl) .nil)) (f_concat (c := .list (bL (pres code w ++ sufs code w))) BFn.has_list ?_)) .nil) (f_plain ?_)))) (.orF ((Tst.cmp (Ev.callB b_len (A.glb rfl) (.cons (Ev.name rfl) .nil) (BFn.len_list (by show ((bL (code.map _)).length : Int) < _; rw [lbL]; omega))) (Ev.callB b_len (A.glb rfl) (.cons (Ev.name rfl) .nil) (BFn.len_list hcl)) (Cmp.ne rfl rfl)).cast ?_) .orNil))) Rn.nil ?_
  · have := Bin.add_list (a := bL (pres code w)) (b := bL (sufs code w)) (by show (bL (code.map _)).length + (bL (code.map _)).length ≤ _; rw [lbL, lbL]; exact sl (by omega))
    rw [show bL (pres code w) ++ bL (sufs code w) = bL (pres code w ++ sufs code w) from (List.map_append ..).symm] at this
    exact this
  · show (code.map _ ++ code.map _).length ≤ _; rw [List.length_append, lb, lb]; omega
  · rw [eqv_int, show ((bL (pres code w)).length : Int) = code.length from congrArg _ (lbL _), sN_len, beq_self_eq_true]; rfl
  have z3 : zip3N (sN code) (bL (pres code w)) (bL (sufs code w)) = code.map fun x => .tup [S x, .bool (w.isPrefixOf x), .bool (w.isSuffixOf x)] := by
    unfold bL pres sufs sN
    rw [List.map_map, List.map_map]
    exact zip3_map _ _ _ code
  have inj3 : ∀ a b : List Nat, [S a, SV.bool (w.isPrefixOf a), SV.bool (w.isSuffixOf a)] = [S b, SV.bool (w.isPrefixOf b), SV.bool (w.isSuffixOf b)] → a = b := fun a b e => S_inj a b (by injection e)
  refine rn_assignComp (compTM (as := code) (gi := fun x => [S x, .bool (w.isPrefixOf x), .bool (w.isSuffixOf x)]) inj3 (xs := ["x", "one", "two"]) A (by decide) (ρc := []) fr_nil (z3 ▸ ItEv.zip3 (A.glb rfl) (.cons (Ev.name rfl) (.cons (Ev.name rfl) (.cons (Ev.name rfl) .nil))) (by rw [sN_len]; exact lbL _) (by rw [sN_len]; exact lbL _)) (fun x => w.isPrefixOf x && w.isSuffixOf x) S (fun _ => rfl) (fun G' A' x hx => ?_) (fun G' A' x hx _ => Ev.name rfl) (fun _ => .inl trivial) (sl (by omega)) (out := sN (both code w)) rfl) (A.kind _ _ rfl (fun z => nomatch z)) ?_
  · exact Tsts.one ((Tst.op (TAll.and (Tst.val (Ev.name rfl)) (TAll.and (Tst.val (Ev.name rfl)) .andNil))).cast (by rw [Bool.and_true]; rfl))
  refine Rn.loop (ρs := fun _ => [("both", .list (sN (both code w))), ("ended", .list (bL (sufs code w))), ("begun", .list (bL (pres code w))), ("w", S w), ("code", .list (sN code))]) (ρt := fun i => [("x", S ((both code w).getD i [])), ("both", .list (sN (both code w))), ("ended", .list (bL (sufs code w))), ("begun", .list (bL (pres code w))), ("w", S w), ("code", .list (sN code))]) (fun _ => none) (xs := ["x"]) (items := sN (both code w)) (ItEv.listN rfl) (.inl rfl) (fun _ => rfl) (.inl rfl) (sub_cons rfl (sub_cons rfl (sub_cons rfl (sub_cons rfl (sub_cons rfl sub_nil))))) rfl (fun i x hx => ?_) (fun i hi => ?_) ?_
  · obtain ⟨v, hv, rfl⟩ := sN_at hx
    rw [List.getD_eq_getElem?_getD, hv]
    exact AsgTo.name (A.loc rfl)
  · rw [sN_len] at hi
    have hm : (both code w).getD i [] ∈ both code w := by rw [List.getD_eq_getElem?_getD, List.getElem?_eq_getElem hi]; exact List.getElem_mem hi
    generalize (both code w).getD i [] = x at hm
    have hx := (List.mem_filter.mp hm).1
    have hp := (Bool.and_eq_true _ _).mp (List.mem_filter.mp hm).2
    have lx := len_wd hl hx
    refine Rn.ite (b := false) ((Tst.cmp (Ev.fn A g_match rfl (.cons (Ev.fn A g_concat rfl (.cons (Ev.fn A g_concat rfl (.cons (Ev.name rfl) (.cons ev_dots .nil)) (f_cat (glue_pre w) (Nat.le_trans gp (by decide)))) (.cons (Ev.name rfl) .nil)) (f_cat (c := glue [w, w]) (by rw [← glue_pre]; rfl) ?_)) (.cons (Ev.name rfl) .nil)) (f_twice hw fw.free lw1 lx)) (Ev.cmp (Ev.callB b_len (A.glb rfl) (.cons (Ev.name rfl) .nil) (BFn.len_str (by rw [mk_len]; omega))) (Ev.bin Ev.int (Ev.callB b_len (A.glb rfl) (.cons (Ev.name rfl) .nil) (BFn.len_str (by rw [mk_len]; omega))) (Bin.mul_int (.of_left (by decide)))) Cmp.ge) (Cmp.isNot rfl)).cast ?_) Rn.nil (Rn.done (sub_cons rfl (sub_cons rfl (sub_cons rfl (sub_cons rfl (sub_cons rfl sub_nil))))))
    · show (w ++ dots ++ w).length ≤ _
      rw [List.length_append, glue_pre]; exact Nat.le_trans (Nat.add_le_add gp lw) (by decide)
    · rw [hp.1, hp.2, Bool.true_and, Bool.true_and, mk_len, mk_len]
      show (!(decide (w.length + w.length ≤ x.length) == decide ((x.length : Int) ≥ 2 * (w.length : Int)))) = false
      rw [show decide ((x.length : Int) ≥ 2 * (w.length : Int)) = decide (w.length + w.length ≤ x.length) from decide_eq_decide.mpr (by omega), beq_self_eq_true]; rfl
  have z2 : zip2N (sN code) (bL (sufs code w)) = code.map fun x => .tup [S x, .bool (w.isSuffixOf x)] := by
    unfold bL sufs sN
    rw [List.map_map]
    exact zip2_map _ _ code
  have z2p : zip2N (sN code) (bL (pres code w)) = code.map fun x => .tup [S x, .bool (w.isPrefixOf x)] := by
    unfold bL pres sN
    rw [List.map_map]
    exact zip2_map _ _ code
  refine rn_assignComp (compTM (as := code) (gi := fun x => [S x, .bool (w.isSuffixOf x)]) (fun a b e => S_inj a b (by injection e)) (xs := ["x", "two"]) A (by decide) (ρc := []) fr_nil (z2 ▸ ItEv.zip2 (A.glb rfl) (.cons (Ev.name rfl) (.cons (Ev.name rfl) .nil)) (by rw [sN_len]; exact lbL _)) (fun x => w.isSuffixOf x) S (fun _ => rfl) (fun G' A' x hx => Tsts.one (Tst.val (a := .bool (w.isSuffixOf x)) (Ev.name rfl))) (fun G' A' x hx _ => Ev.name rfl) (fun _ => .inl trivial) (sl (by omega)) (out := sN (heads code w)) rfl) (A.kind _ _ rfl (fun z => nomatch z)) ?_
  refine Rn.assign (compTM (as := code) (gi := fun x => [S x, .bool (w.isPrefixOf x)]) (fun a b e => S_inj a b (by injection e)) (xs := ["x", "one"]) A (by decide) (ρc := [("w", S w)]) (fr_cons rfl rfl fr_nil) (z2p ▸ ItEv.zip2 (A.glb rfl) (.cons (Ev.name rfl) (.cons (Ev.name rfl) .nil)) (by rw [sN_len]; exact lbL _)) (fun x => w.isPrefixOf x) (fun x => S (x.drop w.length)) (fun _ => rfl) (fun G' A' x hx => Tsts.one (Tst.val (a := .bool (w.isPrefixOf x)) (Ev.name rfl))) (fun G' A' x hx hp => ?_) (fun _ => .inl trivial) (sl (by omega)) (out := sN (tails code w)) ?_).evF.ev (A.cel rfl) ?_ trivial (swaps_false (A.kind _ _ rfl (fun z => nomatch z)))
  · have lx := len_wd hl hx
    exact Ev.sliceS (Ev.name rfl) (.some (Ev.callB b_len (A'.glb rfl) (.cons (Ev.name rfl) .nil) (BFn.len_str (by rw [mk_len]; omega)))) .none (by rw [mk_len]; exact sl lx) (by rw [mk_len]; exact slice_from x (List.isPrefixOf_iff_prefix.mp hp).length_le)
  · unfold sN tails; rw [List.map_map]; rfl
  have hsub : ∀ {f : List Nat → Bool} {v : List Nat}, v ∈ code.filter f → v ∈ code := fun h => (List.mem_filter.mp h).1
  have lh : (heads code w).length ≤ 100 := Nat.le_trans (List.length_filter_le _ _) hn
  have lt : (tails code w).length ≤ 100 := by unfold tails; rw [List.length_map]; exact Nat.le_trans (List.length_filter_le _ _) hn
  have wt : ∀ v ∈ tails code w, Wd v := fun v hv => by obtain ⟨x, hx, rfl⟩ := List.mem_map.mp hv; exact fun c hc' => hc x (hsub hx) c (List.mem_of_mem_drop hc')
  have lb' : (both code w).length ≤ 100 := Nat.le_trans (List.length_filter_le _ _) hn
  have lbh : (sN (heads code w)).length ≤ 100 := by rw [sN_len]; exact lh
  have lbt : (sN (tails code w)).length ≤ 100 := by rw [sN_len]; exact lt
  have e0 : ∀ l : List (List Nat), eqv (.list (sN l)) (.list []) = l.isEmpty := fun l => by rw [eqv_nil, sN_empty]
  have eg : SV.list (sN (grow code w)) = (if stop code w then none else some ()).elim (.list (sN code)) (fun _ => .list (sN (kept code w ++ [w] ++ (heads code w).flatMap fun x => (tails code w).map (x ++ ·)))) := by unfold grow; cases stop code w <;> rfl
  rw [eg]
  refine Rn.branch (α := Unit) (o := if stop code w then none else some ()) (v := .list (sN code)) (res := fun _ => .list (sN (kept code w ++ [w] ++ (heads code w).flatMap fun x => (tails code w).map (x ++ ·)))) (P := fun _ => stop code w = false) (ρf := fun _ => [("tails", .list (sN (tails code w))), ("heads", .list (sN (heads code w))), ("ended", .list (bL (sufs code w))), ("begun", .list (bL (pres code w))), ("w", S w), ("code", .list (sN code))]) (μf := fun _ => none) (b := stop code w) (Tst.cast (Tst.op (TAll.or (Tst.cmp (Ev.name rfl) (ev_lst .nil) (Cmp.ne (shp_sN fun v hv => hc v (hsub hv)) rfl)) (TAll.or (Tst.cmp (Ev.name rfl) (ev_lst .nil) (Cmp.eq (shp_sN fun v hv => hc v (hsub hv)) rfl)) (TAll.or (Tst.cmp (Ev.name rfl) (ev_lst .nil) (Cmp.eq (shp_sN wt) rfl)) (TAll.or (Tst.cmp (Ev.bin (Ev.callB b_len (A.glb rfl) (.cons (Ev.name rfl) .nil) (BFn.len_list (by omega))) (Ev.callB b_len (A.glb rfl) (.cons (Ev.name rfl) .nil) (BFn.len_list (by omega))) (Bin.mul_int (.of_left (bits_small (Nat.le_trans lbh (by decide)))))) Ev.int Cmp.gt) .orNil))))) ?_) ?_ (fun _ h0 => ?_) (fun _ => rfl)
  · rw [e0, e0, e0, sN_len, sN_len, Bool.or_false, show decide (((heads code w).length : Int) * ((tails code w).length : Int) > 15) = decide ((heads code w).length * (tails code w).length > 15) from decide_eq_decide.mpr (by rw [← Int.natCast_mul]; omega)]; rfl
  · cases q : stop code w with
    | true => exact .inr ⟨by rw [if_pos rfl], Rn.ret (Ev.name rfl)⟩
    | false => exact .inl ⟨(), by rw [if_neg (by decide)], rfl, Rn.done (sub_cons rfl (sub_cons rfl (sub_cons rfl (sub_cons rfl (sub_cons rfl (sub_cons rfl sub_nil))))))⟩
  have h15 : (heads code w).length * (tails code w).length ≤ 15 := by
    unfold stop at h0
    rw [Bool.or_eq_false_iff, Bool.or_eq_false_iff, Bool.or_eq_false_iff, decide_eq_false_iff_not] at h0
    exact Nat.not_lt.mp h0.2.2.2
  refine rn_assignComp (compTM (as := code) (gi := fun x => [S x, .bool (w.isPrefixOf x), .bool (w.isSuffixOf x)]) inj3 (xs := ["x", "one", "two"]) A (by decide) (ρc := []) fr_nil (z3 ▸ ItEv.zip3 (A.glb rfl) (.cons (Ev.name rfl) (.cons (Ev.name rfl) (.cons (Ev.name rfl) .nil))) (by rw [sN_len]; exact lbL _) (by rw [sN_len]; exact lbL _)) (fun x => !w.isPrefixOf x && !w.isSuffixOf x) S (fun _ => rfl) (fun G' A' x hx => ?_) (fun G' A' x hx _ => Ev.name rfl) (fun _ => .inl trivial) (sl (by omega)) (out := sN (kept code w)) rfl) (A.kind _ _ rfl (fun z => nomatch z)) ?_
  · exact Tsts.one (Tst.cast (Tst.op (TAll.and (Tst.not (Tst.val (Ev.name rfl))) (TAll.and (Tst.not (Tst.val (Ev.name rfl))) .andNil))) (by rw [Bool.and_true]; rfl))
  have lk : (kept code w).length ≤ 100 := Nat.le_trans (List.length_filter_le _ _) hn
  have lm : ((heads code w).flatMap fun x => (tails code w).map (x ++ ·)).length = (heads code w).length * (tails code w).length := by rw [List.length_flatMap, List.map_congr_left (g := fun _ => (tails code w).length) fun x _ => List.length_map _, List.map_const', List.sum_replicate_nat]
  have b1 := Bin.add_list (a := sN (kept code w)) (b := sN [w]) (by rw [sN_len, sN_len]; exact sl (Nat.le_trans (Nat.add_le_add_right lk 1) (by decide)))
  have b2 := Bin.add_list (a := sN (kept code w ++ [w])) (b := sN ((heads code w).flatMap fun x => (tails code w).map (x ++ ·))) (by rw [sN_len, sN_len, lm, List.length_append]; exact sl (Nat.le_trans (Nat.add_le_add (Nat.add_le_add_right lk 1) h15) (by decide)))
  rw [sN_app] at b1 b2
  refine Rn.ret (Ev.fn A g_concat rfl (.cons (Ev.fn A g_concat rfl (.cons (Ev.name rfl) (.cons (ev_lst (l := sN [w]) (.cons (Ev.name rfl) .nil)) .nil)) (f_concat BFn.has_list b1)) (.cons (comp2M (as := heads code w) (bs := tails code w) A (by decide) (by decide) (ρc := [("tails", .list (sN (tails code w)))]) (fr_cons rfl rfl fr_nil) (ItEv.listN rfl) (fun G' A' a ha => ItEv.listN rfl) (fun x y => x ++ y) (fun G' A' x hx y hy => ?_) (sl (by omega)) rfl).evF.ev .nil)) (f_concat BFn.has_list b2))
  obtain ⟨v, hv, rfl⟩ := List.mem_map.mp hy
  have l1 := hl x (hsub hx)
  have l2 := hl v (hsub hv)
  exact Ev.fn A' g_concat rfl (.cons (Ev.name rfl) (.cons (Ev.name rfl) .nil)) (f_cat rfl (by rw [List.length_append, List.length_drop]; omega))

/-! the figures, in the words of plan C -/
theorem site_of {G : Ctx} {ρ : List (Str × SV)} {h : Heap} {T : List (Addr × Obj)} {d u : Nat} (F : Fm G) (O : Okay G ρ h) (N : News G.h₀ G.env₀.locals h T) (hd : d ≤ G.d) (hu : u ≤ G.u) : Site G.w G.A h T d u := by
  obtain ⟨dp, un, gd, cn, cs, L, a, ccd, cl, outer, A₀, base, mean, mg, mb, hA, he, B, X, T', kk, h1, h2, hgl, hbl, hks⟩ := F
  obtain ⟨m, F0⟩ := O.fr
  rw [he] at F0 N
  exact ⟨dp, un, gd, cn, cs, a, ccd, cl, outer, A₀, base, G.h₀, L, m, mean, mg, mb, hA, B, F0, X, N, T', kk, Nat.lt_of_le_of_lt (Nat.add_le_add_left hd _) h1, Nat.lt_of_le_of_lt (Nat.le_trans (Nat.add_le_add_left hu _) (Nat.le_add_right _ 70)) h2⟩
/-- a code object is no table -/
theorem code_off {h : Heap} {c P : Addr} {q : Str} {k : Addr} {x y : Value} (r : h.CodeRec (.ref c) q) (e : h.get? P = some (tabObj #[x, rawInt 4, y])) : c ≠ P := by
  rintro rfl
  obtain ⟨a, o, us, t, e1, e2, d, w⟩ := r
  cases e1
  rw [e] at e2; cases e2
  cases d
  cases w
theorem made_on {h g h' : Heap} {P c : Addr} {q : Str} {T : List Addr} (r : h.CodeRec (.ref c) q) (G1 : GSub h g T) (E1 : Ext g h') (hc : c ∉ T) : h'.CodeRec (.ref c) q := (rec_gsub r G1 hc).keeps E1
theorem f_i2d {a : Int} {n : Nat} (hn : 1 ≤ n) (hn2 : n ≤ 20000) (ha : 0 ≤ a) (hK : nDigs a n ≤ 40) : FnSpec 35 45 400 [.int a, .int n] (.list (iL (digs n (nDigs a n) a))) := by
  intro G ρ Q Eh s vs F hd hu O R h
  cases R with | cons r1 R =>
  cases R with | cons r2 R =>
  cases R
  obtain ⟨t, rfl⟩ := r1.int_inv; obtain ⟨u, rfl⟩ := r2.int_inv
  obtain ⟨t1, t2, N, a1, a2⟩ := O.tab
  have g37 := (N (37, tabObj t2) (.tail _ (.head _))).1
  have fin : ∀ c v h' tk g, GSub s.heap g [30] → Ext g h' → h'.get? 30 = some (tabObj (hit30 c)) → h'.CodeRec (.ref c) q30 → c ∉ ([30, 37] : List Addr) → RList (fun vs => IntsAre vs (digs n (nDigs a n) a)) g h' v → Q v { s with heap := h', toks := tk } := fun c v h' tk g G1 E1 e30 rc nc ⟨D, us, k, hv, _, e, hi⟩ => by
    subst hv
    refine h _ h' tk (fun b o eb nb => E1 b o (G1 b o eb fun hm => nb (List.mem_singleton.mp hm ▸ .head _))) ⟨hit30 c, t2, fun p hp => ?_, .inr ⟨c, rfl, rc, nc⟩, a2.keep fun c2 n2 r2 => made_on (P := 30) r2 G1 E1 fun hm => n2 (List.mem_singleton.mp hm ▸ .head _)⟩ (.list e (of_ints hi))
    rcases List.mem_cons.mp hp with rfl | hp
    · exact ⟨e30, (N (30, tabObj t1) (.head _)).2⟩
    · rw [List.mem_singleton.mp hp]
      exact ⟨E1 _ _ (G1 _ _ g37 (show (37 : Addr) ∉ ([30] : List Addr) by decide)), (N (37, tabObj t2) (.tail _ (.head _))).2⟩
  have N1 : News G.h₀ G.env₀.locals s.heap [(30, tabObj t1)] := fun p hp => N p (List.mem_singleton.mp hp ▸ .head _)
  rcases a1 with rfl | ⟨c, rfl, rc, nc⟩
  · refine i2d_miss (n := (n : Int)) (by omega) (by omega) ha hK G.A s Q Eh (site_of F O N1 hd hu) trivial fun c v h' tk g G1 E1 T1 ⟨q1, q2, q3⟩ => fin c v h' tk g G1 E1 (T1 _ (.head _)) q1 (fun hm => ?_) q3
    rcases List.mem_cons.mp hm with e | hm
    · exact code_off (k := c) q1 (T1 _ (.head _)) e
    · rw [List.mem_singleton.mp hm, G1 _ _ g37 (show (37 : Addr) ∉ ([30] : List Addr) by decide)] at q2; cases q2
  · have n30 : c ∉ ([30] : List Addr) := fun hm => nc (List.mem_singleton.mp hm ▸ .head _)
    exact i2d_hit (n := (n : Int)) (by omega) (by omega) ha hK G.A s Q Eh (site_of F O N1 hd hu) ⟨rc, fun e => n30 (e ▸ .head _)⟩ fun _ v h' tk g G1 E1 T1 q3 => fin c v h' tk g G1 E1 (T1 _ (.head _)) (made_on (P := 30) rc G1 E1 n30) nc q3
theorem f_d2i {ns : List Int} {n : Nat} (hn : 1 ≤ n) (hn2 : n ≤ 20000) (hK : ns.length ≤ 40) (hB : ∀ d ∈ ns, Builtin.Int.intBits d ≤ 1000000) : FnSpec 42 45 400 [.list (iL ns), .int n] (.int (val n ns)) := by
  intro G ρ Q Eh s vs F hd hu O R h
  cases R with | cons r1 R =>
  cases R with | cons r2 R =>
  cases R
  obtain ⟨l, us, k, rfl, hl, hr⟩ := r1.list_inv; obtain ⟨u, rfl⟩ := r2.int_inv
  obtain ⟨t1, t2, N, a1, a2⟩ := O.tab
  have g30 := (N (30, tabObj t1) (.head _)).1
  have g37 := (N (37, tabObj t2) (.tail _ (.head _))).1
  have hI := ints_of hr
  have hL : s.heap.IsList l us.toArray := ⟨_, hl, rfl, _, rfl⟩
  have l37 : @Ne Nat l 37 := fun e => by rw [show l = 37 from e, g37] at hl; cases hl
  have fin : ∀ c v h' tk g, GSub s.heap g [37] → Ext g h' → h'.get? 37 = some (tabObj (hit37 c)) → h'.CodeRec (.ref c) q37 → c ∉ ([30, 37] : List Addr) → RInt (val n ns) g h' v → Q v { s with heap := h', toks := tk } := fun c v h' tk g G1 E1 e37 rc nc ⟨tv, hv⟩ => by
    subst hv
    refine h _ h' tk (fun b o eb nb => E1 b o (G1 b o eb fun hm => nb (List.mem_singleton.mp hm ▸ .tail _ (.head _)))) ⟨t1, hit37 c, fun p hp => ?_, a1.keep fun c2 n2 r2 => made_on (P := 37) r2 G1 E1 fun hm => n2 (List.mem_singleton.mp hm ▸ .tail _ (.head _)), .inr ⟨c, rfl, rc, nc⟩⟩ (.int _ _)
    rcases List.mem_cons.mp hp with rfl | hp
    · exact ⟨E1 _ _ (G1 _ _ g30 (show (30 : Addr) ∉ ([37] : List Addr) by decide)), (N (30, tabObj t1) (.head _)).2⟩
    · rw [List.mem_singleton.mp hp]
      exact ⟨e37, (N (37, tabObj t2) (.tail _ (.head _))).2⟩
  have N1 : News G.h₀ G.env₀.locals s.heap [(37, tabObj t2)] := fun p hp => N p (List.mem_singleton.mp hp ▸ .tail _ (.head _))
  rcases a2 with rfl | ⟨c, rfl, rc, nc⟩
  · refine d2i_miss (n := (n : Int)) (by omega) (by omega) hI hK hB l37 G.A s Q Eh (site_of F O N1 hd hu) hL fun c v h' tk g G1 E1 T1 ⟨q1, q2, q3⟩ => fin c v h' tk g G1 E1 (T1 _ (.head _)) q1 (fun hm => ?_) q3
    rcases List.mem_cons.mp hm with rfl | hm
    · rw [G1 _ _ g30 (show (30 : Addr) ∉ ([37] : List Addr) by decide)] at q2; cases q2
    · exact code_off (k := c) q1 (T1 _ (.head _)) (List.mem_singleton.mp hm)
  · have n37 : c ∉ ([37] : List Addr) := fun hm => nc (List.mem_singleton.mp hm ▸ .tail _ (.head _))
    exact d2i_hit (n := (n : Int)) (by omega) (by omega) hI hK hB l37 G.A s Q Eh (site_of F O N1 hd hu) ⟨hL, rc, fun e => n37 (e ▸ .head _)⟩ fun _ v h' tk g G1 E1 T1 q3 => fin c v h' tk g G1 E1 (T1 _ (.head _)) (made_on (P := 37) rc G1 E1 n37) nc q3

theorem fill25 : fillDummy PySem.Challenge.rw_ti0025_01 hd.heap_1 := by
  k_fill
  trivial
theorem bits_le {a : Int} {k : Nat} (h1 : -(2 ^ k) < a) (h2 : a < 2 ^ k) : Builtin.Int.intBits a ≤ k := intBits_le_iff.mpr (by rw [← cast_pow] at h1 h2; omega)
theorem bits_pos {a : Int} (h : a ≠ 0) : 1 ≤ Builtin.Int.intBits a := by rw [← log2_bits h]; exact Nat.succ_le_succ (Nat.zero_le _)
theorem val_rev (n : Nat) (a : Int) (r : List Int) : val n (a :: r).reverse = val n r.reverse + 2 ^ (n * r.length) * a := by
  rw [List.reverse_cons, val_append, List.length_reverse]
  show _ + _ * (a + 2 ^ n * 0) = _
  rw [Int.mul_zero, Int.add_zero]
theorem bits_lt {x : Int} {n : Nat} (h0 : 0 ≤ x) (h : x < 2 ^ n) : Builtin.Int.intBits x ≤ n := intBits_le_iff.mpr (by rw [← cast_pow] at h; omega)
theorem fit27 {a b : Nat} (h1 : a ≤ 100000) (h2 : b ≤ 100000) : ((a : Int) + (b : Int)) ≤ 2 ^ 27 := by
  rw [show (2 : Int) ^ 27 = 134217728 by decide]; omega
theorem bits_one' : Builtin.Int.intBits 1 ≤ 100000 := Nat.le_of_ble_eq_true rfl
theorem le_mul20 {n : Nat} (h : n ≤ 100000) : n ≤ 2 ^ 20 := Nat.le_trans h (by decide)
/-- x << n, x >> n of figures -/
theorem ev_l {G : Ctx} {ρ : List (Str × SV)} {x y : Expr} {pos : Pos} {a : Int} {n : Nat} (p : Ev G ρ x (.int a)) (q : Ev G ρ y (.int n)) (h1 : Builtin.Int.intBits a ≤ 100000) (h2 : n ≤ 100000) : Ev G ρ (.BinOp x .LShift y pos) (.int (a * 2 ^ n)) :=
  Ev.bin p q (Bin.lshift_int (n := (n : Int)) (Int.natCast_nonneg n) (fit27 h1 h2))
theorem ev_r {G : Ctx} {ρ : List (Str × SV)} {x y : Expr} {pos : Pos} {a : Int} {n : Nat} (p : Ev G ρ x (.int a)) (q : Ev G ρ y (.int n)) : Ev G ρ (.BinOp x .RShift y pos) (.int (a / 2 ^ n)) :=
  Ev.cast (Ev.bin p q (Bin.rshift_int (n := (n : Int)) (Int.natCast_nonneg n))) (congrArg SV.int (fdiv_pow n))
theorem intBits_ediv_le {x y : Int} {m : Nat} (hy : 0 < y) (h : Builtin.Int.intBits x ≤ m) : Builtin.Int.intBits (x / y) ≤ m := by
  rw [← Int.fdiv_eq_ediv_of_nonneg x (Int.le_of_lt hy)]; exact intBits_fdiv_le h
/-- the first guess of _div3n2n -/
theorem Pre32.guess {a12 a3 b b1 b2 : Int} {n : Nat} (p : Pre32 a12 a3 b b1 b2 n) : ∃ q r : Int, ((a12 / 2 ^ n = b1 ∧ q = 1 * 2 ^ n - 1 ∧ r = a12 - b1 * 2 ^ n + b1) ∨ (a12 / 2 ^ n ≠ b1 ∧ q = a12 / b1 ∧ r = a12 % b1)) ∧ 0 ≤ q ∧ q < 2 ^ n ∧ 0 ≤ r ∧ r < 2 ^ (n + 1) ∧
    q * b + (r * 2 ^ n + a3 - q * b2) = a12 * 2 ^ n + a3 ∧ r * 2 ^ n + a3 - q * b2 < b := by
  have hN := pow_pos' n
  have e1 : (2 : Int) ^ (n + 1) = 2 ^ n * 2 := Int.pow_succ ..
  have bn := p.bn
  by_cases h : a12 / 2 ^ n = b1
  · obtain ⟨h1, h2, h3⟩ := p.eq1 h
    have h4 := Int.emod_add_mul_ediv a12 (2 ^ n)
    have h5 := Int.emod_lt_of_pos a12 hN
    rw [h, Int.mul_comm] at h4
    exact ⟨_, _, .inl ⟨h, rfl, rfl⟩, by omega, by omega, h1, by omega, h2, h3⟩
  · obtain ⟨h1, h2, h3⟩ := p.ne1
    have h4 := Int.emod_lt_of_pos a12 p.pos1
    exact ⟨_, _, .inr ⟨h, rfl, rfl⟩, Int.ediv_nonneg p.a0 (Int.le_of_lt p.pos1), Int.ediv_lt_of_lt_mul p.pos1 (by rw [Int.mul_comm]; exact (p.sub h).lt), h1, by omega, h2, h3⟩
/-- how far the guess is off -/
theorem off_by {A b q r : Int} (hb : 0 < b) (e : q * b + r = A) (h : r < b) : ∃ k : Nat, q - (k : Int) = A / b ∧ r + (k : Int) * b = A % b ∧ ∀ i : Nat, i ≤ k → (decide (r + (i : Int) * b < 0) = decide (i < k)) := by
  have h1 : A / b < q + 1 := Int.ediv_lt_of_lt_mul hb (by rw [Int.add_mul, Int.one_mul]; omega)
  have h2 := Int.emod_add_mul_ediv A b
  refine ⟨(q - A / b).toNat, by omega, ?_, fun i hi => decide_eq_decide.mpr ?_⟩
  · rw [Int.toNat_of_nonneg (by omega), Int.sub_mul, Int.mul_comm (A / b)]; omega
  · have e2 : r + (i : Int) * b = A - (q - i) * b := by rw [Int.sub_mul]; omega
    have h3 := Int.ediv_lt_iff_lt_mul (a := A) (b := q - i) hb
    rw [e2]
    constructor
    · intro h; have := h3.mpr (by omega); omega
    · intro h; have := h3.mp (by omega); omega
theorem f_div3 {a12 a3 b b1 b2 : Int} {n d u : Nat} (p : Pre32 a12 a3 b b1 b2 n) (hn : n ≤ 20000) (ih : a12 / 2 ^ n ≠ b1 → FnSpec 21 d u [.int a12, .int b1, .int n] (.tup [.int (a12 / b1), .int (a12 % b1)])) :
    FnSpec 28 (d + 1) (u + 3) [.int a12, .int a3, .int b, .int b1, .int b2, .int n] (.tup [.int ((a12 * 2 ^ n + a3) / b), .int ((a12 * 2 ^ n + a3) % b)]) := by
  obtain ⟨q, r, hqr, q0, q1, r0, r1, e, lt⟩ := p.guess
  obtain ⟨k, k1, k2, k3⟩ := off_by p.pos e lt
  have bb1 := bits_lt (Int.le_of_lt p.pos1) p.bn
  have bq := bits_lt q0 q1
  have br := bits_lt r0 r1
  have bb2 := bits_lt p.d0 p.d1
  refine FnSpec.of_body (d := d) (u := u) (xs := ["a12", "a3", "b", "b1", "b2", "n"]) (by intro w; k_is) (by intro w; k_is) (fun s vs hl => by obtain ⟨x, y, rfl, h1⟩ := lenS hl; obtain ⟨x2, z, rfl, h2⟩ := lenS h1; obtain ⟨x3, x4, x5, x6, rfl⟩ := len4 h2; exact BindsTo.of_eq rfl) (by decide) rfl (by decide) rfl rfl rfl (by decide) fun G A => ?_
  refine Rn.ite (b := decide (a12 / 2 ^ n = b1)) (ρ' := [("r", .int r), ("q", .int q), ("n", .int n), ("b2", .int b2), ("b", .int b), ("a3", .int a3)]) (μ' := none) (Tst.cast (Tst.cmp (ev_r (Ev.name rfl) (Ev.name rfl)) (Ev.name rfl) (Cmp.eq rfl rfl)) (by rw [eqv_int]; rfl)) ?_ ?_
  · rcases hqr with ⟨h, rfl, rfl⟩ | ⟨h, rfl, rfl⟩
    · rw [decide_eq_true h]
      exact Rn.assignSw (ev_tup (.cons (Ev.bin (ev_l Ev.int (Ev.name rfl) bits_one' (by omega)) Ev.int Bin.sub_int) (.cons (Ev.bin (Ev.bin (Ev.name rfl) (ev_l (Ev.name rfl) (Ev.name rfl) (by omega) (by omega)) Bin.sub_int) (Ev.name rfl) Bin.add_int) .nil))) (A.kind _ _ rfl (fun z => nomatch z)) (A.kind _ _ rfl (fun z => nomatch z)) (Rn.done (sub_cons rfl (sub_cons rfl (sub_cons rfl (sub_cons rfl (sub_cons rfl (sub_cons rfl sub_nil))))))) trivial trivial fun env e1 e2 e3 => sw_two e1 e2 e3 rfl rfl rfl rfl rfl
    · rw [decide_eq_false h]
      exact Rn.assignT (xs := ["q", "r"]) (Ev.fn A g_div2 rfl (.cons (Ev.name rfl) (.cons (Ev.name rfl) (.cons (Ev.name rfl) .nil))) (ih h) (Nat.le_refl _) (Nat.le_refl _)) (AsgTo.tup rfl (fun x hx => by rcases List.mem_cons.mp hx with rfl | hx; exact A.loc rfl; rw [List.mem_singleton.mp hx]; exact A.loc rfl) rfl rfl rfl) (Rn.done (sub_cons rfl (sub_cons rfl (sub_cons rfl (sub_cons rfl (sub_cons rfl (sub_cons rfl sub_nil)))))))
  refine Rn.assign (Ev.cast (Ev.bin (Ev.bin (ev_l (Ev.name rfl) (Ev.name rfl) (by omega) (by omega)) (Ev.name rfl) Bin.or_int) (Ev.bin (Ev.name rfl) (Ev.name rfl) (Bin.mul_int (.of_bits (le_mul20 (by omega)) (le_mul20 (by omega))))) Bin.sub_int) (congrArg (fun z => SV.int (z - q * b2)) (or_add r0 p.c0 n p.c1))) (A.loc rfl) ?_
  refine Rn.while (ρs := fun i => [("r", .int (r * 2 ^ n + a3 - q * b2 + (i : Int) * b)), ("q", .int (q - (i : Int))), ("b", .int b)]) k (sub_cons (by rw [Int.natCast_zero, Int.zero_mul, Int.add_zero]; rfl) (sub_cons (by rw [Int.natCast_zero, Int.sub_zero]; rfl) (sub_cons rfl sub_nil))) (fun i hi => Tst.cast (Tst.cmp (Ev.name rfl) Ev.int Cmp.lt) (k3 i hi)) (fun i hi => ?_) ?_
  · refine Rn.aug rfl Ev.int InB.sub (A.loc rfl) (Rn.aug rfl (Ev.name rfl) InB.add (A.loc rfl) (Rn.done (sub_cons ?_ (sub_cons ?_ (sub_cons rfl sub_nil)))))
    · show some (SV.int _) = some (SV.int _)
      rw [Int.natCast_succ, Int.add_mul, Int.one_mul, Int.add_assoc]
    · show some (SV.int _) = some (SV.int _)
      rw [Int.natCast_succ, Int.sub_sub]
  · exact Rn.ret (Ev.cast (ev_tup (.cons (Ev.name rfl) (.cons (Ev.name rfl) .nil))) (by rw [k1, k2]))
theorem InB.shl {a : Int} (h : Builtin.Int.intBits a ≤ 100000) : InB .LShift (.int a) (.int 1) (.int (a * 2)) := fun G ρ Q Eh s va vb F O ra rb k => by
  obtain ⟨t, rfl⟩ := ra.int_inv; obtain ⟨u, rfl⟩ := rb.int_inv; exact ilshift_int (by decide) (fit27 h (show 1 ≤ 100000 by decide)) (k _ _ _ (Up.refl _) O.tab (.int _ _))
theorem InB.shr {a b : Int} (e : a / 2 = b) : InB .RShift (.int a) (.int 1) (.int b) := fun G ρ Q Eh s va vb F O ra rb k => by
  obtain ⟨t, rfl⟩ := ra.int_inv; obtain ⟨u, rfl⟩ := rb.int_inv
  subst e
  have e1 : a.fdiv (2 ^ Int.toNat 1) = a / 2 := fdiv_pow 1
  refine irshift_int (by decide) ?_
  rw [e1]
  exact k _ _ _ (Up.refl _) O.tab (.int _ _)
theorem g_limit : ∃ t, Glob "_DIV_LIMIT" (.int 4000 t) := ⟨_, fun w => by k_is⟩
/-- even or odd: what is divided then -/
theorem Pre21.even {a b : Int} {n : Nat} (p : Pre21 a b n) : ∃ (a' b' : Int) (h m : Nat), ((m = 0 ∧ n = h + h ∧ a' = a ∧ b' = b) ∨ (m = 1 ∧ n + 1 = h + h ∧ a' = a * 2 ∧ b' = b * 2)) ∧ Builtin.bitAnd (n : Int) 1 = (m : Int) ∧ Pre21 a' b' (h + h) ∧ a' / b' = a / b ∧ (if m = 0 then a' % b' else a' % b' / 2) = a % b := by
  have e : Builtin.bitAnd (n : Int) 1 = (n : Int) % 2 := and_mask (Int.natCast_nonneg n) 1
  rcases Nat.mod_two_eq_zero_or_one n with h | h
  · exact ⟨a, b, n / 2, 0, .inl ⟨rfl, by omega, rfl, rfl⟩, by rw [e]; omega, by rw [show n / 2 + n / 2 = n by omega]; exact p, rfl, if_pos rfl⟩
  · obtain ⟨h1, h2, h3⟩ := p.pad
    refine ⟨a * 2, b * 2, (n + 1) / 2, 1, .inr ⟨rfl, by omega, rfl, rfl⟩, by rw [e]; omega, by rw [show (n + 1) / 2 + (n + 1) / 2 = n + 1 by omega]; exact h1, h2, ?_⟩
    rw [if_neg (by decide), h3, Int.mul_ediv_cancel _ (by decide)]
theorem f_div2_at {n d u : Nat} {a b : Int} (hn : n ≤ 20000) (p : Pre21 a b n) (ih : 4000 < n → ∀ (h : Nat) (x y : Int), h = (n + 1) / 2 → Pre21 x y h → FnSpec 21 d u [.int x, .int y, .int h] (.tup [.int (x / y), .int (x % y)])) :
    FnSpec 21 (d + 2) (u + 6) [.int a, .int b, .int n] (.tup [.int (a / b), .int (a % b)]) := by
  have hba := p.bits
  obtain ⟨_, gl⟩ := g_limit
  refine FnSpec.of_body (d := d + 1) (u := u + 3) (xs := ["a", "b", "n"]) (by intro w; k_is) (by intro w; k_is) (fun s vs hl => by obtain ⟨x, y, z, rfl⟩ := len3 hl; exact BindsTo.of_eq rfl) (by decide) rfl (by decide) rfl rfl rfl (by decide) fun G A => ?_
  by_cases hle : (Builtin.Int.intBits a : Int) - n ≤ 4000
  · refine Rn.iteRet (b := true) (Tst.cast (Tst.cmp (Ev.bin (EvF.meth m_bitlen (Ev.name rfl) .nil Meth.bitlen intT).ev (Ev.name rfl) Bin.sub_int) (Ev.globI A gl rfl) Cmp.le) (decide_eq_true hle)) (Rn.ret ?_)
    rw [← Int.fdiv_eq_ediv_of_nonneg a (Int.le_of_lt p.pos), ← Int.fmod_eq_emod_of_nonneg a (Int.le_of_lt p.pos)]
    exact Ev.callB b_divmod (A.glb rfl) (.cons (Ev.name rfl) (.cons (Ev.name rfl) .nil)) (BFn.divmod (Int.ne_of_gt p.pos) (no_pylong p hle))
  · refine Rn.ite (b := false) (Tst.cast (Tst.cmp (Ev.bin (EvF.meth m_bitlen (Ev.name rfl) .nil Meth.bitlen intT).ev (Ev.name rfl) Bin.sub_int) (Ev.globI A gl rfl) Cmp.le) (decide_eq_false hle)) Rn.nil ?_
    have hbig : 4000 < n := by omega
    obtain ⟨a', b', h, m, hm, em, p', ed, er⟩ := p.even
    have hh : h = (n + 1) / 2 := by omega
    have h1 : 1 ≤ h := by omega
    have hh2 : h ≤ 20000 := by omega
    have IH := ih hbig h
    have ba' := p'.bits
    have bb' := bits_lt (Int.le_of_lt p'.pos) p'.bn
    have ba2 := p.bits
    have bb2 := bits_lt (Int.le_of_lt p.pos) p.bn
    obtain ⟨pa, pb, e1, e2, q10, q20, q21⟩ := p'.halves h1
    rw [ed] at e1
    rw [e2] at er
    have bq := bits_lt q20 q21
    have msk : ∀ x : Int, 0 ≤ x → Builtin.bitAnd x (1 * 2 ^ h - 1) = x % 2 ^ h := fun x hx => by rw [Int.one_mul]; exact and_mask hx h
    have hq1 : Builtin.Int.intBits ((a' / 2 ^ (h + h) * 2 ^ h + a' / 2 ^ h % 2 ^ h) / b') ≤ 2 * (h + h) := by
      rw [top_low]
      exact Nat.le_trans (intBits_ediv_le p'.pos (intBits_ediv_le (pow_pos' h) (Nat.le_refl _))) ba'
    refine Rn.assign (Ev.cast (Ev.bin (Ev.name rfl) Ev.int Bin.and_int) (congrArg SV.int em)) (A.loc rfl) ?_
    refine Rn.ite (b := !(m == 0)) (ρ' := [("n", .int ((h + h : Nat) : Int)), ("b", .int b'), ("a", .int a'), ("pad", .int m)]) (μ' := none) (Tst.cast (Tst.val (Ev.name rfl)) ?_) ?_ ?_
    · show ((m : Int) != 0) = _
      rcases hm with ⟨rfl, _⟩ | ⟨rfl, _⟩ <;> rfl
    · rcases hm with ⟨rfl, rfl, rfl, rfl⟩ | ⟨rfl, e, rfl, rfl⟩
      · exact Rn.done (sub_cons rfl (sub_cons rfl (sub_cons rfl (sub_cons rfl sub_nil))))
      · exact Rn.aug rfl Ev.int (InB.shl (by omega)) (A.loc rfl) (Rn.aug rfl Ev.int (InB.shl (by omega)) (A.loc rfl) (Rn.aug rfl Ev.int InB.add (A.loc rfl) (Rn.done (sub_cons (by rw [← e]; rfl) (sub_cons rfl (sub_cons rfl (sub_cons rfl sub_nil)))))))
    refine Rn.assign (sv := .int h) (Ev.cast (ev_r (n := 1) (Ev.name rfl) Ev.int) (congrArg SV.int (show ((h + h : Nat) : Int) / 2 ^ 1 = h by rw [show (2 : Int) ^ 1 = 2 from rfl]; omega))) (A.loc rfl) ?_
    refine Rn.assign (Ev.bin (ev_l Ev.int (Ev.name rfl) bits_one' (by omega)) Ev.int Bin.sub_int) (A.loc rfl) ?_
    refine Rn.assignSw (ev_tup (.cons (ev_r (Ev.name rfl) (Ev.name rfl)) (.cons (Ev.cast (Ev.bin (Ev.name rfl) (Ev.name rfl) Bin.and_int) (congrArg SV.int (msk b' (Int.le_of_lt p'.pos)))) .nil))) (A.kind _ _ rfl (fun z => nomatch z)) (A.kind _ _ rfl (fun z => nomatch z)) ?_ trivial trivial fun env e1 e2 e3 => sw_two e1 e2 e3 rfl rfl rfl rfl rfl
    refine Rn.assignT (xs := ["q1", "r"]) (Ev.fn A g_div3 rfl (.cons (ev_r (Ev.name rfl) (Ev.name rfl)) (.cons (Ev.cast (Ev.bin (ev_r (Ev.name rfl) (Ev.name rfl)) (Ev.name rfl) Bin.and_int) (congrArg SV.int (msk _ (Int.ediv_nonneg p'.a0 (Int.le_of_lt (pow_pos' h)))))) (.cons (Ev.name rfl) (.cons (Ev.name rfl) (.cons (Ev.name rfl) (.cons (Ev.name rfl) .nil)))))) (f_div3 pa hh2 fun h9 => IH _ _ hh (pa.sub h9)) (Nat.le_refl _) (Nat.le_refl _)) (AsgTo.tup rfl (fun x hx => by rcases List.mem_cons.mp hx with rfl | hx; exact A.loc rfl; rw [List.mem_singleton.mp hx]; exact A.loc rfl) rfl rfl rfl) ?_
    refine Rn.assignT (xs := ["q2", "r"]) (Ev.fn A g_div3 rfl (.cons (Ev.name rfl) (.cons (Ev.cast (Ev.bin (Ev.name rfl) (Ev.name rfl) Bin.and_int) (congrArg SV.int (msk a' p'.a0))) (.cons (Ev.name rfl) (.cons (Ev.name rfl) (.cons (Ev.name rfl) (.cons (Ev.name rfl) .nil)))))) (f_div3 pb hh2 fun h9 => IH _ _ hh (pb.sub h9)) (Nat.le_refl _) (Nat.le_refl _)) (AsgTo.tup rfl (fun x hx => by rcases List.mem_cons.mp hx with rfl | hx; exact A.loc rfl; rw [List.mem_singleton.mp hx]; exact A.loc rfl) rfl rfl rfl) ?_
    refine Rn.ite (b := !(m == 0)) (ρ' := [("r", .int (a % b)), ("q2", .int (((a' / 2 ^ (h + h) * 2 ^ h + a' / 2 ^ h % 2 ^ h) % b' * 2 ^ h + a' % 2 ^ h) / b')), ("q1", .int ((a' / 2 ^ (h + h) * 2 ^ h + a' / 2 ^ h % 2 ^ h) / b')), ("half_n", .int h)]) (μ' := none) (Tst.cast (Tst.val (Ev.name rfl)) ?_) ?_ ?_
    · show ((m : Int) != 0) = _
      rcases hm with ⟨rfl, _⟩ | ⟨rfl, _⟩ <;> rfl
    · rcases hm with ⟨rfl, _⟩ | ⟨rfl, _⟩
      · rw [if_pos rfl] at er
        exact Rn.done (sub_cons (by rw [← er]; rfl) (sub_cons rfl (sub_cons rfl (sub_cons rfl sub_nil))))
      · rw [if_neg (by decide)] at er
        exact Rn.aug rfl Ev.int (InB.shr er) (A.loc rfl) (Rn.done (sub_cons rfl (sub_cons rfl (sub_cons rfl (sub_cons rfl sub_nil)))))
    · exact Rn.ret (ev_tup (.cons (Ev.cast (Ev.bin (ev_l (Ev.name rfl) (Ev.name rfl) (by omega) (by omega)) (Ev.name rfl) Bin.or_int) (congrArg SV.int ((or_add q10 q20 h q21).trans e1.symm))) (.cons (Ev.name rfl) .nil)))
theorem f_div2 : ∀ (k n : Nat) (a b : Int), n ≤ 4000 * 2 ^ k → n ≤ 20000 → Pre21 a b n → FnSpec 21 (2 * k + 2) (6 * k + 6) [.int a, .int b, .int n] (.tup [.int (a / b), .int (a % b)]) := by
  intro k
  induction k with
  | zero => exact fun n a b hk hn p => f_div2_at (d := 0) (u := 0) hn p fun h => absurd hk (by omega)
  | succ k ih => exact fun n a b hk hn p => f_div2_at hn p fun _ h x y e q => ih h x y (by rw [Nat.pow_succ] at hk; omega) (by omega) q

theorem fill26 : fillDummy PySem.Challenge.rw_ti0025_01 hd.heap_1 := by
  k_fill
  trivial
theorem bits_range {b : Int} (h : 0 < b) : 1 ≤ Builtin.Int.intBits b ∧ 2 ^ (Builtin.Int.intBits b - 1) ≤ b ∧ b < 2 ^ Builtin.Int.intBits b := by
  have h1 := bits_pos (Int.ne_of_gt h)
  have h2 := intBits_le_iff.mp (Nat.le_refl (Builtin.Int.intBits b))
  have h3 : ¬ Builtin.Int.intBits b ≤ Builtin.Int.intBits b - 1 := by omega
  rw [intBits_le_iff] at h3
  have c1 := cast_pow (Builtin.Int.intBits b)
  have c2 := cast_pow (Builtin.Int.intBits b - 1)
  exact ⟨h1, by rw [← c2]; omega, by rw [← c1]; omega⟩
theorem digs_range (n : Nat) : ∀ (k : Nat) (x : Int), ∀ d ∈ digs n k x, 0 ≤ d ∧ d < 2 ^ n
  | 0, _, _, h => nomatch h
  | k + 1, x, d, h => by
    rcases List.mem_cons.mp h with rfl | h
    · exact ⟨Int.emod_nonneg _ (Int.ne_of_gt (pow_pos' n)), Int.emod_lt_of_pos _ (pow_pos' n)⟩
    · exact digs_range n k _ d h
theorem val_digs (n : Nat) : ∀ (k : Nat) (x : Int), 0 ≤ x → x < 2 ^ (n * k) → val n (digs n k x) = x
  | 0, x, h0, h1 => by
    rw [Nat.mul_zero] at h1
    show 0 = x
    have : (2 : Int) ^ 0 = 1 := rfl
    omega
  | k + 1, x, h0, h1 => by
    have hN := pow_pos' n
    rw [digs, val, val_digs n k _ (Int.ediv_nonneg h0 (Int.le_of_lt hN)) (Int.ediv_lt_of_lt_mul hN (by rw [← pow_add', ← Nat.mul_succ]; exact h1))]
    exact Int.emod_add_mul_ediv x (2 ^ n)
/-- long division, the highest figure first -/
def longQ (n : Nat) (b : Int) : Int → List Int → List Int
  | _, [] => []
  | r, d :: l => (r * 2 ^ n + d) / b :: longQ n b ((r * 2 ^ n + d) % b) l
def longR (n : Nat) (b : Int) : Int → List Int → Int
  | r, [] => r
  | r, d :: l => longR n b ((r * 2 ^ n + d) % b) l
theorem longR_snoc (n : Nat) (b d : Int) : ∀ (l : List Int) (r : Int), longR n b r (l ++ [d]) = (longR n b r l * 2 ^ n + d) % b
  | [], _ => rfl
  | _ :: l, _ => longR_snoc n b d l _
theorem longQ_snoc (n : Nat) (b d : Int) : ∀ (l : List Int) (r : Int), longQ n b r (l ++ [d]) = longQ n b r l ++ [(longR n b r l * 2 ^ n + d) / b]
  | [], _ => rfl
  | _ :: l, _ => congrArg _ (longQ_snoc n b d l _)
theorem longQ_len (n : Nat) (b : Int) : ∀ (l : List Int) (r : Int), (longQ n b r l).length = l.length
  | [], _ => rfl
  | _ :: l, _ => congrArg Nat.succ (longQ_len n b l _)
theorem long_pre {n : Nat} {b r d : Int} (hn : 1 ≤ n) (b0 : 2 ^ (n - 1) ≤ b) (b1 : b < 2 ^ n) (r0 : 0 ≤ r) (r1 : r < b) (d0 : 0 ≤ d) (d1 : d < 2 ^ n) : Pre21 (r * 2 ^ n + d) b n := by
  have h := Int.mul_le_mul_of_nonneg_right (show r + 1 ≤ b by omega) (Int.le_of_lt (pow_pos' n))
  rw [Int.add_mul, Int.one_mul] at h
  exact ⟨hn, Int.add_nonneg (Int.mul_nonneg r0 (Int.le_of_lt (pow_pos' n))) d0, b0, b1, by omega⟩
theorem long_ok {n : Nat} {b : Int} (hn : 1 ≤ n) (b0 : 2 ^ (n - 1) ≤ b) (b1 : b < 2 ^ n) : ∀ (l : List Int) (r : Int), 0 ≤ r → r < b → (∀ d ∈ l, 0 ≤ d ∧ d < 2 ^ n) →
    (0 ≤ longR n b r l ∧ longR n b r l < b) ∧ (∀ q ∈ longQ n b r l, 0 ≤ q ∧ q < 2 ^ n) ∧ val n (longQ n b r l).reverse * b + longR n b r l = val n l.reverse + r * 2 ^ (n * l.length)
  | [], r, r0, r1, _ => by
    refine ⟨⟨r0, r1⟩, (fun _ h => nomatch h), ?_⟩
    show 0 * b + r = 0 + r * 2 ^ (n * 0)
    rw [Nat.mul_zero, show (2 : Int) ^ 0 = 1 from rfl, Int.zero_mul, Int.mul_one]
  | d :: l, r, r0, r1, hd => by
    have hb : 0 < b := Int.lt_of_lt_of_le (pow_pos' _) b0
    obtain ⟨d0, d1⟩ := hd d (.head _)
    have p := long_pre hn b0 b1 r0 r1 d0 d1
    obtain ⟨h1, h2, h3⟩ := long_ok hn b0 b1 l _ (Int.emod_nonneg _ (Int.ne_of_gt hb)) (Int.emod_lt_of_pos (r * 2 ^ n + d) hb) fun x hx => hd x (.tail _ hx)
    refine ⟨h1, fun q hq => ?_, ?_⟩
    · rcases List.mem_cons.mp hq with rfl | hq
      · exact ⟨Int.ediv_nonneg p.a0 (Int.le_of_lt hb), Int.ediv_lt_of_lt_mul hb (by rw [Int.mul_comm (2 ^ n) b]; exact p.lt)⟩
      · exact h2 q hq
    · have e := Int.emod_add_mul_ediv (r * 2 ^ n + d) b
      show val n ((r * 2 ^ n + d) / b :: longQ n b ((r * 2 ^ n + d) % b) l).reverse * b + longR n b ((r * 2 ^ n + d) % b) l = _
      rw [val_rev, val_rev, longQ_len, Int.add_mul, Int.add_right_comm, h3, List.length_cons, Nat.mul_succ, Nat.add_comm (n * l.length), pow_add', ← Int.mul_assoc r]
      have e2 : (2 : Int) ^ (n * l.length) * ((r * 2 ^ n + d) / b) * b = b * ((r * 2 ^ n + d) / b) * 2 ^ (n * l.length) := by rw [Int.mul_assoc, Int.mul_comm, Int.mul_comm _ b]
      rw [e2, Int.add_assoc, ← Int.add_mul, e, Int.add_mul, Int.mul_comm d]
      omega
theorem FnSpec.mono {f : Addr} {d d' u u' : Nat} {args : List SV} {sv : SV} (a : FnSpec f d u args sv) (h : d ≤ d') (h2 : u ≤ u') : FnSpec f d' u' args sv :=
  fun G ρ Q Eh s vs F hd hu O R k => a G ρ Q Eh s vs F (Nat.le_trans h hd) (Nat.le_trans h2 hu) O R k
theorem iL_get {l : List Int} {i : Nat} {x : SV} (h : (iL l)[i]? = some x) : x = .int (l.getD i 0) ∧ i < l.length := by
  unfold iL at h
  rw [List.getElem?_map] at h
  cases q : l[i]? with
  | none => rw [q] at h; cases h
  | some n => rw [q] at h; cases h; exact ⟨by rw [List.getD_eq_getElem?_getD, q]; rfl, (List.getElem?_eq_some_iff.mp q).1⟩
theorem f_pos {a b : Int} (ha : 0 ≤ a) (hb : 0 < b) (hbits : Builtin.Int.intBits b ≤ 16000) (hK : nDigs a (Builtin.Int.intBits b) ≤ 40) : FnSpec 49 46 403 [.int a, .int b] (.tup [.int (a / b), .int (a % b)]) := by
  obtain ⟨n1, b0, b1⟩ := bits_range hb
  have hnd := nDigs_bits (a := a) n1
  generalize hn : Builtin.Int.intBits b = n at *
  have hds := digs_range n (nDigs a n) a
  have hv : val n (digs n (nDigs a n) a) = a := val_digs n _ a ha (by have := intBits_le_iff.mp hnd; rw [← cast_pow]; omega)
  have hlen := digs_length n (nDigs a n) a
  have hi := f_i2d (a := a) (n := n) n1 (by omega) ha hK
  generalize digs n (nDigs a n) a = ds at *
  have hl : ∀ d ∈ ds.reverse, 0 ≤ d ∧ d < 2 ^ n := fun d hd => hds d (List.mem_reverse.mp hd)
  have hlk : ∀ i : Nat, ∀ d ∈ ds.reverse.take i, 0 ≤ d ∧ d < 2 ^ n := fun i d hd => hl d (List.mem_of_mem_take hd)
  have ll : ds.reverse.length ≤ 40 := by rw [List.length_reverse]; omega
  obtain ⟨⟨z1, z2⟩, z3, z4⟩ := long_ok n1 b0 b1 ds.reverse 0 (Int.le_refl _) hb hl
  rw [List.reverse_reverse, hv, Int.zero_mul, Int.add_zero] at z4
  obtain ⟨w1, w2⟩ := div_of hb z4.symm z1 z2
  have dl := f_d2i (ns := (longQ n b 0 ds.reverse).reverse) (n := n) n1 (by omega) (by rw [List.length_reverse, longQ_len]; exact ll) (fun d hd => by obtain ⟨h1, h2⟩ := z3 d (List.mem_reverse.mp hd); exact Nat.le_trans (bits_lt h1 h2) (by omega))
  rw [← w1] at dl
  refine FnSpec.of_body (d := 45) (u := 400) (xs := ["a", "b"]) (by intro w; k_is) (by intro w; k_is) (fun s vs hl => by obtain ⟨x, y, rfl⟩ := len2 hl; exact BindsTo.of_eq rfl) (by decide) rfl (by decide) rfl rfl rfl (by decide) fun G A => ?_
  refine Rn.assign (sv := .int n) (Ev.cast (EvF.meth m_bitlen (Ev.name rfl) .nil Meth.bitlen intT).ev (by rw [hn])) (A.loc rfl) ?_
  refine Rn.assign (Ev.fn A g_i2d rfl (.cons (Ev.name rfl) (.cons (Ev.name rfl) .nil)) hi) (A.loc rfl) ?_
  refine Rn.assign Ev.int (A.loc rfl) ?_
  refine Rn.enter (l := []) (EvF.list .nil) (fun _ h => nomatch h) (A.loc rfl) rfl fun ad => ?_
  refine Rn.loop (ρs := fun i => [("r", .int (longR n b 0 (ds.reverse.take i))), ("n", .int n), ("b", .int b)]) (ρt := fun i => [("a_digit", .int (ds.reverse.getD i 0)), ("r", .int (longR n b 0 (ds.reverse.take i))), ("n", .int n), ("b", .int b)]) (fun i => some ("q_digits", ad, iL (longQ n b 0 (ds.reverse.take i)))) (xs := ["a_digit"]) (items := (iL ds).reverse) (ItEv.reversed (A.glb rfl) rfl) (.inr rfl) (fun _ => rfl) (.inr fun x hx => by obtain ⟨y, _, rfl⟩ := List.mem_map.mp (List.mem_reverse.mp hx); trivial) (sub_cons rfl (sub_cons rfl (sub_cons rfl sub_nil))) rfl (fun i x hx => ?_) (fun i hi => ?_) ?_
  · rw [show (iL ds).reverse = iL ds.reverse by unfold iL; rw [List.map_reverse]] at hx
    rw [(iL_get hx).1]
    exact AsgTo.name (A.loc rfl) ⟨by decide, trivial⟩
  · have hi' : i < ds.reverse.length := by rw [List.length_reverse] at hi ⊢; unfold iL at hi; rwa [List.length_map] at hi
    have hd := hl _ (List.getElem_mem hi')
    have et : ds.reverse.take (i + 1) = ds.reverse.take i ++ [ds.reverse[i]] := by rw [List.take_add_one, List.getElem?_eq_getElem hi']; rfl
    have eg : ds.reverse.getD i 0 = ds.reverse[i] := by rw [List.getD_eq_getElem?_getD, List.getElem?_eq_getElem hi']; rfl
    obtain ⟨⟨y1, y2⟩, _, _⟩ := long_ok n1 b0 b1 (ds.reverse.take i) 0 (Int.le_refl _) hb (hlk i)
    have lq : (iL (longQ n b 0 (ds.reverse.take i))).length ≤ sizeLine := by unfold iL; rw [List.length_map, longQ_len, List.length_take]; exact sl (by omega)
    show Rn G [("a_digit", .int (ds.reverse.getD i 0)), _, _, _] _ _ (.next [("r", .int (longR n b 0 (ds.reverse.take (i + 1)))), _, _] (some ("q_digits", ad, iL (longQ n b 0 (ds.reverse.take (i + 1))))))
    rw [et, eg, longR_snoc, longQ_snoc, show ∀ x y : List Int, iL (x ++ y) = iL x ++ iL y from fun x y => List.map_append ..]
    generalize ds.reverse[i] = dg at hd
    generalize longR n b 0 (ds.reverse.take i) = r at y1 y2
    refine Rn.assignT (xs := ["q_digit", "r"]) (Ev.fn A g_div2 rfl (.cons (Ev.bin (ev_l (Ev.name rfl) (Ev.name rfl) (Nat.le_trans (bits_lt y1 (show r < 2 ^ n by omega)) (by omega)) (by omega)) (Ev.name rfl) Bin.add_int) (.cons (Ev.name rfl) (.cons (Ev.name rfl) .nil))) (f_div2 2 n (r * 2 ^ n + dg) b (by omega) (by omega) (long_pre n1 b0 b1 y1 y2 hd.1 hd.2))) (AsgTo.tup rfl (fun x hx => by rcases List.mem_cons.mp hx with rfl | hx; exact A.loc rfl; rw [List.mem_singleton.mp hx]; exact A.loc rfl) rfl rfl rfl (hf := fun p hp => ?_)) ?_
    · rcases List.mem_cons.mp hp with rfl | hp
      · exact ⟨show ("q_digit" : Str) ≠ "q_digits" by decide, trivial⟩
      · rw [List.mem_singleton.mp hp]; exact ⟨show ("r" : Str) ≠ "q_digits" by decide, trivial⟩
    · exact Rn.append (Ev.name rfl) trivial lq (Rn.done (sub_cons rfl (sub_cons rfl (sub_cons rfl sub_nil))))
  · rw [show (iL ds).reverse.length = ds.reverse.length by unfold iL; rw [List.length_reverse, List.length_map, List.length_reverse], List.take_of_length_le (Nat.le_refl _), w2.symm]
    refine Rn.reverse (by unfold iL; rw [List.length_map, longQ_len]; exact sl (by omega)) (Rn.freeze ?_)
    rw [show (iL (longQ n b 0 ds.reverse)).reverse = iL (longQ n b 0 ds.reverse).reverse by unfold iL; rw [List.map_reverse]]
    exact Rn.assign (Ev.fn A g_d2i rfl (.cons (Ev.name rfl) (.cons (Ev.name rfl) .nil)) dl) (A.loc rfl) (Rn.ret (ev_tup (.cons (Ev.name rfl) (.cons (Ev.name rfl) .nil))))
theorem bnot (x : Int) : Builtin.bitNot x = -x - 1 := by unfold Builtin.bitNot; omega
theorem nDigs_le {a : Int} {n k : Nat} (hn : 1 ≤ n) (h : Builtin.Int.intBits a ≤ k * n) : nDigs a n ≤ k := by
  unfold nDigs
  exact Nat.le_of_lt_succ ((Nat.div_lt_iff_lt_mul hn).mpr (by rw [Nat.succ_mul]; omega))
theorem f_dm {a b : Int} (hb : b ≠ 0) (hbits : Builtin.Int.intBits b ≤ 16000) (hK : Builtin.Int.intBits a ≤ 39 * Builtin.Int.intBits b) : FnSpec 56 60 480 [.int a, .int b] (.tup [.int (a.fdiv b), .int (a.fmod b)]) := by
  have hp := bits_pos hb
  have bn : ∀ x : Int, Builtin.Int.intBits (-x) = Builtin.Int.intBits x := fun x => by unfold Builtin.Int.intBits; rw [Int.natAbs_neg, show (-x == 0) = (x == 0) by rw [Bool.eq_iff_iff]; simp]
  -- 0 <= a, 0 < b
  have c1 : ∀ {a b : Int}, 0 ≤ a → 0 < b → Builtin.Int.intBits b ≤ 16000 → Builtin.Int.intBits a ≤ 40 * Builtin.Int.intBits b → FnSpec 56 47 406 [.int a, .int b] (.tup [.int (a.fdiv b), .int (a.fmod b)]) := fun {a b} ha hb h1 h2 => by
    rw [Int.fdiv_eq_ediv_of_nonneg a (Int.le_of_lt hb), Int.fmod_eq_emod_of_nonneg a (Int.le_of_lt hb)]
    refine FnSpec.of_body (d := 46) (u := 403) (xs := ["a", "b"]) (by intro w; k_is) (by intro w; k_is) (fun s vs hl => by obtain ⟨x, y, rfl⟩ := len2 hl; exact BindsTo.of_eq rfl) (by decide) rfl (by decide) rfl rfl rfl (by decide) fun G A => ?_
    refine Rn.iteRet (b := false) (Tst.cast (Tst.cmp (Ev.name rfl) Ev.int (Cmp.eq rfl rfl)) (by rw [eqv_int]; exact beq_eq_false_iff_ne.mpr (Int.ne_of_gt hb))) ?_
    refine Rn.iteRet (b := false) (Tst.cast (Tst.cmp (Ev.name rfl) Ev.int Cmp.lt) (decide_eq_false (by omega))) ?_
    refine Rn.iteRet (b := false) (Tst.cast (Tst.cmp (Ev.name rfl) Ev.int Cmp.lt) (decide_eq_false (by omega))) ?_
    exact Rn.ret (Ev.fn A g_pos rfl (.cons (Ev.name rfl) (.cons (Ev.name rfl) .nil)) (f_pos ha hb h1 (nDigs_le (bits_pos (Int.ne_of_gt hb)) h2)))
  -- 0 < b
  have c2 : ∀ {a b : Int}, 0 < b → Builtin.Int.intBits b ≤ 16000 → Builtin.Int.intBits a ≤ 39 * Builtin.Int.intBits b → FnSpec 56 48 409 [.int a, .int b] (.tup [.int (a.fdiv b), .int (a.fmod b)]) := fun {a b} hb h1 h2 => by
    have hpb := bits_pos (Int.ne_of_gt hb)
    by_cases ha : 0 ≤ a
    · exact (c1 ha hb h1 (by omega)).mono (by decide) (by decide)
    have hn : Builtin.bitNot a = -a - 1 := bnot a
    have ba : Builtin.Int.intBits (-a - 1) ≤ 40 * Builtin.Int.intBits b := by
      rw [intBits_le_iff]
      have := intBits_le_iff.mp (show Builtin.Int.intBits a ≤ 40 * Builtin.Int.intBits b by omega)
      omega
    have e1 : Builtin.bitNot ((-a - 1).fdiv b) = a.fdiv b ∧ b + Builtin.bitNot ((-a - 1).fmod b) = a.fmod b := by
      rw [bnot, bnot]
      have h3 := Int.mul_fdiv_add_fmod (-a - 1) b
      have h4 := Int.fmod_nonneg_of_pos (-a - 1) hb
      have h5 := Int.fmod_lt_of_pos (-a - 1) hb
      generalize (-a - 1).fdiv b = q at *
      generalize (-a - 1).fmod b = r at *
      rw [Int.fdiv_eq_ediv_of_nonneg a (Int.le_of_lt hb), Int.fmod_eq_emod_of_nonneg a (Int.le_of_lt hb)]
      obtain ⟨y1, y2⟩ := div_of (a := a) (q := -q - 1) (r := b + (-r - 1)) hb (by rw [Int.sub_mul, Int.neg_mul, Int.one_mul, Int.mul_comm q b]; omega) (by omega) (by omega)
      exact ⟨y1.symm, y2.symm⟩
    have s := c1 (a := -a - 1) (by omega) hb h1 ba
    refine FnSpec.of_body (d := 47) (u := 406) (xs := ["a", "b"]) (by intro w; k_is) (by intro w; k_is) (fun s vs hl => by obtain ⟨x, y, rfl⟩ := len2 hl; exact BindsTo.of_eq rfl) (by decide) rfl (by decide) rfl rfl rfl (by decide) fun G A => ?_
    refine Rn.iteRet (b := false) (Tst.cast (Tst.cmp (Ev.name rfl) Ev.int (Cmp.eq rfl rfl)) (by rw [eqv_int]; exact beq_eq_false_iff_ne.mpr (Int.ne_of_gt hb))) ?_
    refine Rn.iteRet (b := false) (Tst.cast (Tst.cmp (Ev.name rfl) Ev.int Cmp.lt) (decide_eq_false (by omega))) ?_
    refine Rn.iteRet (b := true) (Tst.cast (Tst.cmp (Ev.name rfl) Ev.int Cmp.lt) (decide_eq_true (by omega))) ?_
    refine Rn.assignT (xs := ["q", "r"]) (Ev.fn A g_divmod rfl (.cons (Ev.cast (Ev.un (Ev.name rfl) Un.inv) (congrArg SV.int hn)) (.cons (Ev.name rfl) .nil)) s) (AsgTo.tup rfl (fun x hx => by rcases List.mem_cons.mp hx with rfl | hx; exact A.loc rfl; rw [List.mem_singleton.mp hx]; exact A.loc rfl) rfl rfl rfl) ?_
    exact Rn.ret (ev_tup (.cons (Ev.cast (Ev.un (Ev.name rfl) Un.inv) (congrArg SV.int e1.1)) (.cons (Ev.cast (Ev.bin (Ev.name rfl) (Ev.un (Ev.name rfl) Un.inv) Bin.add_int) (congrArg SV.int e1.2)) .nil)))
  by_cases hb0 : 0 < b
  · exact (c2 hb0 hbits hK).mono (by decide) (by decide)
  have s := c2 (a := -a) (b := -b) (by omega) (by rw [bn]; exact hbits) (by rw [bn, bn]; exact hK)
  rw [Int.neg_fdiv_neg, Int.neg_fmod_neg] at s
  refine FnSpec.mono (d := 49) (u := 412) ?_ (by decide) (by decide)
  refine FnSpec.of_body (d := 48) (u := 409) (xs := ["a", "b"]) (by intro w; k_is) (by intro w; k_is) (fun s vs hl => by obtain ⟨x, y, rfl⟩ := len2 hl; exact BindsTo.of_eq rfl) (by decide) rfl (by decide) rfl rfl rfl (by decide) fun G A => ?_
  refine Rn.iteRet (b := false) (Tst.cast (Tst.cmp (Ev.name rfl) Ev.int (Cmp.eq rfl rfl)) (by rw [eqv_int]; exact beq_eq_false_iff_ne.mpr hb)) ?_
  refine Rn.iteRet (b := true) (Tst.cast (Tst.cmp (Ev.name rfl) Ev.int Cmp.lt) (decide_eq_true (by omega))) ?_
  refine Rn.assignT (xs := ["q", "r"]) (Ev.fn A g_divmod rfl (.cons (Ev.un (Ev.name rfl) Un.neg) (.cons (Ev.un (Ev.name rfl) Un.neg) .nil)) s) (AsgTo.tup rfl (fun x hx => by rcases List.mem_cons.mp hx with rfl | hx; exact A.loc rfl; rw [List.mem_singleton.mp hx]; exact A.loc rfl) rfl rfl rfl) ?_
  exact Rn.ret (ev_tup (.cons (Ev.name rfl) (.cons (Ev.cast (Ev.un (Ev.name rfl) Un.neg) (congrArg SV.int (Int.neg_neg _))) .nil)))

theorem fill20 : fillDummy PySem.Challenge.rw_ti0025_01 hd.heap_1 := by
  k_fill
  trivial
/-- all words of i signs -/
def uni {α : Type} (p q : α) : Nat → List (List α)
  | 0 => [[]]
  | i + 1 => (uni p q i).flatMap fun x => [[p], [q]].map (x ++ ·)
/-- how many figures -/
def figs (m : Nat) : Nat := if m < 8 then 3 else 4
def bitsOf (m : Nat) : List Nat := (List.range (figs m)).map fun k => m / 2 ^ k % 2
def wOf {α : Type} (p q : α) (m : Nat) : List α := (bitsOf m).dropLast.map fun b => if b = 0 then p else q
def Ds (l : List Nat) : List Int := l.map fun (x : Nat) => (x : Int)
theorem bits_ok : ∀ m : Nat, m < 16 → 4 ≤ m → digs 1 (nDigs (m : Int) 1) (m : Int) = Ds (bitsOf m) ∧ nDigs (m : Int) 1 ≤ 40 := by decide
theorem wOf_ok (p q : Nat) (hp : p ≠ 46 ∧ p < 200) (hq : q ≠ 46 ∧ q < 200) : ∀ m, m < 16 → 4 ≤ m → wOf p q m ≠ [] ∧ Wd (wOf p q m) ∧ (wOf p q m).length ≤ 10 := by
  intro m h1 h2
  have hl : (wOf p q m).length = figs m - 1 := by unfold wOf bitsOf; rw [List.length_map, List.length_dropLast, List.length_map, List.length_range]
  have hf : 3 ≤ figs m ∧ figs m ≤ 4 := by unfold figs; split <;> decide
  refine ⟨fun e => by rw [e] at hl; have : (0 : Nat) = figs m - 1 := hl; omega, fun c hc => ?_, by omega⟩
  obtain ⟨b, _, rfl⟩ := List.mem_map.mp hc
  split
  · exact hp
  · exact hq
theorem chars_two (p q : Nat) : (mk [p, q]).cps.toList.map (fun c => SV.str ⟨#[c]⟩) = sN [[p], [q]] := rfl
theorem toN_get {n i : Nat} {x : SV} (h : (toN n)[i]? = some x) : x = .int (i : Int) ∧ i < n := by
  unfold toN at h
  rw [List.getElem?_map] at h
  rcases Nat.lt_or_ge i n with k | k
  · rw [List.getElem?_range k] at h; cases h; exact ⟨rfl, k⟩
  · rw [List.getElem?_eq_none (by rw [List.length_range]; exact k)] at h; cases h
theorem int_inj' (a b : Nat) (e : SV.int (a : Int) = SV.int (b : Int)) : a = b := by injection e with e; exact Int.ofNat.inj e
/-- the remainder of a cell -/
def rem12 (c : Int) : Nat := (c.fmod 12).toNat
theorem rem12_eq (c : Int) : c.fmod 12 = (rem12 c : Int) := (Int.toNat_of_nonneg (Int.fmod_nonneg_of_pos c (by decide))).symm
theorem rem12_lt (c : Int) : rem12 c < 12 := by
  have := Int.fmod_lt_of_pos c (show (0 : Int) < 12 by decide)
  unfold rem12; omega
def codes {α : Type} [BEq α] (p q : α) (c0 : List (List α)) (cs : List Int) : List (List α) := cs.foldl (fun code c => grow code (wOf p q (4 + rem12 c))) c0
def Good (code : List (List Nat)) : Prop := (∀ x ∈ code, Wd x) ∧ (∀ x ∈ code, x.length ≤ 100) ∧ code.length ≤ 100
theorem no_long : ∀ m : Nat, m < 16 → ∀ k : Nat, k < 4 → Builtin.divisionGoesByPylong (m : Int) (2 ^ k) = false := by decide
theorem shp_iL (l : List Int) : shp (.list (iL l)) = true := shp_list fun x hx => by obtain ⟨w, _, rfl⟩ := List.mem_map.mp hx; rfl
theorem eqvs_iL : ∀ a b : List Int, eqvs (iL a) (iL b) = (a == b)
  | [], [] => rfl
  | [], _ :: _ => rfl
  | _ :: _, [] => rfl
  | x :: r, y :: q => by
    show (PyData.eqv (.int x) (.int y) && eqvs (iL r) (iL q)) = _
    rw [eqvs_iL r q]; rfl
theorem eqv_iL (a b : List Int) : eqv (.list (iL a)) (.list (iL b)) = (a == b) := eqvs_iL a b
theorem flat_single {α β : Type} (f : α → β) (l : List α) : (l.map fun b => [f b]).flatten = l.map f := by
  induction l with
  | nil => rfl
  | cons a l ih => rw [List.map_cons, List.flatten_cons, ih]; rfl
theorem uni_ok (p q : Nat) : ∀ i, (uni p q i).length = 2 ^ i ∧ ∀ x ∈ uni p q i, x.length = i
  | 0 => ⟨rfl, fun x hx => by rw [List.mem_singleton.mp hx]; rfl⟩
  | i + 1 => by
    obtain ⟨h1, h2⟩ := uni_ok p q i
    constructor
    · show ((uni p q i).flatMap _).length = _
      rw [List.length_flatMap, List.map_congr_left (g := fun _ => 2) fun x _ => List.length_map _, List.map_const', List.sum_replicate_nat, h1, Nat.pow_succ]
    · intro x hx
      obtain ⟨y, hy, hx⟩ := List.mem_flatMap.mp hx
      obtain ⟨z, hz, rfl⟩ := List.mem_map.mp hx
      have lz : z.length = 1 := by rcases List.mem_cons.mp hz with rfl | hz; rfl; rw [List.mem_singleton.mp hz]; rfl
      rw [List.length_append, h2 y hy, lz]
theorem f_code {c : List Int} {p q n : Nat} (hp : p ≠ 46 ∧ p < 200) (hq : q ≠ 46 ∧ q < 200) (hn : n ≤ 4) (hc : c.length = 8) (hg : ∀ i, i ≤ 3 → Good (codes p q (uni p q n) (((c.take 4).drop 1).take i))) : FnSpec 141 46 403 [.list (iL c), S [p, q], .int n] (.list (sN (codes p q (uni p q n) ((c.take 4).drop 1)))) := by
  have hu : ∀ i, i ≤ 4 → (uni p q i).length ≤ 16 ∧ ∀ x ∈ uni p q i, x.length ≤ 4 := fun i hi => ⟨by rw [(uni_ok p q i).1]; exact Nat.pow_le_pow_right (by decide) hi, fun x hx => by rw [(uni_ok p q i).2 x hx]; exact hi⟩
  refine FnSpec.of_body (d := 45) (u := 400) (xs := ["cells", "signs", "balls"]) (by intro w; k_is) (by intro w; k_is) (fun s vs hl => by obtain ⟨x, y, z, rfl⟩ := len3 hl; exact BindsTo.of_eq rfl) (by decide) rfl (by decide) rfl rfl rfl (by decide) fun G A => ?_
  refine Rn.assign (ev_lst (l := sN [[]]) (.cons Ev.str .nil)) (A.loc rfl) ?_
  refine Rn.loop (ρs := fun i => [("code", .list (sN (uni p q i))), ("signs", S [p, q]), ("cells", .list (iL c))]) (ρt := fun i => [("k", .int i), ("code", .list (sN (uni p q i))), ("signs", S [p, q]), ("cells", .list (iL c))]) (fun _ => none) (xs := ["k"]) (items := toN n) (ItEv.range (A.glb rfl) (Ev.name rfl) (by omega)) (.inl rfl) (fun _ => rfl) (.inl rfl) (sub_cons rfl (sub_cons rfl (sub_cons rfl sub_nil))) rfl (fun i x hx => ?_) (fun i hi => ?_) ?_
  · rw [(toN_get hx).1]
    exact AsgTo.name (A.loc rfl)
  · have hi' : i < n := by simpa [toN] using hi
    obtain ⟨h1, h2⟩ := hu i (by omega)
    refine rn_assignComp (comp2M (as := uni p q i) (bs := [[p], [q]]) A (by decide) (by decide) (ρc := [("signs", S [p, q])]) (fr_cons rfl rfl fr_nil) (ItEv.listN rfl) (fun G' A' a ha => ItEv.str (x := mk [p, q]) (Ev.name rfl)) (fun x y => x ++ y) (fun G' A' x hx y hy => ?_) (sl (by show _ * 2 ≤ _; omega)) rfl) (A.kind _ _ rfl (fun z => nomatch z)) (Rn.done (sub_cons rfl (sub_cons rfl (sub_cons rfl sub_nil))))
    have ly : y.length = 1 := by rcases List.mem_cons.mp hy with rfl | hy; rfl; rw [List.mem_singleton.mp hy]; rfl
    have lx := h2 x hx
    exact Ev.fn A' g_concat rfl (.cons (Ev.name rfl) (.cons (Ev.name rfl) .nil)) (f_cat rfl (by rw [List.length_append]; omega))
  rw [show (toN n).length = n by simp [toN]]
  generalize uni p q n = c0 at hg
  refine Rn.loop (ρs := fun i => [("code", .list (sN (codes p q c0 (((c.take 4).drop 1).take i)))), ("signs", S [p, q])]) (ρt := fun i => [("cell", .int (((c.take 4).drop 1).getD i 0)), ("code", .list (sN (codes p q c0 (((c.take 4).drop 1).take i)))), ("signs", S [p, q])]) (fun _ => none) (xs := ["cell"]) (items := iL ((c.take 4).drop 1)) (ItEv.listF (EvF.slice (Ev.name rfl) (.some Ev.int) (.some Ev.int) .none (by decide) (sl (by simp [iL]; omega)) (by rw [show (iL ((c.take 4).drop 1)) = ((iL c).take 4).drop 1 by simp [iL, List.map_take]]; exact cut_run _ 1 4))) (.inl rfl) (fun _ => rfl) (.inl rfl) (sub_cons rfl (sub_cons rfl sub_nil)) rfl (fun i x hx => ?_) (fun i hi => ?_) ?_
  · have hi : i < ((c.take 4).drop 1).length := by have := (List.getElem?_eq_some_iff.mp hx).1; rwa [show (iL ((c.take 4).drop 1)).length = ((c.take 4).drop 1).length from List.length_map _] at this
    have : x = .int (((c.take 4).drop 1).getD i 0) := by
      unfold iL at hx
      rw [List.getElem?_map, List.getElem?_eq_getElem hi] at hx
      rw [List.getD_eq_getElem?_getD, List.getElem?_eq_getElem hi]
      cases hx; rfl
    rw [this]
    exact AsgTo.name (A.loc rfl)
  · have hi : i < ((c.take 4).drop 1).length := by rwa [show (iL ((c.take 4).drop 1)).length = ((c.take 4).drop 1).length from List.length_map _] at hi
    have hi3 : i < 3 := by rw [List.length_drop, List.length_take] at hi; omega
    have hs : codes p q c0 (((c.take 4).drop 1).take (i + 1)) = grow (codes p q c0 (((c.take 4).drop 1).take i)) (wOf p q (4 + rem12 (((c.take 4).drop 1).getD i 0))) := by
      unfold codes
      rw [List.take_add_one, List.getElem?_eq_getElem hi, List.getD_eq_getElem?_getD, List.getElem?_eq_getElem hi, List.foldl_append]; rfl
    obtain ⟨g1, g2, g3⟩ := hg i (by omega)
    rw [hs]
    generalize codes p q c0 (((c.take 4).drop 1).take i) = code at g1 g2 g3
    generalize ((c.take 4).drop 1).getD i 0 = x
    have hm : 4 + rem12 x < 16 := by have := rem12_lt x; omega
    have hx4 : (4 : Int) + x.fmod 12 = ((4 + rem12 x : Nat) : Int) := by rw [rem12_eq, Int.natCast_add]; rfl
    generalize 4 + rem12 x = m at hm hx4
    have h4 : 4 ≤ m := by have := rem12_eq x; omega
    obtain ⟨b1, b2⟩ := bits_ok m hm h4
    obtain ⟨w1, w2, w3⟩ := wOf_ok p q hp hq m hm h4
    refine Rn.assign (Ev.cast (Ev.fn A g_add rfl (.cons Ev.int (.cons (Ev.bin (Ev.name rfl) Ev.int (Bin.mod_int (by decide))) .nil)) (f_add Bin.add_int)) (congrArg SV.int hx4)) (A.cel rfl) ?_
    refine Rn.assign (Ev.cast (Ev.fn A g_i2d rfl (.cons (Ev.name rfl) (.cons Ev.int .nil)) (f_i2d (a := (m : Int)) (n := 1) (by decide) (by decide) (Int.natCast_nonneg _) b2)) (by rw [b1])) (A.loc rfl) ?_
    refine Rn.ite (b := false) (Tst.op (.orF (Tst.cast (Tst.cmp (Ev.name rfl) Ev.none (Cmp.is rfl)) rfl) (.orF (Tst.cast (Tst.cmp (Ev.name rfl) (comp1M (as := List.range (figs m)) (gi := fun k => .int (k : Int)) int_inj' A (by decide) (ρc := [("number", .int (m : Int))]) (fr_cons rfl rfl fr_nil) (ItEv.range (n := figs m) (A.glb rfl) (Ev.ite (b := decide ((m : Int) < 8)) (Tst.cmp (Ev.name rfl) Ev.int Cmp.lt) ?_) ?_) (fun _ => true) (fun k => .int ((m / 2 ^ k % 2 : Nat) : Int)) (fun _ _ _ _ => Tsts.nil) (fun G' A' k hk _ => ?_) (fun _ => .inl trivial) ?_ (out := iL (Ds (bitsOf m))) ?_).evF.ev (Cmp.ne (shp_iL _) (shp_iL _))) (by rw [eqv_iL, beq_self_eq_true]; rfl)) .orNil))) Rn.nil ?_
    · unfold figs
      by_cases h : m < 8
      · rw [decide_eq_true (by omega), if_pos h]; exact Ev.int
      · rw [decide_eq_false (by omega), if_neg h]; exact Ev.int
    · unfold figs; split <;> decide
    · have hk4 : k < 4 := Nat.lt_of_lt_of_le (List.mem_range.mp hk) (by unfold figs; split <;> decide)
      have e : ((m : Int).fdiv (2 ^ ((k : Nat) : Int).toNat)).fmod 2 = ((m / 2 ^ k % 2 : Nat) : Int) := by
        rw [Int.toNat_natCast, fdiv_pow, Int.fmod_eq_emod_of_nonneg _ (by decide), Int.natCast_emod, Int.natCast_ediv, cast_pow]; rfl
      rw [← e]
      have hp2 : (Builtin.Int.intBits 2 : Int) * ((k : Nat) : Int) ≤ 2 ^ 27 := by rw [show Builtin.Int.intBits 2 = 2 by decide]; omega
      exact Ev.bin (Ev.bin (Ev.name rfl) (Ev.bin Ev.int (Ev.name rfl) (Bin.pow_int (Int.natCast_nonneg _) hp2)) (Bin.fdiv_int (Int.ne_of_gt (pow_pos' _)) (by rw [Int.toNat_natCast]; exact no_long m hm k hk4))) Ev.int (Bin.mod_int (by decide))
    · rw [List.length_range]; unfold figs; split <;> exact lenOk rfl
    · rw [List.filter_eq_self.mpr fun _ _ => rfl]; unfold iL Ds bitsOf; rw [List.map_map, List.map_map]; rfl
    have hb1 : ∀ b ∈ (bitsOf m).dropLast, b = 0 ∨ b = 1 := fun b hb => by
      obtain ⟨k, _, rfl⟩ := List.mem_map.mp ((List.dropLast_sublist _).subset hb)
      exact Nat.mod_two_eq_zero_or_one _
    have lb : (bitsOf m).dropLast.length ≤ 4 := by unfold bitsOf; rw [List.length_dropLast, List.length_map, List.length_range]; unfold figs; split <;> decide
    refine Rn.assign (Ev.fn A g_grown rfl (.cons (Ev.name rfl) (.cons (EvF.meth m_join Ev.str (.cons (comp1M (as := (bitsOf m).dropLast) (gi := fun b => .int (b : Int)) int_inj' A (by decide) (ρc := [("signs", S [p, q])]) (fr_cons rfl rfl fr_nil) (ItEv.listF (EvF.slice (Ev.name rfl) .none (.some (Ev.un Ev.int Un.neg)) .none (by decide) ?_ ?_)) (fun _ => true) (fun b => S [if b = 0 then p else q]) (fun _ _ _ _ => Tsts.nil) (fun G' A' b hb _ => ?_) (fun _ => .inl trivial) (sl (by omega)) (out := sN ((bitsOf m).dropLast.map fun b => [if b = 0 then p else q])) ?_).evF.ev .nil) (Meth.joinNone ?_ ?_) strT).ev .nil)) (Eq.mpr (by rw [flat_single]; rfl) (f_grown g1 g2 g3 w1 w2 w3))) (A.loc rfl) (Rn.done (sub_cons rfl (sub_cons rfl sub_nil)))
    · unfold iL Ds bitsOf; rw [List.length_map, List.length_map, List.length_map, List.length_range]; unfold figs; split <;> exact lenOk rfl
    · rw [cut_init]; unfold iL Ds; rw [List.map_map, List.map_dropLast]; rfl
    · rcases hb1 b hb with rfl | rfl
      · exact Ev.sub (Ev.name rfl) (Ev.name rfl) (Get.str (l := [p, q]) (i := 0) rfl (by show 2 < 1000000; decide))
      · exact Ev.sub (Ev.name rfl) (Ev.name rfl) (Get.str (l := [p, q]) (i := 1) rfl (by show 2 < 1000000; decide))
    · rw [List.filter_eq_self.mpr fun _ _ => rfl]; unfold sN; rw [List.map_map]; rfl
    · intro w hw
      obtain ⟨b, _, rfl⟩ := List.mem_map.mp hw
      exact (show 1 ≤ 1000 by decide)
    · rw [List.length_map]; omega
  · rw [show (iL ((c.take 4).drop 1)).length = ((c.take 4).drop 1).length from List.length_map _, List.take_of_length_le (Nat.le_refl _)]
    exact Rn.ret (Ev.name rfl)

theorem fill21 : fillDummy PySem.Challenge.rw_ti0025_01 hd.heap_1 := by
  k_fill
  trivial
theorem Fm.units1 {G : Ctx} (F : Fm G) : G.A.units + 1 + 60 < cLine := by have := F.units; omega
theorem dats_any (w : List Nat) : ∀ ws : List (List Nat), ((dats (sN ws)).any fun y => PyData.eqv y (dat (S w))) = ws.contains w
  | [] => rfl
  | x :: r => by
    show ((mk x == mk w) || (dats (sN r)).any _) = _
    rw [dats_any w r, List.contains_cons]
    congr 1
    by_cases h : x = w
    · subst h; rw [beq_self_eq_true, beq_self_eq_true]
    · rw [beq_eq_false_iff_ne.mpr fun e => h (S_inj x w (congrArg SV.str e)), beq_eq_false_iff_ne.mpr fun e => h e.symm]
theorem Cmp.in_sN {w : List Nat} {ws : List (List Nat)} (hw : Wd w) (h : ∀ x ∈ ws, Wd x) : Cmp .In (S w) (.list (sN ws)) (ws.contains w) := fun G ρ Q Eh s va vb F O ra rb k => by
  obtain ⟨as, ra⟩ := ra.reads
  obtain ⟨bs, rb⟩ := rb.reads
  obtain ⟨l1, l2⟩ := lay_flat (l := sN ws) fun x hx => by obtain ⟨v, hv, rfl⟩ := List.mem_map.mp hx; exact (h v hv).ok
  refine PySem.SeqAt.in_list_reads rb ra l1 (hw.ok) ?_ (by rw [dats_any]; exact k s.toks)
  rw [l2]
  exact Nat.lt_of_le_of_lt (Nat.add_le_add_left (Nat.le_trans (Nat.min_le_left _ _) (Nat.zero_le 60)) _) F.units1
/-- the one word of a code for which the test holds -/
theorem f_oneP {code : List (List Nat)} {t : List Nat → Bool} {w : List Nat} (nd : code.Nodup) (c2 : 2 ≤ code.length) (hl : code.length ≤ 100) (hw : w ∈ code) (ht : ∀ x ∈ code, t x = decide (x = w)) : FnSpec 160 2 6 [.list (sN code), .list (bL (code.map t))] (S w) := by
  obtain ⟨k, hk, e⟩ := List.getElem_of_mem hw
  have e' : code[k]? = some w := by rw [List.getElem?_eq_getElem hk, e]
  refine f_one (k := k) ?_ (fun i ne => ?_) (by rw [List.length_map]; exact c2) (by rw [List.length_map]; omega) (by unfold sN; rw [List.getElem?_map, e']; rfl) (by rw [sN_len]; omega)
  · rw [List.getElem?_map, e', Option.map_some, ht w hw, decide_eq_true rfl]
  · rw [List.getD_eq_getElem?_getD, List.getElem?_map]
    cases q : code[i]? with
    | none => rfl
    | some x =>
      obtain ⟨hi, ex⟩ := List.getElem?_eq_some_iff.mp q
      rw [Option.map_some, Option.getD_some, ht x (List.mem_of_getElem? q)]
      refine decide_eq_false fun z => ne ?_
      subst z
      exact (List.getElem_inj nd).mp (ex.trans e.symm)
/-- where a word that ends at i begins -/
def st (n i L : Nat) : Nat := (((i : Int) - L).fmod n).toNat
theorem st_ok {n i L : Nat} (hi : i < n) : st n i L < n ∧ ((L : Int) - i).fmod (-(n : Int)) = -(st n i L : Int) ∧ ((L : Int) - i).fdiv (-(n : Int)) = -(((st n i L + L) / n : Nat) : Int) ∧ (st n i L + L) % n = i := by
  have hn : (0 : Int) < n := by omega
  have h0 : ((st n i L : Nat) : Int) = ((i : Int) - L).fmod n := Int.toNat_of_nonneg (Int.fmod_nonneg_of_pos _ hn)
  have h1 := Int.fmod_lt_of_pos ((i : Int) - L) hn
  have h2 := Int.mul_fdiv_add_fmod ((i : Int) - L) n
  have e1 : ((L : Int) - i) = -((i : Int) - L) := by omega
  rw [e1, Int.neg_fmod_neg, Int.neg_fdiv_neg, h0]
  generalize ((i : Int) - L).fdiv n = q at *
  rw [← h0] at h1 h2
  generalize st n i L = r at *
  have e2 : ((r + L : Nat) : Int) = i + n * (-q) := by rw [Int.natCast_add, Int.mul_neg]; omega
  refine ⟨by omega, rfl, ?_, ?_⟩
  · rw [Int.natCast_ediv, e2, Int.add_mul_ediv_left _ _ (by omega), Int.ediv_eq_zero_of_lt (Int.natCast_nonneg _) (by omega)]; omega
  · have : (((r + L) % n : Nat) : Int) = i := by rw [Int.natCast_emod, e2, Int.add_mul_emod_self_left]; exact Int.emod_eq_of_lt (Int.natCast_nonneg _) (by omega)
    exact Int.ofNat.inj this
/-- the ring, often enough -/
def strip {α : Type} (ring : List α) (top : Nat) : List α := (List.replicate (top + 1) ring).flatten
theorem strip_len {α : Type} (ring : List α) (top : Nat) : (strip ring top).length = ring.length * top + ring.length := by
  unfold strip
  rw [List.length_flatten, List.map_replicate, List.sum_replicate_nat, Nat.mul_comm, Nat.mul_succ]
/-- what is known of a code and a ring -/
structure Rounds (code : List (List Nat)) (ring : List Nat) (top balls : Nat) (W V : Nat → List Nat) : Prop where
  r0 : ring ≠ []
  rl : ring.length ≤ 4
  rw' : Wd ring
  nd : code.Nodup
  c2 : 2 ≤ code.length
  good : Good code
  ne : ∀ x ∈ code, x ≠ []
  t1 : 1 ≤ top
  tm : top ∈ code.map List.length
  tx : ∀ x ∈ code, x.length ≤ top
  w : ∀ i, i < ring.length → W i ∈ code ∧ ∀ x ∈ code, x.isPrefixOf ((strip ring top).drop i) = decide (x = W i)
  v : ∀ i, i < ring.length → V i ∈ code ∧ ∀ x ∈ code, x.isSuffixOf ((strip ring top).take (ring.length * top + i)) = decide (x = V i)
  land : (List.range ring.length).Perm ((List.range ring.length).map fun i => (i + (W i).length) % ring.length)
  sum : ((List.range ring.length).map fun i => (i + (W i).length) / ring.length).sum = balls
  back : ∀ i, i < ring.length → W (st ring.length i (V i).length) = V i
  seen : ∀ x ∈ code, ellip (mk ((strip ring top).take (ring.length - 1 + x.length))) ([[], x, []].map mk) = ((List.range ring.length).map W).contains x
def thr (n : Nat) (W : Nat → List Nat) : List (Int × Nat) := (List.range n).map fun i => ((((i + (W i).length) / n : Nat) : Int), (i + (W i).length) % n)
theorem thr_get {n i : Nat} {W : Nat → List Nat} (h : i < n) : (thr n W)[i]? = some ((((i + (W i).length) / n : Nat) : Int), (i + (W i).length) % n) := by
  unfold thr
  rw [List.getElem?_map, List.getElem?_range h]; rfl
theorem ws_get {n i : Nat} {W : Nat → List Nat} (h : i < n) : ((List.range n).map W)[i]? = some (W i) := by
  rw [List.getElem?_map, List.getElem?_range h]; rfl
theorem toN_iL (n : Nat) : toN n = iL ((List.range n).map fun i : Nat => (i : Int)) := by
  unfold toN iL; rw [List.map_map]; rfl
theorem fit62 {n : Nat} (h : n ≤ 1000) : (n : Int) < 2 ^ 62 := Int.lt_of_le_of_lt (Int.ofNat_le.mpr h) (by decide)
theorem fit63 {n : Nat} (h : n ≤ 1000) : (n : Int) < 2 ^ 63 := Int.lt_of_le_of_lt (Int.ofNat_le.mpr h) (by decide)
theorem lenB {n : Nat} (h : n ≤ 100) : n ≤ sizeLine := Nat.le_trans h (by decide)
theorem lenK {n : Nat} (h : n ≤ 1000) : n ≤ sizeLine := Nat.le_trans h (by decide)
theorem fitS {l : List Nat} (h : l.length ≤ 1000) : ((mk l).length : Int) < 2 ^ 63 := by rw [mk_len]; exact fit63 h
theorem f_dmS {a b : Int} (hb : b ≠ 0) (h1 : -(2 ^ 39) < a) (h2 : a < 2 ^ 39) (h3 : -(2 ^ 39) < b) (h4 : b < 2 ^ 39) : FnSpec 56 60 480 [.int a, .int b] (.tup [.int (a.fdiv b), .int (a.fmod b)]) :=
  f_dm hb (Nat.le_trans (bits_le h3 h4) (by decide)) (Nat.le_trans (bits_le h1 h2) (Nat.le_mul_of_pos_right 39 (bits_pos hb)))
theorem f_dmN {a n : Nat} (h0 : 0 < n) (ha : a ≤ 1000) (hn : n ≤ 1000) : FnSpec 56 60 480 [.int (a : Int), .int (n : Int)] (.tup [.int ((a / n : Nat) : Int), .int ((a % n : Nat) : Int)]) := by
  have := f_dmS (a := (a : Int)) (b := (n : Int)) (by omega) (by omega) (by omega) (by omega) (by omega)
  rw [Int.fdiv_eq_ediv_of_nonneg _ (Int.natCast_nonneg _), Int.fmod_eq_emod_of_nonneg _ (Int.natCast_nonneg _), ← Int.natCast_ediv, ← Int.natCast_emod] at this
  exact this
theorem f_dmB {n i L r q : Nat} (h0 : i < n) (hn : n ≤ 1000) (hL : L ≤ 1000) (h1 : ((L : Int) - i).fmod (-(n : Int)) = -(r : Int)) (h2 : ((L : Int) - i).fdiv (-(n : Int)) = -(q : Int)) : FnSpec 56 60 480 [.int ((L : Int) - i), .int (-(n : Int))] (.tup [.int (-(q : Int)), .int (-(r : Int))]) := by
  have := f_dmS (a := (L : Int) - i) (b := -(n : Int)) (by omega) (by omega) (by omega) (by omega) (by omega)
  rw [h1, h2] at this
  exact this
theorem Wd.shp {w : List Nat} (h : Wd w) : shp (S w) = true := by
  have := h.ok
  show (PyData.canLay0 (.str (mk w)) && decide (PyData.depth (.str (mk w)) ≤ 64)) = true
  simpa [PyData.canLay0, PyData.depth, SOk] using this
theorem eqv_S (a b : List Nat) : eqv (S a) (S b) = (a == b) := by
  show (mk a == mk b) = _
  by_cases h : a = b
  · subst h; rw [beq_self_eq_true, beq_self_eq_true]
  · rw [beq_eq_false_iff_ne.mpr fun e => h (S_inj a b (congrArg SV.str e)), beq_eq_false_iff_ne.mpr h]
theorem shp_iT (a b : Int) : shp (.tup [.int a, .int b]) = true := shp_tup fun x hx => by
  rcases List.mem_cons.mp hx with rfl | hx
  · rfl
  · rw [List.mem_singleton.mp hx]; rfl
theorem eqv_iT (a b : Int) : eqv (.tup [.int a, .int b]) (.tup [.int a, .int b]) = true := by
  show ((a == a) && ((b == b) && true)) = true
  rw [beq_self_eq_true, beq_self_eq_true]; rfl
theorem glue_in (x : List Nat) : dots ++ x ++ dots = glue [[], x, []] := by
  show _ = [] ++ dots ++ (x ++ dots ++ [])
  simp

theorem fill22 : fillDummy PySem.Challenge.rw_ti0025_01 hd.heap_1 := by
  k_fill
  trivial
theorem len_inj (a b : Int × Nat) (e : SV.tup [.int a.1, .int a.2] = SV.tup [.int b.1, .int b.2]) : a = b := by
  injection e with e
  injection e with e1 e
  injection e with e2 e
  injection e1 with e1
  injection e2 with e2
  exact Prod.ext e1 (Int.ofNat.inj e2)
theorem f_round {code : List (List Nat)} {ring : List Nat} {top balls : Nat} {W V : Nat → List Nat} (R : Rounds code ring top balls W V) : FnSpec 170 61 483 [.list (sN code), S ring, .int balls] (.bool true) := by
  obtain ⟨r0, rl, rw', nd, c2, ⟨g1, g2, g3⟩, ne, t1, tm, tx, hw, hv, land, hsum, back, seen⟩ := R
  have hn : 0 < ring.length := List.length_pos_iff.mpr r0
  have ht : top ≤ 100 := by obtain ⟨x, hx, rfl⟩ := List.mem_map.mp tm; exact g2 x hx
  have hs := strip_len ring top
  have hsl : (strip ring top).length ≤ 1000 := by
    rw [hs]
    exact Nat.le_trans (Nat.add_le_add (Nat.mul_le_mul rl ht) rl) (by decide)
  have lw : ∀ {x}, x ∈ code → x.length ≤ 1000 := fun h => Nat.le_trans (g2 _ h) (by decide)
  have lW : ∀ {i}, i < ring.length → (W i).length ≤ 100 := fun h => g2 _ (hw _ h).1
  have r1 : ring.length ≤ 1000 := Nat.le_trans rl (by decide)
  have gk : code.length ≤ 1000 := Nat.le_trans g3 (by decide)
  have lm : (List.range ring.length).length ≤ 100 := by rw [List.length_range]; exact Nat.le_trans rl (by decide)
  have ws_mem : ∀ {x}, x ∈ (List.range ring.length).map W → x ∈ code := fun h => by obtain ⟨i, hi, rfl⟩ := List.mem_map.mp h; exact (hw i (List.mem_range.mp hi)).1
  have lws : (sN ((List.range ring.length).map W)).length = ring.length := by rw [sN_len, List.length_map, List.length_range]
  have lth : (thT (thr ring.length W)).length = ring.length := by unfold thT thr; rw [List.length_map, List.length_map, List.length_range]
  refine FnSpec.of_body (d := 60) (u := 480) (xs := ["code", "ring", "balls"]) (by intro w; k_is) (by intro w; k_is) (fun s vs hl => by obtain ⟨x, y, z, rfl⟩ := len3 hl; exact BindsTo.of_eq rfl) (by decide) rfl (by decide) rfl rfl rfl (by decide) fun G A => ?_
  refine Rn.assign (sv := .int ring.length) (Ev.callB b_len (A.glb rfl) (.cons (Ev.name rfl) .nil) (BFn.len_str (x := mk ring) (fitS r1))) (A.cel rfl) ?_
  refine Rn.assign (Ev.callB b_max (A.glb rfl) (.cons (comp1M (as := code) (gi := S) S_inj A (by decide) (ρc := []) fr_nil (ItEv.listN rfl) (fun _ => true) (fun x => .int (x.length : Int)) (fun _ _ _ _ => Tsts.nil) (fun G' A' x hx _ => Ev.callB b_len (A'.glb rfl) (.cons (Ev.name rfl) .nil) (BFn.len_str (x := mk x) (fitS (lw hx)))) (fun _ => .inl trivial) (lenB g3) (out := iL (code.map fun x => (x.length : Int))) ?_).evF.ev .nil) (BFn.max (m := (top : Int)) ?_ ?_)) (A.cel rfl) ?_
  · rw [List.filter_eq_self.mpr fun _ _ => rfl]; unfold iL; rw [List.map_map]; rfl
  · obtain ⟨x, hx, e⟩ := List.mem_map.mp tm; exact List.mem_map.mpr ⟨x, hx, congrArg _ e⟩
  · intro a ha
    obtain ⟨x, hx, rfl⟩ := List.mem_map.mp ha
    exact Int.ofNat_le.mpr (tx x hx)
  refine Rn.assign (sv := S (strip ring top)) (Ev.fn A g_mul rfl (.cons (Ev.name rfl) (.cons (Ev.cast (Ev.bin (Ev.name rfl) Ev.int Bin.add_int) (show SV.int ((top : Int) + 1) = .int ((top + 1 : Nat) : Int) from rfl)) .nil)) (f_mul (Bin.mul_str (Nat.succ_le_succ t1) r0 ?_))) (A.cel rfl) ?_
  · exact Nat.le_trans (Nat.mul_le_mul rl (Nat.succ_le_succ ht)) (by decide)
  refine Rn.assign (comp1M (as := List.range ring.length) (gi := fun i => .int (i : Int)) int_inj' A (by decide) (ρc := [("code", .list (sN code)), ("strip", S (strip ring top))]) (fr_cons rfl rfl (fr_cons rfl rfl fr_nil)) (ItEv.range (A.glb rfl) (Ev.name rfl) (fit62 r1)) (fun _ => true) (fun i => S (W i)) (fun _ _ _ _ => Tsts.nil) (fun G' A' i hi _ => ?_) (fun _ => .inl trivial) (Nat.le_trans lm (by decide)) (out := sN ((List.range ring.length).map W)) ?_).evF.ev (A.cel rfl) ?_ trivial (swaps_false (A.kind _ _ rfl (fun z => nomatch z)))
  · have hi' := List.mem_range.mp hi
    obtain ⟨w1, w2⟩ := hw i hi'
    refine Ev.fn A' g_one rfl (.cons (Ev.name rfl) (.cons (comp1M (as := code) (gi := S) S_inj A' (by decide) (ρc := [("strip", S (strip ring top)), ("place", .int (i : Int))]) (fr_cons rfl rfl (fr_cons rfl rfl fr_nil)) (ItEv.listN rfl) (fun _ => true) (fun x => .bool (x.isPrefixOf ((strip ring top).drop i))) (fun _ _ _ _ => Tsts.nil) (fun G'' A'' x hx _ => ?_) (fun _ => .inl trivial) (lenB g3) (out := bL (code.map fun x => x.isPrefixOf ((strip ring top).drop i))) ?_).evF.ev .nil)) (f_oneP nd c2 g3 w1 w2)
    · refine Ev.fn A'' g_match rfl (.cons (Ev.fn A'' g_concat rfl (.cons (Ev.name rfl) (.cons ev_dots .nil)) (f_cat (glue_pre x) ?_)) (.cons (Ev.sliceS (Ev.name rfl) (.some (Ev.name rfl)) .none ?_ (slice_from _ ?_)) .nil)) (f_pre (ne x hx) (g1 x hx).free (lw hx) ?_)
      · have := g2 x hx
        rw [← glue_pre, List.length_append]; exact Nat.le_trans (Nat.add_le_add_right this 3) (by decide)
      · rw [mk_len]; exact lenK hsl
      · rw [hs]; exact Nat.le_trans (Nat.le_of_lt hi') (Nat.le_add_left _ _)
      · rw [List.length_drop]; exact Nat.le_trans (Nat.sub_le _ _) (Nat.le_trans hsl (by decide))
    · rw [List.filter_eq_self.mpr fun _ _ => rfl]; unfold bL; rw [List.map_map]; rfl
  · rw [List.filter_eq_self.mpr fun _ _ => rfl]; unfold sN; rw [List.map_map]; rfl
  refine Rn.ite (b := false) (Tst.cast (Tst.val (a := .bool (((List.range ring.length).map W).contains [])) (Ev.fn A g_contains rfl (.cons (Ev.name rfl) (.cons Ev.str .nil)) (f_contains (Cmp.in_sN (fun _ h => nomatch h) fun x hx => g1 x (ws_mem hx))))) ?_) Rn.nil ?_
  · show ((List.range ring.length).map W).contains [] = false
    cases q : ((List.range ring.length).map W).contains [] with
    | false => rfl
    | true => exact absurd rfl (ne _ (ws_mem (List.contains_iff_mem.mp q)))
  refine rn_assignComp (comp1M (as := List.range ring.length) (gi := fun i => .int (i : Int)) int_inj' A (by decide) (ρc := [("words", .list (sN ((List.range ring.length).map W))), ("size", .int ring.length)]) (fr_cons rfl rfl (fr_cons rfl rfl fr_nil)) (ItEv.range (A.glb rfl) (Ev.name rfl) (fit62 r1)) (fun _ => true) (fun i => .tup [.int (((i + (W i).length) / ring.length : Nat) : Int), .int (((i + (W i).length) % ring.length : Nat) : Int)]) (fun _ _ _ _ => Tsts.nil) (fun G' A' i hi _ => ?_) (fun _ => .inr ⟨rfl, _, rfl, fun y hy => ?_⟩) (Nat.le_trans lm (by decide)) (out := thT (thr ring.length W)) ?_) (A.kind _ _ rfl (fun z => nomatch z)) ?_
  · have hi' := List.mem_range.mp hi
    have l1 := lW hi'
    exact Ev.fn A' g_divmod rfl (.cons (Ev.fn A' g_add rfl (.cons (Ev.name rfl) (.cons (Ev.callB b_len (A'.glb rfl) (.cons (Ev.sub (Ev.name rfl) (Ev.name rfl) (Get.list (sN_get (ws_get hi')) (by rw [lws]; exact fit63 r1))) .nil) (BFn.len_str (x := mk (W i)) (fitS (Nat.le_trans l1 (by decide))))) .nil)) (f_add (c := .int ((i + (W i).length : Nat) : Int)) Bin.add_int)) (.cons (Ev.name rfl) .nil)) (f_dmN hn (Nat.le_trans (Nat.add_le_add (Nat.le_trans (Nat.le_of_lt hi') rl) l1) (by decide)) r1)
  · rcases List.mem_cons.mp hy with rfl | hy
    · trivial
    · rw [List.mem_singleton.mp hy]; trivial
  · rw [List.filter_eq_self.mpr fun _ _ => rfl]; unfold thT thr; rw [List.map_map]; rfl
  have cT : ∀ (f : Int × Nat → Int), iL ((thr ring.length W).map f) = ((thr ring.length W).filter fun _ => true).map fun p => SV.int (f p) := fun f => by
    rw [List.filter_eq_self.mpr fun _ _ => rfl]; unfold iL; rw [List.map_map]; rfl
  have lthr : (thr ring.length W).length = ring.length := by unfold thr; rw [List.length_map, List.length_range]
  refine Rn.ite (b := false) (Tst.op (.orF (Tst.cast (Tst.cmp (Ev.callB b_sorted (A.glb rfl) (.cons (comp1M (as := thr ring.length W) (gi := fun p => .tup [.int p.1, .int p.2]) len_inj A (by decide) (ρc := []) fr_nil (ItEv.listN rfl) (fun _ => true) (fun p => .int p.2) (fun _ _ _ _ => Tsts.nil) (fun G' A' p hp _ => Ev.sub (Ev.name rfl) Ev.int Get.pair1) (fun _ => .inl trivial) (by rw [lthr]; exact lenK r1) (cT fun p => (p.2 : Int)).symm).evF.ev .nil) (BFn.sorted (ms := (List.range ring.length).map fun i : Nat => (i : Int)) ?_ ?_ ?_)) (Ev.listRange (A.kind _ _ rfl (fun z => nomatch z)) (A.kind _ _ rfl (fun z => nomatch z)) (Ev.name rfl) (Nat.le_trans r1 (by decide))) (Cmp.ne (shp_iL _) (by rw [toN_iL]; exact shp_iL _))) ?_) (.orF (Tst.cast (Tst.cmp (Ev.callB b_sum (A.glb rfl) (.cons (comp1M (as := thr ring.length W) (gi := fun p => .tup [.int p.1, .int p.2]) len_inj A (by decide) (ρc := []) fr_nil (ItEv.listN rfl) (fun _ => true) (fun p => .int p.1) (fun _ _ _ _ => Tsts.nil) (fun G' A' p hp _ => Ev.sub (Ev.name rfl) Ev.int Get.pair0) (fun _ => .inl trivial) (by rw [lthr]; exact lenK r1) (cT fun p => p.1).symm).evF.ev .nil) BFn.sum) (Ev.name rfl) (Cmp.ne rfl rfl)) ?_) .orNil))) Rn.nil ?_
  · have := land.map fun i : Nat => (i : Int)
    unfold thr
    rw [List.map_map] at this ⊢
    exact this
  · rw [List.pairwise_map]
    exact List.pairwise_lt_range.imp fun h => Int.ofNat_le.mpr (Nat.le_of_lt h)
  · rw [List.length_map, lthr]; exact Nat.lt_of_le_of_lt rl (by decide)
  · rw [toN_iL, eqv_iL, beq_self_eq_true]; rfl
  · rw [eqv_int]
    have : ((thr ring.length W).map fun p => p.1).sum = (balls : Int) := by
      rw [← hsum]
      unfold thr
      rw [List.map_map]
      induction List.range ring.length with
      | nil => rfl
      | cons a r ih => rw [List.map_cons, List.map_cons, List.sum_cons, List.sum_cons, ih, Int.natCast_add]; rfl
    rw [this, beq_self_eq_true]; rfl
  refine Rn.loop (ρs := fun _ => [("thrown", .list (thT (thr ring.length W))), ("words", .list (sN ((List.range ring.length).map W))), ("strip", S (strip ring top)), ("top", .int top), ("size", .int ring.length), ("code", .list (sN code))]) (ρt := fun i => [("place", .int (i : Int)), ("thrown", .list (thT (thr ring.length W))), ("words", .list (sN ((List.range ring.length).map W))), ("strip", S (strip ring top)), ("top", .int top), ("size", .int ring.length), ("code", .list (sN code))]) (fun _ => none) (xs := ["place"]) (items := toN ring.length) (ItEv.range (A.glb rfl) (Ev.name rfl) (fit62 r1)) (.inl rfl) (fun _ => rfl) (.inl rfl) (sub_cons rfl (sub_cons rfl (sub_cons rfl (sub_cons rfl (sub_cons rfl (sub_cons rfl sub_nil)))))) rfl (fun i x hx => ?_) (fun i hi => ?_) ?_
  · rw [(toN_get hx).1]
    exact AsgTo.name (A.cel rfl)
  · have hi' : i < ring.length := by simpa [toN] using hi
    obtain ⟨v1, v2⟩ := hv i hi'
    have bk := back i hi'
    obtain ⟨q1, q2, q3, q4⟩ := st_ok (n := ring.length) (i := i) (L := (V i).length) hi'
    have lv := g2 _ v1
    generalize hvi : V i = v at v1 v2 bk q1 q2 q3 q4 lv
    generalize hst : st ring.length i v.length = r at bk q1 q2 q3 q4
    refine Rn.assign (Ev.fn A g_one rfl (.cons (Ev.name rfl) (.cons (comp1M (as := code) (gi := S) S_inj A (by decide) (ρc := [("strip", S (strip ring top)), ("size", .int ring.length), ("top", .int top), ("place", .int (i : Int))]) (fr_cons rfl rfl (fr_cons rfl rfl (fr_cons rfl rfl (fr_cons rfl rfl fr_nil)))) (ItEv.listN rfl) (fun _ => true) (fun x => .bool (x.isSuffixOf ((strip ring top).take (ring.length * top + i)))) (fun _ _ _ _ => Tsts.nil) (fun G' A' x hx _ => ?_) (fun _ => .inl trivial) (lenB g3) (out := bL (code.map fun x => x.isSuffixOf ((strip ring top).take (ring.length * top + i)))) ?_).evF.ev .nil)) (f_oneP nd c2 g3 v1 v2)) (A.loc rfl) ?_
    · refine Ev.fn A' g_match rfl (.cons (Ev.fn A' g_concat rfl (.cons ev_dots (.cons (Ev.name rfl) .nil)) (f_cat (glue_suf x) ?_)) (.cons (Ev.sliceS (Ev.name rfl) .none (.some (Ev.cast (Ev.bin (Ev.bin (Ev.name rfl) (Ev.name rfl) (Bin.mul_int (.of_left (bits_small (Nat.le_trans r1 (by decide)))))) (Ev.name rfl) Bin.add_int) (show SV.int ((ring.length : Int) * (top : Int) + (i : Int)) = .int ((ring.length * top + i : Nat) : Int) from rfl))) ?_ (slice_to _ ?_)) .nil)) (f_suf (ne x hx) (g1 x hx).free (lw hx) ?_)
      · have := g2 x hx
        show (dots ++ x).length ≤ _
        rw [List.length_append, Nat.add_comm]; exact Nat.le_trans (Nat.add_le_add_right this 3) (by decide)
      · rw [mk_len]; exact lenK hsl
      · rw [hs]; exact Nat.add_le_add_left (Nat.le_of_lt hi') _
      · rw [List.length_take]; exact Nat.le_trans (Nat.min_le_right _ _) (Nat.le_trans hsl (by decide))
    · rw [List.filter_eq_self.mpr fun _ _ => rfl]; unfold bL; rw [List.map_map]; rfl
    refine Rn.assignT (xs := ["rounds", "start"]) (Ev.fn A g_divmod rfl (.cons (Ev.fn A g_sub rfl (.cons (Ev.callB b_len (A.glb rfl) (.cons (Ev.name rfl) .nil) (BFn.len_str (x := mk v) (fitS (Nat.le_trans lv (by decide))))) (.cons (Ev.name rfl) .nil)) (f_sub (c := .int ((v.length : Int) - (i : Int))) Bin.sub_int)) (.cons (Ev.fn A g_neg rfl (.cons (Ev.name rfl) .nil) f_neg) .nil)) (f_dmB hi' r1 (Nat.le_trans lv (by decide)) q2 q3)) (AsgTo.tup rfl (fun x hx => by rcases List.mem_cons.mp hx with rfl | hx; exact A.loc rfl; rw [List.mem_singleton.mp hx]; exact A.loc rfl) rfl rfl rfl) ?_
    refine Rn.ite (b := false) (Tst.op (.orF (Tst.cast (Tst.cmp (Ev.sub (Ev.name rfl) (Ev.cast (Ev.fn A g_neg rfl (.cons (Ev.name rfl) .nil) f_neg) (congrArg SV.int (Int.neg_neg (r : Int)))) (Get.list (sN_get (ws_get q1)) (by rw [lws]; exact fit63 r1))) (Ev.name rfl) (Cmp.ne (g1 _ (hw r q1).1).shp (g1 _ v1).shp)) ?_) (.orF (Tst.cast (Tst.cmp (Ev.sub (Ev.name rfl) (Ev.cast (Ev.fn A g_neg rfl (.cons (Ev.name rfl) .nil) f_neg) (congrArg SV.int (Int.neg_neg (r : Int)))) (Get.list (thT_get (thr_get q1)) (by rw [lth]; exact fit63 r1))) (ev_tup (.cons (Ev.fn A g_neg rfl (.cons (Ev.name rfl) .nil) f_neg) (.cons (Ev.name rfl) .nil))) (Cmp.ne ?_ ?_)) ?_) .orNil))) Rn.nil (Rn.done (sub_cons rfl (sub_cons rfl (sub_cons rfl (sub_cons rfl (sub_cons rfl (sub_cons rfl sub_nil)))))))
    · rw [bk]
      exact congrArg (!·) (eqv_S v v |>.trans (beq_self_eq_true v))
    · exact shp_iT _ _
    · exact shp_iT _ _
    · rw [bk, q4, Int.neg_neg]
      exact congrArg (!·) (eqv_iT _ _)
  refine Rn.loop (ρs := fun _ => [("thrown", .list (thT (thr ring.length W))), ("words", .list (sN ((List.range ring.length).map W))), ("strip", S (strip ring top)), ("size", .int ring.length), ("code", .list (sN code))]) (ρt := fun i => [("x", S (code.getD i [])), ("thrown", .list (thT (thr ring.length W))), ("words", .list (sN ((List.range ring.length).map W))), ("strip", S (strip ring top)), ("size", .int ring.length), ("code", .list (sN code))]) (fun _ => none) (xs := ["x"]) (items := sN code) (ItEv.listN rfl) (.inl rfl) (fun _ => rfl) (.inl rfl) (sub_cons rfl (sub_cons rfl (sub_cons rfl (sub_cons rfl (sub_cons rfl sub_nil))))) rfl (fun i x hx => ?_) (fun i hi => ?_) ?_
  · obtain ⟨v, hv, rfl⟩ := sN_at hx
    rw [List.getD_eq_getElem?_getD, hv]
    exact AsgTo.name (A.loc rfl)
  · rw [sN_len] at hi
    have hx : code.getD i [] ∈ code := by rw [List.getD_eq_getElem?_getD, List.getElem?_eq_getElem hi]; exact List.getElem_mem hi
    generalize code.getD i [] = x at hx
    have lx := g2 x hx
    have hxt := tx x hx
    have e2 : ((ring.length : Int) - 1 + (x.length : Int)) = ((ring.length - 1 + x.length : Nat) : Int) := by omega
    refine Rn.ite (b := false) (Tst.cast (Tst.cmp (Ev.fn A g_match rfl (.cons (Ev.fn A g_concat rfl (.cons (Ev.fn A g_concat rfl (.cons ev_dots (.cons (Ev.name rfl) .nil)) (f_cat (c := dots ++ x) rfl ?_)) (.cons ev_dots .nil)) (f_cat (c := glue [[], x, []]) (glue_in x) ?_)) (.cons (Ev.sliceS (Ev.name rfl) .none (.some (Ev.cast (Ev.bin (Ev.bin (Ev.name rfl) Ev.int Bin.sub_int) (Ev.callB b_len (A.glb rfl) (.cons (Ev.name rfl) .nil) (BFn.len_str (x := mk x) (fitS (lw hx)))) Bin.add_int) (congrArg SV.int e2))) ?_ (slice_to _ ?_)) .nil)) (f_mt ?_ ?_ ?_ ?_ ?_)) (Ev.fn A g_contains rfl (.cons (Ev.name rfl) (.cons (Ev.name rfl) .nil)) (f_contains (Cmp.in_sN (g1 x hx) fun x hx => g1 x (ws_mem hx)))) (Cmp.isNot rfl)) ?_) Rn.nil (Rn.done (sub_cons rfl (sub_cons rfl (sub_cons rfl (sub_cons rfl (sub_cons rfl sub_nil))))))
    · rw [List.length_append, Nat.add_comm]; exact Nat.le_trans (Nat.add_le_add_right lx 3) (by decide)
    · rw [← glue_in, List.length_append, List.length_append]; exact Nat.le_trans (Nat.add_le_add_right (Nat.add_le_add_left lx 3) 3) (by decide)
    · rw [mk_len]; exact lenK hsl
    · have h1 : 1 * top ≤ ring.length * top := Nat.mul_le_mul_right top hn
      rw [hs]; omega
    · exact (show 2 ≤ 3 by decide)
    · intro w hw'
      rcases List.mem_cons.mp hw' with rfl | hw'
      · exact fun h => nomatch h
      · rcases List.mem_cons.mp hw' with rfl | hw'
        · exact (g1 _ hx).free
        · rw [List.mem_singleton.mp hw']; exact fun h => nomatch h
    · exact (show 3 ≤ 100 by decide)
    · intro w hw'
      rcases List.mem_cons.mp hw' with rfl | hw'
      · exact Nat.zero_le _
      · rcases List.mem_cons.mp hw' with rfl | hw'
        · exact lw hx
        · rw [List.mem_singleton.mp hw']; exact Nat.zero_le _
    · rw [List.length_take]; exact Nat.le_trans (Nat.min_le_right _ _) (Nat.le_trans hsl (by decide))
    · rw [seen x hx]
      show (!(_ == _)) = false
      rw [beq_self_eq_true]; rfl
  have i1 := Nat.mod_lt (0 + (W 0).length) hn
  have i2 := Nat.mod_lt ((0 + (W 0).length) % ring.length + (W ((0 + (W 0).length) % ring.length)).length) hn
  exact Rn.ret (Ev.fn A g_read rfl (.cons (Ev.name rfl) (.cons (Ev.name rfl) .nil)) (f_read (ws_get hn) (thr_get hn) (ws_get i1) (thr_get i1) (ws_get i2) (fun w hw => ne w (ws_mem hw)) (fun w hw => (g1 w (ws_mem hw)).free) (fun w hw => g2 w (ws_mem hw)) (by rw [List.length_map, List.length_range]; exact r1) (by rw [lthr]; exact r1)))

theorem byTwo_ne (a : Int) (l : List Int) : byTwo a l ≠ [] := by cases l <;> exact fun h => nomatch h
theorem byTwo_val (n : Nat) : ∀ (l : List Int) (a : Int), val n (a :: l).reverse = (2 ^ n - 2) * val n (byTwo a l).dropLast.reverse + lastTwo a l
  | [], a => by
    show a + 2 ^ n * 0 = (2 ^ n - 2) * 0 + a
    rw [Int.mul_zero, Int.mul_zero, Int.add_zero, Int.zero_add]
  | b :: r, a => by
    have ih := byTwo_val n r (b + 2 * a)
    rw [val_rev] at ih
    have hl : (byTwo (b + 2 * a) r).dropLast.length = r.length := by rw [List.length_dropLast, byTwo_len]; rfl
    show _ = (2 ^ n - 2) * val n (a :: byTwo (b + 2 * a) r).dropLast.reverse + lastTwo (b + 2 * a) r
    rw [List.dropLast_cons_of_ne_nil (byTwo_ne _ _), val_rev, val_rev, val_rev, hl, List.length_cons, Nat.mul_succ, Nat.add_comm (n * r.length), pow_add']
    generalize (2 : Int) ^ (n * r.length) = K at *
    generalize (2 : Int) ^ n = B at *
    generalize lastTwo (b + 2 * a) r = z at *
    generalize val n (byTwo (b + 2 * a) r).dropLast.reverse = v at *
    generalize val n r.reverse = y at *
    rw [Int.mul_add, Int.mul_left_comm K 2 a] at ih
    rw [Int.mul_add, Int.sub_mul B 2 (K * a), Int.mul_assoc]
    omega
theorem val_lt (n : Nat) : ∀ {ds : List Int}, (∀ d ∈ ds, 0 ≤ d ∧ d < 2 ^ n) → 0 ≤ val n ds ∧ val n ds < 2 ^ (n * ds.length)
  | [], _ => ⟨Int.le_refl _, by show (0 : Int) < 2 ^ (n * 0); rw [Nat.mul_zero]; decide⟩
  | d :: r, h => by
    obtain ⟨h1, h2⟩ := val_lt n (ds := r) fun x hx => h x (.tail _ hx)
    obtain ⟨h3, h4⟩ := h d (.head _)
    have hB := pow_pos' n
    rw [val, List.length_cons, Nat.mul_succ, Nat.add_comm, pow_add']
    generalize (2 : Int) ^ n = B at *
    generalize (2 : Int) ^ (n * r.length) = K at *
    generalize val n r = v at *
    have h5 := Int.mul_nonneg (Int.le_of_lt hB) h1
    have h6 := Int.mul_le_mul_of_nonneg_left (show v + 1 ≤ K by omega) (Int.le_of_lt hB)
    rw [Int.mul_add, Int.mul_one] at h6
    omega
theorem digs_val (n : Nat) : ∀ {ds : List Int}, (∀ d ∈ ds, 0 ≤ d ∧ d < 2 ^ n) → digs n ds.length (val n ds) = ds
  | [], _ => rfl
  | d :: r, h => by
    obtain ⟨h3, h4⟩ := h d (.head _)
    have hB := pow_pos' n
    rw [val, List.length_cons, digs, Int.add_mul_emod_self_left, Int.emod_eq_of_lt h3 h4, Int.add_mul_ediv_left _ _ (Int.ne_of_gt hB), Int.ediv_eq_zero_of_lt h3 h4, Int.zero_add, digs_val n fun x hx => h x (.tail _ hx)]
/-- the number of figures -/
theorem val_nDigs {n : Nat} (hn : 1 ≤ n) {q : Int} {qs : List Int} (hq : 0 < q) (h : ∀ d ∈ q :: qs, 0 ≤ d ∧ d < 2 ^ n) : nDigs (val n (q :: qs).reverse) n = (q :: qs).length := by
  have hr : ∀ d ∈ (q :: qs).reverse, 0 ≤ d ∧ d < 2 ^ n := fun d hd => h d (List.mem_reverse.mp hd)
  obtain ⟨h0, h1⟩ := val_lt n hr
  have h2 := val_lt n (ds := qs.reverse) fun d hd => h d (.tail _ (List.mem_reverse.mp hd))
  rw [List.length_reverse] at h1
  have h3 : (2 : Int) ^ (n * qs.length) ≤ val n (q :: qs).reverse := by
    rw [val_rev]
    have := Int.mul_le_mul_of_nonneg_left (show 1 ≤ q by omega) (Int.le_of_lt (pow_pos' (n * qs.length)))
    rw [Int.mul_one] at this
    omega
  generalize val n (q :: qs).reverse = v at *
  have e1 : Builtin.Int.intBits v ≤ n * (q :: qs).length := by
    rw [intBits_le_iff]
    rw [← cast_pow] at h1
    omega
  have e2 : ¬ Builtin.Int.intBits v ≤ n * qs.length := by
    rw [intBits_le_iff]
    rw [← cast_pow] at h3
    omega
  unfold nDigs
  rw [List.length_cons] at e1 ⊢
  rw [Nat.mul_succ] at e1
  have e3 : Builtin.Int.intBits v + n - 1 = (Builtin.Int.intBits v - n * qs.length - 1) + n * (qs.length + 1) := by rw [Nat.mul_succ]; omega
  rw [e3, Nat.add_mul_div_left _ _ hn, Nat.div_eq_of_lt (by omega), Nat.zero_add]
/-- the counts of a code give a mean -/
structure MeanOk (balls : Int) (cs : List Int) where
  c0 : Int
  c1 : Int
  r : List Int
  e : cs = c0 :: c1 :: r
  a : Int
  l : List Int
  e1 : (byTwo (c0 + balls - 1) ((c1 - 2 * balls) :: r)).dropLast = a :: l
  z1 : lastTwo (c0 + balls - 1) ((c1 - 2 * balls) :: r) = 0
  z2 : lastTwo a l = 0
  q : Int
  qs : List Int
  e2 : (byTwo a l).dropLast = q :: qs
  q0 : 0 < q
  qd : ∀ d ∈ q :: qs, 0 ≤ d ∧ d < 65536
theorem MeanOk.val {balls : Int} {cs : List Int} (M : MeanOk balls cs) (n : Nat) : val n ((M.c0 + balls - 1) :: (M.c1 - 2 * balls) :: M.r).reverse = (2 ^ n - 2) * ((2 ^ n - 2) * Mine.val n (M.q :: M.qs).reverse) := by
  rw [byTwo_val, M.z1, M.e1, byTwo_val, M.z2, M.e2, Int.add_zero, Int.add_zero]
/-- the square and its divisions -/
theorem sq_facts {w : Nat} (hw : 16 ≤ w) {more : Nat} (hm : more ≤ 1) {sq : Int} (e : sq = (2 ^ w - 2) * (2 ^ w - 2) * 2 ^ more) : 0 < sq ∧ w ≤ Builtin.Int.intBits sq ∧ Builtin.Int.intBits sq ≤ 2 * w + 1 := by
  have hB : (65536 : Int) ≤ 2 ^ w := by
    rw [← cast_pow]
    exact Int.ofNat_le.mpr (Nat.pow_le_pow_right (n := 2) (by decide) hw : 2 ^ 16 ≤ 2 ^ w)
  have hM : (2 : Int) ^ more = 1 ∨ (2 : Int) ^ more = 2 := by
    rcases Nat.le_one_iff_eq_zero_or_eq_one.mp hm with rfl | rfl
    · exact .inl rfl
    · exact .inr rfl
  have h1 := Int.mul_le_mul_of_nonneg_left (show (2 : Int) ≤ 2 ^ w - 2 by omega) (show (0 : Int) ≤ 2 ^ w - 2 by omega)
  have h2 := Int.mul_le_mul (show 2 ^ w - 2 ≤ (2 : Int) ^ w by omega) (show 2 ^ w - 2 ≤ (2 : Int) ^ w by omega) (by omega) (by omega)
  have h3 : (2 : Int) ^ (2 * w + 1) = 2 ^ w * 2 ^ w * 2 := by rw [Nat.two_mul, pow_add', pow_add']; rfl
  have cw := cast_pow w
  have cw2 := cast_pow (2 * w + 1)
  rw [h3] at cw2
  rw [← cw] at hB h1 h2 cw2 e
  have k : ((2 ^ w : Nat) : Int) ≤ sq ∧ sq < ((2 ^ (2 * w + 1) : Nat) : Int) := by
    generalize ((2 ^ w : Nat) : Int) = B at *
    generalize hS : (B - 2) * (B - 2) = S at *
    have h4 : S < B * B := by
      rw [← hS, Int.sub_mul, Int.mul_sub]
      omega
    rcases hM with hM | hM <;> rw [hM] at e <;> omega
  have hp : 0 < 2 ^ w := Nat.pow_pos (by decide)
  refine ⟨by omega, ?_, ?_⟩
  · rcases Nat.lt_or_ge (Builtin.Int.intBits sq) w with h | h
    · have := intBits_le_iff.mp (Nat.le_of_lt h)
      omega
    · exact h
  · rw [intBits_le_iff]; omega
theorem fd_exact {a b q : Int} (hb : 0 < b) (e : a = b * q) : a.fdiv b = q ∧ a.fmod b = 0 := by
  subst e
  rw [Int.fdiv_eq_ediv_of_nonneg _ (Int.le_of_lt hb), Int.fmod_eq_emod_of_nonneg _ (Int.le_of_lt hb), Int.mul_ediv_cancel_left _ (Int.ne_of_gt hb), Int.mul_emod_right]
  exact ⟨rfl, rfl⟩
theorem fd_less {b k : Int} (hb : 0 < b) : (b * k - 1).fdiv b = k - 1 ∧ (b * k - 1).fmod b = b - 1 := by
  rw [Int.fdiv_eq_ediv_of_nonneg _ (Int.le_of_lt hb), Int.fmod_eq_emod_of_nonneg _ (Int.le_of_lt hb)]
  have e : b * k - 1 = (b - 1) + b * (k - 1) := by rw [Int.mul_sub, Int.mul_one]; omega
  rw [e, Int.add_mul_ediv_left _ _ (Int.ne_of_gt hb), Int.add_mul_emod_self_left, Int.ediv_eq_zero_of_lt (by omega) (by omega), Int.emod_eq_of_lt (by omega) (by omega), Int.zero_add]
  exact ⟨rfl, rfl⟩

theorem fill23 : fillDummy PySem.Challenge.rw_ti0025_01 hd.heap_1 := by
  k_fill
  trivial
/-- numbers whose tokens are below N -/
def tL (N : Tok) (ns : List Int) : List SV := ns.map fun i => .tok i fun t => 0 < t ∧ t < N
theorem Reps.toks {N : Tok} {h : Heap} : ∀ {vs : List Value} {ns : List Int}, Reps h vs (iL ns) → (∀ v ∈ vs, TkW true N v) → Reps h vs (tL N ns)
  | _, [], .nil, _ => .nil
  | _, n :: ns, .cons a b, k => by
    obtain ⟨t, rfl⟩ := a.int_inv
    exact .cons (.tok _ _ _ (k _ (.head _) rfl)) (Reps.toks b fun v hv => k v (.tail _ hv))
theorem Reps.untok {N : Tok} {h : Heap} : ∀ {vs : List Value} {ns : List Int}, Reps h vs (tL N ns) → Reps h vs (iL ns)
  | _, [], .nil => .nil
  | _, n :: ns, .cons a b => by
    cases a
    exact .cons (.int _ _) (Reps.untok b)
theorem BFn.maxT {N : Tok} {ns : List Int} {m : Int} (hm : m ∈ ns) (hx : ∀ a ∈ ns, a ≤ m) : BFn "max" [.list (tL N ns)] (.int m) := fun G ρ Q Eh s vs F O R h => by
  cases R with | cons r R =>
  obtain ⟨a, us, n, rfl, hl, r⟩ := r.list_inv
  exact BFn.max hm hx G ρ Q Eh s _ F O (.cons (.list hl r.untok) R) h
theorem EvT.len {G : Ctx} {ρ : List (Str × SV)} {e : Expr} {p pos : Pos} {x : Str} (hx : G.env.kindOf "len" = some .globalImplicit) (a : Ev G ρ e (.str x)) (hf : (x.length : Int) < 2 ^ 63)
    (he : ∀ env, starEach [e] env = (false, eval e env) :: starEach [] env := by intro _; rfl) (hp : ∀ env, (backTo pos (starEach [] env)).any (·.1) = false := by intro _; rfl) : EvT true G ρ (.Call (.Name "len" p) [e] [] pos) (.int x.length) := by
  intro F Q Eh s O h
  refine wpAny_Call_NameR (bi_eval b_len hx F O ?_)
  refine callWith_builtin1 (EvAll.cons a .nil he F pos _ _ s O fun vs h1 tk1 U1 T1 R1 => ?_) (he _) (hp _)
  cases R1 with | cons r R =>
  cases R; obtain ⟨t, rfl⟩ := r.str_inv
  exact P.len_str (by omega) (h _ _ _ U1 T1 (.int _ _) fun _ => ⟨Nat.succ_pos _, Nat.lt_succ_self _⟩)
/-- statements run with the tokens at N or above -/
def RnN (N : Tok) (G : Ctx) (ρ : List (Str × SV)) (ss : List Stmt) (r : Fin') : Prop :=
  Fm G → Stores G → ∀ (Q : Flow → Shared → Prop) (Eh : Value → Shared → Prop) (s : Shared), N ≤ s.toks → OkS G ρ none s.heap → FinPost G none s Q r → wpAny (model Pr G.w) G.A (execs ss G.env) Q Eh s
theorem rn_two {G : Ctx} {ρ : List (Str × SV)} {elt tgt iter : Expr} {ifs : List Expr} {rest : List Comprehension} {scope : Scope} {pos : Pos} {ns : List Int} (c : CompEvN 0 true G ρ elt (⟨tgt, iter, ifs, 0⟩ :: rest) scope pos iter (iL ns)) {y : Str} {py spos : Pos} {ss : List Stmt} {r : Fin'}
    (hy : Settable G y) (b : ∀ N, RnN N G ((y, .list (tL N ns)) :: ρ) ss r) (hs : swapsWith (.ListComp elt (⟨tgt, iter, ifs, 0⟩ :: rest) scope pos) (some (.Name y py)) spos.line G.env = pure false) : Rn G ρ none (.Assign [.Name y py] (.ListComp elt (⟨tgt, iter, ifs, 0⟩ :: rest) scope pos) spos :: ss) r := by
  intro F S Q Eh s O P
  refine wpAny_execs_cons (wpAny_Assign_Name (CompEvN.evA c F (Nat.zero_le _) O.ok fun D h1 tk1 U1 T1 ⟨vs, n, e, R, W⟩ hD => ?_) hs)
  have O1 := O.up U1 T1
  refine wpAny_up (n := tk1) (Nat.le_refl _) (store F S hy O1.ok fun h2 tk2 st le => ?_)
  exact b tk1 F S Q Eh _ le (O1.sto st S.nw (.list e (R.toks W)) trivial) (P.after ((U1.kp O.ok.tab.objs).trans st.kp))
theorem Cmp.isTok {i k : Int} {p q : Tok → Prop} (hk : PySem.smallInt k = true) (ne : ∀ t u, p t → q u → t ≠ 0 ∧ u ≠ 0 ∧ t ≠ u) : Cmp .Is (.tok i p) (.tok k q) (i == k) := fun G ρ Q Eh s va vb F O ra rb h => by
  cases ra with | tok _ t _ pt =>
  cases rb with | tok _ u _ qu =>
  obtain ⟨n1, n2, n3⟩ := ne t u pt qu
  show wpAny _ _ (isSame (.int i t) (.int k u) >>= fun b => pure (Value.bool b)) _ _ _
  have e1 : (t == 0 || u == 0) = false := by rw [beq_eq_false_iff_ne.mpr n1, beq_eq_false_iff_ne.mpr n2]; rfl
  have e2 : (t == u) = false := beq_eq_false_iff_ne.mpr n3
  refine wpAny_bind ?_
  unfold isSame
  have hq := h s.toks
  cases he : i == k with
  | true =>
    rw [he] at hq
    have hi : PySem.smallInt i = true := by rw [eq_of_beq he]; exact hk
    simp only [he, hi, Bool.and_self, if_true, isSame.cachedInt, e1, Bool.false_eq_true, if_false]
    exact wpAny_bind (wpAny_rule (wpAny_pure (wpAny_pure hq)))
  | false =>
    rw [he] at hq
    simp only [he, Bool.false_and, Bool.false_eq_true, if_false, isSame.created, e1, e2, Bool.not_false, if_true]
    exact wpAny_pure (wpAny_pure hq)
theorem f_countT {N : Tok} {ns : List Int} {k : Int} (hk : PySem.smallInt k = true) : FnSpec 119 1 3 [.list (tL N ns), .tok k fun t => N ≤ t] (.int (ns.countP (· == k))) :=
  f_countG (· == k) fun a => ⟨Cmp.isTok hk fun t u (ht : 0 < t ∧ t < N) (hu : N ≤ u) => ⟨Nat.ne_of_gt ht.1, Nat.ne_of_gt (Nat.lt_of_lt_of_le (Nat.lt_of_le_of_lt (Nat.zero_le _) ht.2) hu), Nat.ne_of_lt (Nat.lt_of_lt_of_le ht.2 hu)⟩, Cmp.eq rfl rfl⟩
/-- how many words there are of each length -/
def cntL {α : Type} (code : List (List α)) (top : Nat) : List Int := (List.range (top + 1)).map fun k : Nat => (((code.map fun x => (x.length : Int)).countP (· == (k : Int)) : Nat) : Int)
theorem cntL_mem {code : List (List Nat)} {top : Nat} {c : Int} (h : c ∈ cntL code top) : 0 ≤ c ∧ c ≤ code.length := by
  obtain ⟨k, _, rfl⟩ := List.mem_map.mp h
  refine ⟨Int.natCast_nonneg _, Int.ofNat_le.mpr ?_⟩
  exact Nat.le_trans List.countP_le_length (Nat.le_of_eq (List.length_map _))
theorem bits_pred {a : Int} {k : Nat} (h0 : 0 < a) (h : Builtin.Int.intBits a ≤ k) : Builtin.Int.intBits (a - 1) ≤ k := by
  rw [intBits_le_iff] at h ⊢; omega
theorem ev_sh {G : Ctx} {ρ : List (Str × SV)} {names : List (Str × NameKind)} {dG uG : Nat} (A : At G names dG uG) {e1 e2 : Expr} {p pos : Pos} {a : Int} {n : Nat} (hx : names.lookup ("lshift" : Str) = some .globalImplicit) (x : Ev G ρ e1 (.int a)) (y : Ev G ρ e2 (.int n)) (hsz : Builtin.Int.intBits a ≤ 1000000) (hn : n ≤ 1000000)
    (hd : 1 ≤ dG := by exact Nat.le_of_ble_eq_true rfl) (hu : 3 ≤ uG := by exact Nat.le_of_ble_eq_true rfl) (he1 : ∀ env, starEach [e1, e2] env = (false, eval e1 env) :: starEach [e2] env := by intro _; rfl) (he2 : ∀ env, starEach [e2] env = (false, eval e2 env) :: starEach [] env := by intro _; rfl) : Ev G ρ (.Call (.Name "lshift" p) [e1, e2] [] pos) (.int (a * 2 ^ n)) :=
  Ev.fn A g_lshift hx (.cons x (.cons y .nil he2) he1) (f_lshift (Bin.lshift_int (n := (n : Int)) (Int.natCast_nonneg n) (by omega))) hd hu he1
theorem bits_one : Builtin.Int.intBits 1 ≤ 1000000 := Nat.le_of_ble_eq_true rfl
theorem f_mean {code : List (List Nat)} {balls w more top : Nat} (good : Good code) (tm : top ∈ code.map List.length) (tx : ∀ x ∈ code, x.length ≤ top) (ht : top ≤ 30) (hb : balls ≤ 4) (hw : 16 ≤ w) (hw2 : w ≤ 6100) (hm : more ≤ 1) (M : MeanOk balls (cntL code top)) :
    FnSpec 153 61 483 [.list (sN code), .int balls, .int w, .int more] (.bool true) := by
  obtain ⟨c0, c1, r, e, a, l, e1, z1, z2, q, qs, e2, q0, qd⟩ := M
  obtain ⟨g1, g2, g3⟩ := good
  have w1 : 1 ≤ w := Nat.le_trans (by decide) hw
  have wK : ∀ {k d : Nat}, k * 6100 ≤ d → k * w ≤ d := fun h => Nat.le_trans (Nat.mul_le_mul_left _ hw2) h
  have wK1 : ∀ {k c d : Nat}, k * 6100 + c ≤ d → k * w + c ≤ d := fun h => Nat.le_trans (Nat.add_le_add_right (Nat.mul_le_mul_left _ hw2) _) h
  have w0 : ∀ {d : Nat}, 6100 ≤ d → w ≤ d := Nat.le_trans hw2
  have hv : val w ((c0 + balls - 1) :: (c1 - 2 * balls) :: r).reverse = (2 ^ w - 2) * ((2 ^ w - 2) * val w (q :: qs).reverse) := by rw [byTwo_val, z1, e1, byTwo_val, z2, e2, Int.add_zero, Int.add_zero]
  have lcs : (cntL code top).length = top + 1 := by unfold cntL; rw [List.length_map, List.length_range]
  have hc : ∀ c ∈ c0 :: c1 :: r, 0 ≤ c ∧ c ≤ 100 := fun c hc => by rw [← e] at hc; exact ⟨(cntL_mem hc).1, Int.le_trans (cntL_mem hc).2 (Int.ofNat_le.mpr g3)⟩
  rw [e] at lcs
  have lr : r.length + 1 = top := Nat.succ.inj lcs
  have ll : l.length + 1 = top := by
    have := congrArg List.length e1
    rw [List.length_dropLast, byTwo_len, List.length_cons, List.length_cons] at this
    exact this.symm.trans lr
  have lq : (q :: qs).length + 1 = top := by
    have := congrArg List.length e2
    rw [List.length_dropLast, byTwo_len] at this
    exact (congrArg Nat.succ this.symm).trans ll
  have hB : (65536 : Int) ≤ 2 ^ w := by
    rw [← cast_pow]
    exact Int.ofNat_le.mpr (Nat.pow_le_pow_right (n := 2) (by decide) hw : 2 ^ 16 ≤ 2 ^ w)
  have qd2 : ∀ d ∈ q :: qs, 0 ≤ d ∧ d < 2 ^ w := fun d hd => ⟨(qd d hd).1, Int.lt_of_lt_of_le (qd d hd).2 hB⟩
  have qr : ∀ d ∈ (q :: qs).reverse, 0 ≤ d ∧ d < 2 ^ w := fun d hd => qd2 d (List.mem_reverse.mp hd)
  have hnd := val_nDigs (n := w) w1 q0 qd2
  have hdg := digs_val w qr
  rw [List.length_reverse] at hdg
  have hQ := val_lt w qr
  have hQb : Builtin.Int.intBits (val w (q :: qs).reverse) ≤ w * 29 := by
    have h1 := hQ.2
    rw [List.length_reverse] at h1
    have h2 : w * (q :: qs).length ≤ w * 29 := Nat.mul_le_mul_left w (Nat.le_of_succ_le_succ (Nat.le_trans (Nat.le_of_eq lq) ht))
    have h3 := Nat.pow_le_pow_right (n := 2) (by decide) h2
    rw [intBits_le_iff]
    rw [← cast_pow] at h1
    omega
  generalize hQe : val w (q :: qs).reverse = Q at hv hnd hdg hQ hQb
  obtain ⟨s0, s1, s2⟩ := sq_facts hw hm rfl
  generalize hsq : (2 ^ w - 2) * (2 ^ w - 2) * (2 : Int) ^ more = sq at s0 s1 s2
  have hwh : val w ((c0 + balls - 1) :: (c1 - 2 * balls) :: r).reverse * 2 ^ more = sq * Q := by
    rw [hv, ← hsq, Int.mul_assoc, Int.mul_assoc, Int.mul_assoc, Int.mul_assoc, Int.mul_comm Q]
  have bwh : Builtin.Int.intBits (sq * Q) ≤ 2 * w + 1 + w * 29 := intBits_mul_le s2 hQb
  have dn : Builtin.Int.intBits (-(sq * Q)) ≤ 2 * w + 1 + w * 29 := by rw [intBits_le_iff] at bwh ⊢; rw [Int.natAbs_neg]; exact bwh
  have b2w : Builtin.Int.intBits (2 ^ (2 * w)) ≤ 2 * w + 1 := intBits_two_pow _
  have bsh := intBits_mul_le s2 b2w
  have bbase : Builtin.Int.intBits (2 ^ w - 2) ≤ w := by
    rw [intBits_le_iff]
    have := cast_pow w
    omega
  have bW : Builtin.Int.intBits (val w ((c0 + balls - 1) :: (c1 - 2 * balls) :: r).reverse) ≤ 31 * w := by
    rw [hv]
    have := intBits_mul_le bbase (intBits_mul_le bbase hQb)
    omega
  have sne := Int.ne_of_gt s0
  have s16 : Builtin.Int.intBits sq ≤ 16000 := Nat.le_trans s2 (wK1 (k := 2) (c := 1) (by decide))
  have s39 : 2 * w + 1 + w * 29 ≤ 39 * Builtin.Int.intBits sq := Nat.le_trans (by omega) (Nat.mul_le_mul_left 39 s1)
  have d1 := f_dm (a := sq * Q) sne s16 (Nat.le_trans bwh s39)
  have d2 := f_dm (a := -(sq * Q)) sne s16 (Nat.le_trans dn s39)
  have d3 := f_dm (a := sq * 2 ^ (2 * w) - 1) sne s16 (Nat.le_trans (bits_pred (Int.mul_pos s0 (pow_pos' _)) bsh) (Nat.le_trans (by omega) s39))
  rw [(fd_exact s0 rfl).1, (fd_exact s0 rfl).2] at d1
  rw [(fd_exact s0 (Int.mul_neg sq Q).symm).1, (fd_exact s0 (Int.mul_neg sq Q).symm).2] at d2
  rw [(fd_less s0).1, (fd_less s0).2] at d3
  have hrow : ∀ d ∈ ((c0 + balls - 1) :: (c1 - 2 * balls) :: r).reverse, Builtin.Int.intBits d ≤ 1000000 := fun d hd => by
    have h0 := hc c0 (.head _)
    have h1 := hc c1 (.tail _ (.head _))
    have : -(2 ^ 10) < d ∧ d < 2 ^ 10 := by
      rcases List.mem_cons.mp (List.mem_reverse.mp hd) with rfl | hd
      · clear hc hv; omega
      · rcases List.mem_cons.mp hd with rfl | hd
        · clear hc hv; omega
        · have := hc d (.tail _ (.tail _ hd)); exact ⟨Int.lt_of_lt_of_le (by decide) this.1, Int.lt_of_le_of_lt this.2 (by decide)⟩
    exact Nat.le_trans (bits_le this.1 this.2) (by decide)
  have dd := f_d2i (n := w) w1 (w0 (by decide)) (by rw [List.length_reverse, List.length_cons, List.length_cons, lr]; exact Nat.le_trans (Nat.succ_le_succ ht) (by decide)) hrow
  have di := f_i2d (a := Q) (n := w) w1 (w0 (by decide)) hQ.1 (by rw [hnd]; exact Nat.le_trans (Nat.le_of_succ_le_succ (m := 29) (Nat.le_trans (Nat.le_of_eq lq) ht)) (by decide))
  rw [hnd, hdg] at di
  refine FnSpec.of_body (d := 60) (u := 480) (xs := ["code", "balls", "width", "more"]) (by intro w; k_is) (by intro w; k_is) (fun s vs hl => by obtain ⟨x, y, z, v, rfl⟩ := len4 hl; exact BindsTo.of_eq rfl) (by decide) rfl (by decide) rfl rfl rfl (by decide) fun G A => ?_
  refine rn_two (comp1MN (as := code) (gi := S) S_inj A (by decide) (ρc := []) fr_nil (ItEv.listN rfl).n (fun _ => true) (fun x => .int (x.length : Int)) (fun _ _ _ _ => Tsts.nil) (fun G' A' x hx _ => EvT.len (x := mk x) (A'.glb rfl) (Ev.name rfl) (fitS (Nat.le_trans (g2 x hx) (by decide)))) (fun _ => .inl trivial) (lenB g3) (out := iL (code.map fun x => (x.length : Int))) ?_) (A.cel rfl) (fun N => ?_) (swaps_false (A.kind _ _ rfl (fun z => nomatch z)))
  · rw [List.filter_eq_self.mpr fun _ _ => rfl]; unfold iL; rw [List.map_map]; rfl
  refine fun F S Qp Eh s hN O P => assignComp_run (comp1MN (as := List.range (top + 1)) (gi := fun k => .tok (k : Int) fun t => N ≤ t) (fun x y h => by injection h with h; exact Int.ofNat.inj h) A (by decide) (ρc := [("sizes", .list (tL N (code.map fun x => (x.length : Int))))]) (fr_cons rfl rfl fr_nil)
    (ItEvN.range (fun i t h hn => .tok _ _ _ hn) (A.glb rfl) (Ev.cast (Ev.bin (Ev.callB b_max (A.glb rfl) (.cons (Ev.name rfl) .nil) (BFn.maxT (m := (top : Int)) ?_ ?_)) Ev.int Bin.add_int) (show SV.int ((top : Int) + 1) = .int ((top + 1 : Nat) : Int) from rfl)) (fit62 (Nat.le_trans (Nat.succ_le_succ ht) (by decide)))) (fun _ => true) (fun k => .int (((code.map fun x => (x.length : Int)).countP (· == (k : Int)) : Nat) : Int)) (fun _ _ _ _ => Tsts.nil) (fun G' A' k hk _ => (Ev.fn A' g_count rfl (.cons (Ev.name rfl) (.cons (Ev.name rfl) .nil)) (f_countT ?_)).t) (fun _ => .inl trivial) ?_ (out := iL (cntL code top)) ?_) (A.kind _ _ rfl (fun z => nomatch z)) ?_ rfl rfl F S hN O P
  · obtain ⟨x, hx, he⟩ := List.mem_map.mp tm; exact List.mem_map.mpr ⟨x, hx, congrArg _ he⟩
  · intro b hb'
    obtain ⟨x, hx, rfl⟩ := List.mem_map.mp hb'
    exact Int.ofNat_le.mpr (tx x hx)
  · have := List.mem_range.mp hk
    show (decide (-5 ≤ (k : Int)) && decide ((k : Int) ≤ 256)) = true
    rw [decide_eq_true (by omega), decide_eq_true (by omega)]; rfl
  · rw [List.length_range]; exact lenB (Nat.le_trans (Nat.succ_le_succ ht) (by decide))
  · rw [List.filter_eq_self.mpr fun _ _ => rfl]; unfold iL cntL; rw [List.map_map]; rfl
  rw [e]
  have lc0 : (iL (c0 :: c1 :: r)).length ≤ 100 := by unfold iL; rw [List.length_map, lcs]; exact Nat.le_trans (Nat.succ_le_succ ht) (by decide)
  have lc2 := fit63 (Nat.le_trans lc0 (by decide))
  have lcL := lenB lc0
  refine Rn.assign (sv := .list (iL ((c0 + balls - 1) :: (c1 - 2 * balls) :: r))) (Ev.bin (a := .list (iL [c0 + balls - 1, c1 - 2 * balls])) (b := .list (iL r)) (ev_lst (l := iL [c0 + balls - 1, c1 - 2 * balls]) (.cons (Ev.bin (Ev.bin (Ev.sub (Ev.name rfl) Ev.int (Get.list (x := .int c0) rfl lc2)) (Ev.name rfl) Bin.add_int) Ev.int Bin.sub_int) (.cons (Ev.bin (Ev.sub (Ev.name rfl) Ev.int (Get.list (x := .int c1) rfl lc2)) (Ev.bin Ev.int (Ev.name rfl) (Bin.mul_int (.of_left (by decide)))) Bin.sub_int) .nil))) (EvF.slice (Ev.name rfl) (.some Ev.int) .none .none (by decide) lcL (cut_from _ 2)).ev (Bin.add_list (sl ?_))) (A.loc rfl) ?_
  · unfold iL; rw [List.length_map, List.length_map]; exact Nat.le_trans (Nat.add_le_add_left (Nat.le_trans (Nat.le_succ _) (Nat.le_trans (Nat.le_of_eq lr) ht)) 2) (by decide)
  have len1 : (iL (byTwo (c0 + balls - 1) ((c1 - 2 * balls) :: r))).length ≤ sizeLine := by unfold iL; rw [List.length_map, byTwo_len, List.length_cons, lr]; exact lenB (Nat.le_trans (Nat.succ_le_succ ht) (by decide))
  have cut1 : cutL (iL (byTwo (c0 + balls - 1) ((c1 - 2 * balls) :: r))) none (some (-1)) none = iL (a :: l) := by rw [cut_init, ← e1]; unfold iL; rw [List.map_dropLast]
  have len2 : (iL (byTwo a l)).length ≤ sizeLine := by unfold iL; rw [List.length_map, byTwo_len, ll]; exact lenB (Nat.le_trans ht (by decide))
  have cut2 : cutL (iL (byTwo a l)) none (some (-1)) none = iL (q :: qs) := by rw [cut_init, ← e2]; unfold iL; rw [List.map_dropLast]
  refine Rn.assign (Ev.fn A g_two rfl (.cons (EvF.slice (Ev.fn A g_two rfl (.cons (Ev.name rfl) .nil) (f_by_two (by rw [List.length_cons, lr]; exact Nat.le_trans ht (by decide)))) .none (.some (Ev.un Ev.int Un.neg)) .none (by decide) len1 cut1).ev .nil) (f_by_two (Nat.le_trans (Nat.le_succ _) (Nat.le_trans (Nat.le_of_eq ll) (Nat.le_trans ht (by decide)))))) (A.loc rfl) ?_
  refine Rn.assign (sv := .int (2 ^ w - 2)) (Ev.fn A g_sub rfl (.cons (Ev.cast (ev_sh A rfl Ev.int (Ev.name rfl) bits_one (w0 (by decide))) (congrArg SV.int (Int.one_mul (2 ^ w)))) (.cons Ev.int .nil)) (f_sub Bin.sub_int)) (A.loc rfl) ?_
  refine Rn.assign (Ev.cast (ev_sh A rfl (Ev.fn A g_mul rfl (.cons (Ev.name rfl) (.cons (Ev.name rfl) .nil)) (f_mul (Bin.mul_int (.of_bits (Nat.le_trans bbase (w0 (by decide))) (Nat.le_trans bbase (w0 (by decide))))))) (Ev.name rfl) (Nat.le_trans (intBits_mul_le bbase bbase) (Nat.add_le_add (w0 (d := 500000) (by decide)) (w0 (d := 500000) (by decide)))) (Nat.le_trans hm (by decide))) (congrArg SV.int hsq)) (A.loc rfl) ?_
  have lrow : (iL ((c0 + balls - 1) :: (c1 - 2 * balls) :: r)).length ≤ sizeLine := by unfold iL; rw [List.length_map, List.length_cons, List.length_cons, lr]; exact lenB (Nat.le_trans (Nat.succ_le_succ ht) (by decide))
  have cut3 : cutL (iL ((c0 + balls - 1) :: (c1 - 2 * balls) :: r)) none none (some (-1)) = iL ((c0 + balls - 1) :: (c1 - 2 * balls) :: r).reverse := by rw [cut_rev]; unfold iL; rw [List.map_reverse]
  refine Rn.assign (Ev.cast (ev_sh A rfl (Ev.fn A g_d2i rfl (.cons (EvF.slice (Ev.name rfl) .none .none (.some (Ev.un Ev.int Un.neg)) (by decide) lrow cut3).ev (.cons (Ev.name rfl) .nil)) dd) (Ev.name rfl) (Nat.le_trans bW (wK (by decide))) (Nat.le_trans hm (by decide))) (congrArg SV.int hwh)) (A.loc rfl) ?_
  refine Rn.assignT (xs := ["quotient", "rest"]) (Ev.fn A g_divmod rfl (.cons (Ev.name rfl) (.cons (Ev.name rfl) .nil)) d1) (AsgTo.tup rfl (fun x hx => by rcases List.mem_cons.mp hx with rfl | hx; exact A.loc rfl; rw [List.mem_singleton.mp hx]; exact A.loc rfl) rfl rfl rfl) ?_
  refine Rn.ite (b := false) (Tst.op (.orF (Tst.cast (Tst.cmp (Ev.name rfl) Ev.int (Cmp.ne rfl rfl)) rfl) (.orF (Tst.cast (Tst.cmp (Ev.fn A g_divmod rfl (.cons (Ev.fn A g_neg rfl (.cons (Ev.name rfl) .nil) f_neg) (.cons (Ev.name rfl) .nil)) d2) (ev_tup (.cons (Ev.fn A g_neg rfl (.cons (Ev.name rfl) .nil) f_neg) (.cons Ev.int .nil))) (Cmp.ne (shp_iT _ _) (shp_iT _ _))) (congrArg (!·) (eqv_iT _ _))) .orNil))) Rn.nil ?_
  have e2w : SV.int (2 * (w : Int)) = .int ((2 * w : Nat) : Int) := rfl
  have sh2 : ∀ {ρ : List (Str × SV)} {p : Pos} {k : Nat} {p2 p3 : Pos}, ρ.lookup ("width" : Str) = some (.int w) → Ev G ρ (.BinOp (.Constant (.int 2) k p) .Mult (.Name "width" p2) p3) (.int ((2 * w : Nat) : Int)) := fun h => Ev.cast (Ev.bin Ev.int (Ev.name h) (Bin.mul_int (.of_left (by decide)))) e2w
  refine Rn.ite (b := false) (Tst.cast (Tst.cmp (Ev.fn A g_divmod rfl (.cons (Ev.fn A g_sub rfl (.cons (ev_sh A rfl (Ev.name rfl) (sh2 rfl) (Nat.le_trans s16 (by decide)) (wK (by decide))) (.cons Ev.int .nil)) (f_sub Bin.sub_int)) (.cons (Ev.name rfl) .nil)) d3) (ev_tup (l := [.int (2 ^ (2 * w) - 1), .int (sq - 1)]) (.cons (Ev.fn A g_sub rfl (.cons (Ev.cast (ev_sh A rfl Ev.int (sh2 rfl) bits_one (wK (by decide))) (congrArg SV.int (Int.one_mul (2 ^ (2 * w))))) (.cons Ev.int .nil)) (f_sub Bin.sub_int)) (.cons (Ev.fn A g_sub rfl (.cons (Ev.name rfl) (.cons Ev.int .nil)) (f_sub Bin.sub_int)) .nil))) (Cmp.ne (shp_iT _ _) (shp_iT _ _))) (congrArg (!·) (eqv_iT _ _))) Rn.nil ?_
  have lq3 : (iL (q :: qs)).length ≤ sizeLine := by unfold iL; rw [List.length_map]; exact lenB (Nat.le_trans (Nat.le_of_succ_le_succ (m := 29) (Nat.le_trans (Nat.le_of_eq lq) ht)) (by decide))
  have cut4 : cutL (iL (q :: qs)) none none (some (-1)) = iL (q :: qs).reverse := by rw [cut_rev]; unfold iL; rw [List.map_reverse]
  exact Rn.ret (Ev.cast (Ev.cmp (Ev.fn A g_i2d rfl (.cons (Ev.name rfl) (.cons (Ev.name rfl) .nil)) di) (EvF.slice (EvF.slice (Ev.name rfl) .none (.some (Ev.un Ev.int Un.neg)) .none (by decide) len2 cut2).ev .none .none (.some (Ev.un Ev.int Un.neg)) (by decide) lq3 cut4).ev (Cmp.eq (shp_iL _) (shp_iL _))) (congrArg SV.bool ((eqv_iL _ _).trans (beq_self_eq_true _))))

/-! codes of two signs -/
section
variable {α β : Type} [BEq α] [LawfulBEq α] [BEq β] [LawfulBEq β] {h : α → β} (inj : ∀ a b, h a = h b → a = b)
include inj
theorem pre_map : ∀ (w x : List α), (w.map h).isPrefixOf (x.map h) = w.isPrefixOf x
  | [], _ => by cases ‹List α› <;> rfl
  | _ :: _, [] => rfl
  | a :: w, b :: x => by
    show ((h a == h b) && (w.map h).isPrefixOf (x.map h)) = ((a == b) && w.isPrefixOf x)
    rw [pre_map w x]
    by_cases e : a = b
    · rw [e, beq_self_eq_true, beq_self_eq_true]
    · rw [beq_eq_false_iff_ne.mpr e, beq_eq_false_iff_ne.mpr fun z => e (inj a b z)]
theorem suf_map (w x : List α) : (w.map h).isSuffixOf (x.map h) = w.isSuffixOf x := by
  show (w.map h).reverse.isPrefixOf (x.map h).reverse = w.reverse.isPrefixOf x.reverse
  rw [← List.map_reverse, ← List.map_reverse, pre_map inj]
omit [BEq α] [LawfulBEq α] [BEq β] [LawfulBEq β] inj in
theorem filt_map (g : List β → Bool) (f : List α → Bool) (e : ∀ x, g (x.map h) = f x) (c : List (List α)) : (c.map (List.map h)).filter g = (c.filter f).map (List.map h) := by
  rw [List.filter_map]
  exact congrArg (List.map (List.map h)) (congrFun (congrArg List.filter (funext e)) c)
theorem grow_map (c : List (List α)) (w : List α) : grow (c.map (List.map h)) (w.map h) = (grow c w).map (List.map h) := by
  have e1 : heads (c.map (List.map h)) (w.map h) = (heads c w).map (List.map h) := filt_map _ _ (fun x => suf_map inj w x) c
  have e2 : tails (c.map (List.map h)) (w.map h) = (tails c w).map (List.map h) := by
    unfold tails
    rw [filt_map _ _ (fun x => pre_map inj w x) c, List.map_map, List.map_map]
    refine congrFun (congrArg List.map (funext fun x => ?_)) _
    show (x.map h).drop (w.map h).length = (x.drop w.length).map h
    rw [List.length_map, List.map_drop]
  have e3 : both (c.map (List.map h)) (w.map h) = (both c w).map (List.map h) := filt_map _ _ (fun x => by rw [pre_map inj, suf_map inj]) c
  have e4 : kept (c.map (List.map h)) (w.map h) = (kept c w).map (List.map h) := filt_map _ _ (fun x => by rw [pre_map inj, suf_map inj]) c
  have em : ∀ l : List (List α), (l.map (List.map h)).isEmpty = l.isEmpty := fun l => by cases l <;> rfl
  have e5 : stop (c.map (List.map h)) (w.map h) = stop c w := by unfold stop; rw [e1, e2, e3, em, em, em, List.length_map, List.length_map]
  unfold grow
  rw [e5, e1, e2, e4]
  cases stop c w with
  | true => rfl
  | false =>
    show _ ++ _ ++ _ = List.map _ (_ ++ _ ++ _)
    rw [List.map_append, List.map_append, List.map_flatMap, List.flatMap_map]
    refine congrArg _ (congrFun (congrArg List.flatMap (funext fun x => ?_)) _)
    show ((tails c w).map (List.map h)).map _ = ((tails c w).map _).map _
    rw [List.map_map, List.map_map]
    exact congrFun (congrArg List.map (funext fun y => (List.map_append ..).symm)) _
end
theorem codes_map {α β : Type} [BEq α] [LawfulBEq α] [BEq β] [LawfulBEq β] {h : α → β} (inj : ∀ a b, h a = h b → a = b) (p q : α) : ∀ (cs : List Int) (c : List (List α)), codes (h p) (h q) (c.map (List.map h)) cs = (codes p q c cs).map (List.map h)
  | [], _ => rfl
  | x :: cs, c => by
    show codes (h p) (h q) (grow (c.map (List.map h)) (wOf (h p) (h q) (4 + rem12 x))) cs = (codes p q (grow c (wOf p q (4 + rem12 x))) cs).map (List.map h)
    rw [← codes_map inj p q cs, ← grow_map inj]
    refine congrArg (fun w => codes (h p) (h q) (grow (c.map (List.map h)) w) cs) ?_
    unfold wOf
    rw [List.map_map]
    exact congrFun (congrArg List.map (funext fun b => (apply_ite h _ _ _).symm)) _
theorem uni_map {α β : Type} (h : α → β) (p q : α) : ∀ n, uni (h p) (h q) n = (uni p q n).map (List.map h)
  | 0 => rfl
  | n + 1 => by
    show (uni (h p) (h q) n).flatMap _ = ((uni p q n).flatMap _).map _
    rw [uni_map h p q n, List.map_flatMap, List.flatMap_map]
    exact congrFun (congrArg List.flatMap (funext fun x => by simp)) _
/-! all codes that can be come to, written as numbers: a word is a figure 3 and its signs as figures 1 and 2 -/
def enc (c : List (List Bool)) : Nat := c.foldl (fun a x => x.foldl (fun a b => a * 4 + (bif b then 2 else 1)) (a * 4 + 3)) 0
noncomputable def decF (f : Nat) : Nat → List Bool → List (List Bool) → List (List Bool) :=
  @Nat.rec (fun _ => Nat → List Bool → List (List Bool) → List (List Bool)) (fun _ _ acc => acc) (fun _ ih n cur acc => @Nat.rec (fun _ => List (List Bool)) acc (fun x _ => @Nat.rec (fun _ => List (List Bool)) (ih (Nat.div n 4) (false :: cur) acc) (fun y _ => @Nat.rec (fun _ => List (List Bool)) (ih (Nat.div n 4) (true :: cur) acc) (fun _ _ => ih (Nat.div n 4) [] (cur :: acc)) y) x) (Nat.mod n 4)) f
noncomputable def dec (n : Nat) : List (List Bool) := decF (Nat.log2 n + 1) n [] []
/-- from the codes of L one comes to codes of L' -/
noncomputable def closed (L L' : List Nat) : Bool := L.all fun l => (List.range 12).all fun k => L'.any (fun e => Nat.beq e (enc (grow (dec l) (wOf false true (4 + k))))) && (grow (dec l) (wOf false true (4 + k)) == dec (enc (grow (dec l) (wOf false true (4 + k)))))
theorem closed_step {L L' : List Nat} (h : closed L L' = true) {d : List (List Bool)} (hd : d ∈ L.map dec) (x : Int) : grow d (wOf false true (4 + rem12 x)) ∈ L'.map dec := by
  obtain ⟨l, hl, rfl⟩ := List.mem_map.mp hd
  have h1 := List.all_eq_true.mp (List.all_eq_true.mp h l hl) (rem12 x) (List.mem_range.mpr (rem12_lt x))
  rw [Bool.and_eq_true] at h1
  obtain ⟨e, he, h2⟩ := List.any_eq_true.mp h1.1
  rw [eq_of_beq h1.2, ← Nat.eq_of_beq_eq_true h2]
  exact List.mem_map_of_mem he
theorem closed_app {L L' M : List Nat} (h : closed L M = true) (h' : closed L' M = true) : closed (L ++ L') M = true := List.all_append.trans (by unfold closed at h h'; rw [h, h']; rfl)
theorem closed_more {L M N : List Nat} (h : closed L M = true) : closed L (M ++ N) = true := by
  unfold closed at h ⊢
  refine List.all_eq_true.mpr fun l hl => List.all_eq_true.mpr fun k hk => ?_
  have h1 := List.all_eq_true.mp (List.all_eq_true.mp h l hl) k hk
  rw [Bool.and_eq_true] at h1 ⊢
  exact ⟨by rw [List.any_append, h1.1, Bool.true_or], h1.2⟩
theorem sub_map {d : List (List Bool)} {L N : List Nat} (h : d ∈ L.map dec) : d ∈ (L ++ N).map dec := by
  rw [List.map_append]; exact List.mem_append_left _ h
theorem mem3 {n : Nat} {L N1 N2 N3 : List Nat} (h0 : uni false true n ∈ L.map dec) (c1 : closed L (L ++ N1) = true) (c2 : closed (L ++ N1) (L ++ N1 ++ N2) = true) (c3 : closed (L ++ N1 ++ N2) (L ++ N1 ++ N2 ++ N3) = true) : ∀ {cs : List Int}, cs.length ≤ 3 → codes false true (uni false true n) cs ∈ (L ++ N1 ++ N2 ++ N3).map dec
  | [], _ => sub_map (sub_map (sub_map h0))
  | [a], _ => sub_map (sub_map (closed_step c1 h0 a))
  | [a, b], _ => sub_map (closed_step c2 (closed_step c1 h0 a) b)
  | [a, b, c], _ => closed_step c3 (closed_step c2 (closed_step c1 h0 a) b) c
/-! trees of codes -/
inductive Tr where | leaf | node (a b : Tr)
noncomputable def bq (a b : Bool) : Bool := @Bool.rec (fun _ => Bool) (@Bool.rec (fun _ => Bool) true false b) b a
theorem bq_iff {a b : Bool} : bq a b = true ↔ a = b := by cases a <;> cases b <;> decide
noncomputable def sub (b : Bool) (c : List (List Bool)) : List (List Bool) :=
  @List.rec (List Bool) (fun _ => List (List Bool)) [] (fun x _ ih => @List.rec Bool (fun _ => List (List Bool)) ih (fun a r _ => @Bool.rec (fun _ => List (List Bool)) ih (r :: ih) (bq a b)) x) c
noncomputable def nil' {α : Type} (x : List α) : Bool := @List.rec α (fun _ => Bool) true (fun _ _ _ => false) x
noncomputable def hasNil (c : List (List Bool)) : Bool := @List.rec (List Bool) (fun _ => Bool) false (fun x _ ih => @Bool.rec (fun _ => Bool) ih true (nil' x)) c
noncomputable def one (c : List (List Bool)) : Bool := @List.rec (List Bool) (fun _ => Bool) false (fun x r _ => @Bool.rec (fun _ => Bool) false (nil' r) (nil' x)) c
theorem one_eq {c : List (List Bool)} (h : one c = true) : c = [[]] := by
  cases c with
  | nil => cases h
  | cons x r => cases x with
    | cons => cases h
    | nil => cases r with
      | nil => rfl
      | cons => cases h
theorem not_nil {c : List (List Bool)} : hasNil c = false → [] ∉ c := by
  induction c with
  | nil => intro _ h; cases h
  | cons x c ih => cases x with
    | nil => intro h; cases h
    | cons a r => exact fun h z => (List.mem_cons.mp z).elim (fun z => nomatch z) (ih h)
noncomputable def build (d : Nat) : List (List Bool) → Option Tr :=
  @Nat.rec (fun _ => List (List Bool) → Option Tr) (fun _ => none) (fun _ ih c => @Bool.rec (fun _ => Option Tr) (@Bool.rec (fun _ => Option Tr) (@Option.rec Tr (fun _ => Option Tr) none (fun a => @Option.rec Tr (fun _ => Option Tr) none (fun b => some (.node a b)) (ih (sub true c))) (ih (sub false c))) none (hasNil c)) (some .leaf) (one c)) d
theorem build_succ (d : Nat) (c : List (List Bool)) : build (d + 1) c = @Bool.rec (fun _ => Option Tr) (@Bool.rec (fun _ => Option Tr) (@Option.rec Tr (fun _ => Option Tr) none (fun a => @Option.rec Tr (fun _ => Option Tr) none (fun b => some (.node a b)) (build d (sub true c))) (build d (sub false c))) none (hasNil c)) (some .leaf) (one c) := rfl
def walk : Tr → List Bool → List Bool
  | .node a b, x :: s => x :: walk (if x then b else a) s
  | _, _ => []
theorem mem_sub {b : Bool} {r : List Bool} {c : List (List Bool)} : r ∈ sub b c ↔ (b :: r) ∈ c := by
  induction c with
  | nil => exact ⟨(fun h => nomatch h), (fun h => nomatch h)⟩
  | cons x c ih => cases x with
    | nil =>
      show r ∈ sub b c ↔ _
      rw [ih, List.mem_cons]
      exact ⟨.inr, fun h => h.resolve_left fun z => nomatch z⟩
    | cons a t =>
      show r ∈ @Bool.rec (fun _ => List (List Bool)) (sub b c) (t :: sub b c) (bq a b) ↔ _
      rw [List.mem_cons]
      cases q : bq a b with
      | true =>
        rw [bq_iff.mp q]
        show r ∈ t :: sub b c ↔ _
        rw [List.mem_cons, ih]
        exact ⟨fun h => h.imp (fun z => by rw [z]) id, fun h => h.imp (fun z => (List.cons.inj z).2) id⟩
      | false =>
        show r ∈ sub b c ↔ _
        rw [ih]
        refine ⟨.inr, fun h => h.resolve_left fun z => ?_⟩
        rw [bq_iff.mpr (List.cons.inj z).1.symm] at q; cases q
theorem build_cases {d : Nat} {c : List (List Bool)} {t : Tr} (hb : build (d + 1) c = some t) : (c = [[]] ∧ t = .leaf) ∨ ([] ∉ c ∧ ∃ a b, build d (sub false c) = some a ∧ build d (sub true c) = some b ∧ t = .node a b) := by
  rw [build_succ] at hb
  cases q : one c with
  | true => rw [q] at hb; cases hb; exact .inl ⟨one_eq q, rfl⟩
  | false =>
    rw [q] at hb
    cases q2 : hasNil c with
    | true => rw [q2] at hb; cases hb
    | false =>
      rw [q2] at hb
      refine .inr ⟨not_nil q2, ?_⟩
      cases ea : build d (sub false c) with
      | none => rw [ea] at hb; cases hb
      | some a =>
        cases eb : build d (sub true c) with
        | none => rw [ea, eb] at hb; cases hb
        | some b => rw [ea, eb] at hb; cases hb; exact ⟨a, b, rfl, rfl, rfl⟩
theorem build_ok : ∀ {d : Nat} {c : List (List Bool)} {t : Tr}, build (d + 1) c = some t → ∀ s : List Bool, d ≤ s.length → walk t s ∈ c ∧ ∀ x ∈ c, x.isPrefixOf s = decide (x = walk t s) := by
  intro d
  induction d with
  | zero =>
    intro c t hb s _
    rcases build_cases hb with ⟨rfl, rfl⟩ | ⟨_, a, b, e, _⟩
    · exact ⟨by cases s <;> exact .head _, fun x hx => by rw [List.mem_singleton.mp hx]; cases s <;> rfl⟩
    · cases e
  | succ d ih =>
    intro c t hb s hs
    rcases build_cases hb with ⟨rfl, rfl⟩ | ⟨hne, a, b, ea, eb, rfl⟩
    · exact ⟨by cases s <;> exact .head _, fun x hx => by rw [List.mem_singleton.mp hx]; cases s <;> rfl⟩
    · cases s with
      | nil => cases hs
      | cons x s =>
        have key : ∀ {u : Tr}, build (d + 1) (sub x c) = some u → (x :: walk u s) ∈ c ∧ ∀ y ∈ c, y.isPrefixOf (x :: s) = decide (y = x :: walk u s) := fun {u} e => by
          obtain ⟨h1, h2⟩ := ih e s (Nat.le_of_succ_le_succ hs)
          refine ⟨mem_sub.mp h1, fun y hy => ?_⟩
          cases y with
          | nil => exact absurd hy hne
          | cons z y =>
            show ((z == x) && y.isPrefixOf s) = _
            by_cases q : z = x
            · subst q
              rw [beq_self_eq_true, Bool.true_and, h2 y (mem_sub.mpr hy)]
              exact decide_eq_decide.mpr ⟨fun e => by rw [e], fun e => (List.cons.inj e).2⟩
            · rw [beq_eq_false_iff_ne.mpr q, Bool.false_and]
              exact (decide_eq_false fun e => q (List.cons.inj e).1).symm
        cases x with
        | true => exact key eb
        | false => exact key ea

theorem nodup_sub : ∀ {c : List (List Bool)}, [] ∉ c → (sub false c).Nodup → (sub true c).Nodup → c.Nodup
  | [], _, _, _ => .nil
  | [] :: _, h, _, _ => absurd (.head _) h
  | (a :: r) :: c, h, h0, h1 => by
    have hc : [] ∉ c := fun z => h (.tail _ z)
    have key : (a :: r) ∉ c ∧ (sub false c).Nodup ∧ (sub true c).Nodup := by
      cases a with
      | false => exact ⟨fun z => (List.nodup_cons.mp h0).1 (mem_sub.mpr z), (List.nodup_cons.mp h0).2, h1⟩
      | true => exact ⟨fun z => (List.nodup_cons.mp h1).1 (mem_sub.mpr z), h0, (List.nodup_cons.mp h1).2⟩
    exact List.nodup_cons.mpr ⟨key.1, nodup_sub hc key.2.1 key.2.2⟩
theorem build_nodup : ∀ {d : Nat} {c : List (List Bool)} {t : Tr}, build d c = some t → c.Nodup := by
  intro d
  induction d with
  | zero => intro c t hb; cases hb
  | succ d ih =>
    intro c t hb
    rcases build_cases hb with ⟨rfl, rfl⟩ | ⟨hne, a, b, ea, eb, rfl⟩
    · exact List.nodup_cons.mpr ⟨(fun z => nomatch z), .nil⟩
    · exact nodup_sub hne (ih ea) (ih eb)
theorem mem_uni : ∀ (n : Nat) (l : List Bool), l.length = n → l ∈ uni false true n
  | 0, l, h => by rw [List.length_eq_zero_iff.mp h]; exact .head _
  | n + 1, l, h => by
    have hne : l ≠ [] := fun z => by rw [z] at h; cases h
    refine List.mem_flatMap.mpr ⟨l.dropLast, mem_uni n _ (by rw [List.length_dropLast, h]; rfl), List.mem_map.mpr ⟨[l.getLast hne], ?_, List.dropLast_concat_getLast hne⟩⟩
    cases l.getLast hne with
    | false => exact .head _
    | true => exact .tail _ (.head _)
def rings4 : List (List Bool) := [1, 2, 3, 4].flatMap (uni false true)
def topOf (c : List (List Bool)) : Nat := c.foldl (fun m x => max m x.length) 0
/-- how long the walk is -/
noncomputable def wl (t : Tr) : List Bool → Nat := @Tr.rec (fun _ => List Bool → Nat) (fun _ => 0) (fun _ _ ia ib s => @List.rec Bool (fun _ => Nat) 0 (fun x r _ => Nat.succ (@Bool.rec (fun _ => Nat) (ia r) (ib r) x)) s) t
theorem wl_eq (t : Tr) : ∀ s, wl t s = (walk t s).length := by
  induction t with
  | leaf => intro s; cases s <;> rfl
  | node a b iha ihb =>
    intro s
    cases s with
    | nil => rfl
    | cons x s =>
      cases x with
      | false => exact congrArg Nat.succ (iha s)
      | true => exact congrArg Nat.succ (ihb s)
noncomputable def sumOk (n : Nat) (t : Tr) (top : Nat) (ring : List Bool) : Bool := Nat.beq ((List.range ring.length).map fun i => (i + wl t ((strip ring top).drop i)) / ring.length).sum n
def meanB (b : Int) : List Int → Bool
  | c0 :: c1 :: r => match (byTwo (c0 + b - 1) ((c1 - 2 * b) :: r)).dropLast with
    | a :: l => lastTwo (c0 + b - 1) ((c1 - 2 * b) :: r) == 0 && (lastTwo a l == 0 && match (byTwo a l).dropLast with
      | q :: qs => decide (0 < q) && (q :: qs).all fun d => decide (0 ≤ d) && decide (d < 65536)
      | [] => false)
    | [] => false
  | _ => false
def sizes (c : List (List Bool)) (top : Nat) : Bool := (c.map List.length).contains top && (c.all (fun x => decide (x.length ≤ top) && !x.isEmpty) && (decide (1 ≤ top) && (decide (top ≤ 30) && (decide (2 ≤ c.length) && decide (c.length ≤ 100)))))
noncomputable def chkAt (n : Nat) (c : List (List Bool)) (top : Nat) : Bool :=
  match build (top + 1) c with
  | none => false
  | some t => match build (top + 1) (c.map List.reverse) with
    | none => false
    | some _ => sizes c top && (meanB n (cntL c top) && rings4.all (sumOk n t top))
noncomputable def chk (n : Nat) (c : List (List Bool)) : Bool := chkAt n c (topOf c)
theorem meanB_ok {b : Int} {cs : List Int} (h : meanB b cs = true) : Nonempty (MeanOk b cs) := by
  unfold meanB at h
  split at h
  · rename_i c0 c1 r
    split at h
    · rename_i a l e1
      rw [Bool.and_eq_true, Bool.and_eq_true] at h
      obtain ⟨z1, z2, h⟩ := h
      split at h
      · rename_i q qs e2
        rw [Bool.and_eq_true] at h
        refine ⟨⟨c0, c1, r, rfl, a, l, e1, eq_of_beq z1, eq_of_beq z2, q, qs, e2, of_decide_eq_true h.1, fun d hd => ?_⟩⟩
        have := List.all_eq_true.mp h.2 d hd
        rw [Bool.and_eq_true] at this
        exact ⟨of_decide_eq_true this.1, of_decide_eq_true this.2⟩
      · cases h
    · cases h
  · cases h
/-- three balls -/
def C0 : List Nat := [15408742709277944298]
def C1 : List Nat := [252456859689519430932390, 252526305192462051600282]
theorem mem_c {cs : List Int} (h : cs.length ≤ 3) : codes false true (uni false true 3) cs ∈ (C0 ++ C1 ++ [] ++ []).map dec := mem3 (List.contains_iff_mem.mp (by decide +kernel)) (by decide +kernel) (by decide +kernel) (by decide +kernel) h
theorem all3 : ((C0 ++ C1 ++ [] ++ []).map dec).all (chk 3) = true := by decide +kernel
/-- four balls -/
def D0 : List Nat := [1218633751782715906343726201289136517458724562858]
def D1 : List Nat := [79864381556832154958049273522091589766670007768014486, 79864381647342163982461863304404920474148540965609062, 79864381556832069638226976854685571842904574032240294, 79865752875562931233660978967893889120842937939631706, 79864381556832069887457226065265099180878542523702938, 79864381557790393762245329585049574146881688902737514]
def D2a : List Nat := [1372059629162388805664730914135230777231201806690447971798317462, 1372059627607438685116861041039382060140548309809588162236086934, 1372084760558328733629700529693200642740569057813086453821241946, 5233992109708568838669187664398941818591244705930582531738, 5233992109777344663532528350268362898583712006313448218218, 6957168849834521927823798391034470927724047367047342243753349615275671349259194877573452101222, 6957201137355761158444298112684219003587963341332128597301536911593372979357158979634237979033, 1372059629162388805664730914072539101956230811870309489475680662, 5233992115646164788002196995422893896270901843386350329510, 1372089469981480131802478532794392715997466445964991768041191782, 5233992460811836082184368364558680489808019919536474463850]
def D2b : List Nat := [1372059627607438685116861041060172881809973449783761482769857174, 5233992115646164788002197320258437594901214422681988259430, 5234081980458841006894385440636477899953507338137299689050, 1372059627607437223609643079339750019365466258587597578739022490, 1372059627623901100927224367033225148568841867221670197765700006, 1372084760558328733629700529615240033356906456361448648698395226, 1372089469981480131802478532778477359001486509333154264111479142, 5234081980458841006894385054894269757830011150223729647270, 5234081997996860720279188201905767687767559591361472208538, 1372083186749761120156521932652746571090125824868470405979601258, 6957168849796141937856640514715629029664142068311136761596291398458761958635509279105814477414]
def D2c : List Nat := [6957192721676177284785210575453750003919609639224453759701476478098876719275356287321409747354, 5233992109708568838669187684701163299755639242136559902358, 1372059627607437223609643079324157834353791734720361078140074650, 5234081997996860720279188526741311386397872170657110138458, 1372059627623969792952355338855529377111345822738194598301694570, 5233992109777344663532528126943926605775372108047697141398, 5233992460811836082184368384860901970972414455742451834470, 1372059627623901100927224366954941367200873853005431389312088486, 1372083186749761120156521932673860564743856377607244729844136298, 1372059627623969792952355338793160873820680240682657119309822570]
def D2 : List Nat := D2a ++ (D2b ++ D2c)
def D3 : List Nat := [30597952187176180372125025659110505313982043880481869052032792861946404210607355470128056859132606975170966, 23571804941684307778454827896979316476775187041091070591634742238672943766, 89919307496025254410252197254203793979806749564729590715474042592874, 23571804941684307778460820055119707989049923926773237950959294633927342486, 24717281694359031667441401796644073709753631024854350927597892432581816684767834, 23571804914943653518451858864577390456317136011659368568604065876534524570, 24716828910816713211197089585264276284997097558696667089858327600027102575191702, 24717281694359031667441399975004622854029051250393063589629833042570949082868314, 89921255506669407347829674238097197023097502684982603411909648162458, 24717282992238219091834109194390480042721688325126433329551369113725436808522090, 96550113041140563191447199651628652697187917735441193011844181074138495548006, 23571804914943653518451858864510424993973193335391177309742531747552590490, 89921255506669407347829675633255234034836703071206021737142996597338, 89919299762635916390471762373463815117802884151021688901482657249898, 89919307496025254410252197341379911109356829107391232507219110361494, 24716828910816713211197089584911711769326221583279566468871785127153662791378582, 24717282992238219091834109194485569288988931796057770846397272622259473348159850, 89919299762635916390471762373463752749299593485439633364003665377898, 144498061246766097011589022686505155191626727641531644173335594208867039124692273956945665012533963572216132711548717356028385638, 144495415248066961648039581982322292139269909693057140068195108041206872052359007592721137553376019161967102776753004050215790169, 30597952187176180369770509205398512128415603864918133203055768176679355953828784229365206321055257356261782, 23571804941684307777304181774802135541831913569167161145655356345207323286, 89919307496025249892840910732739639892282673189446178186174140948074, 96550113041140561985949068047231024154569070178835233624724668186860786907750, 23571804941684307777304181774891694901234930485408568255633629735356299926, 89921362667879033679277866065164028058943173725028036956806295681382, 89919305786790063289873769314361263643452757194255165382580983396774, 30600159125126697257249578622422612259483930663193215831242660684991104446388395865340527927683980777416089, 89921362667879033679277864408435119581309831494884911300324572683942, 23573505394472844201657213174427484171123802722621214440669817632538130794, 96557078096076801396120899078308292224514486736451586675935805146681355696538, 89919307496025249892840909768122642904243962365489754762381317470614, 89919305786790063289873769314361185359671389226240949143772529785254, 23573505394472844201657213174518170469882409765487066971081078074704034154, 23571804941684307778838174258720409047916903847476054958195638313094052246]
def D4 : List Nat := [24717281694359031667843553201845837600500120770688715532113942238859981154282074, 23571804914943653518839653381763336448196407143135641453924865917225171610, 24716828910816713211605519226161545605321791974676528347070634025461780502144662, 96550113041140563593279814382075736582847554813797412012691579940808731227750, 23571804941684307778838174258452459479516520029853490252054954324735130006, 89921362667879039648046271226507998926395371537280774117744921114982, 89919305786790069305421643715182728362854251533306861582219779602854, 24717281694359031667843553201494734564143711061283316486418617043476808038214234, 89921362667879039648046271226507983011038375557344142280240991402342, 89920844128568484252050332833201541387209207215557912317750933879450, 24717253314270187550309992153110019523060673296935785234659048018091600999998886, 30597952187007350828541489796899862720236609483124492322994134922860819009732715963297194456183293829638758, 23571804914943653518840027891647110917713517347548145841015237775477537430, 89920844128568484252050334228359577842596373399724209591834642849370, 24716828910816713211605518171565090143530667542290348794548648486694687742486166, 89919305786790069305421643802401365824999569915462541155169418501734, 24717253314270187550309992153205114204101555185655831325906536965484288378529190, 24717281694359031665933424252326785291840950212701774712410248069520465541589594, 89921255506669401730175732320662225412615312640547761540427114192538, 24717282992238219090326133245425430267332177868483900507252788943633831172893034, 30600159125126697255175294037044471799774679732813887886078144494402903527335425357936134555932980037739929, 89921362667879032532455531023416572057956205497858550066275064372902, 23573505394472844201365205099119160139240560507327349624422101457533827434, 24717281694359031665933424252420418829192931201897152207542554836139822894672474, 89921362667879032532455532413128762063511536829951793284633167755622, 89920844128568477136356855819587687537090198265801236288197643106970, 24717253314270187548393612148739656558177704864560454903280438240070378147145126, 96557078096076801093183669808439617730651778912107997967365033083016816523674, 89921255506669401730175732407859605043133561718337744806868214512218, 89920844128568477136356855819587671944905186591277369051697044159130, 23572210895757943287716568614829578851245266873696195694473739689986259562, 24717282992238219090326132196793371818213360910678384401637927387694315975862634, 23573505394472844201365579609002934608757670711739854011512473315786193254, 24717253314270187548393612148388558871840045353428219459217937337520341574346150, 23572210895757943287716568614561624432971239489473731488525590105035537002]
def D5 : List Nat := [144494745637765025358595315771744011958444627648917510147666953452779957140123521036043947035939493508713416673407311152464456102, 144495239651923091241956791396490872125969523280920665056194743179441088779376187646298745633735831205752227321577589891191662234, 96550113041140563318582646504463860986271132626384358733355383982596776639077, 23571804914943653518547733394732972780115788878735046879191172980050066070, 89921255506669407722333872953510875193754118465064384705918764743258, 89919299762635916764987332525843513683063824516619853017742977956458, 30597952187007350828455526703919309412704343572009178547827864533365484694220209943811660025762774523505254, 23571804914943653518547733394822266215896853851226110212361408812992002710, 89920844128568483128514996492852081651008117192965436114019299991130, 96557078096076809129835102178272301533222422554689987265334233028004153816474, 89921255506669407722333872953510797233144734802462933068113641896538, 89920844128568483128514994836101915341747705658456614151029038414490, 23572210895757943289250561098390343429526856418141117690895064279365089642, 30598059193551942692533478023406568176923645440011261830160878144237929777745743529626555383295076322633322, 89919299762635916764987331566672363144856948544736483649675760066198, 23572210895757943289250561098479897939056229767782625301065872072922265962, 89919307496025250267253741720267771258588007479718411983178493688214, 24716828910816713210091266591906879482209293388219103556165777572712377962849942, 24717282992238219090734537256776784231804192173986473986193812638502426228943210, 89919299762635912270863040607521885427921093112693320778356417526378, 96557078096076801495016284538863960409590967238012727834191651270509283686809, 89919307496025250267253741720267708566912732508723591844696171051414, 89919305786790063664480704834851459421180974842463639146493765056934, 23573505394472844201753087704740718256025005308830936540529719307201509734, 24716828910816713210091266592001974078495287057423604674644505374079551045756566, 89919305786790063664480706235455342882752010080760111527452719079014, 24717253314270187548802041011792236920629292376528746146214733459160482269488550, 24717282992238219090734537256425680859822217098094041961322452346402316470577514, 23573505394472844201753087704672359930703520562187956084427160568995608934, 24717253314270187548802039184188389052232405127486795361339550086322037104960934, 23572210895757943288100147412135800242300250964563560722797699909340002922, 30598059193551942690171194687937683846501354434958915176792597317660677874134808881968641388923089037420138, 89919299762635912270863040694719260389098241959720658876610023874198, 23572210895757943288106139570276191754574987850245728082122252304594401642]
def D345 : List Nat := D3 ++ (D4 ++ D5)
theorem closed_d1 : closed D0 (D0 ++ D1) = true := by decide +kernel
theorem closed_d2 : closed (D0 ++ D1) (D0 ++ D1 ++ D2) = true := by decide +kernel
theorem closed_a : closed D2a (D0 ++ D1 ++ D2 ++ D345) = true := by decide +kernel
theorem closed_b : closed D2b (D0 ++ D1 ++ D2 ++ D345) = true := by decide +kernel
theorem closed_c : closed D2c (D0 ++ D1 ++ D2 ++ D345) = true := by decide +kernel
theorem mem_d {cs : List Int} (h : cs.length ≤ 3) : codes false true (uni false true 4) cs ∈ (D0 ++ D1 ++ D2 ++ (D3 ++ (D4 ++ D5))).map dec :=
  mem3 (N3 := D345) (List.contains_iff_mem.mp (by decide +kernel)) closed_d1 closed_d2 (closed_app (closed_more closed_d2) (closed_app closed_a (closed_app closed_b closed_c))) h
theorem all_2 : ((D0 ++ D1 ++ D2).map dec).all (chk 4) = true := by decide +kernel
theorem all_3 : (D3.map dec).all (chk 4) = true := by decide +kernel
theorem all_4 : (D4.map dec).all (chk 4) = true := by decide +kernel
theorem all_5 : (D5.map dec).all (chk 4) = true := by decide +kernel
theorem all4 : ((D0 ++ D1 ++ D2 ++ (D3 ++ (D4 ++ D5))).map dec).all (chk 4) = true := by
  rw [List.map_append, List.all_append, all_2, List.map_append, List.all_append, all_3, List.map_append, List.all_append, all_4, all_5]; rfl

/-- what the check tells -/
structure Facts (n : Nat) (c : List (List Bool)) (top : Nat) (t t' : Tr) : Prop where
  bt : build (top + 1) c = some t
  bt' : build (top + 1) (c.map List.reverse) = some t'
  tm : top ∈ c.map List.length
  tx : ∀ x ∈ c, x.length ≤ top ∧ x ≠ []
  t1 : 1 ≤ top
  t30 : top ≤ 30
  c2 : 2 ≤ c.length
  c100 : c.length ≤ 100
  mean : Nonempty (MeanOk n (cntL c top))
  sum : ∀ ring ∈ rings4, sumOk n t top ring = true
theorem chk_ok {n : Nat} {c : List (List Bool)} (h : chk n c = true) : ∃ top t t', Facts n c top t t' := by
  unfold chk chkAt at h
  generalize topOf c = top at h
  split at h
  · cases h
  · rename_i t ht
    split at h
    · cases h
    · rename_i t' ht'
      unfold sizes at h
      simp only [Bool.and_eq_true] at h
      obtain ⟨⟨h1, h2, h3, h4, h5, h6⟩, h7, h8⟩ := h
      refine ⟨top, t, t', ht, ht', List.contains_iff_mem.mp h1, fun x hx => ?_, of_decide_eq_true h3, of_decide_eq_true h4, of_decide_eq_true h5, of_decide_eq_true h6, meanB_ok h7, List.all_eq_true.mp h8⟩
      have := List.all_eq_true.mp h2 x hx
      rw [Bool.and_eq_true] at this
      exact ⟨of_decide_eq_true this.1, fun z => by rw [z] at this; exact absurd this.2 (by decide)⟩
theorem perm_of : ∀ {a l : List Nat}, a.Nodup → (∀ x ∈ a, x ∈ l) → a.length = l.length → a.Perm l
  | [], l, _, _, h => by rw [List.length_eq_zero_iff.mp h.symm]
  | x :: a, l, nd, hs, h => by
    obtain ⟨n1, n2⟩ := List.nodup_cons.mp nd
    have hx := hs x (.head _)
    refine List.Perm.trans (.cons x (perm_of n2 (fun y hy => (List.mem_erase_of_ne fun z => n1 (by rw [← z]; exact hy)).mpr (hs y (.tail _ hy))) ?_)) (List.perm_cons_erase hx).symm
    rw [List.length_erase_of_mem hx, ← h]; rfl
theorem strip_drop {α : Type} (ring : List α) (k : Nat) : ∀ top, (strip ring (k + top)).drop (ring.length * k) = strip ring top := by
  intro top
  unfold strip
  rw [Nat.add_assoc, ← List.replicate_append_replicate, List.flatten_append, List.drop_left' (by rw [List.length_flatten, List.map_replicate, List.sum_replicate_nat, Nat.mul_comm])]
theorem strip_pre {α : Type} (ring : List α) (k top : Nat) : strip ring top <+: strip ring (top + k) := by
  show (List.replicate (top + 1) ring).flatten <+: (List.replicate (top + k + 1) ring).flatten
  rw [Nat.add_right_comm top k 1, ← List.replicate_append_replicate (n := top + 1) (m := k), List.flatten_append]
  exact List.prefix_append _ _
theorem strip_map {α β : Type} (h : α → β) (ring : List α) (top : Nat) : strip (ring.map h) top = (strip ring top).map h := by
  unfold strip
  rw [List.map_flatten, List.map_replicate]
/-- the word that begins, and the word that ends, at a place -/
def Wb (t : Tr) (ring : List Bool) (top i : Nat) : List Bool := walk t ((strip ring top).drop i)
def Vb (t' : Tr) (ring : List Bool) (top i : Nat) : List Bool := (walk t' ((strip ring top).take (ring.length * top + i)).reverse).reverse
section
variable {n : Nat} {c : List (List Bool)} {top : Nat} {t t' : Tr} {ring : List Bool}
theorem Wb_ok (F : Facts n c top t t') {i : Nat} (hi : i < ring.length) : Wb t ring top i ∈ c ∧ ∀ x ∈ c, x.isPrefixOf ((strip ring top).drop i) = decide (x = Wb t ring top i) := by
  refine build_ok F.bt _ ?_
  have := Nat.mul_le_mul_right top (show 1 ≤ ring.length by omega)
  rw [List.length_drop, strip_len]; omega
theorem Vb_ok (F : Facts n c top t t') {i : Nat} (hi : i < ring.length) : Vb t' ring top i ∈ c ∧ ∀ x ∈ c, x.isSuffixOf ((strip ring top).take (ring.length * top + i)) = decide (x = Vb t' ring top i) := by
  have hl : top ≤ ((strip ring top).take (ring.length * top + i)).reverse.length := by
    have := Nat.mul_le_mul_right top (show 1 ≤ ring.length by omega)
    rw [List.length_reverse, List.length_take, strip_len]; omega
  obtain ⟨h1, h2⟩ := build_ok F.bt' _ hl
  refine ⟨?_, fun x hx => (h2 _ (List.mem_map_of_mem hx)).trans (decide_eq_decide.mpr ⟨fun e => ?_, fun e => ?_⟩)⟩
  · obtain ⟨y, hy, e⟩ := List.mem_map.mp h1
    unfold Vb
    rw [← e, List.reverse_reverse]; exact hy
  · unfold Vb; rw [← e, List.reverse_reverse]
  · rw [e]; exact List.reverse_reverse _
theorem back_ok (F : Facts n c top t t') {i : Nat} (hi : i < ring.length) : Wb t ring top (st ring.length i (Vb t' ring top i).length) = Vb t' ring top i := by
  obtain ⟨v1, v2⟩ := Vb_ok F hi
  have hs := v2 _ v1
  rw [decide_eq_true rfl] at hs
  have lv := (F.tx _ v1).1
  generalize Vb t' ring top i = v at v1 hs lv
  obtain ⟨s1, _, _, s4⟩ := st_ok (L := v.length) hi
  generalize st ring.length i v.length = r at s1 s4
  have hw := (Wb_ok F s1).2 v v1
  have hp : v.isPrefixOf ((strip ring top).drop r) = true := by
    obtain ⟨A, hA⟩ := List.isSuffixOf_iff_suffix.mp hs
    have hr := Nat.div_add_mod (r + v.length) ring.length
    rw [s4] at hr
    have h1 := Nat.mul_le_mul_right top (show 1 ≤ ring.length by omega)
    have lA : A.length + v.length = ring.length * top + i := by
      have := congrArg List.length hA
      rw [List.length_append, List.length_take, strip_len] at this
      omega
    have hq : (r + v.length) / ring.length ≤ top := by
      rcases Nat.lt_or_ge top ((r + v.length) / ring.length) with h | h
      · have := Nat.mul_le_mul_left ring.length h
        rw [Nat.mul_succ] at this
        omega
      · exact h
    generalize (r + v.length) / ring.length = q at hr hq
    obtain ⟨k, rfl⟩ := Nat.le.dest hq
    have e1 : A.length = ring.length * k + r := by
      rw [Nat.mul_add] at lA; omega
    have e2 : (strip ring (q + k)).drop A.length = (strip ring q).drop r := by
      rw [e1, ← List.drop_drop, Nat.add_comm q k, strip_drop]
    refine List.isPrefixOf_iff_prefix.mpr ?_
    have h3 : v <+: (strip ring (q + k)).drop A.length := by
      obtain ⟨B, hB⟩ := List.take_prefix (ring.length * (q + k) + i) (strip ring (q + k))
      rw [← hB, ← hA, List.append_assoc, List.drop_left]
      exact List.prefix_append _ _
    rw [e2] at h3
    exact h3.trans (by obtain ⟨B, hB⟩ := strip_pre ring k q; rw [← hB, List.drop_append]; exact List.prefix_append _ _)
  rw [hp] at hw
  exact (of_decide_eq_true hw.symm).symm
end

/-- the two signs -/
def sg (p q : Nat) (b : Bool) : Nat := if b then q else p
theorem sg_inj {p q : Nat} (hne : p ≠ q) : ∀ a b, sg p q a = sg p q b → a = b
  | false, false, _ => rfl
  | true, true, _ => rfl
  | false, true, h => absurd h hne
  | true, false, h => absurd h.symm hne
theorem of_ring {p q : Nat} : ∀ {ring : List Nat}, (∀ c ∈ ring, c = p ∨ c = q) → ∃ r : List Bool, ring = r.map (sg p q)
  | [], _ => ⟨[], rfl⟩
  | x :: ring, h => by
    obtain ⟨r, e⟩ := of_ring fun c hc => h c (.tail _ hc)
    rcases h x (.head _) with rfl | rfl
    · exact ⟨false :: r, by rw [e]; rfl⟩
    · exact ⟨true :: r, by rw [e]; rfl⟩
theorem map_inj {h : Bool → Nat} (inj : ∀ a b, h a = h b → a = b) : ∀ {x y : List Bool}, x.map h = y.map h → x = y
  | [], [], _ => rfl
  | [], _ :: _, e => nomatch e
  | _ :: _, [], e => nomatch e
  | a :: x, b :: y, e => by
    have e1 := (List.cons.inj e).1
    rw [inj a b e1, map_inj inj (List.cons.inj e).2]
theorem mem_rings4 {r : List Bool} (h0 : r ≠ []) (h4 : r.length ≤ 4) : r ∈ rings4 := by
  refine List.mem_flatMap.mpr ⟨r.length, ?_, mem_uni _ _ rfl⟩
  have := List.length_pos_iff.mpr h0
  generalize r.length = k at this h4
  match k, this, h4 with
  | 1, _, _ => exact .head _
  | 2, _, _ => exact .tail _ (.head _)
  | 3, _, _ => exact .tail _ (.tail _ (.head _))
  | 4, _, _ => exact .tail _ (.tail _ (.tail _ (.head _)))
theorem rounds_ok {n : Nat} {c : List (List Bool)} {top : Nat} {t t' : Tr} (F : Facts n c top t t') {p q : Nat} (hp : p ≠ 46 ∧ p < 200) (hq : q ≠ 46 ∧ q < 200) (hne : p ≠ q) {r : List Bool} (h0 : r ≠ []) (h4 : r.length ≤ 4) :
    Rounds (c.map (List.map (sg p q))) (r.map (sg p q)) top n (fun i => (Wb t r top i).map (sg p q)) (fun i => (Vb t' r top i).map (sg p q)) := by
  have inj := sg_inj hne
  have wd : ∀ x : List Bool, Wd (x.map (sg p q)) := fun x y hy => by
    obtain ⟨b, _, rfl⟩ := List.mem_map.mp hy
    cases b
    · exact hp
    · exact hq
  have tx : ∀ x ∈ c.map (List.map (sg p q)), x.length ≤ top ∧ x ≠ [] := fun x hx => by
    obtain ⟨y, hy, rfl⟩ := List.mem_map.mp hx
    obtain ⟨h1, h2⟩ := F.tx y hy
    exact ⟨by rw [List.length_map]; exact h1, fun z => h2 (List.map_eq_nil_iff.mp z)⟩
  have t100 : top ≤ 100 := Nat.le_trans F.t30 (by decide)
  have lr : (r.map (sg p q)).length = r.length := List.length_map _
  have hr : 0 < r.length := List.length_pos_iff.mpr h0
  have key : ∀ {x : List Nat} {w : List Bool} (P : List Bool → Bool), (∀ y ∈ c, P y = decide (y = w)) → x ∈ c.map (List.map (sg p q)) → ∃ y, x = y.map (sg p q) ∧ y ∈ c ∧ P y = decide (x = w.map (sg p q)) := fun {x w} P hP hx => by
    obtain ⟨y, hy, rfl⟩ := List.mem_map.mp hx
    refine ⟨y, rfl, hy, (hP y hy).trans (decide_eq_decide.mpr ⟨fun e => by rw [e], fun e => map_inj inj e⟩)⟩
  have hW : ∀ i, i < (r.map (sg p q)).length → (Wb t r top i).map (sg p q) ∈ c.map (List.map (sg p q)) ∧ ∀ x ∈ c.map (List.map (sg p q)), x.isPrefixOf ((strip (r.map (sg p q)) top).drop i) = decide (x = (Wb t r top i).map (sg p q)) := fun i hi => by
    obtain ⟨h1, h2⟩ := Wb_ok F (lr ▸ hi)
    refine ⟨List.mem_map_of_mem h1, fun x hx => ?_⟩
    obtain ⟨y, rfl, _, e⟩ := key _ h2 hx
    rw [strip_map, ← List.map_drop, pre_map inj]; exact e
  have lw : ∀ i, ((Wb t r top i).map (sg p q)).length = (Wb t r top i).length := fun i => List.length_map _
  refine ⟨fun z => h0 (List.map_eq_nil_iff.mp z), by rw [lr]; exact h4, wd r, ?_, by rw [List.length_map]; exact F.c2, ⟨fun x hx => ?_, fun x hx => Nat.le_trans (tx x hx).1 t100, by rw [List.length_map]; exact F.c100⟩, fun x hx => (tx x hx).2, F.t1, ?_, fun x hx => (tx x hx).1, hW, fun i hi => ?_, ?_, ?_, fun i hi => ?_, fun x hx => ?_⟩
  · exact List.Pairwise.map _ (fun a b ne e => ne (map_inj inj e)) (build_nodup F.bt)
  · obtain ⟨y, _, rfl⟩ := List.mem_map.mp hx; exact wd y
  · have := F.tm
    obtain ⟨x, hx, e⟩ := List.mem_map.mp this
    exact List.mem_map.mpr ⟨_, List.mem_map_of_mem hx, by rw [List.length_map]; exact e⟩
  · obtain ⟨h1, h2⟩ := Vb_ok F (lr ▸ hi)
    refine ⟨List.mem_map_of_mem h1, fun x hx => ?_⟩
    obtain ⟨y, rfl, _, e⟩ := key _ h2 hx
    rw [strip_map, lr, ← List.map_take, suf_map inj]; exact e
  · refine perm_of List.nodup_range (fun j hj => ?_) (List.length_map _).symm
    have hj' : j < r.length := lr ▸ List.mem_range.mp hj
    obtain ⟨s1, _, _, s4⟩ := st_ok (L := (Vb t' r top j).length) hj'
    refine List.mem_map.mpr ⟨_, List.mem_range.mpr (lr.symm ▸ s1), ?_⟩
    rw [lw, lr, back_ok F hj']; exact s4
  · have := Nat.eq_of_beq_eq_true (F.sum r (mem_rings4 h0 h4))
    rw [lr, ← this]
    refine congrArg List.sum (List.map_congr_left fun i _ => ?_)
    rw [lw, wl_eq]; rfl
  · rw [lr, List.length_map, back_ok F (lr ▸ hi)]
  · have hl := (tx x hx).1
    have e : (List.range (r.map (sg p q)).length).map (fun i => (Wb t r top i).map (sg p q)) = (List.range r.length).map fun i => (Wb t r top i).map (sg p q) := by rw [lr]
    rw [e, lr]
    have lg : ((strip (r.map (sg p q)) top).take (r.length - 1 + x.length)).length = r.length - 1 + x.length := by
      have := Nat.mul_le_mul_right top hr
      rw [List.length_take, strip_len, lr]; omega
    refine Bool.eq_iff_iff.mpr ((match_in _ x).trans ?_)
    rw [List.contains_iff_mem, List.mem_map, lg]
    constructor
    · rintro ⟨k, h1, h2⟩
      have hk : k < r.length := by omega
      refine ⟨k, List.mem_range.mpr hk, ?_⟩
      have h3 := (hW k (lr.symm ▸ hk)).2 x hx
      rw [List.isPrefixOf_iff_prefix.mpr ?_] at h3
      · exact (of_decide_eq_true h3.symm).symm
      · rw [List.drop_take, List.take_take, Nat.min_eq_left (by omega)] at h2
        rw [← h2]; exact List.take_prefix _ _
    · rintro ⟨k, hk, e⟩
      have hk' := List.mem_range.mp hk
      have h3 := (hW k (lr.symm ▸ hk')).2 x hx
      rw [decide_eq_true e.symm] at h3
      obtain ⟨B, hB⟩ := List.isPrefixOf_iff_prefix.mp h3
      refine ⟨k, by omega, ?_⟩
      rw [List.drop_take, List.take_take, Nat.min_eq_left (by omega), ← hB, List.take_left]
theorem plain_ok {p q n : Nat} (hp : p ≠ 46 ∧ p < 200) (hq : q ≠ 46 ∧ q < 200) (hne : p ≠ q) (hn : n = 3 ∨ n = 4) {cs : List Int} (hc : cs.length ≤ 3) : Good (codes p q (uni p q n) cs) ∧ ∃ top, top ∈ (codes p q (uni p q n) cs).map List.length ∧ (∀ x ∈ codes p q (uni p q n) cs, x.length ≤ top) ∧ top ≤ 30 ∧ Nonempty (MeanOk n (cntL (codes p q (uni p q n) cs) top)) ∧
    ∀ ring : List Nat, ring ≠ [] → ring.length ≤ 4 → (∀ c ∈ ring, c = p ∨ c = q) → ∃ W V, Rounds (codes p q (uni p q n) cs) ring top n W V := by
  have e : codes p q (uni p q n) cs = (codes false true (uni false true n) cs).map (List.map (sg p q)) := by
    rw [← codes_map (sg_inj hne), ← uni_map]; rfl
  have ck : chk n (codes false true (uni false true n) cs) = true := by
    rcases hn with rfl | rfl
    · exact List.all_eq_true.mp all3 _ (mem_c hc)
    · exact List.all_eq_true.mp all4 _ (mem_d hc)
  rw [e]
  generalize codes false true (uni false true n) cs = c at ck
  obtain ⟨top, t, t', F⟩ := chk_ok ck
  have R := rounds_ok F hp hq hne (r := [false]) (fun z => nomatch z) (by decide)
  refine ⟨R.good, top, R.tm, R.tx, F.t30, ?_, fun ring h0 h4 hr => ?_⟩
  · have : cntL (c.map (List.map (sg p q))) top = cntL c top := by
      unfold cntL
      rw [List.map_map]
      refine congrArg (fun l : List Int => (List.range (top + 1)).map fun k : Nat => ((l.countP (· == (k : Int)) : Nat) : Int)) (congrFun (congrArg List.map (funext fun x => ?_)) c)
      show ((x.map (sg p q)).length : Int) = _
      rw [List.length_map]
    rw [this]; exact F.mean
  · obtain ⟨r, rfl⟩ := of_ring hr
    exact ⟨_, _, rounds_ok F hp hq hne (fun z => h0 (by rw [z]; rfl)) (by rw [List.length_map] at h4; exact h4)⟩

/-- the four pairs of signs -/
def sgn : Nat → Nat × Nat | 0 => (97, 98) | 1 => (98, 10) | 2 => (42, 32) | _ => (91, 92)
theorem sgn_ok : ∀ k : Nat, k < 4 → ((sgn k).1 ≠ 46 ∧ (sgn k).1 < 200) ∧ ((sgn k).2 ≠ 46 ∧ (sgn k).2 < 200) ∧ (sgn k).1 ≠ (sgn k).2 ∧ ([S [97, 98], S [98, 10], S [42, 32], S [91, 92]] : List SV)[k]? = some (S [(sgn k).1, (sgn k).2])
  | 0, _ => ⟨by decide, by decide, by decide, rfl⟩
  | 1, _ => ⟨by decide, by decide, by decide, rfl⟩
  | 2, _ => ⟨by decide, by decide, by decide, rfl⟩
  | 3, _ => ⟨by decide, by decide, by decide, rfl⟩
theorem nat_of (a : Int) (b : Nat) (hb : 0 < b) : ∃ r : Nat, r < b ∧ a.fmod (b : Int) = (r : Int) := by
  have h0 := Int.fmod_nonneg_of_pos a (show (0 : Int) < b by omega)
  have h1 := Int.fmod_lt_of_pos a (show (0 : Int) < b by omega)
  exact ⟨(a.fmod b).toNat, by omega, by omega⟩
theorem smallDiv (a : Int) {b : Int} (h : (if b == 0 then 0 else b.natAbs.log2 / 30 + 1) ≤ 300) : Builtin.divisionGoesByPylong a b = false := by
  have e : decide ((if b == 0 then 0 else b.natAbs.log2 / 30 + 1) > 300) = false := decide_eq_false (Nat.not_lt.mpr h)
  show (decide ((if b == 0 then 0 else b.natAbs.log2 / 30 + 1) > 300) && _) = false
  rw [e]; rfl
theorem script_at {P : Params} {h : Heap} {a : Addr} {vs : List Value} {xs : List PyData} {tabs : List (Addr × Addr)} (w : Well P h (.ref a) (ofPy (.list xs))) (hL : h.IsList a vs.toArray) (hT : PySem.W.TabsAt tabs h) :
    (ghostOf h tabs).get? a = some ({ cls := .type "list", data := .seq vs.toArray } : Obj) := by
  cases w with
  | @list _ us _ e _ =>
    obtain ⟨o, e2, _, n, d⟩ := hL
    rw [e] at e2
    cases e2
    injection d with d _
    rw [← d]
    exact ghost_get hT e fun z => nomatch z
/-- the frame of the law -/
theorem law_enter {w : World} {h₀ base : Heap} {L fa : Addr} {cd : Value} {qual : Str} {scope : Scope} {body : List Stmt} {mean : ExcName → Option Value} {mg mb : Str → Option Value} {h₁ : Heap} {gens : Array GenState} {dr : Drawn} {tk : Tok} {os : OsState} {m : Str → Option Value} {news : List (Addr × Obj)} {x : Str} {a c : Addr} {vs : List Value} {n : Nat} {ns : List Int}
    (K : Below callerA base [] h₀) (X : (hd.heap_1 w.params).In h₀) (T : Top topProg LL mean mg mb h₀) (F : Fr h₀ L h₁ m) (N : News h₀ L h₁ news) (m30 : (30, tabObj #[]) ∈ news) (m37 : (37, tabObj #[]) ∈ news)
    (cl : ∀ y c, (y, c) ∈ cellsFrom (L + 1) scope.names [] → ∃ o v, (c, o) ∈ news ∧ o.data = .cell v) (hx : scope.names.lookup x = some .cell) (hc : (cellsFrom (L + 1) scope.names []).lookup x = some c) (hv : ∃ o, (c, o) ∈ news ∧ o.data = .cell (some (.ref a)))
    (hl : h₀.get? a = some ({ cls := .type "list", data := .seq vs.toArray n } : Obj)) (hi : IntsAre vs ns) (hfree : ∀ y ∈ scope.names, y.2 ≠ .free) (hk : scope.kind = .function)
    {Q : Flow → Shared → Prop} {Eh : Value → Shared → Prop} (b : ∀ G : Ctx, At G scope.names 100 600 → Rn G [(x, .list (iL ns))] none body (.ret (.bool true)))
    (q : ∀ h' tk', (∀ b o, h₀.get? b = some o → h'.get? b = some o) → (∃ t, h'.get? 30 = some (tabObj t)) → (∃ t, h'.get? 37 = some (tabObj t)) → Q (.ret (.bool true)) { heap := h', gens := gens, drawn := dr, toks := tk', os := os }) :
    wpAny (model Pr w) (callerA.deeper (envOfC qual scope L fa cd)) (execs body (envOfC qual scope L fa cd)) Q Eh { heap := h₁, gens := gens, drawn := dr, toks := tk, os := os } := by
  refine b ⟨w, callerA.deeper (envOfC qual scope L fa cd), h₀, envOfC qual scope L fa cd, envOfC qual scope L fa cd, 100, 600⟩ ⟨fun x k e _ => e, fun x e => absurd rfl (hfree _ (mem_of_lookup e)), fun x e => e.elim (fun e => absurd rfl (hfree _ (mem_of_lookup e))) fun e => cellsFrom_some scope.names (L + 1) [] (.inl e), cellsFrom_inj _ _ [] (fun _ _ _ z => nomatch z) (fun _ z => nomatch z), rfl, rfl⟩
    ⟨2 + claimMargin, 7, some [], qual, scope, L, fa, cd, cellsFrom (L + 1) scope.names [], [], callerA, base, mean, mg, mb, rfl, rfl, K, X, T, hk, (show 2 + claimMargin + 100 < recursionLimit by decide), (show 7 + 600 + 70 < cLine by decide), rfl, rfl, hk⟩ ⟨get_none F.above, cellsFrom_inj _ _ [] (fun _ _ _ z => nomatch z) (fun _ z => nomatch z)⟩ _ _ _
    (Okay.s ⟨⟨_, F⟩, ⟨#[], #[], fun p hp => ?_, .inl rfl, .inl rfl⟩, ?_, ?_, ⟨_, F.ns⟩⟩) ?_
  · rcases List.mem_cons.mp hp with rfl | hp
    · exact N _ m30
    · rw [List.mem_singleton.mp hp]; exact N _ m37
  · refine fun y sv e => ?_
    rw [List.lookup_cons] at e
    cases hq : y == x with
    | false => rw [hq] at e; cases e
    | true =>
      rw [hq] at e; cases e
      rw [eq_of_beq hq]
      obtain ⟨o, ho, hd⟩ := hv
      exact ⟨.ref a, .cell hx c hc ⟨o, (N _ ho).1, hd⟩, .list (F.keep _ _ hl) (of_ints hi)⟩
  · intro y c hm
    obtain ⟨o, v, ho, hd⟩ := cl y c hm
    exact ⟨⟨v, o, (N _ ho).1, hd⟩, (N _ ho).2.2⟩
  · intro v h' tk' _ O R
    cases R
    obtain ⟨m2, F2⟩ := O.fr
    obtain ⟨t1, t2, N2, _⟩ := O.tab
    exact q h' tk' F2.keep ⟨_, (N2 (30, _) (.head _)).1⟩ ⟨_, (N2 (37, _) (.tail _ (.head _))).1⟩

/-- the law's numbers -/
noncomputable def cellsL (ns : List Int) : List Int := [(0, 4), (1, 0), (2, 6), (3, 2), (4, 0), (5, 1), (6, 1), (7, 0)].map fun p : Nat × Int => p.2 + (cut_ints ns (some (p.1 : Int)) none (some 8)).choose.sum
theorem pair_inj (a b : Nat × Int) (e : [SV.int (a.1 : Int), SV.int a.2] = [SV.int (b.1 : Int), SV.int b.2]) : a = b := by
  injection e with e1 e
  injection e with e2 e
  injection e1 with e1
  injection e2 with e2
  exact Prod.ext (Int.ofNat.inj e1) e2
theorem iL_at {l : List Int} {k : Nat} (h : k < l.length) : pick (iL l) (k : Int) = some (.int (l.getD k 0)) := by
  unfold pick iL
  rw [if_pos (Int.natCast_nonneg _), Int.toNat_natCast, List.getElem?_map, List.getElem?_eq_getElem h, List.getD_eq_getElem?_getD, List.getElem?_eq_getElem h]; rfl
theorem plain_all {p q n : Nat} (hp : p ≠ 46 ∧ p < 200) (hq : q ≠ 46 ∧ q < 200) (hne : p ≠ q) (hn : n = 3 ∨ n = 4) (c : List Int) : (∀ i, i ≤ 3 → Good (codes p q (uni p q n) (((c.take 4).drop 1).take i))) ∧ ((c.take 4).drop 1).length ≤ 3 := by
  have h : ((c.take 4).drop 1).length ≤ 3 := by rw [List.length_drop, List.length_take]; omega
  exact ⟨fun i hi => (plain_ok hp hq hne hn (by rw [List.length_take]; omega)).1, h⟩
theorem top : PySem.Challenge.rw_ti0025_01.Holds := by
  refine hd ?_
  k_go0
  rename_i hg X0 V0 T0 B0 TE TW ns hs hlay0 hL0 hr hl2 as6 as5 ad vs as2 hL ra w1 r0 hI hr2 hc1 hc2 hD h₁ tk₁ oc1 oc2 hleft hright X1 X' T' K' F' ch N' l0
  have hn : ns.length ≤ 63 := by omega
  have hl := script_at w1 hL hT9
  refine law_enter K' X' T' F' N' (.tail _ (.tail _ (.tail _ (.head _)))) (.tail _ (.tail _ (.head _))) (x := "script") (c := _) (a := ad) (fun y c hm => ?_) rfl rfl ⟨oc2, .tail _ (.head _), hright⟩ hl hI (by decide) rfl (fun G A => ?_) (fun h' tk' k t30 t37 => ?_)
  · rcases List.mem_cons.mp hm with h | hm
    · cases h; exact ⟨oc1, _, .head _, hleft⟩
    · rw [List.mem_singleton.mp hm |> Prod.mk.inj |>.2]; exact ⟨oc2, _, .tail _ (.head _), hright⟩
  · have hc8 : (cellsL ns).length = 8 := List.length_map ..
    refine rn_assignComp (compTM (as := [(0, 4), (1, 0), (2, 6), (3, 2), (4, 0), (5, 1), (6, 1), (7, 0)]) (gi := fun p : Nat × Int => [.int (p.1 : Int), .int p.2]) pair_inj (xs := ["k", "one"]) A (by decide) (ρc := [("script", .list (iL ns))]) (fr_cons rfl rfl fr_nil) (ItEv.enumerate (items := iL [4, 0, 6, 2, 0, 1, 1, 0]) (A.glb rfl) (ev_lst (.cons Ev.int (.cons Ev.int (.cons Ev.int (.cons Ev.int (.cons Ev.int (.cons Ev.int (.cons Ev.int (.cons Ev.int .nil)))))))))) (fun _ => true) (fun p => .int (p.2 + (cut_ints ns (some (p.1 : Int)) none (some 8)).choose.sum)) (fun _ => rfl) (fun _ _ _ _ => Tsts.nil) (fun G' A' p _ _ => ?_) (fun _ => .inl trivial) (lenOk rfl) (out := iL (cellsL ns)) ?_) (A.kind _ _ rfl (fun z => nomatch z)) ?_
    · exact Ev.bin (Ev.name rfl) (Ev.callB b_sum (A'.glb rfl) (.cons (EvF.slice (Ev.name rfl) (.some (Ev.name rfl)) .none (.some Ev.int) (by decide) (by rw [List.length_map]; exact sl (by omega)) (cut_ints ns (some (p.1 : Int)) none (some 8)).choose_spec).ev .nil) BFn.sum) Bin.add_int
    · rw [List.filter_eq_self.mpr fun _ _ => rfl]; unfold iL cellsL; rw [List.map_map]; rfl
    generalize cellsL ns = c at hc8
    have hcl : ((iL c).length : Int) < 2 ^ 63 := by unfold iL; rw [List.length_map, hc8]; decide
    obtain ⟨b, hb, eb⟩ := nat_of (c.getD 0 0) 2 (by decide)
    obtain ⟨k4, hk4, e4⟩ := nat_of ((c.getD 1 0).fdiv 12) 4 (by decide)
    obtain ⟨r, hr, er⟩ := nat_of ((c.getD 0 0).fdiv 2) 4 (by decide)
    obtain ⟨v, hv, ev⟩ := nat_of ((c.getD 7 0).fdiv 2 * 1373) 6000 (by decide)
    obtain ⟨m, hm, em⟩ := nat_of (c.getD 7 0) 2 (by decide)
    obtain ⟨hp, hq, hne, hs⟩ := sgn_ok k4 hk4
    generalize (sgn k4).1 = p at hp hne hs
    generalize (sgn k4).2 = q at hq hne hs
    have hn3 : 3 + b = 3 ∨ 3 + b = 4 := by omega
    obtain ⟨hg3, hl3⟩ := plain_all hp hq hne hn3 c
    obtain ⟨gd, tp, htm, htx, ht30, ⟨M⟩, hring⟩ := plain_ok hp hq hne hn3 hl3
    have at0 : Get (.list (iL c)) (.int 0) (.int (c.getD 0 0)) := Get.list (iL_at (k := 0) (by omega)) hcl
    have at1 : Get (.list (iL c)) (.int 1) (.int (c.getD 1 0)) := Get.list (iL_at (k := 1) (by omega)) hcl
    have at7 : Get (.list (iL c)) (.int 7) (.int (c.getD 7 0)) := Get.list (iL_at (k := 7) (by omega)) hcl
    refine Rn.assign (sv := .int ((3 + b : Nat) : Int)) (Ev.cast (Ev.bin Ev.int (Ev.bin (Ev.sub (Ev.name rfl) Ev.int at0) Ev.int (Bin.mod_int (by decide))) Bin.add_int) (by rw [show (c.getD 0 0).fmod 2 = (b : Int) from eb]; rfl)) (A.loc rfl) ?_
    refine Rn.assign (sv := S [p, q]) (Ev.sub (ev_lst (l := [S [97, 98], S [98, 10], S [42, 32], S [91, 92]]) (.cons Ev.str (.cons Ev.str (.cons Ev.str (.cons Ev.str .nil))))) (Ev.cast (Ev.bin (Ev.bin (Ev.sub (Ev.name rfl) Ev.int at1) Ev.int (Bin.fdiv_int (by decide) (smallDiv _ (by decide)))) Ev.int (Bin.mod_int (by decide))) (congrArg SV.int e4)) (Get.list (by unfold pick; rw [if_pos (Int.natCast_nonneg _), Int.toNat_natCast]; exact hs) (by decide))) (A.cel rfl) ?_
    refine Rn.assign (Ev.fn A g_code rfl (.cons (Ev.name rfl) (.cons (Ev.name rfl) (.cons (Ev.name rfl) .nil))) (f_code hp hq (by omega) hc8 hg3)) (A.loc rfl) ?_
    generalize codes p q (uni p q (3 + b)) ((c.take 4).drop 1) = code at gd htm htx M hring
    refine Rn.ite (b := false) (Tst.cast (Tst.cmp (Ev.name rfl) Ev.none (Cmp.is rfl)) rfl) Rn.nil ?_
    have has : ((c.take (5 + r)).drop 4).length = min (5 + r) 8 - 4 := by rw [List.length_drop, List.length_take, hc8]
    have lring : (((c.take (5 + r)).drop 4).map fun x : Int => if x.fmod 2 = 0 then p else q).length = min (5 + r) 8 - 4 := by rw [List.length_map, has]
    obtain ⟨W, V, R⟩ := hring (((c.take (5 + r)).drop 4).map fun x : Int => if x.fmod 2 = 0 then p else q) (fun h => by rw [h] at lring; exact absurd lring (by simp only [List.length_nil]; omega)) (by rw [lring]; omega) (fun y hy => by obtain ⟨x, _, rfl⟩ := List.mem_map.mp hy; split; exact .inl rfl; exact .inr rfl)
    refine Rn.assign (EvF.meth m_join Ev.str (.cons (comp1M (as := (c.take (5 + r)).drop 4) (gi := .int) (fun x y h => by injection h) A (by decide) (ρc := [("signs", S [p, q])]) (fr_cons rfl rfl fr_nil) (ItEv.listF (EvF.slice (Ev.name rfl) (.some Ev.int) (.some (Ev.cast (Ev.bin Ev.int (Ev.bin (Ev.bin (Ev.sub (Ev.name rfl) Ev.int at0) Ev.int (Bin.fdiv_int (by decide) (smallDiv _ (by decide)))) Ev.int (Bin.mod_int (by decide))) Bin.add_int) (show SV.int (5 + ((c.getD 0 0).fdiv 2).fmod 4) = .int ((5 + r : Nat) : Int) by rw [show ((c.getD 0 0).fdiv 2).fmod 4 = (r : Int) from er]; rfl))) .none (by decide) ?_ ?_)) (fun _ => true) (fun x : Int => S [if x.fmod 2 = 0 then p else q]) (fun _ _ _ _ => Tsts.nil) (fun G' A' x _ _ => ?_) (fun _ => .inl trivial) (by rw [has]; exact sl (by omega)) (out := sN (((c.take (5 + r)).drop 4).map fun x : Int => [if x.fmod 2 = 0 then p else q])) ?_).evF.ev .nil) (Meth.joinNone ?_ ?_) strT).ev (A.loc rfl) ?_
    · unfold iL; rw [List.length_map, hc8]; exact lenOk rfl
    · rw [List.map_drop, List.map_take]; exact cut_run _ 4 (5 + r)
    · obtain ⟨z, hz, ez⟩ := nat_of x 2 (by decide)
      have hz2 : z = 0 ∨ z = 1 := by omega
      have ez' : x.fmod 2 = (z : Int) := ez
      rcases hz2 with rfl | rfl
      · rw [if_pos (show x.fmod 2 = 0 from ez')]
        exact Ev.sub (Ev.name rfl) (Ev.cast (Ev.bin (Ev.name rfl) Ev.int (Bin.mod_int (by decide))) (congrArg SV.int ez')) (Get.str (l := [p, q]) (i := 0) rfl (show 2 < 1000000 by decide))
      · rw [if_neg (show ¬ x.fmod 2 = 0 by rw [ez']; decide)]
        exact Ev.sub (Ev.name rfl) (Ev.cast (Ev.bin (Ev.name rfl) Ev.int (Bin.mod_int (by decide))) (congrArg SV.int ez')) (Get.str (l := [p, q]) (i := 1) rfl (show 2 < 1000000 by decide))
    · rw [List.filter_eq_self.mpr fun _ _ => rfl]; unfold sN; rw [List.map_map]; rfl
    · intro w hw
      obtain ⟨x, _, rfl⟩ := List.mem_map.mp hw
      exact (show 1 ≤ 1000 by decide)
    · rw [List.length_map, has]; omega
    rw [flat_single]
    refine Rn.assign (sv := .int ((16 + v : Nat) : Int)) (Ev.cast (Ev.bin Ev.int (Ev.bin (Ev.bin (Ev.bin (Ev.sub (Ev.name rfl) Ev.int at7) Ev.int (Bin.fdiv_int (by decide) (smallDiv _ (by decide)))) Ev.int (Bin.mul_int (.of_right (by decide)))) Ev.int (Bin.mod_int (by decide))) Bin.add_int) (by rw [show ((c.getD 7 0).fdiv 2 * 1373).fmod 6000 = (v : Int) from ev]; rfl)) (A.loc rfl) ?_
    exact Rn.ret (Ev.andT (Ev.fn A g_mean rfl (.cons (Ev.name rfl) (.cons (Ev.name rfl) (.cons (Ev.name rfl) (.cons (Ev.cast (Ev.bin (Ev.sub (Ev.name rfl) Ev.int at7) Ev.int (Bin.mod_int (by decide))) (congrArg SV.int em)) .nil)))) (f_mean gd htm htx ht30 (by omega) (by omega) (by omega) (by omega) M)) rfl (Ev.fn A g_round rfl (.cons (Ev.name rfl) (.cons (Ev.name rfl) (.cons (Ev.name rfl) .nil))) (f_round R)))
  · exact ⟨⟨.inl ⟨_, .bool true, [], rfl, fun _ => rfl, .bool _, (by with_unfolding_all rfl), fun _ => ⟨.nil, fun _ h => nomatch h⟩⟩, k, rfl, hg⟩, t37, t30, trivial⟩

end Mine
theorem PySem.Challenge.cw_ti0025_01_holds : PySem.Challenge.rw_ti0025_01.Holds :=
  Mine.top
