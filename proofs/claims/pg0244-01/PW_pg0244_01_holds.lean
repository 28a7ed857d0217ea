import PyProof.Rows.All
import Wide.All
import OpenK.AllK
import Wide.FinOn
import PySem.Challenge.RW_pg0244_01
set_option Elab.async false
set_option maxRecDepth 100000
namespace Mine
open PySem PySem.W PyProof.Rows
set_option maxHeartbeats 8000000
noncomputable def ofL (i : Nat) (l : List Obj) : BT → BT := List.rec (motive := fun _ => Nat → BT → BT) (fun _ t => t) (fun o _ ih i t => ih (i + 1) (t.ins i o)) l i
noncomputable def bootT (P : Params) : BT := ofL 0 (boot_heap P).objs.toList .nil
theorem bootT_abs (P : Params) : absHeap (bootT P) (boot_heap P).objs.size (boot_heap P).life = boot_heap P := by kernel_rfl
noncomputable def s0T (w : World) (os : OsState) : SharedT := ⟨bootT w.params, (boot_heap w.params).objs.size, (boot_heap w.params).life, Array.mk [], boot_drawn, boot_toks, os⟩
theorem end0 {t : Thread} : through t = (endAt 0 t).isSome := by
  obtain ⟨cur, code, pos, st⟩ := t
  unfold through endAt
  cases st with
  | nil =>
    show (match cur with | .pure (.done _) => true | _ => false) = (match true, cur with | true, .pure (.done f) => some f | _, _ => none).isSome
    cases cur with
    | pure f => cases f <;> rfl
    | _ => rfl
  | cons a r => rfl
theorem top_of_seg {tb : String → Option Builtin} {p : Program} {w : World} {n₀ : Nat} {ann : Option Value} : ∀ {n : Nat} {s s' : Shared} {t : Thread} {f : Flow} {c : Code} {q : Pos}, segRun tb p w n₀ ann 0 n s t = some (f, s', c, q) → topRun tb p w n₀ ann n s t = some s' := by
  intro n
  induction n with
  | zero => intro s s' t f c q h; cases h
  | succ n ih =>
    intro s s' t f c q h
    unfold segRun at h
    unfold topRun
    rw [end0]
    cases he : endAt 0 t with
    | some x => rw [he] at h; cases h; rfl
    | none =>
      rw [he] at h
      show (match stepOk n₀ ann t with | false => none | true => _) = _
      cases hk : stepOk n₀ ann t with
      | false => rw [hk] at h; cases h
      | true =>
        rw [hk] at h
        dsimp only at h ⊢
        cases hs : step (denote tb) p w s t with
        | halt o u => rw [hs] at h; cases h
        | go s₂ t₂ => rw [hs] at h; exact ih h
noncomputable abbrev Looks (p q : Program) (loose : List Str) (Xt : Shared → Bool) {α : Type} (Yf : Shared → α) (g0 : Bool) (w : World) (s : Shared) :=
  (staticsOk (importedModules p.main.body) (boot_heap w.params) s.heap && namesBound p s.heap && gensDone s && laidKept (boot_heap w.params) s.heap, openSeen q loose (importedModules p.main.body) Xt g0 s, Yf s)
/-- the head by a tree of objects, from where the start-up ends, a world's row at a time -/
theorem left_tree {p q : Program} {loose : List Str} {Xt : Shared → Bool} {α : Type} {Yf : Shared → α} {Ya : World → α} {N : Nat} {g0 : Bool} (row : String) (S : (String → Option Builtin) → Program → World → Nat → Option Value → Nat → Nat → SharedT → Thread → Option (Flow × SharedT × Code × Pos)) (eS : @segRunT = S) (T : String → Option Builtin) (eT : treeTable = T)
    (e : opening p = plainProg p.main.scope.names) (hN : Nat.ble 600 N = true) (f : ∀ s, fenceModules? p s = some s) (size : ∀ P, (boot_heap P).isNs mainGlobals = true)
    (h0 : ∀ w : World, (fun os => (S T p (w.withFollow row false) (boot_heap w.params).objs.size ((boot_heap w.params).nsMap mainGlobals "__annotations__") 0 N (s0T w os) (topStub p)).map fun r => Looks p q loose Xt Yf g0 w r.2.1.abs) = fun _ => some (true, openGood q loose, Ya w))
    (h1 : ∀ w : World, (fun os => (S T p (w.withFollow row true) (boot_heap w.params).objs.size ((boot_heap w.params).nsMap mainGlobals "__annotations__") 0 N (s0T w os) (topStub p)).map fun r => Looks p q loose Xt Yf g0 w r.2.1.abs) = fun _ => some (true, openGood q loose, Ya w)) :
    LeftO p q loose Xt Yf Ya N g0 := fun w => by
  subst eS eT
  have key : ∀ os, (segRunT treeTable p w (boot_heap w.params).objs.size ((boot_heap w.params).nsMap mainGlobals "__annotations__") 0 N (s0T w os) (topStub p)).map (fun r => Looks p q loose Xt Yf g0 w r.2.1.abs) = some (true, openGood q loose, Ya w) := fun os => by
    have e := World.withFollow_self w row
    have a := congrFun (h0 w) os
    have b := congrFun (h1 w) os
    cases hb : w.params.followText row with
    | false => rw [hb] at e; rw [e] at a; exact a
    | true => rw [hb] at e; rw [e] at b; exact b
  obtain ⟨⟨hp, gs, d, k, os⟩, e1, e2⟩ := Option.map_eq_some_iff.mp (boot_open e hN f w)
  obtain ⟨rfl, rfl, rfl, rfl⟩ : hp = boot_heap w.params ∧ gs = Array.mk [] ∧ d = boot_drawn ∧ k = boot_toks := by simpa using e2
  obtain ⟨⟨fl, s', c, qp⟩, r1, r2⟩ := Option.map_eq_some_iff.mp (key os)
  have r := top_of_seg (segRun_of r1)
  have hs : (s0T w os).abs = ⟨boot_heap w.params, Array.mk [], boot_drawn, boot_toks, os⟩ := by
    unfold s0T SharedT.abs
    dsimp only
    rw [bootT_abs]
  rw [hs] at r
  obtain ⟨l1, l2⟩ := Prod.mk.inj r2
  obtain ⟨l2, l3⟩ := Prod.mk.inj l2
  unfold openEnds
  rw [e1]
  show (topFrom treeTable p w N _).map _ = _
  unfold topFrom
  dsimp only
  rw [size]
  show (Option.bind _ _).map _ = _
  rw [r]
  show (match (staticsOk (importedModules p.main.body) (boot_heap w.params) s'.abs.heap && namesBound p s'.abs.heap && gensDone s'.abs && laidKept (boot_heap w.params) s'.abs.heap) with | true => some s'.abs | false => none).map _ = _
  rw [l1]
  exact congrArg some (Prod.ext l2 l3)
/-- what of the program the walk asks: its defs and classes, without the rows that set __name__ -/
noncomputable def viewQ : Program := view PySem.Challenge.pw_pg0244_01 [0, 2, 3, 5, 7, 8, 10, 11, 12, 13, 14, 15, 16, 17]
abbrev looseQ : List Str := [Str.ofString "Whitespace"]
noncomputable abbrev XtQ (s : Shared) : Bool := xlAt viewQ [] s && recOk (RowW.records (OpenRow.toRowW (OpenLaw.row PySem.Challenge.rw_pg0244_01))) s
theorem lawSaid : OpenLaw.wellSaid PySem.Challenge.rw_pg0244_01 = true := by
  unfold OpenLaw.wellSaid
  repeat' (with_reducible refine look_both ?_ ?_)
  all_goals (try unfold OpenRow.wellSaid)
  all_goals (repeat' (with_reducible refine look_both ?_ ?_))
  all_goals (try unfold OpenRow.partSaid looksOpen)
  all_goals (repeat' (with_reducible refine look_both ?_ ?_))
  all_goals decide +kernel
local macro_rules | `(tactic| o_law) => `(tactic| refine holds_law lawSaid fun said => ?_)
/-- the head is done by hand (left_tree, below): what the top leaves stands as the first half of the premise, the walk as the second -/
local macro_rules | `(tactic| o_head $H) => `(tactic| (
  refine (fun (h : _ ∧ _) => holds_open (q := viewQ) (loose := looseQ) (Xt := XtQ) (XP := XL viewQ []) (Yf := Hook.obs $H) (Ya := Hook.val $H) (YP := Hook.says $H) (N := 2608) h.1 (Hook.of $H) (Hook.keeps $H) (fun s e => xl_of s (Bool.and_eq_true_iff.mp e).1) XL.keeps (by rfl) (by rfl) (by rfl) (fun s e => recFacts_of (Bool.and_eq_true_iff.mp e).2) (by rfl) (by first | assumption | decide +kernel) (by decide +kernel) ⟨rfl, rfl, rfl, rfl, rfl, by decide +kernel⟩ ?hw h.2) ?hc))
open_top hd for PySem.Challenge.rw_pg0244_01
abbrev asQ : List Addr := [2, 3, 15, 17, 18, 20, 21, 22, 24, 25, 27, 28, 29, 31, 32, 34, 35, 43, 45, 46, 48, 49, 50, 52, 53, 55, 56, 57, 59, 60, 62, 63, 64, 66, 67, 69, 70, 71, 72, 73, 74, 75, 88, 90, 91, 93, 94, 95, 97, 98, 100, 101, 102, 104, 105, 107, 108, 109, 111, 112, 114, 115, 116, 118, 119, 121, 122, 123, 125, 126, 128, 129, 130, 132, 133, 135, 136, 137, 138, 139, 140, 141, 144, 146, 147, 149, 150, 151, 153, 154, 156, 157, 158, 160, 161, 163, 164, 165, 167, 168, 170, 171, 172, 174, 175, 177, 178, 179, 182, 183, 184, 186, 187, 189, 190, 191, 193, 194, 196, 197, 198, 201, 202]
noncomputable abbrev hookQ : Hook := kmHook hd.heap_1 asQ (fun _ => by kernel_rfl) [152]
theorem left0 : ∀ w : World, (fun os => (PySem.W.Fast.tw10110043849684766642 PySem.W.Fast.tw14364793385576792824 (RowW.prog (OpenRow.toRowW (OpenLaw.row PySem.Challenge.rw_pg0244_01))) (w.withFollow "special-get-raises" false) (boot_heap w.params).objs.size ((boot_heap w.params).nsMap mainGlobals "__annotations__") 0 2608 (s0T w os) (topStub (RowW.prog (OpenRow.toRowW (OpenLaw.row PySem.Challenge.rw_pg0244_01))))).map fun r => Looks (RowW.prog (OpenRow.toRowW (OpenLaw.row PySem.Challenge.rw_pg0244_01))) viewQ looseQ XtQ hookQ.obs true w r.2.1.abs) = fun _ => some (true, openGood viewQ looseQ, hookQ.val w) := fun w => by kernel_rfl
theorem left1 : ∀ w : World, (fun os => (PySem.W.Fast.tw10110043849684766642 PySem.W.Fast.tw14364793385576792824 (RowW.prog (OpenRow.toRowW (OpenLaw.row PySem.Challenge.rw_pg0244_01))) (w.withFollow "special-get-raises" true) (boot_heap w.params).objs.size ((boot_heap w.params).nsMap mainGlobals "__annotations__") 0 2608 (s0T w os) (topStub (RowW.prog (OpenRow.toRowW (OpenLaw.row PySem.Challenge.rw_pg0244_01))))).map fun r => Looks (RowW.prog (OpenRow.toRowW (OpenLaw.row PySem.Challenge.rw_pg0244_01))) viewQ looseQ XtQ hookQ.obs true w r.2.1.abs) = fun _ => some (true, openGood viewQ looseQ, hookQ.val w) := fun w => by kernel_rfl
theorem leftQ : LeftO (RowW.prog (OpenRow.toRowW (OpenLaw.row PySem.Challenge.rw_pg0244_01))) viewQ looseQ XtQ hookQ.obs hookQ.val 2608 :=
  left_tree "special-get-raises" _ PySem.W.Fast.te10110043849684766642 _ PySem.W.Fast.te14364793385576792824 (by kernel_rfl) (by decide) (fun _ => by kernel_rfl) (fun _ => by kernel_rfl) left0 left1
theorem hd1 {W : Prop} (g : LeftO (RowW.prog (OpenRow.toRowW (OpenLaw.row PySem.Challenge.rw_pg0244_01))) viewQ looseQ XtQ hookQ.obs hookQ.val 2608 ∧ W → PySem.Challenge.rw_pg0244_01.Holds) (h : W) : PySem.Challenge.rw_pg0244_01.Holds := g ⟨leftQ, h⟩
end Mine
section
open PySem PySem.W
local macro_rules | `(tactic| walk_at $s:str) => `(tactic| k_extra $s)
namespace Mine
open PySem PySem.W PyProof.Rows PySem.Calls
set_option maxHeartbeats 8000000

theorem enterK {K : Frag} {prog : Program} {w : World} {A : Around} {R : Result → Shared → Prop} {s : Shared} {name qual : Str} {params : Arguments} {body : List Stmt} {scope : Scope} {dV kV doc pm cdv ct oc : Value} {an od : Option Addr} {osl : Array (Option Value)} {f : Addr} {args : Args} {binds : List (Str × Value)}
    (X : K.In s.heap) (nl : s.heap.NoLimit)
    (ho : K.lookup f = some ⟨oc, od, .func (fnOf name qual params body scope dV kV doc pm an cdv ct), osl⟩) (hcd : codeIn K cdv qual = true) (hroom : A.depth < recursionLimit)
    (hbind : BindsTo s (fnOf name qual params body scope dV kV doc pm an cdv ct) args binds) (hloc : ∀ y ∈ binds, scope.names.lookup y.1 = some .local)
    (hcell : ∀ x ∈ scope.names, x.2 ≠ .cell)
    (hco : scope.isCoroutine = false) (hgen : scope.isGenerator = false) (hk : scope.kind = .function)
    (h : ∀ h₁, Fr s.heap s.heap.objs.size h₁ (fun y => binds.reverse.lookup y) → News s.heap s.heap.objs.size h₁ [] →
      wpAny (model prog w) (A.deeper (envOf qual scope s.heap.objs.size f cdv)) (execs body (envOf qual scope s.heap.objs.size f cdv))
        (fun fl s' => R (.ok (.ret (match fl with | .ret v => v | _ => .none))) s') (fun _ _ => False) { s with heap := h₁, toks := s.toks + binds.length }) :
    codeAny (model prog w) A (.call (.ref f) args) R s := by
  refine codeAny_call_def (fd := fnOf name qual params body scope dV kV doc pm an cdv ct) (body := body) (binds := binds) hroom (X _ _ ho) rfl nl (codeRec_of X hcd) rfl hbind hcell hloc (fun h₁ hns hk₁ => ?_) hco hgen hk
  exact wpAny_mono (h h₁ ⟨hns, hk₁, Nat.le_refl _⟩ News.nil) (fun _ _ x => x) (fun _ _ x => x.elim)

theorem enterKq {K : Frag} {prog : Program} {w : World} {A : Around} {R : Result → Shared → Prop} {s : Shared} {name qual : Str} {params : Arguments} {body : List Stmt} {scope : Scope} {dV kV doc pm cdv ct oc : Value} {an od : Option Addr} {osl : Array (Option Value)} {f : Addr} {args : Args} {binds : List (Str × Value)}
    (X : K.In s.heap) (nl : s.heap.NoLimit)
    (ho : K.lookup f = some ⟨oc, od, .func (fnOf name qual params body scope dV kV doc pm an cdv ct), osl⟩) (hcd : codeIn K cdv qual = true) (hroom : A.depth < recursionLimit)
    (hbind : BindsTo s (fnOf name qual params body scope dV kV doc pm an cdv ct) args binds) (hloc : ∀ y ∈ binds, scope.names.lookup y.1 = some .local)
    (hcell : ∀ x ∈ scope.names, x.2 ≠ .cell)
    (hco : scope.isCoroutine = false) (hgen : scope.isGenerator = false) (hk : scope.kind = .function)
    (h : ∀ L h₁ tk, let m₀ := (fun y => binds.reverse.lookup y); Fr s.heap L h₁ m₀ → News s.heap L h₁ [] →
      let envv := envOf qual scope L f cdv
      let Av := A.deeper envv
        let Qv := (fun (fl : Flow) (s' : Shared) => R (.ok (.ret (match fl with | .ret v => v | _ => .none))) s')
      let Ev := (fun (_ : Value) (_ : Shared) => False)
      wpAny (model prog w) Av (execs body envv) Qv Ev ⟨h₁, s.gens, s.drawn, tk, s.os⟩) :
    codeAny (model prog w) A (.call (.ref f) args) R s :=
  enterK X nl ho hcd hroom hbind hloc hcell hco hgen hk fun h₁ F N => h _ h₁ _ F N

theorem kset1 : True := by
  k_with_none
  k_with "mine enter" =>
    (
      refine' enterK (by assumption) (by exact TopRead.nolimit (by assumption)) (by k_dflt k_is) (by k_dflt k_is) (by first | assumption | omega) (BindsTo.of_eq (by exact rfl)) (by exact locs rfl) (by decide) (by exact rfl) (by exact rfl) (by exact rfl) ?_)
  trivial

theorem gen_toks {M : Model} {A : Around} {α : Type} {t : Sem α} {Q : α → Shared → Prop} {E : Value → Shared → Prop} {h : Heap} {g : Array GenState} {d : Drawn} {n : Nat} {os : OsState}
    (x : ∀ tk, wpAny M A t Q E ⟨h, g, d, tk, os⟩) : wpAny M A t Q E ⟨h, g, d, n + 1, os⟩ := x _
theorem Fr.kept {h₀ h h' : Heap} {L : Addr} {m : Str → Option Value} (F : Fr h₀ L h m) (k : ∀ b o, h.get? b = some o → h'.get? b = some o) : Fr h₀ L h' m := ⟨F.ns.keeps k, fun b o e => k b o (F.keep b o e), F.above⟩
theorem News.kept {h₀ h h' : Heap} {L : Addr} {news : List (Addr × Obj)} (N : News h₀ L h news) (k : ∀ b o, h.get? b = some o → h'.get? b = some o) : News h₀ L h' news := fun p hp => ⟨k _ _ (N p hp).1, (N p hp).2⟩
/-- all that stood stands -/
noncomputable def Kp (h h' : Heap) : Prop := ∀ b o, h.get? b = some o → h'.get? b = some o
noncomputable def allP {α : Type} (n : Nat) : (List α → Prop) → Prop := Nat.rec (fun P => P []) (fun _ ih P => ∀ a, ih fun t => P (a :: t)) n
theorem list_n {α : Type} : ∀ (n : Nat) (l : List α) (P : List α → Prop), l.length = n → allP n P → P l := by
  intro n
  induction n with
  | zero =>
    intro l P h x
    cases l with
    | nil => exact x
    | cons _ _ => cases h
  | succ n ih =>
    intro l P h x
    cases l with
    | nil => cases h
    | cons a t => exact ih t (fun t => P (a :: t)) (Nat.succ.inj h) (x a)
theorem lt5 {P : Nat → Prop} {k : Nat} (hk : k < 5) (a : P 0) (b : P 1) (c : P 2) (d : P 3) (e : P 4) : P k := by
  rcases Nat.lt_or_ge k 1 with h | h
  · rw [show k = 0 by omega]; exact a
  · rcases Nat.lt_or_ge k 2 with h | h
    · rw [show k = 1 by omega]; exact b
    · rcases Nat.lt_or_ge k 3 with h | h
      · rw [show k = 2 by omega]; exact c
      · rcases Nat.lt_or_ge k 4 with h | h
        · rw [show k = 3 by omega]; exact d
        · rw [show k = 4 by omega]; exact e
noncomputable abbrev tupO (vs : List Value) : Obj := { cls := .type "tuple", data := .seq vs.toArray }
end Mine
namespace Mine
open PySem PySem.W PyProof.Rows
theorem flush2 {M : Model} {A : Around} {Q : Flow → Shared → Prop} {E : Value → Shared → Prop} {s : Shared} {env : Env} (h : wpAny M A (execs [] env) Q E s) : wpAny M A (execs [] env) Q E s := by
  k_with_none
  (try (walk1; fail))
  w_top off
  exact h
end Mine
namespace Mine
open PySem PySem.W PyProof.Rows PySem.Calls
set_option maxHeartbeats 8000000
theorem kset2 : True := by
  k_with_none
  k_with "execs cons" =>
    first | dsimp only | (refine gen_toks ?_; intro tk₉)
  k_with "execs nil" =>
    first | dsimp only | (refine gen_toks ?_; intro tk₉)
  k_with "storeName" =>
    dsimp only
  trivial

/-- a number of either kind -/
inductive Nm where
  | i (n : Int)
  | f (x : UInt64)
  deriving DecidableEq
noncomputable def Nm.v : Nm → Tok → Value
  | .i n, t => .int n t
  | .f x, t => .float x t
noncomputable def Nm.fl : Nm → UInt64
  | .i n => Float64.ofInt n
  | .f x => x
noncomputable def Nm.ok : Nm → Prop
  | .i n => n.natAbs < 2 ^ 1023
  | .f _ => True
noncomputable def Nm.isF : Nm → Bool
  | .i _ => false
  | .f _ => true
noncomputable def Nm.eq : Nm → Nm → Bool
  | .i a, .i b => a == b
  | .i a, .f b => Float64.cmpInt b a == some Ordering.eq
  | .f a, .i b => Float64.cmpInt a b == some Ordering.eq
  | .f a, .f b => Float64.cmp a b == some Ordering.eq

section
variable {prog : Program} {w : World} {A : Around} {E : Value → Shared → Prop} {s : Shared} {t u : Tok} {Q : Value → Shared → Prop}
theorem nf_mul {a : Nm} {x : UInt64} (ha : a.ok) (h : Q (.float (Float64.mul a.fl x) s.toks) { s with toks := s.toks + 1 }) :
    wpAny (model prog w) A (binaryOp .Mult (a.v t) (.float x u)) Q E s := by
  cases a with
  | i n => exact mul_if_fits ha h
  | f y => exact mul_float h
theorem fn_sub {b : Nm} {x : UInt64} (hb : b.ok) (h : Q (.float (Float64.sub x b.fl) s.toks) { s with toks := s.toks + 1 }) :
    wpAny (model prog w) A (binaryOp .Sub (.float x t) (b.v u)) Q E s := by
  cases b with
  | i n => exact sub_fi_fits hb h
  | f y => exact sub_float h
theorem nf_eq {a : Nm} {x : UInt64} (h : Q (.bool (a.eq (.f x))) s) : wpAny (model prog w) A (compareOp .Eq (a.v t) (.float x u)) Q E s := by
  cases a with
  | i n => exact eq_if h
  | f y => exact AutoFloatOps.eq_0 h
theorem int_fl {x : UInt64} (hf : Float64.isFinite x = true) (h : Q (.int (Flt.toInt Float64.truncOf x) s.toks) { s with toks := s.toks + 1 }) :
    wpAny (model prog w) A (call (.type "int") [.float x t]) Q E s := by
  rcases Flt.three x with ⟨hd, c⟩ | ⟨_, hd, c⟩ | ⟨sg, m, e, hd, c⟩
  · unfold Float64.isFinite at hf; rw [hd] at hf; cases hf
  · unfold Float64.isFinite at hf; rw [hd] at hf; cases hf
  · rw [Flt.toInt_fin hd] at h; exact call_int_float hd h
end
theorem kset3 : True := by
  k_with "binaryOp Mult" =>
    refine nf_mul (by assumption) ?_
  k_with "binaryOp Sub float" =>
    refine fn_sub (by assumption) ?_
  k_with "compareOp Eq" =>
    refine nf_eq ?_
  k_with "call type:int" =>
    refine int_fl (by assumption) ?_
  k_with "binaryOp Sub float int" =>
    refine sub_fi_fits (by assumption) ?_
  trivial


noncomputable def six : UInt64 := 0x4018000000000000
noncomputable def one : UInt64 := 0x3ff0000000000000
/-- what hsv_to_rgb reckons -/
noncomputable def hsvN (x : UInt64) (s v : Nm) : Nm × Nm × Nm :=
  let i := Flt.toInt Float64.truncOf (Float64.mul x 0x4018000000000000)
  let f := Float64.sub (Float64.mul x 0x4018000000000000) (Float64.ofInt i)
  let p := Float64.mul v.fl (Float64.sub 0x3ff0000000000000 s.fl)
  let q := Float64.mul v.fl (Float64.sub 0x3ff0000000000000 (Float64.mul s.fl f))
  let t := Float64.mul v.fl (Float64.sub 0x3ff0000000000000 (Float64.mul s.fl (Float64.sub 0x3ff0000000000000 f)))
  if i.fmod 6 = 0 then (v, .f t, .f p) else if i.fmod 6 = 1 then (.f q, v, .f p) else if i.fmod 6 = 2 then (.f p, v, .f t)
  else if i.fmod 6 = 3 then (.f p, .f q, v) else if i.fmod 6 = 4 then (.f t, .f p, v) else (v, .f p, .f q)
theorem fmod6 {i : Int} (h0 : i.fmod 6 ≠ 0) (h1 : i.fmod 6 ≠ 1) (h2 : i.fmod 6 ≠ 2) (h3 : i.fmod 6 ≠ 3) (h4 : i.fmod 6 ≠ 4) (h5 : i.fmod 6 ≠ 5) : False := by
  rw [Int.fmod_eq_emod_of_nonneg _ (by decide)] at *; omega

theorem kset4 : True := by
  k_with "mine hsv" =>
    (unfold hsvN; (try dsimp only); (first
      | rw [if_pos (by assumption)]
      | rw [if_neg (by assumption), if_pos (by assumption)]
      | rw [if_neg (by assumption), if_neg (by assumption), if_pos (by assumption)]
      | rw [if_neg (by assumption), if_neg (by assumption), if_neg (by assumption), if_pos (by assumption)]
      | rw [if_neg (by assumption), if_neg (by assumption), if_neg (by assumption), if_neg (by assumption), if_pos (by assumption)]
      | rw [if_neg (by assumption), if_neg (by assumption), if_neg (by assumption), if_neg (by assumption), if_neg (by assumption)]))
  trivial

theorem hsv_ctr : ∀ (w : World) (A : Around) (s : Shared) (R : Result → Shared → Prop) (mg mb : Str → Option Value) (loose : List Str)
    (x : UInt64) (sN vN : Nm) (tx ty tz : Tok)
    (X : (hd.heap_1 w.params).In s.heap) (T : TopRead viewQ loose mg mb s.heap) (hh : A.handled = none) (hr : A.depth < recursionLimit)
    (hs : sN.ok) (hv : vN.ok) (hs0 : sN.eq (.f 0) = false) (hf : Float64.isFinite (Float64.mul x 0x4018000000000000) = true)
    (hi : (Flt.toInt Float64.truncOf (Float64.mul x 0x4018000000000000)).natAbs < 2 ^ 1023)
    (hR : ∀ h tk a (c : Nm × Nm × Nm) t1 t2 t3, Kp s.heap h → s.heap.get? a = none → h.get? a = some (tupO [c.1.v t1, c.2.1.v t2, c.2.2.v t3]) → c = hsvN x sN vN →
      R (.ok (.ret (.ref a))) { s with heap := h, toks := tk }),
    codeAny (model PySem.Challenge.rw_pg0244_01.row.prog w) A (.call (.ref 35) ⟨[.float x tx, sN.v ty, vN.v tz], []⟩) R s := by
  k_fill
  intro w A s R mg mb loose x sN vN tx ty tz X T hh hr hs hv hs0 hf hi hR
  obtain ⟨ah, ad, af, ag, au⟩ := A
  dsimp only at hh hr
  subst hh
  refine' enterKq (binds := [(Str.ofString "h", .float x tx), (Str.ofString "s", sN.v ty), (Str.ofString "v", vN.v tz)]) X T.nolimit ?ho ?hcd hr (BindsTo.of_eq ?hb) ?hl ?hc ?h1 ?h2 ?h3 ?_
  case ho => k_dflt k_is
  case hcd => k_dflt k_is
  case hb => exact rfl
  case hl => exact locs rfl
  case hc => decide
  case h1 => exact rfl
  case h2 => exact rfl
  case h3 => exact rfl
  intro L₀ h₁ tk₀ m₀ F N envv Av Qv Ev
  (try dsimp only)
  k_steps
  all_goals first
    | (exfalso; (rename sN.eq (Nm.f 0) = true => he); rw [hs0] at he; cases he)
    | exact hR _ _ _ (vN, .f _, .f _) _ _ _ (Fr.keep (by assumption)) (News.fresh (by assumption) (.head _)) (News.get (by assumption) (.head _)) (by walk_at "mine hsv")
    | exact hR _ _ _ (.f _, vN, .f _) _ _ _ (Fr.keep (by assumption)) (News.fresh (by assumption) (.head _)) (News.get (by assumption) (.head _)) (by walk_at "mine hsv")
    | exact hR _ _ _ (.f _, .f _, vN) _ _ _ (Fr.keep (by assumption)) (News.fresh (by assumption) (.head _)) (News.get (by assumption) (.head _)) (by walk_at "mine hsv")
    | (exfalso; exact fmod6 (by assumption) (by assumption) (by assumption) (by assumption) (by assumption) (by assumption))
end Mine
namespace Mine
open PySem PySem.W PyProof.Rows
theorem flush3 {M : Model} {A : Around} {Q : Flow → Shared → Prop} {E : Value → Shared → Prop} {s : Shared} {env : Env} (h : wpAny M A (execs [] env) Q E s) : wpAny M A (execs [] env) Q E s := by
  k_with_none
  (try (walk1; fail))
  w_top off
  exact h
end Mine
namespace Mine
open PySem PySem.W PyProof.Rows PySem.Calls
set_option maxHeartbeats 8000000
set_option linter.unusedVariables false

noncomputable def Nm.gt : Nm → Nm → Bool
  | .i a, .i b => decide (b < a)
  | .i a, .f b => Float64.cmpInt b a == some Ordering.lt
  | .f a, .i b => Float64.cmpInt a b == some Ordering.gt
  | .f a, .f b => Float64.cmp a b == some Ordering.gt
noncomputable def Nm.lt : Nm → Nm → Bool
  | .i a, .i b => decide (a < b)
  | .i a, .f b => Float64.cmpInt b a == some Ordering.gt
  | .f a, .i b => Float64.cmpInt a b == some Ordering.lt
  | .f a, .f b => Float64.cmp a b == some Ordering.lt
noncomputable def mx3 (a b c : Nm) : Nm := if b.gt a then (if c.gt b then c else b) else (if c.gt a then c else a)
noncomputable def mn3 (a b c : Nm) : Nm := if b.lt a then (if c.lt b then c else b) else (if c.lt a then c else a)

section
variable {prog : Program} {w : World} {A : Around} {E : Value → Shared → Prop} {s : Shared} {t u x : Tok} {Q : Value → Shared → Prop}
theorem nn_gt {a b : Nm} (h : Q (.bool (a.gt b)) s) : wpAny (model prog w) A (compareOp .Gt (a.v t) (b.v u)) Q E s := by
  cases a <;> cases b
  · exact gt_int h
  · exact gt_if h
  · exact gt_fi h
  · exact AutoFloatOps.gt_0 h
theorem nn_lt {a b : Nm} (h : Q (.bool (a.lt b)) s) : wpAny (model prog w) A (compareOp .Lt (a.v t) (b.v u)) Q E s := by
  cases a <;> cases b
  · exact lt_int h
  · exact lt_if h
  · exact lt_fi h
  · exact AutoFloatOps.lt_0 h
theorem nn_eq {a b : Nm} (h : Q (.bool (a.eq b)) s) : wpAny (model prog w) A (compareOp .Eq (a.v t) (b.v u)) Q E s := by
  cases a <;> cases b
  · exact eq_int h
  · exact eq_if h
  · exact eq_fi h
  · exact AutoFloatOps.eq_0 h

noncomputable def nmAt (a b c : Nm) : Nat → Nm
  | 0 => a
  | 1 => b
  | _ => c
noncomputable def nmItems (a b c : Nm) (t u x : Tok) : Array Value := #[a.v t, b.v u, c.v x]
theorem nmItems_at {a b c : Nm} {t u x : Tok} {i : Nat} {v : Value} (h : (nmItems a b c t u x)[i]? = some v) : ∃ k, v = (nmAt a b c i).v k := by
  match i, h with
  | 0, h => cases h; exact ⟨t, rfl⟩
  | 1, h => cases h; exact ⟨u, rfl⟩
  | 2, h => cases h; exact ⟨x, rfl⟩
  | i + 3, h => simp [nmItems] at h
theorem best_gt (a b c : Nm) : nmAt a b c (argBest (fun i j => (nmAt a b c i).gt (nmAt a b c j)) 2) = mx3 a b c := by
  unfold mx3
  cases h1 : b.gt a
  · cases h2 : c.gt a <;> simp [argBest, nmAt, h1, h2]
  · cases h2 : c.gt b <;> simp [argBest, nmAt, h1, h2]
theorem best_lt (a b c : Nm) : nmAt a b c (argBest (fun i j => (nmAt a b c i).lt (nmAt a b c j)) 2) = mn3 a b c := by
  unfold mn3
  cases h1 : b.lt a
  · cases h2 : c.lt a <;> simp [argBest, nmAt, h1, h2]
  · cases h2 : c.lt b <;> simp [argBest, nmAt, h1, h2]

theorem max3_kp {a b c : Nm} (hh : A.handled = none) (h : ∀ h' tk k, Kp s.heap h' → Q ((mx3 a b c).v k) { s with heap := h', toks := tk }) :
    wpAny (model prog w) A (call (.builtin "max") [a.v t, b.v u, c.v x]) Q E s := by
  have hT : (s.heap.push { cls := .type "tuple", data := .seq #[a.v t, b.v u, c.v x] }).IsTuple s.heap.objs.size (nmItems a b c t u x) := ⟨_, Heap.get?_push_size _ rfl, rfl, 0, rfl⟩
  refine call_max_three (wpAny_pyIter_tuple hT ?_)
  have hsz : (s.heap.push { cls := .type "tuple", data := .seq #[a.v t, b.v u, c.v x] }).objs.size = s.heap.objs.size + 1 := Heap.size_push ..
  refine ⟨_, [_, s.heap.objs.size], [_], _, _, _, _, rfl, Walks.tuple (A := A.in1) hh _ s.heap.objs.size (by rw [hsz]; exact Nat.ne_of_lt (Nat.lt_succ_self _)) (nmItems a b c t u x),
    ⟨⟨_, Heap.get?_push_size _ rfl, rfl, rfl⟩, hT.push _⟩, fun d hd => ?_, by simp [nmItems], (fun i j vi vj s Q E hi hj h => by
      obtain ⟨k, rfl⟩ := nmItems_at hi
      obtain ⟨k', rfl⟩ := nmItems_at hj
      exact nn_gt h : CmpOf prog w A.in1 .Gt (fun i v => (nmItems a b c t u x)[i]? = some v) (fun i j => (nmAt a b c i).gt (nmAt a b c j))), fun v h' tk hP hk => ?_⟩
  · show d < ((s.heap.push _).push _).objs.size
    rw [Heap.size_push, hsz]
    rcases List.mem_cons.mp hd with rfl | hd
    · rw [hsz]; exact Nat.lt_succ_self _
    · rcases List.mem_cons.mp hd with rfl | hd
      · exact Nat.lt_succ_of_lt (Nat.lt_succ_self _)
      · cases hd
  · have hold : Kp s.heap h' := fun d o e => by
      refine hk d o (fun hm => ?_) (Heap.get?_push_of_some _ (Heap.get?_push_of_some _ e))
      rcases List.mem_cons.mp hm with e1 | hm
      · have := Heap.lt_size e; rw [e1, hsz] at this; exact Nat.lt_irrefl _ (Nat.lt_of_succ_lt this)
      · cases hm
    have hsz2 : (nmItems a b c t u x).size - 1 = 2 := by simp [nmItems]
    rw [hsz2] at hP
    obtain ⟨k, hk⟩ := nmItems_at hP
    rw [best_gt] at hk
    subst hk
    exact h h' tk k hold
theorem min3_kp {a b c : Nm} (hh : A.handled = none) (h : ∀ h' tk k, Kp s.heap h' → Q ((mn3 a b c).v k) { s with heap := h', toks := tk }) :
    wpAny (model prog w) A (call (.builtin "min") [a.v t, b.v u, c.v x]) Q E s := by
  have hT : (s.heap.push { cls := .type "tuple", data := .seq #[a.v t, b.v u, c.v x] }).IsTuple s.heap.objs.size (nmItems a b c t u x) := ⟨_, Heap.get?_push_size _ rfl, rfl, 0, rfl⟩
  refine call_min_three (wpAny_pyIter_tuple hT ?_)
  have hsz : (s.heap.push { cls := .type "tuple", data := .seq #[a.v t, b.v u, c.v x] }).objs.size = s.heap.objs.size + 1 := Heap.size_push ..
  refine ⟨_, [_, s.heap.objs.size], [_], _, _, _, _, rfl, Walks.tuple (A := A.in1) hh _ s.heap.objs.size (by rw [hsz]; exact Nat.ne_of_lt (Nat.lt_succ_self _)) (nmItems a b c t u x),
    ⟨⟨_, Heap.get?_push_size _ rfl, rfl, rfl⟩, hT.push _⟩, fun d hd => ?_, by simp [nmItems], (fun i j vi vj s Q E hi hj h => by
      obtain ⟨k, rfl⟩ := nmItems_at hi
      obtain ⟨k', rfl⟩ := nmItems_at hj
      exact nn_lt h : CmpOf prog w A.in1 .Lt (fun i v => (nmItems a b c t u x)[i]? = some v) (fun i j => (nmAt a b c i).lt (nmAt a b c j))), fun v h' tk hP hk => ?_⟩
  · show d < ((s.heap.push _).push _).objs.size
    rw [Heap.size_push, hsz]
    rcases List.mem_cons.mp hd with rfl | hd
    · rw [hsz]; exact Nat.lt_succ_self _
    · rcases List.mem_cons.mp hd with rfl | hd
      · exact Nat.lt_succ_of_lt (Nat.lt_succ_self _)
      · cases hd
  · have hold : Kp s.heap h' := fun d o e => by
      refine hk d o (fun hm => ?_) (Heap.get?_push_of_some _ (Heap.get?_push_of_some _ e))
      rcases List.mem_cons.mp hm with e1 | hm
      · have := Heap.lt_size e; rw [e1, hsz] at this; exact Nat.lt_irrefl _ (Nat.lt_of_succ_lt this)
      · cases hm
    have hsz2 : (nmItems a b c t u x).size - 1 = 2 := by simp [nmItems]
    rw [hsz2] at hP
    obtain ⟨k, hk⟩ := nmItems_at hP
    rw [best_lt] at hk
    subst hk
    exact h h' tk k hold

variable {h₀ : Heap} {L : Addr} {m : Str → Option Value} {news : List (Addr × Obj)}
theorem max3_K {a b c : Nm} (F : Fr h₀ L s.heap m) (N : News h₀ L s.heap news) (hh : A.handled = none)
    (h : ∀ h' tk k, Fr h₀ L h' m → News h₀ L h' news → Q ((mx3 a b c).v k) { s with heap := h', toks := tk }) :
    wpAny (model prog w) A (call (.builtin "max") [a.v t, b.v u, c.v x]) Q E s := max3_kp hh fun h' tk k kp => h h' tk k (Fr.kept F kp) (News.kept N kp)
theorem min3_K {a b c : Nm} (F : Fr h₀ L s.heap m) (N : News h₀ L s.heap news) (hh : A.handled = none)
    (h : ∀ h' tk k, Fr h₀ L h' m → News h₀ L h' news → Q ((mn3 a b c).v k) { s with heap := h', toks := tk }) :
    wpAny (model prog w) A (call (.builtin "min") [a.v t, b.v u, c.v x]) Q E s := min3_kp hh fun h' tk k kp => h h' tk k (Fr.kept F kp) (News.kept N kp)

/-- sums, differences of numbers that are not both ints are floats -/
theorem nn_add {a b : Nm} (ha : a.ok) (hb : b.ok) (hf : (a.isF || b.isF) = true) (h : Q (.float (Float64.add a.fl b.fl) s.toks) { s with toks := s.toks + 1 }) :
    wpAny (model prog w) A (binaryOp .Add (a.v t) (b.v u)) Q E s := by
  cases a <;> cases b
  · cases hf
  · exact add_if_fits ha h
  · exact add_fi_fits hb h
  · exact add_float h
noncomputable def Nm.sub : Nm → Nm → Nm
  | .i a, .i b => .i (a - b)
  | .i a, .f b => .f (Float64.sub (Float64.ofInt a) b)
  | .f a, .i b => .f (Float64.sub a (Float64.ofInt b))
  | .f a, .f b => .f (Float64.sub a b)
theorem nn_sub {a b : Nm} (ha : a.ok) (hb : b.ok) (h : Q ((a.sub b).v s.toks) { s with toks := s.toks + 1 }) :
    wpAny (model prog w) A (binaryOp .Sub (a.v t) (b.v u)) Q E s := by
  cases a <;> cases b
  · exact sub_int h
  · exact sub_if_fits ha h
  · exact sub_fi_fits hb h
  · exact sub_float h
theorem not_over {n : Int} (h : n.natAbs < 2 ^ 1023) : ¬ Flt.Over n := by
  intro o
  have e1 : (2 : Nat) ^ 1024 = 2 * 2 ^ 1023 := by rw [Nat.pow_succ, Nat.mul_comm]
  have e2 : (2 : Nat) ^ 970 ≤ 2 ^ 1023 := Nat.pow_le_pow_right (by decide) (by decide)
  have o' : 2 ^ 1024 - 2 ^ 970 ≤ n.natAbs := o
  rw [e1] at o'
  generalize (2 : Nat) ^ 1023 = p at *
  generalize (2 : Nat) ^ 970 = q at *
  omega
theorem nf_div {a : Nm} {y : UInt64} (hh : A.handled = none) (ha : a.ok) (hz : Float64.isZero y = false) (h : Q (.float (Float64.div a.fl y) s.toks) { s with toks := s.toks + 1 }) :
    wpAny (model prog w) A (binaryOp .Div (a.v t) (.float y u)) Q E s := by
  have hz' : ¬ Float64.isZero y = true := by rw [hz]; exact Bool.false_ne_true
  cases a with
  | i n => exact Flt.truediv_if hh (fun o => absurd o (not_over ha)) (fun _ z => absurd z hz') (fun _ _ => h)
  | f x => exact truediv_float_or hh (fun z => absurd z hz') fun _ => h
end
end Mine
namespace Mine
open PySem PySem.W PyProof.Rows
theorem flush4 {M : Model} {A : Around} {Q : Flow → Shared → Prop} {E : Value → Shared → Prop} {s : Shared} {env : Env} (h : wpAny M A (execs [] env) Q E s) : wpAny M A (execs [] env) Q E s := by
  k_with_none
  (try (walk1; fail))
  w_top off
  exact h
end Mine
namespace Mine
open PySem PySem.W PyProof.Rows PySem.Calls
set_option maxHeartbeats 8000000
set_option linter.unusedVariables false
theorem kset5 : True := by
  k_with_none
  k_with "execs cons" =>
    first | dsimp only | (refine gen_toks ?_; intro tk₉)
  k_with "execs nil" =>
    first | dsimp only | (refine gen_toks ?_; intro tk₉)
  k_with "storeName" =>
    dsimp only
  trivial
section
variable {prog : Program} {w : World} {A : Around} {E : Value → Shared → Prop} {s : Shared} {t u x : Tok} {Q : Value → Shared → Prop}
theorem nnf_sub {a b : Nm} (ha : a.ok) (hb : b.ok) (hf : (a.isF || b.isF) = true) (h : Q (.float (Float64.sub a.fl b.fl) s.toks) { s with toks := s.toks + 1 }) :
    wpAny (model prog w) A (binaryOp .Sub (a.v t) (b.v u)) Q E s := by
  cases a <;> cases b
  · cases hf
  · exact sub_if_fits ha h
  · exact sub_fi_fits hb h
  · exact sub_float h
theorem ff_div {x y : UInt64} (hh : A.handled = none) (hz : Float64.isZero y = false) (h : Q (.float (Float64.div x y) s.toks) { s with toks := s.toks + 1 }) :
    wpAny (model prog w) A (binaryOp .Div (.float x t) (.float y u)) Q E s := nf_div (a := .f x) hh trivial hz h
theorem ff_mod {x y : UInt64} (hh : A.handled = none) (hz : Float64.isZero y = false) (h : Q (.float (Float64.divmod x y).2 s.toks) { s with toks := s.toks + 1 }) :
    wpAny (model prog w) A (binaryOp .Mod (.float x t) (.float y u)) Q E s :=
  Flt.mod_ff hh (fun z => by rw [hz] at z; cases z) fun _ => h
end
theorem kset6 : True := by
  k_with "binaryOp Add" =>
    refine nn_add (by assumption) (by assumption) (by assumption) ?_
  k_with "binaryOp Sub" =>
    first | refine nnf_sub (by assumption) (by assumption) (by assumption) ?_ | refine nn_sub (by assumption) (by assumption) ?_
  k_with "binaryOp Sub float" =>
    refine fn_sub (by assumption) ?_
  k_with "binaryOp Div" =>
    refine nf_div rfl (by assumption) (by assumption) ?_
  k_with "binaryOp Div float float" =>
    first | refine ff_div rfl (by assumption) ?_ | refine ff_div rfl (by decide +kernel) ?_
  k_with "binaryOp Mod float float" =>
    refine ff_mod rfl (by decide +kernel) ?_
  k_with "compareOp Eq" =>
    refine nn_eq ?_
  k_with "call builtin:max" =>
    (refine' max3_K (by assumption) (by assumption) rfl ?_; intro h'₉ tk'₉ k'₉ F'₉ N'₉)
  k_with "call builtin:min" =>
    (refine' min3_K (by assumption) (by assumption) rfl ?_; intro h'₉ tk'₉ k'₉ F'₉ N'₉)
  trivial

noncomputable def hlsN (r g b : Nm) : UInt64 × UInt64 × UInt64 :=
  let M := mx3 r g b
  let m := mn3 r g b
  let su := Float64.add M.fl m.fl
  let ra := Float64.sub M.fl m.fl
  let l := Float64.div su 0x4000000000000000
  let s := if (Float64.cmp l 0x3fe0000000000000 == some Ordering.lt || Float64.cmp l 0x3fe0000000000000 == some Ordering.eq) = true then Float64.div ra su else Float64.div ra (Float64.sub (Float64.sub 0x4000000000000000 M.fl) m.fl)
  let rc := Float64.div (M.sub r).fl ra
  let gc := Float64.div (M.sub g).fl ra
  let bc := Float64.div (M.sub b).fl ra
  let h := if r.eq M = true then Float64.sub bc gc else if g.eq M = true then Float64.sub (Float64.add 0x4000000000000000 rc) bc else Float64.sub (Float64.add 0x4010000000000000 gc) rc
  ((Float64.divmod (Float64.div h 0x4018000000000000) 0x3ff0000000000000).2, l, s)

theorem ite_t {α : Type} {b : Bool} {x y : α} (h : b = true) : (if b = true then x else y) = x := by rw [h]; rfl
theorem ite_f {α : Type} {b : Bool} {x y : α} (h : b = false) : (if b = true then x else y) = y := by rw [h]; rfl
theorem hls_ctr : ∀ (w : World) (A : Around) (s : Shared) (R : Result → Shared → Prop) (mg mb : Str → Option Value) (loose : List Str)
    (r g b : Nm) (tx ty tz : Tok)
    (X : (hd.heap_1 w.params).In s.heap) (T : TopRead viewQ loose mg mb s.heap) (hh : A.handled = none) (hr : A.depth < recursionLimit)
    (o1 : r.ok) (o2 : g.ok) (o3 : b.ok) (o4 : (mx3 r g b).ok) (o5 : (mn3 r g b).ok) (o6 : ((mx3 r g b).isF || (mn3 r g b).isF) = true)
    (o7 : ((mx3 r g b).sub r).ok) (o8 : ((mx3 r g b).sub g).ok) (o9 : ((mx3 r g b).sub b).ok)
    (e1 : (mn3 r g b).eq (mx3 r g b) = false) (e2 : Float64.isZero (Float64.add (mx3 r g b).fl (mn3 r g b).fl) = false) (e3 : Float64.isZero (Float64.sub (mx3 r g b).fl (mn3 r g b).fl) = false)
    (e4 : Float64.isZero (Float64.sub (Float64.sub 0x4000000000000000 (mx3 r g b).fl) (mn3 r g b).fl) = false)
    (hR : ∀ h tk a (c : UInt64 × UInt64 × UInt64) t1 t2 t3, Kp s.heap h → s.heap.get? a = none → h.get? a = some (tupO [.float c.1 t1, .float c.2.1 t2, .float c.2.2 t3]) → c = hlsN r g b → 0 < t1 → 0 < t2 →
      R (.ok (.ret (.ref a))) { s with heap := h, toks := tk }),
    codeAny (model PySem.Challenge.rw_pg0244_01.row.prog w) A (.call (.ref 28) ⟨[r.v tx, g.v ty, b.v tz], []⟩) R s := by
  k_fill
  intro w A s R mg mb loose r g b tx ty tz X T hh hr o1 o2 o3 o4 o5 o6 o7 o8 o9 e1 e2 e3 e4 hR
  obtain ⟨ah, ad, af, ag, au⟩ := A
  dsimp only at hh hr
  subst hh
  refine' enterKq (binds := [(Str.ofString "r", r.v tx), (Str.ofString "g", g.v ty), (Str.ofString "b", b.v tz)]) X T.nolimit ?ho ?hcd hr (BindsTo.of_eq ?hb) ?hl ?hc ?h1 ?h2 ?h3 ?_
  case ho => k_dflt k_is
  case hcd => k_dflt k_is
  case hb => exact rfl
  case hl => exact locs rfl
  case hc => decide
  case h1 => exact rfl
  case h2 => exact rfl
  case h3 => exact rfl
  intro L₀ h₁ tk₀ m₀ F N envv Av Qv Ev
  (try dsimp only)
  k_steps
  all_goals first
    | (exfalso; (rename (mn3 r g b).eq (mx3 r g b) = true => he); rw [e1] at he; cases he)
    | exact hR _ _ _ (_, _, _) _ _ _ (Fr.keep (by assumption)) (News.fresh (by assumption) (.head _)) (News.get (by assumption) (.head _)) (by
        unfold hlsN
        dsimp only
        first | rw [ite_t (b := (_ || _)) (by assumption)] | rw [ite_f (b := (_ || _)) (by assumption)]
        first | rw [ite_t (b := r.eq _) (by assumption)] | rw [ite_f (b := r.eq _) (by assumption), ite_t (b := g.eq _) (by assumption)] | rw [ite_f (b := r.eq _) (by assumption), ite_f (b := g.eq _) (by assumption)]) (Nat.succ_pos _) (Nat.succ_pos _)
end Mine
namespace Mine
open PySem PySem.W PyProof.Rows
theorem flush5 {M : Model} {A : Around} {Q : Flow → Shared → Prop} {E : Value → Shared → Prop} {s : Shared} {env : Env} (h : wpAny M A (execs [] env) Q E s) : wpAny M A (execs [] env) Q E s := by
  k_with_none
  (try (walk1; fail))
  w_top off
  exact h
end Mine
namespace Mine
open PySem PySem.W PyProof.Rows PySem.Calls
set_option maxHeartbeats 8000000
set_option linter.unusedVariables false
/-- n sixteenths -/
noncomputable def hB (n : Nat) : UInt64 := Float64.ofFrac false n 16
noncomputable def sK : Nat → Nm
  | 0 => .i 1 | 1 => .i 1 | 2 => .f 0x3fe0000000000000 | 3 => .f 0x3fe0000000000000 | _ => .f 0x3fe0000000000000
noncomputable def vK : Nat → Nm
  | 0 => .i 1 | 1 => .f 0x3fe0000000000000 | 2 => .i 1 | 3 => .f 0x3fe8000000000000 | _ => .f 0x3fe0000000000000
/-- lightness by kind, strength in parts -/
noncomputable def lK : Nat → UInt64
  | 0 => 0x3fe0000000000000 | 1 => 0x3fd0000000000000 | 2 => 0x3fe8000000000000 | 3 => 0x3fe2000000000000 | _ => 0x3fd8000000000000
noncomputable def gK : Nat → Int
  | 0 => 21504 | 1 => 21504 | 2 => 21504 | 3 => 9216 | _ => 7168
/-- the lamp of kind k at place p -/
noncomputable def lamp (k p : Nat) : Nm × Nm × Nm := hsvN (hB p) (sK k) (vK k)
theorem lamp_ring : ∀ k, k < 5 → ∀ n, n < 40 → hsvN (hB n) (sK k) (vK k) = lamp k (n % 16) := by decide +kernel
theorem hB_fin : ∀ n, n < 40 → Float64.isFinite (Float64.mul (hB n) 0x4018000000000000) = true := by decide +kernel
theorem hB_small : ∀ n, n < 40 → (Flt.toInt Float64.truncOf (Float64.mul (hB n) 0x4018000000000000)).natAbs < 1000 := by decide +kernel
theorem hB_add : ∀ p, p < 16 → ∀ n, n < 24 → Float64.add (hB p) (hB n) = hB (p + n) := by decide +kernel
theorem sK_ok : ∀ k, k < 5 → (sK k).eq (.f 0) = false := by decide +kernel
noncomputable def Nm.small : Nm → Bool
  | .i n => decide (n.natAbs < 100)
  | .f _ => true
noncomputable def rgbOk (c : Nm × Nm × Nm) : Bool :=
  let r := c.1
  let g := c.2.1
  let b := c.2.2
  let M := mx3 r g b
  let m := mn3 r g b
  r.small && g.small && b.small && M.small && m.small && (M.isF || m.isF) && (M.sub r).small && (M.sub g).small && (M.sub b).small && !(m.eq M) && !(Float64.isZero (Float64.add M.fl m.fl)) && !(Float64.isZero (Float64.sub M.fl m.fl)) && !(Float64.isZero (Float64.sub (Float64.sub 0x4000000000000000 M.fl) m.fl))
theorem lamp_ok : ∀ k, k < 5 → ∀ p, p < 16 → rgbOk (lamp k p) = true := by decide +kernel
noncomputable def told (c : Nm × Nm × Nm) : UInt64 × UInt64 × UInt64 := hlsN c.1 c.2.1 c.2.2
theorem told_hue : ∀ k, k < 5 → ∀ p, p < 16 → (told (lamp k p)).1 = hB p ∧ (told (lamp k p)).2.1 = lK k ∧ Float64.isFinite (Float64.add (Float64.mul (told (lamp k p)).2.2 (Float64.ofInt 21504)) 0x3fe0000000000000) = true ∧ Flt.toInt Float64.truncOf (Float64.add (Float64.mul (told (lamp k p)).2.2 (Float64.ofInt 21504)) 0x3fe0000000000000) = gK k := by decide +kernel
end Mine
namespace Mine
open PySem PySem.W PyProof.Rows
theorem flush6 {M : Model} {A : Around} {Q : Flow → Shared → Prop} {E : Value → Shared → Prop} {s : Shared} {env : Env} (h : wpAny M A (execs [] env) Q E s) : wpAny M A (execs [] env) Q E s := by
  k_with_none
  (try (walk1; fail))
  w_top off
  exact h
end Mine
namespace Mine
open PySem PySem.W PyProof.Rows PySem.Calls
set_option maxHeartbeats 8000000
set_option linter.unusedVariables false
section
variable {prog : Program} {w : World} {A : Around} {E : Value → Shared → Prop} {s : Shared} {t u x : Tok} {Q : Value → Shared → Prop} {h₀ h h' : Heap} {L a : Addr} {m : Str → Option Value} {news : List (Addr × Obj)} {o : Obj}
theorem News.add (N : News h₀ L h news) (F : Fr h₀ L h m) (kp : Kp h h') (hn : h.get? a = none) (hg : h'.get? a = some o) : News h₀ L h' ((a, o) :: news) := by
  intro p hp
  rcases List.mem_cons.mp hp with rfl | hp
  · refine ⟨hg, fun e => ?_, ?_⟩
    · obtain ⟨oL, _, _, hL, _⟩ := F.ns
      subst e
      rw [hn] at hL; cases hL
    · cases q : h₀.get? a with
      | none => rfl
      | some o' => have := F.keep _ _ q; rw [hn] at this; cases this
  · exact ⟨kp _ _ (N p hp).1, (N p hp).2⟩

theorem rgbOk_of {r g b : Nm} (h : rgbOk (r, g, b) = true) : r.ok ∧ g.ok ∧ b.ok ∧ (mx3 r g b).ok ∧ (mn3 r g b).ok ∧ ((mx3 r g b).isF || (mn3 r g b).isF) = true ∧ ((mx3 r g b).sub r).ok ∧ ((mx3 r g b).sub g).ok ∧ ((mx3 r g b).sub b).ok ∧
    (mn3 r g b).eq (mx3 r g b) = false ∧ Float64.isZero (Float64.add (mx3 r g b).fl (mn3 r g b).fl) = false ∧ Float64.isZero (Float64.sub (mx3 r g b).fl (mn3 r g b).fl) = false ∧ Float64.isZero (Float64.sub (Float64.sub 0x4000000000000000 (mx3 r g b).fl) (mn3 r g b).fl) = false := by
  have sm : ∀ {n : Nm}, n.small = true → n.ok := fun {n} e => by
    cases n with
    | i k => exact Nat.lt_of_lt_of_le (of_decide_eq_true e) (Nat.le_trans (by decide : 100 ≤ 2 ^ 7) (Nat.pow_le_pow_right (by decide) (by decide)))
    | f _ => trivial
  unfold rgbOk at h
  dsimp only at h
  simp only [Bool.and_eq_true, Bool.not_eq_true'] at h
  obtain ⟨⟨⟨⟨⟨⟨⟨⟨⟨⟨⟨⟨a1, a2⟩, a3⟩, a4⟩, a5⟩, a6⟩, a7⟩, a8⟩, a9⟩, b1⟩, b2⟩, b3⟩, b4⟩ := h
  exact ⟨sm a1, sm a2, sm a3, sm a4, sm a5, a6, sm a7, sm a8, sm a9, b1, b2, b3, b4⟩

theorem hls_K {dp un : Nat} {fr : Option (List Env)} {gd : Option (List Code)} {env : Env} {mg mb : Str → Option Value} {loose : List Str} {c : Nm × Nm × Nm} (F : Fr h₀ L s.heap m) (N : News h₀ L s.heap news) (X : (hd.heap_1 w.params).In h₀) (T : TopRead viewQ loose mg mb h₀) (hr : dp + 5 < recursionLimit) (ok : rgbOk c = true)
    (h : ∀ h' tk a t1 t2 t3, Fr h₀ L h' m → News h₀ L h' ((a, tupO [.float (told c).1 t1, .float (told c).2.1 t2, .float (told c).2.2 t3]) :: news) → 0 < t1 → 0 < t2 → Q (.ref a) { s with heap := h', toks := tk }) :
    wpAny (model PySem.Challenge.rw_pg0244_01.row.prog w) (Around.deeper { depth := dp, frames := fr, guards := gd, units := un } env) (call (.ref 28) [c.1.v t, c.2.1.v u, c.2.2.v x]) Q E s := by
  obtain ⟨a1, a2, a3, a4, a5, a6, a7, a8, a9, b1, b2, b3, b4⟩ := rgbOk_of (r := c.1) (g := c.2.1) (b := c.2.2) ok
  refine wpAny_call (hls_ctr w _ s _ mg mb loose _ _ _ _ _ _ (X.keeps F.keep) (T.keeps F.keep) rfl (by show dp + 1 < _; omega) a1 a2 a3 a4 a5 a6 a7 a8 a9 b1 b2 b3 b4 fun h' tk a c' t1 t2 t3 kp hn hg e p1 p2 => ?_)
  subst e
  exact h h' tk a t1 t2 t3 (Fr.kept F kp) (News.add N F kp hn hg) p1 p2
end
theorem ii_div {prog : Program} {w : World} {A : Around} {E : Value → Shared → Prop} {s : Shared} {t u : Tok} {Q : Value → Shared → Prop} {a b : Int} (y : UInt64) (hh : A.handled = none) (ha : a.natAbs < 1000000000) (hb : b ≠ 0) (hy : Float64.ofFrac (decide (a < 0) != decide (b < 0)) a.natAbs b.natAbs = y)
    (h : Q (.float y s.toks) { s with toks := s.toks + 1 }) : wpAny (model prog w) A (binaryOp .Div (.int a t) (.int b u)) Q E s :=
  Flt.div_ii_fits hh (Nat.lt_of_lt_of_le ha (Nat.le_trans (by decide : 1000000000 ≤ 2 ^ 30) (Nat.pow_le_pow_right (by decide) (by decide)))) (fun e => absurd e hb) fun _ _ => by rw [hy]; exact h

theorem kset7 : True := by
  k_with_none
  k_with "binaryOp Div int int" =>
    first
      | refine ii_div 0x3fe0000000000000 rfl (by decide) (by decide) (by decide +kernel) ?_
      | refine ii_div 0x3fd0000000000000 rfl (by decide) (by decide) (by decide +kernel) ?_
      | refine ii_div 0x3fe8000000000000 rfl (by decide) (by decide) (by decide +kernel) ?_
      | refine ii_div 0x3fe2000000000000 rfl (by decide) (by decide) (by decide +kernel) ?_
      | refine ii_div 0x3fd8000000000000 rfl (by decide) (by decide) (by decide +kernel) ?_
  k_with "call type:int" =>
    refine int_fl (by assumption) ?_
  k_with "call ref" =>
    (refine' hls_K (by assumption) (by assumption) (by assumption) (by assumption) (by assumption) (by assumption) ?_; intro _ _ _ _ _ _ _ _ _ _)
  trivial

theorem told_ctr : ∀ (w : World) (A : Around) (s : Shared) (R : Result → Shared → Prop) (mg mb : Str → Option Value) (loose : List Str) (l : Addr) (c : Nm × Nm × Nm) (t1 t2 t3 : Tok)
    (X : (hd.heap_1 w.params).In s.heap) (T : TopRead viewQ loose mg mb s.heap) (hh : A.handled = none) (hr : A.depth + 5 < recursionLimit)
    (hlamp : IsTup s.heap l (List.toArray [c.1.v t1, c.2.1.v t2, c.2.2.v t3])) (ok : rgbOk c = true)
    (hf : Float64.isFinite (Float64.add (Float64.mul (told c).2.2 (Float64.ofInt 21504)) 0x3fe0000000000000) = true)
    (hR : ∀ h tk a u1 u2 u3, Kp s.heap h → s.heap.get? a = none → h.get? a = some (tupO [.float (told c).1 u1, .float (told c).2.1 u2, .int (Flt.toInt Float64.truncOf (Float64.add (Float64.mul (told c).2.2 (Float64.ofInt 21504)) 0x3fe0000000000000)) u3]) → 0 < u1 → 0 < u2 →
      R (.ok (.ret (.ref a))) { s with heap := h, toks := tk }),
    codeAny (model PySem.Challenge.rw_pg0244_01.row.prog w) A (.call (.ref 171) ⟨[.ref l], []⟩) R s := by
  k_fill
  intro w A s R mg mb loose l c t1 t2 t3 X T hh hr hlamp ok hf hR
  obtain ⟨ah, ad, af, ag, au⟩ := A
  dsimp only at hh hr
  subst hh
  refine' enterKq (binds := [(Str.ofString "lamp", .ref l)]) X T.nolimit ?ho ?hcd (by show ad < _; omega) (BindsTo.of_eq ?hb) ?hl ?hc ?h1 ?h2 ?h3 ?_
  case ho => k_dflt k_is
  case hcd => k_dflt k_is
  case hb => exact rfl
  case hl => exact locs rfl
  case hc => decide
  case h1 => exact rfl
  case h2 => exact rfl
  case h3 => exact rfl
  intro L₀ h₁ tk₀ m₀ F N envv Av Qv Ev
  (try dsimp only)
  k_steps
  all_goals exact hR _ _ _ _ _ _ (Fr.keep (by assumption)) (News.fresh (by assumption) (.head _)) (News.get (by assumption) (.head _)) (by assumption) (by assumption)

noncomputable abbrev listO (vs : List Value) : Obj := listOf vs.toArray 0
noncomputable def kindT (k : Nat) (t1 t2 t3 t4 : Tok) : List Value := [(sK k).v t1, (vK k).v t2, .float (lK k) t3, .int (gK k) t4]
theorem kinds_ctr : ∀ (w : World) (A : Around) (s : Shared) (R : Result → Shared → Prop) (mg mb : Str → Option Value) (loose : List Str)
    (X : (hd.heap_1 w.params).In s.heap) (T : TopRead viewQ loose mg mb s.heap) (hh : A.handled = none) (hr : A.depth < recursionLimit)
    (hR : ∀ h tk l a0 a1 a2 a3 a4 t00 t01 t02 t03 t10 t11 t12 t13 t20 t21 t22 t23 t30 t31 t32 t33 t40 t41 t42 t43, Kp s.heap h →
      (∀ x ∈ [l, a0, a1, a2, a3, a4], s.heap.get? x = none) → (a0 < a1 ∧ a1 < a2 ∧ a2 < a3 ∧ a3 < a4 ∧ a4 < l) →
      h.get? l = some (listO [.ref a0, .ref a1, .ref a2, .ref a3, .ref a4]) → h.get? a0 = some (tupO (kindT 0 t00 t01 t02 t03)) → h.get? a1 = some (tupO (kindT 1 t10 t11 t12 t13)) →
      h.get? a2 = some (tupO (kindT 2 t20 t21 t22 t23)) → h.get? a3 = some (tupO (kindT 3 t30 t31 t32 t33)) → h.get? a4 = some (tupO (kindT 4 t40 t41 t42 t43)) → (0 < t02 ∧ 0 < t12 ∧ 0 < t22 ∧ 0 < t32 ∧ 0 < t42) →
      R (.ok (.ret (.ref l))) { s with heap := h, toks := tk }),
    codeAny (model PySem.Challenge.rw_pg0244_01.row.prog w) A (.call (.ref 164) ⟨[], []⟩) R s := by
  k_fill
  intro w A s R mg mb loose X T hh hr hR
  obtain ⟨ah, ad, af, ag, au⟩ := A
  dsimp only at hh hr
  subst hh
  refine' enterKq (binds := []) X T.nolimit ?ho ?hcd hr (BindsTo.of_eq ?hb) ?hl ?hc ?h1 ?h2 ?h3 ?_
  case ho => k_dflt k_is
  case hcd => k_dflt k_is
  case hb => exact rfl
  case hl => exact locs rfl
  case hc => decide
  case h1 => exact rfl
  case h2 => exact rfl
  case h3 => exact rfl
  intro L₀ h₁ tk₀ m₀ F N envv Av Qv Ev
  (try dsimp only)
  k_steps
  rename_i l1
  rename (News _ _ _ _) => N'
  refine' hR _ _ _ _ _ _ _ _ _ _ _ _ _ _ _ _ _ _ _ _ _ _ _ _ _ _ _ _ (Fr.keep (by assumption)) ?_ ?_ (News.get N' (.head _)) (News.get N' (.tail _ (.tail _ (.tail _ (.tail _ (.tail _ (.head _))))))) (News.get N' (.tail _ (.tail _ (.tail _ (.tail _ (.head _)))))) (News.get N' (.tail _ (.tail _ (.tail _ (.head _))))) (News.get N' (.tail _ (.tail _ (.head _)))) (News.get N' (.tail _ (.head _))) ⟨Nat.succ_pos _, Nat.succ_pos _, Nat.succ_pos _, Nat.succ_pos _, Nat.succ_pos _⟩
  · intro x hx
    simp only [List.mem_cons, List.not_mem_nil, or_false] at hx
    rcases hx with rfl | rfl | rfl | rfl | rfl | rfl
    · exact News.fresh N' (.head _)
    · exact News.fresh N' (.tail _ (.tail _ (.tail _ (.tail _ (.tail _ (.head _))))))
    · exact News.fresh N' (.tail _ (.tail _ (.tail _ (.tail _ (.head _)))))
    · exact News.fresh N' (.tail _ (.tail _ (.tail _ (.head _))))
    · exact News.fresh N' (.tail _ (.tail _ (.head _)))
    · exact News.fresh N' (.tail _ (.head _))
  · refine ⟨?_, ?_, ?_, ?_, ?_⟩ <;> (refine ltN ?_; omega)
end Mine
namespace Mine
open PySem PySem.W PyProof.Rows
theorem flush7 {M : Model} {A : Around} {Q : Flow → Shared → Prop} {E : Value → Shared → Prop} {s : Shared} {env : Env} (h : wpAny M A (execs [] env) Q E s) : wpAny M A (execs [] env) Q E s := by
  k_with_none
  (try (walk1; fail))
  w_top off
  exact h
end Mine
namespace Mine
open PySem PySem.W PyProof.Rows PySem.Calls
set_option maxHeartbeats 8000000
set_option linter.unusedVariables false
theorem kset8 : True := by
  k_with_none
  k_with "execs cons" =>
    first | dsimp only | (refine gen_toks ?_; intro tk₉)
  k_with "execs nil" =>
    first | dsimp only | (refine gen_toks ?_; intro tk₉)
  k_with "storeName" =>
    dsimp only
  trivial
section
variable {w : World} {A : Around} {E : Value → Shared → Prop} {s : Shared} {t u x : Tok} {Q : Value → Shared → Prop} {h₀ h h' : Heap} {L a : Addr} {m : Str → Option Value} {news : List (Addr × Obj)} {o : Obj}
  {dp un : Nat} {fr : Option (List Env)} {gd : Option (List Code)} {env : Env} {mg mb : Str → Option Value} {loose : List Str}

noncomputable def upd (as : Nat → Addr) (k : Nat) (a : Addr) : Nat → Addr := fun i => if i = k then a else as i
noncomputable def refs5 (as : Nat → Addr) : List Value := [.ref (as 0), .ref (as 1), .ref (as 2), .ref (as 3), .ref (as 4)]
/-- a lamp as it lies -/
noncomputable def LampAt (h : Heap) (a : Addr) (k p : Nat) : Prop := ∃ t1 t2 t3, h.get? a = some (tupO [(lamp k p).1.v t1, (lamp k p).2.1.v t2, (lamp k p).2.2.v t3])
theorem LampAt.kp {k p : Nat} (x : LampAt h a k p) (kp : Kp h h') : LampAt h' a k p := let ⟨t1, t2, t3, e⟩ := x; ⟨t1, t2, t3, kp _ _ e⟩

theorem told_K {k p : Nat} {l : Addr} (F : Fr h₀ L s.heap m) (N : News h₀ L s.heap news) (X : (hd.heap_1 w.params).In h₀) (T : TopRead viewQ loose mg mb h₀) (hr : dp + 9 < recursionLimit)
    (hk : k < 5) (hp : p < 16) (hl : LampAt s.heap l k p)
    (h : ∀ h' tk a t1 t2 t3, Fr h₀ L h' m → News h₀ L h' ((a, tupO [.float (hB p) t1, .float (lK k) t2, .int (gK k) t3]) :: news) → Kp s.heap h' → 0 < t1 → 0 < t2 → Q (.ref a) { s with heap := h', toks := tk }) :
    wpAny (model PySem.Challenge.rw_pg0244_01.row.prog w) (Around.deeper { depth := dp, frames := fr, guards := gd, units := un } env) (call (.ref 171) [.ref l]) Q E s := by
  obtain ⟨t1, t2, t3, e⟩ := hl
  obtain ⟨e1, e2, e3, e4⟩ := told_hue k hk p hp
  refine wpAny_call (told_ctr w _ s _ mg mb loose l (lamp k p) t1 t2 t3 (X.keeps F.keep) (T.keeps F.keep) rfl (by show dp + 1 + 5 < _; omega) ⟨_, e, rfl, _, rfl⟩ (lamp_ok k hk p hp) e3 fun h' tk a u1 u2 u3 kp hn hg p1 p2 => ?_)
  rw [e1, e2, e4] at hg
  exact h h' tk a u1 u2 u3 (Fr.kept F kp) (News.add N F kp hn hg) kp p1 p2

theorem hsv_K {k n : Nat} (F : Fr h₀ L s.heap m) (N : News h₀ L s.heap news) (X : (hd.heap_1 w.params).In h₀) (T : TopRead viewQ loose mg mb h₀) (hr : dp + 9 < recursionLimit)
    (hk : k < 5) (hn : n < 40)
    (h : ∀ h' tk a t1 t2 t3, Fr h₀ L h' m → News h₀ L h' ((a, tupO [(lamp k (n % 16)).1.v t1, (lamp k (n % 16)).2.1.v t2, (lamp k (n % 16)).2.2.v t3]) :: news) → Q (.ref a) { s with heap := h', toks := tk }) :
    wpAny (model PySem.Challenge.rw_pg0244_01.row.prog w) (Around.deeper { depth := dp, frames := fr, guards := gd, units := un } env) (call (.ref 35) [.float (hB n) t, (sK k).v u, (vK k).v x]) Q E s := by
  have sm : ∀ j : Nat, (sK j).ok ∧ (vK j).ok := fun j => by
    have e : (1 : Int).natAbs < 2 ^ 1023 := Nat.one_lt_two_pow (by decide)
    match j with
    | 0 => exact ⟨e, e⟩
    | 1 => exact ⟨e, trivial⟩
    | 2 => exact ⟨trivial, e⟩
    | 3 => exact ⟨trivial, trivial⟩
    | _ + 4 => exact ⟨trivial, trivial⟩
  refine wpAny_call (hsv_ctr w _ s _ mg mb loose (hB n) (sK k) (vK k) _ _ _ (X.keeps F.keep) (T.keeps F.keep) rfl (by show dp + 1 < _; omega) (sm k).1 (sm k).2 (sK_ok k hk) (hB_fin n hn) (Nat.lt_of_lt_of_le (hB_small n hn) (Nat.le_trans (by decide : 1000 ≤ 2 ^ 10) (Nat.pow_le_pow_right (by decide) (by decide)))) fun h' tk a c t1 t2 t3 kp hn' hg e => ?_)
  rw [lamp_ring k hk n hn] at e
  subst e
  exact h h' tk a t1 t2 t3 (Fr.kept F kp) (News.add N F kp hn' hg)

theorem News.adds {extra : List (Addr × Obj)} (N : News h₀ L h news) (F : Fr h₀ L h m) (kp : Kp h h') (hx : ∀ p ∈ extra, h.get? p.1 = none ∧ h'.get? p.1 = some p.2) : News h₀ L h' (extra ++ news) := by
  intro p hp
  rcases List.mem_append.mp hp with hp | hp
  · exact News.add N F kp (hx p hp).1 (hx p hp).2 p (.head _)
  · exact ⟨kp _ _ (N p hp).1, (N p hp).2⟩

theorem kinds_K (F : Fr h₀ L s.heap m) (N : News h₀ L s.heap news) (X : (hd.heap_1 w.params).In h₀) (T : TopRead viewQ loose mg mb h₀) (hr : dp + 9 < recursionLimit)
    (h : ∀ h' tk l a0 a1 a2 a3 a4 t00 t01 t02 t03 t10 t11 t12 t13 t20 t21 t22 t23 t30 t31 t32 t33 t40 t41 t42 t43, Fr h₀ L h' m → Kp s.heap h' →
      News h₀ L h' ((l, listO [.ref a0, .ref a1, .ref a2, .ref a3, .ref a4]) :: (a0, tupO (kindT 0 t00 t01 t02 t03)) :: (a1, tupO (kindT 1 t10 t11 t12 t13)) :: (a2, tupO (kindT 2 t20 t21 t22 t23)) :: (a3, tupO (kindT 3 t30 t31 t32 t33)) :: (a4, tupO (kindT 4 t40 t41 t42 t43)) :: news) → (0 < t02 ∧ 0 < t12 ∧ 0 < t22 ∧ 0 < t32 ∧ 0 < t42) → (∀ p ∈ news, ∀ x ∈ [l, a0, a1, a2, a3, a4], p.1 ≠ x) →
      Q (.ref l) { s with heap := h', toks := tk }) :
    wpAny (model PySem.Challenge.rw_pg0244_01.row.prog w) (Around.deeper { depth := dp, frames := fr, guards := gd, units := un } env) (call (.ref 164) []) Q E s := by
  refine wpAny_call (kinds_ctr w _ s _ mg mb loose (X.keeps F.keep) (T.keeps F.keep) rfl (by show dp + 1 < _; omega) fun h' tk l a0 a1 a2 a3 a4 t00 t01 t02 t03 t10 t11 t12 t13 t20 t21 t22 t23 t30 t31 t32 t33 t40 t41 t42 t43 kp hn lt gl g0 g1 g2 g3 g4 hpos => ?_)
  refine h h' tk l a0 a1 a2 a3 a4 t00 t01 t02 t03 t10 t11 t12 t13 t20 t21 t22 t23 t30 t31 t32 t33 t40 t41 t42 t43 (Fr.kept F kp) kp ?_ hpos (fun p hp x hx e => by have h1 := (N p hp).1; rw [e, hn x hx] at h1; cases h1)
  refine News.adds (extra := [_, _, _, _, _, _]) N F kp fun p hp => ?_
  simp only [List.mem_cons, List.not_mem_nil, or_false] at hp
  rcases hp with rfl | rfl | rfl | rfl | rfl | rfl
  · exact ⟨hn _ (by simp), gl⟩
  · exact ⟨hn _ (by simp), g0⟩
  · exact ⟨hn _ (by simp), g1⟩
  · exact ⟨hn _ (by simp), g2⟩
  · exact ⟨hn _ (by simp), g3⟩
  · exact ⟨hn _ (by simp), g4⟩

theorem kinds_Kk {k : Nat} (hk : k < 5) (F : Fr h₀ L s.heap m) (N : News h₀ L s.heap news) (X : (hd.heap_1 w.params).In h₀) (T : TopRead viewQ loose mg mb h₀) (hr : dp + 9 < recursionLimit)
    (h : ∀ h' tk l (as : Nat → Addr) t0 t1 t2 t3, Fr h₀ L h' m → News h₀ L h' ((l, listO (refs5 as)) :: (as k, tupO (kindT k t0 t1 t2 t3)) :: news) → Q (.ref l) { s with heap := h', toks := tk }) :
    wpAny (model PySem.Challenge.rw_pg0244_01.row.prog w) (Around.deeper { depth := dp, frames := fr, guards := gd, units := un } env) (call (.ref 164) []) Q E s :=
  kinds_K F N X T hr fun h' tk l a0 a1 a2 a3 a4 t00 t01 t02 t03 t10 t11 t12 t13 t20 t21 t22 t23 t30 t31 t32 t33 t40 t41 t42 t43 F' kp N' hpos hneq => by
    have key : ∀ (ak : Addr) (t0 t1 t2 t3 : Tok), (ak, tupO (kindT k t0 t1 t2 t3)) ∈ [(a0, tupO (kindT 0 t00 t01 t02 t03)), (a1, tupO (kindT 1 t10 t11 t12 t13)), (a2, tupO (kindT 2 t20 t21 t22 t23)), (a3, tupO (kindT 3 t30 t31 t32 t33)), (a4, tupO (kindT 4 t40 t41 t42 t43))] →
        News h₀ L h' ((l, listO [.ref a0, .ref a1, .ref a2, .ref a3, .ref a4]) :: (ak, tupO (kindT k t0 t1 t2 t3)) :: news) := fun ak t0 t1 t2 t3 hm => cb_drop N' fun p hp => by
      rcases List.mem_cons.mp hp with rfl | hp
      · exact .head _
      · rcases List.mem_cons.mp hp with rfl | hp
        · exact .tail _ (List.mem_append_left news hm)
        · simp [hp]
    refine h h' tk l (fun i => [a0, a1, a2, a3].getD i a4)
      ([t00, t10, t20, t30].getD k t40) ([t01, t11, t21, t31].getD k t41)
      ([t02, t12, t22, t32].getD k t42) ([t03, t13, t23, t33].getD k t43) F' (key _ _ _ _ _ ?_)
    exact lt5 (P := fun k => ([a0, a1, a2, a3].getD k a4, tupO (kindT k ([t00, t10, t20, t30].getD k t40) ([t01, t11, t21, t31].getD k t41) ([t02, t12, t22, t32].getD k t42) ([t03, t13, t23, t33].getD k t43))) ∈ [(a0, tupO (kindT 0 t00 t01 t02 t03)), (a1, tupO (kindT 1 t10 t11 t12 t13)), (a2, tupO (kindT 2 t20 t21 t22 t23)), (a3, tupO (kindT 3 t30 t31 t32 t33)), (a4, tupO (kindT 4 t40 t41 t42 t43))]) hk
      (.head _) (.tail _ (.head _)) (.tail _ (.tail _ (.head _))) (.tail _ (.tail _ (.tail _ (.head _)))) (.tail _ (.tail _ (.tail _ (.tail _ (.head _)))))
end
theorem mod_as {prog : Program} {w : World} {A : Around} {E : Value → Shared → Prop} {s : Shared} {t u : Tok} {Q : Value → Shared → Prop} {a b k : Int} (hb : b ≠ 0) (e : a.fmod b = k)
    (h : Q (.int k s.toks) { s with toks := s.toks + 1 }) : wpAny (model prog w) A (binaryOp .Mod (.int a t) (.int b u)) Q E s := mod_int' hb (by rw [e]; exact h)
theorem div16 {prog : Program} {w : World} {A : Around} {E : Value → Shared → Prop} {s : Shared} {t u : Tok} {Q : Value → Shared → Prop} {n : Nat} (hh : A.handled = none) (hn : n < 1000)
    (h : Q (.float (hB n) s.toks) { s with toks := s.toks + 1 }) : wpAny (model prog w) A (binaryOp .Div (.int (n : Int) t) (.int 16 u)) Q E s := by
  refine ii_div (hB n) hh (by omega) (by decide) ?_ h
  have : decide ((n : Int) < 0) = false := decide_eq_false (by omega)
  rw [this]; rfl
theorem add_hB {prog : Program} {w : World} {A : Around} {E : Value → Shared → Prop} {s : Shared} {t u : Tok} {Q : Value → Shared → Prop} {p n : Nat} (hp : p < 16) (hn : n < 24)
    (h : Q (.float (hB (p + n)) s.toks) { s with toks := s.toks + 1 }) : wpAny (model prog w) A (binaryOp .Add (.float (hB p) t) (.float (hB n) u)) Q E s :=
  add_float (by rw [hB_add p hp n hn]; exact h)
theorem kset9 : True := by
  k_with "binaryOp Mod int int" =>
    refine mod_as (by decide) (by assumption) ?_
  k_with "binaryOp Div int int" =>
    refine div16 rfl (by omega) ?_
  k_with "binaryOp Add float float" =>
    refine add_hB (by assumption) (by assumption) ?_
  trivial

theorem pick_le (l : List Value) (lo hi : Option Int) : (kms_pick l lo hi).length ≤ l.length := by
  unfold kms_pick; rw [List.length_take, List.length_drop]; omega
theorem sz1 {l : List Value} {lo hi : Option Int} {x : Value} (h : l.length ≤ 5) : (kms_pick l lo hi).toArray.size + (List.toArray [x]).size ≤ sizeLine := by
  have := pick_le l lo hi
  simp only [List.size_toArray, List.length_cons, List.length_nil]
  rw [sizeLine_eq]; omega
theorem sz2 {l l' : List Value} {lo hi lo' hi' : Option Int} {x : Value} (h : l.length ≤ 5) (h' : l'.length ≤ 5) : (kms_pick l lo hi ++ [x]).toArray.size + (kms_pick l' lo' hi').toArray.size ≤ sizeLine := by
  have := pick_le l lo hi
  have := pick_le l' lo' hi'
  simp only [List.size_toArray, List.length_cons, List.length_nil, List.length_append]
  rw [sizeLine_eq]; omega
/-- one of five, unknown which -/
theorem sub5 {prog : Program} {w : World} {A : Around} {E : Value → Shared → Prop} {s : Shared} {value slice : PySem.Expr} {l : Addr} {as : Nat → Addr} {k : Nat} {u : Tok} {Q : Value → Shared → Prop}
    (hl : s.heap.IsList l (refs5 as).toArray) (hk : k < 5) (h : Q (.ref (as k)) s)
    (hs : subscripted slice false (.ref l) (.int (k : Int) u) = operate [.ref l, .int (k : Int) u] (getItem (.ref l) (.int (k : Int) u)) := by with_unfolding_all rfl) :
    wpAny (model prog w) A (subscriptTail value slice (.ref l) (.int (k : Int) u)) Q E s := by
  refine tail_any hl.typeIs slot_list_getitem.lookup (wpAny_getItem_list hl (by omega) (by omega) ?_ h) hs
  rw [Int.toNat_natCast]
  exact lt5 (P := fun k => _ = some (Value.ref (as k))) hk rfl rfl rfl rfl rfl
theorem slice5 {prog : Program} {w : World} {A : Around} {E : Value → Shared → Prop} {s : Shared} {h₀ : Heap} {L l : Addr} {m : Str → Option Value} {news : List (Addr × Obj)} {value slice : PySem.Expr} {vl vu : Value} {lo hi : Option Int} {Q : Value → Shared → Prop} {as : Nat → Addr}
    (F : Fr h₀ L s.heap m) (N : News h₀ L s.heap news) (hl : s.heap.IsList l (refs5 as).toArray) (pl : IsPart vl lo) (pu : IsPart vu hi)
    (h : ∀ D h', Fr h₀ L h' m → News h₀ L h' ((D, listO (kms_pick (refs5 as) lo hi)) :: news) → Q (.ref D) { s with heap := h' })
    (hs : subscripted slice false (.ref l) (.ref s.heap.objs.size) = operate [.ref s.heap.objs.size, .ref l] (getItem (.ref l) (.ref s.heap.objs.size))) (ht : ∀ r, letTemporaryGo value (.ref l) r = pure ()) :
    wpAny (model prog w) A (subscriptTail value slice (.ref l) (.ref s.heap.objs.size)) Q E { s with heap := s.heap.push { cls := .type "slice", data := .fields #[vl, vu, .none] } } :=
  kms_slice_lit F N hl pl pu rfl (fun D h' F' N' _ => h D h' F' N') hs ht (by rw [sizeLine_eq]; exact (by decide : (5:Nat) ≤ 16777216))
theorem upd_pick (as : Nat → Addr) (k : Nat) (a : Addr) (hk : k < 5) : (kms_pick (refs5 as) none (some (k : Int)) ++ [Value.ref a]) ++ kms_pick (refs5 as) (some ((k : Int) + 1)) none = refs5 (upd as k a) :=
  lt5 (P := fun k => (kms_pick (refs5 as) none (some (k : Int)) ++ [Value.ref a]) ++ kms_pick (refs5 as) (some ((k : Int) + 1)) none = refs5 (upd as k a)) hk rfl rfl rfl rfl rfl
theorem kset10 : True := by
  k_with "subscriptTail Name Slice ref ref" =>
    (refine' slice5 (by k_asm) (by k_asm) (by exact stays_list (Fr.keep (by k_asm)) (by assumption)) (by kmk_part) (by kmk_part) ?_ (by with_unfolding_all rfl) (by kmk_pure); intro D'₉ h'₉ F'₉ N'₉; (try k_sweep))
  k_with "subscriptTail" =>
    (refine' sub5 (by with_unfolding_all first | exact News.isList (by assumption) (.head _) | exact News.isList (by assumption) (.tail _ (.head _)) | exact News.isList (by assumption) (.tail _ (.tail _ (.head _))) | exact News.isList (by assumption) (.tail _ (.tail _ (.tail _ (.head _)))) | exact stays_list (Fr.keep (by k_asm)) (by assumption)) (by assumption) ?_ (by with_unfolding_all rfl))
  k_with "binaryOp Add ref ref" =>
    (refine' add_arrays (by k_asm) (by k_asm) (by kmk_list) (by kmk_list) ?_ (by first | exact sz1 (Nat.le_refl 5) | exact sz2 (Nat.le_refl 5) (Nat.le_refl 5)); intro h'₉ F'₉ N'₉; (try k_sweep))
  k_with "call ref" =>
    first
      | (refine' told_K (by k_asm) (by k_asm) (by k_asm) (by k_asm) (by k_asm) ?_ ?_ (by exact LampAt.kp (by assumption) (Fr.keep (by k_asm))) ?_; (· assumption); (· assumption); intro h'₉ tk'₉ a'₉ t1'₉ t2'₉ t3'₉ F'₉ N'₉ kp'₉ p1'₉ p2'₉; clear kp'₉ p1'₉ p2'₉; (try k_sweep))
      | (refine' hsv_K (by k_asm) (by k_asm) (by k_asm) (by k_asm) (by k_asm) (by assumption) (by omega) ?_; intro h'₉ tk'₉ a'₉ t1'₉ t2'₉ t3'₉ F'₉ N'₉; (try k_sweep))
      | (refine' kinds_Kk (by assumption) (by k_asm) (by k_asm) (by k_asm) (by k_asm) (by k_asm) ?_; intro h'₉ tk'₉ l'₉ as'₉ t0'₉ t1'₉ t2'₉ t3'₉ F'₉ N'₉; (try k_sweep))
  trivial
theorem turned_ctr : ∀ (w : World) (A : Around) (s : Shared) (R : Result → Shared → Prop) (mg mb : Str → Option Value) (loose : List Str) (l : Addr) (as : Nat → Addr) (p n k : Nat) (tn : Tok)
    (X : (hd.heap_1 w.params).In s.heap) (T : TopRead viewQ loose mg mb s.heap) (hh : A.handled = none) (hr : A.depth + 10 < recursionLimit)
    (hl : s.heap.IsList l (refs5 as).toArray) (b0 : p < 16) (hk : k < 5) (hl0 : LampAt s.heap (as k) k p) (hn : n < 24) (hm : (n : Int).fmod 5 = (k : Int))
    (hR : ∀ h tk l' a', Kp s.heap h → s.heap.get? l' = none → s.heap.get? a' = none → h.get? l' = some (listO (refs5 (upd as k a'))) → LampAt h a' k ((p + n) % 16) → R (.ok (.ret (.ref l'))) { s with heap := h, toks := tk }),
    codeAny (model PySem.Challenge.rw_pg0244_01.row.prog w) A (.call (.ref 178) ⟨[.ref l, .int (n : Int) tn], []⟩) R s := by
  k_fill
  intro w A s R mg mb loose l as p n k tn X T hh hr hlist b0 hk hl0 hn hm hR
  obtain ⟨ah, ad, af, ag, au⟩ := A
  dsimp only at hh hr
  subst hh
  refine' enterKq (binds := [(Str.ofString "lamps", .ref l), (Str.ofString "size", .int (n : Int) tn)]) X T.nolimit ?ho ?hcd (by show ad < _; omega) (BindsTo.of_eq ?hb) ?hl ?hc ?h1 ?h2 ?h3 ?_
  case ho => k_dflt k_is
  case hcd => k_dflt k_is
  case hb => exact rfl
  case hl => exact locs rfl
  case hc => decide
  case h1 => exact rfl
  case h2 => exact rfl
  case h3 => exact rfl
  intro L₀ h₁ tk₀ m₀ F N envv Av Qv Ev
  (try dsimp only)
  have hr9 : ad + 9 < recursionLimit := by omega
  k_steps
  rename (News _ _ _ _) => N'
  refine hR _ _ _ _ (Fr.keep (by assumption)) (News.fresh N' (.head _)) (News.fresh N' (.tail _ (.tail _ (.tail _ (.tail _ (.tail _ (.head _))))))) ((News.get N' (.head _)).trans ?_) ⟨_, _, _, News.get N' (.tail _ (.tail _ (.tail _ (.tail _ (.tail _ (.head _))))))⟩
  rw [← upd_pick as k _ hk]
end Mine
namespace Mine
open PySem PySem.W PyProof.Rows
theorem flush8 {M : Model} {A : Around} {Q : Flow → Shared → Prop} {E : Value → Shared → Prop} {s : Shared} {env : Env} (h : wpAny M A (execs [] env) Q E s) : wpAny M A (execs [] env) Q E s := by
  k_with_none
  (try (walk1; fail))
  w_top off
  exact h
end Mine
namespace Mine
open PySem PySem.W PyProof.Rows PySem.Calls
set_option maxHeartbeats 8000000
set_option linter.unusedVariables false
noncomputable def Halt (P : Prop) : Prop := P
theorem halt {P : Prop} (h : Halt P) : P := h
section
variable {prog : Program} {w : World} {A : Around} {E : Value → Shared → Prop} {s : Shared} {env : Env} {h₀ : Heap} {x : Str} {body : List Stmt} {Q : Flow → Shared → Prop}
noncomputable def TurnE (h₀ : Heap) (L I : Addr) (oI : Obj) (J : (Str → Option Value) → List (Addr × Obj) → Prop) (s₁ : Shared) (Q : Flow → Shared → Prop) (f : Flow) (s₂ : Shared) : Prop :=
  match f with
  | .ret v => Q (.ret v) s₂
  | .brk => Q .next s₂
  | _ => ∃ h' tk m' news' nx, s₂ = { s₁ with heap := h', toks := tk } ∧ Fr h₀ L h' m' ∧ News h₀ L h' news' ∧ (I, oI) ∈ news' ∧ (∀ p ∈ nx, p ∈ news' ∧ p.1 ≠ I) ∧ J m' nx

theorem one_in {I : Addr} {p : Addr × Obj} {news : List (Addr × Obj)} (h : p ∈ news) (hne : p.1 ≠ I) : ∀ q ∈ [p], q ∈ news ∧ q.1 ≠ I := fun q hq => by
  rw [List.mem_singleton.mp hq]; exact ⟨h, hne⟩
theorem TurnE.next {L I : Addr} {oI : Obj} {J : (Str → Option Value) → List (Addr × Obj) → Prop} {s₁ : Shared} {h' : Heap} {tk : Nat} {m' : Str → Option Value} {news' nx : List (Addr × Obj)}
    (F : Fr h₀ L h' m') (N : News h₀ L h' news') (hi : (I, oI) ∈ news') (hn : ∀ p ∈ nx, p ∈ news' ∧ p.1 ≠ I) (hj : J m' nx) : TurnE h₀ L I oI J s₁ Q .next { s₁ with heap := h', toks := tk } :=
  ⟨h', tk, m', news', nx, rfl, F, N, hi, hn, hj⟩
theorem TurnE.next1 {L I : Addr} {oI : Obj} {J : (Str → Option Value) → List (Addr × Obj) → Prop} {s₁ : Shared} {h' : Heap} {tk : Nat} {m' : Str → Option Value} {news' : List (Addr × Obj)} {p : Addr × Obj}
    (F : Fr h₀ L h' m') (N : News h₀ L h' news') (hi : (I, oI) ∈ news') (hp : p ∈ news') (hne : p.1 ≠ I) (hj : J m' [p]) : TurnE h₀ L I oI J s₁ Q .next { s₁ with heap := h', toks := tk } :=
  TurnE.next F N hi (one_in hp hne) hj
theorem TurnE.nextC {L I : Addr} {oI : Obj} {J : (Str → Option Value) → List (Addr × Obj) → Prop} {s₁ : Shared} {h' : Heap} {tk : Nat} {m' : Str → Option Value} {news' rest : List (Addr × Obj)} {p : Addr × Obj}
    (F : Fr h₀ L h' m') (N : News h₀ L h' news') (hi : (I, oI) ∈ news') (hp : p ∈ news') (hne : p.1 ≠ I) (hr : ∀ q ∈ rest, q ∈ news') (ho : ∀ q ∈ rest, q.1 ≠ I) (hj : J m' (p :: rest)) : TurnE h₀ L I oI J s₁ Q .next { s₁ with heap := h', toks := tk } :=
  TurnE.next F N hi (fun q hq => by
    rcases List.mem_cons.mp hq with rfl | hq
    · exact ⟨hp, hne⟩
    · exact ⟨hr q hq, ho q hq⟩) hj
theorem TurnE.cont {L I : Addr} {oI : Obj} {J : (Str → Option Value) → List (Addr × Obj) → Prop} {s₁ : Shared} {h' : Heap} {tk : Nat} {m' : Str → Option Value} {news' nx : List (Addr × Obj)}
    (F : Fr h₀ L h' m') (N : News h₀ L h' news') (hi : (I, oI) ∈ news') (hn : ∀ p ∈ nx, p ∈ news' ∧ p.1 ≠ I) (hj : J m' nx) : TurnE h₀ L I oI J s₁ Q .cont { s₁ with heap := h', toks := tk } :=
  ⟨h', tk, m', news', nx, rfl, F, N, hi, hn, hj⟩

theorem loop_G {I : Addr} {fp : List Addr} {n : Nat} {P : Nat → Value → Prop} {St : Nat → Heap → Prop} {m₀ : Str → Option Value} {news : List (Addr × Obj)} (J : Nat → (Str → Option Value) → List (Addr × Obj) → Prop)
    (W : Walks prog w A I fp [I] n P St) (hLf : env.locals ∉ fp) (hI0 : h₀.get? I = none) (hI1 : ∀ i h, St i h → ∃ o, h.get? I = some o) (hfp : ∀ b ∈ fp, b = I ∨ ∃ o, h₀.get? b = some o)
    (hnw : ∀ p ∈ news, p.1 ≠ I) (hst : St 0 s.heap) (F : Fr h₀ env.locals s.heap m₀) (N : News h₀ env.locals s.heap news) (hj : J 0 m₀ news)
    (turn : ∀ i v m₁ news₁ h tk oI, i < n → P i v → J i m₁ news₁ → (∀ p ∈ news₁, p.1 ≠ I) → Fr h₀ env.locals h (fun y => if y = x then some v else m₁ y) → News h₀ env.locals h ((I, oI) :: news₁) →
      wpAny (model prog w) A (execs body env) (TurnE h₀ env.locals I oI (J (i + 1)) { s with heap := h, toks := tk } Q) E { s with heap := h, toks := tk })
    (done : ∀ m₁ news₁ h tk, J n m₁ news₁ → Fr h₀ env.locals h m₁ → News h₀ env.locals h news₁ → Q .next { s with heap := h, toks := tk }) :
    LoopAtV prog w A h₀ env x body Q E (.ref I) s := by
  refine ⟨I, fp, [I], n, P, St, m₀, news, J, rfl, W, hLf, ?_, ?_, hst, F, N, hj, ?_, ?_⟩
  · intro b hb; rw [List.mem_singleton.mp hb]; exact hI0
  · intro p hp hb; exact hnw p hp (List.mem_singleton.mp hb)
  · rintro i v m₁ news₁ s₁ own ⟨hh', tk', rfl⟩ hin hP hJ hoff hown hget hall hst F₁ N₁
    obtain ⟨oI, hoI⟩ := hI1 _ _ hst
    have hIfp : I ∈ fp := W.sub I (.head _)
    have hIo : (I, oI) ∈ own := hall I hIfp hI0 oI hoI
    have hone : ∀ p ∈ own, p = (I, oI) := by
      intro p hp
      rcases hfp p.1 (hown p hp) with e | ⟨o, e⟩
      · have h1 := hget p hp
        rw [e] at h1
        have h2 : some p.2 = some oI := h1.symm.trans hoI
        exact Prod.ext e (Option.some.inj h2)
      · have := (N₁ p (List.mem_append.mpr (.inl hp))).2.2
        rw [e] at this; cases this
    have N₂ : News h₀ env.locals hh' ((I, oI) :: news₁) := fun p hp => N₁ p ((List.mem_cons.mp hp).elim (fun e => List.mem_append.mpr (.inl (e ▸ hIo))) fun h => List.mem_append.mpr (.inr h))
    refine wpAny_mono (turn i v m₁ news₁ hh' tk' oI hin hP hJ (fun p hp e => hoff p hp (List.mem_singleton.mpr e)) F₁ N₂) (fun f s₂ p => ?_) fun _ _ e => e
    have fin : (∃ h' tk m' news' nx, s₂ = { ({ s with heap := hh', toks := tk' } : Shared) with heap := h', toks := tk } ∧ Fr h₀ env.locals h' m' ∧ News h₀ env.locals h' news' ∧ (I, oI) ∈ news' ∧ (∀ p ∈ nx, p ∈ news' ∧ p.1 ≠ I) ∧ J (i + 1) m' nx) →
        LoopStepU h₀ env.locals [I] own (J (i + 1)) { s with heap := hh', toks := tk' } .next s₂ := by
      rintro ⟨h', tk, m', news', nx, e, F', N', hi, hn, hj⟩
      refine ⟨rfl, h', tk, m', nx, e, F', fun p hp => N' p ((List.mem_append.mp hp).elim (fun h => hone p h ▸ hi) fun h => (hn p h).1), fun p hp hq => (hn p hp).2 (List.mem_singleton.mp hq), hj⟩
    cases f with
    | ret v => exact .ret p
    | brk => exact .brk p
    | next => exact .next (fin p)
    | cont => exact .cont (fin p)
  · rintro h' tk m' news' F' N' _ hJ
    exact done m' news' h' tk hJ F' N'

theorem range_G {L : Addr} (hL : env.locals = L) {r : Addr} {a₀ b₀ : Int} {t₀ u₀ v₀ : Tok} {n : Nat} {m₀ : Str → Option Value} {news : List (Addr × Obj)} (J : Nat → (Str → Option Value) → List (Addr × Obj) → Prop)
    (hh : A.handled = none) (hr : IsRange s.heap r a₀ b₀ 1 t₀ u₀ v₀) (hsmall : Builtin.Range.small a₀ b₀ 1 = true) (hn : Builtin.Range.rangeSize a₀ b₀ 1 = (n : Int)) (F : Fr h₀ L s.heap m₀) (N : News h₀ L s.heap news) (hj : J 0 m₀ news)
    (turn : ∀ i t m₁ news₁ h tk I oI, i < n → J i m₁ news₁ → (∀ p ∈ news₁, p.1 ≠ I) → Fr h₀ L h (fun y => if y = x then some (.int (a₀ + (i : Int)) t) else m₁ y) → News h₀ L h ((I, oI) :: news₁) →
      wpAny (model prog w) A (execs body env) (TurnE h₀ L I oI (J (i + 1)) { s with heap := h, toks := tk } Q) E { s with heap := h, toks := tk })
    (done : ∀ m₁ news₁ h tk, J n m₁ news₁ → Fr h₀ L h m₁ → News h₀ L h news₁ → Q .next { s with heap := h, toks := tk }) :
    wpAny (model prog w) A (pyIter (.ref r)) (fun it s₂ => LoopAtV prog w A h₀ env x body Q E it s₂) E s := by
  subst hL
  refine wpAny_pyIter_range hr hsmall ?_
  have W : Walks prog w A s.heap.objs.size [s.heap.objs.size] [s.heap.objs.size] n (fun i v => i < n ∧ ∃ t, v = .int (a₀ + i * 1) t)
      (fun i h => IsRangeIter h s.heap.objs.size (a₀ + (i : Nat) * 1) ((n : Int) - (i : Nat)) 1) := (Walks.range hh _ a₀ 1 n).bound
  refine loop_G J W ?_ (next_is_new F) (fun i h st => ⟨_, st⟩) (fun b hb => .inl (List.mem_singleton.mp hb)) ?_ (by show IsRangeIter _ _ _ _ _; rw [hn]; simpa using Heap.get?_push_size _ rfl) (F.push _) (fun p hp => ⟨Heap.get?_push_of_some _ (N p hp).1, (N p hp).2⟩) hj ?_ done
  · intro hm
    exact absurd F.ns.lt ((List.mem_singleton.mp hm) ▸ Nat.lt_irrefl _)
  · intro p hp hI
    exact absurd (Heap.lt_size (N p hp).1) (hI ▸ Nat.lt_irrefl _)
  · rintro i v m₁ news₁ h tk oI hi ⟨_, t, rfl⟩ hj' hoff F' N'
    rw [Int.mul_one] at F'
    exact turn i t m₁ news₁ h tk _ oI hi hj' hoff F' N'

theorem list_G {L : Addr} (hL : env.locals = L) {l : Addr} {items : Array Value} {m₀ : Str → Option Value} {news : List (Addr × Obj)} (J : Nat → (Str → Option Value) → List (Addr × Obj) → Prop)
    (hh : A.handled = none) (hl : h₀.IsList l items) (F : Fr h₀ L s.heap m₀) (N : News h₀ L s.heap news) (hj : J 0 m₀ news)
    (turn : ∀ i v m₁ news₁ h tk I oI, i < items.size → items[i]? = some v → J i m₁ news₁ → (∀ p ∈ news₁, p.1 ≠ I) → Fr h₀ L h (fun y => if y = x then some v else m₁ y) → News h₀ L h ((I, oI) :: news₁) →
      wpAny (model prog w) A (execs body env) (TurnE h₀ L I oI (J (i + 1)) { s with heap := h, toks := tk } Q) E { s with heap := h, toks := tk })
    (done : ∀ m₁ news₁ h tk, J items.size m₁ news₁ → Fr h₀ L h m₁ → News h₀ L h news₁ → Q .next { s with heap := h, toks := tk }) :
    wpAny (model prog w) A (pyIter (.ref l)) (fun it s₂ => LoopAtV prog w A h₀ env x body Q E it s₂) E s := by
  subst hL
  have hls : s.heap.IsList l items := hl.at fun o e => F.keep l o e
  obtain ⟨ol, hol, _⟩ := id hl
  have hlt : l < h₀.objs.size := Heap.lt_size hol
  have hne : l ≠ s.heap.objs.size := Nat.ne_of_lt (Nat.lt_trans (Nat.lt_of_lt_of_le hlt F.above) F.ns.lt)
  refine wpAny_pyIter_list hls ?_
  have W := Walks.list (prog := prog) (w := w) hh s.heap.objs.size l hne items
  refine loop_G J W ?_ (next_is_new F) (fun i h st => ?_) (fun b hb => ?_) ?_ ⟨⟨_, Heap.get?_push_size _ rfl, rfl, rfl⟩, hls.at fun o e => Heap.get?_push_of_some _ e⟩ (F.push _) (fun p hp => ⟨Heap.get?_push_of_some _ (N p hp).1, (N p hp).2⟩) hj ?_ done
  · intro hm
    rcases List.mem_cons.mp hm with e | hm
    · exact absurd F.ns.lt (e ▸ Nat.lt_irrefl _)
    · exact absurd (Nat.lt_of_lt_of_le hlt F.above) ((List.mem_singleton.mp hm) ▸ Nat.lt_irrefl _)
  · obtain ⟨⟨o, h1, _⟩, _⟩ := st
    exact ⟨o, h1⟩
  · rcases List.mem_cons.mp hb with e | hb
    · exact .inl e
    · exact .inr ⟨ol, (List.mem_singleton.mp hb) ▸ hol⟩
  · intro p hp hI
    exact absurd (Heap.lt_size (N p hp).1) (hI ▸ Nat.lt_irrefl _)
  · intro i v m₁ news₁ h tk oI hi hv hj' hoff F' N'
    exact turn i v m₁ news₁ h tk _ oI hi hv hj' hoff F' N'
end
end Mine
namespace Mine
open PySem PySem.W PyProof.Rows
theorem flush9 {M : Model} {A : Around} {Q : Flow → Shared → Prop} {E : Value → Shared → Prop} {s : Shared} {env : Env} (h : wpAny M A (execs [] env) Q E s) : wpAny M A (execs [] env) Q E s := by
  k_with_none
  (try (walk1; fail))
  w_top off
  exact h
end Mine
namespace Mine
open PySem PySem.W PyProof.Rows PySem.Calls
set_option maxHeartbeats 8000000
set_option linter.unusedVariables false
section
variable {prog : Program} {w : World} {A : Around} {E : Value → Shared → Prop} {s : Shared} {t u x : Tok} {Q : Value → Shared → Prop}
noncomputable def nmItems2 (a b : Nm) (t u : Tok) : Array Value := #[a.v t, b.v u]
theorem nmItems2_at {a b : Nm} {t u : Tok} {i : Nat} {v : Value} (h : (nmItems2 a b t u)[i]? = some v) : ∃ k, v = (nmAt a b b i).v k := by
  match i, h with
  | 0, h => cases h; exact ⟨t, rfl⟩
  | 1, h => cases h; exact ⟨u, rfl⟩
  | i + 2, h => simp [nmItems2] at h
theorem max2_kp {a b : Nm} (hh : A.handled = none) (h : ∀ h' tk k, Kp s.heap h' → Q ((if b.gt a then b else a).v k) { s with heap := h', toks := tk }) :
    wpAny (model prog w) A (call (.builtin "max") [a.v t, b.v u]) Q E s := by
  have hT : (s.heap.push { cls := .type "tuple", data := .seq #[a.v t, b.v u] }).IsTuple s.heap.objs.size (nmItems2 a b t u) := ⟨_, Heap.get?_push_size _ rfl, rfl, 0, rfl⟩
  refine call_max_two (wpAny_pyIter_tuple hT ?_)
  have hsz : (s.heap.push { cls := .type "tuple", data := .seq #[a.v t, b.v u] }).objs.size = s.heap.objs.size + 1 := Heap.size_push ..
  refine ⟨_, [_, s.heap.objs.size], [_], _, _, _, _, rfl, Walks.tuple (A := A.in1) hh _ s.heap.objs.size (by rw [hsz]; exact Nat.ne_of_lt (Nat.lt_succ_self _)) (nmItems2 a b t u),
    ⟨⟨_, Heap.get?_push_size _ rfl, rfl, rfl⟩, hT.push _⟩, fun d hd => ?_, by simp [nmItems2], (fun i j vi vj s Q E hi hj h => by
      obtain ⟨k, rfl⟩ := nmItems2_at hi
      obtain ⟨k', rfl⟩ := nmItems2_at hj
      exact nn_gt h : CmpOf prog w A.in1 .Gt (fun i v => (nmItems2 a b t u)[i]? = some v) (fun i j => (nmAt a b b i).gt (nmAt a b b j))), fun v h' tk hP hk => ?_⟩
  · show d < ((s.heap.push _).push _).objs.size
    rw [Heap.size_push, hsz]
    rcases List.mem_cons.mp hd with rfl | hd
    · rw [hsz]; exact Nat.lt_succ_self _
    · rcases List.mem_cons.mp hd with rfl | hd
      · exact Nat.lt_succ_of_lt (Nat.lt_succ_self _)
      · cases hd
  · have hold : Kp s.heap h' := fun d o e => by
      refine hk d o (fun hm => ?_) (Heap.get?_push_of_some _ (Heap.get?_push_of_some _ e))
      rcases List.mem_cons.mp hm with e1 | hm
      · have := Heap.lt_size e; rw [e1, hsz] at this; exact Nat.lt_irrefl _ (Nat.lt_of_succ_lt this)
      · cases hm
    have hsz2 : (nmItems2 a b t u).size - 1 = 1 := by simp [nmItems2]
    rw [hsz2] at hP
    obtain ⟨k, hk⟩ := nmItems2_at hP
    have e : nmAt a b b (argBest (fun i j => (nmAt a b b i).gt (nmAt a b b j)) 1) = if b.gt a then b else a := by
      cases h1 : b.gt a <;> simp [argBest, nmAt, h1]
    rw [e] at hk
    subst hk
    exact h h' tk k hold
variable {h₀ : Heap} {L : Addr} {m : Str → Option Value} {news : List (Addr × Obj)}
theorem max2i_K {a b : Int} (F : Fr h₀ L s.heap m) (N : News h₀ L s.heap news) (hh : A.handled = none)
    (h : ∀ h' tk k, Fr h₀ L h' m → News h₀ L h' news → Q (.int (max a b) k) { s with heap := h', toks := tk }) :
    wpAny (model prog w) A (call (.builtin "max") [.int a t, .int b u]) Q E s :=
  max2_kp (a := .i a) (b := .i b) hh fun h' tk k kp => by
    have e : (if (Nm.i b).gt (.i a) then Nm.i b else .i a) = .i (max a b) := by
      by_cases c : a < b
      · simp only [Nm.gt, decide_eq_true c, if_true]; congr 1; omega
      · simp only [Nm.gt, decide_eq_false c, Bool.false_eq_true, if_false]; congr 1; omega
    rw [e]
    exact h h' tk k (Fr.kept F kp) (News.kept N kp)
theorem max3i_K {a b c : Int} (F : Fr h₀ L s.heap m) (N : News h₀ L s.heap news) (hh : A.handled = none)
    (h : ∀ h' tk k, Fr h₀ L h' m → News h₀ L h' news → Q (.int (max a (max b c)) k) { s with heap := h', toks := tk }) :
    wpAny (model prog w) A (call (.builtin "max") [.int a t, .int b u, .int c x]) Q E s :=
  max3_kp (a := .i a) (b := .i b) (c := .i c) hh fun h' tk k kp => by
    have e : mx3 (.i a) (.i b) (.i c) = .i (max a (max b c)) := by
      unfold mx3
      by_cases c1 : a < b <;> by_cases c2 : b < c <;> by_cases c3 : a < c <;> simp only [Nm.gt, c1, c2, c3, decide_true, decide_false, Bool.false_eq_true, if_true, if_false] <;> (congr 1; omega)
    rw [e]
    exact h h' tk k (Fr.kept F kp) (News.kept N kp)
end
theorem szA {vs : List Value} (h : vs.length < 1000) : vs.toArray.size ≤ sizeLine := by
  rw [sizeLine_eq, List.size_toArray]; omega
/-- the loop's own names are free, all others stand -/
noncomputable def Agree (xs : List Str) (m₁ m₀ : Str → Option Value) : Prop := ∀ y, y ∉ xs → m₁ y = m₀ y
theorem Agree.refl {xs : List Str} {m : Str → Option Value} : Agree xs m m := fun _ _ => rfl
theorem Agree.set {xs : List Str} {m₁ m₀ : Str → Option Value} {a : Str} {v : Option Value} (ha : a ∈ xs) (h : Agree xs m₁ m₀) : Agree xs (fun y => if y = a then v else m₁ y) m₀ := fun y hy => by
  have : y ≠ a := fun e => hy (e ▸ ha)
  simp only [if_neg this]; exact h y hy
theorem agree0 {a b c : Str} {m₁ m₀ : Str → Option Value} (h : Agree [a, b, c] m₁ m₀) : m₁ = fun y => if y = a then m₁ a else if y = b then m₁ b else if y = c then m₁ c else m₀ y := by
  funext y
  by_cases h1 : y = a
  · simp only [if_pos h1]; rw [h1]
  · simp only [if_neg h1]
    by_cases h2 : y = b
    · simp only [if_pos h2]; rw [h2]
    · simp only [if_neg h2]
      by_cases h3 : y = c
      · simp only [if_pos h3]; rw [h3]
      · simp only [if_neg h3]; exact h y (by simp [h1, h2, h3])
theorem agree1 {a : Str} {m₁ m₀ : Str → Option Value} {v : Option Value} (h : Agree [a] m₁ m₀) : (fun y => if y = a then v else m₁ y) = fun y => if y = a then v else m₀ y := by
  funext y
  by_cases h1 : y = a
  · simp only [if_pos h1]
  · simp only [if_neg h1]; exact h y (by simp [h1])
theorem agree2 {a b : Str} {m₁ m₀ : Str → Option Value} {v : Option Value} (h : Agree [a, b] m₁ m₀) : (fun y => if y = a then v else m₁ y) = fun y => if y = a then v else if y = b then m₁ b else m₀ y := by
  funext y
  by_cases h1 : y = a
  · simp only [if_pos h1]
  · simp only [if_neg h1]
    by_cases h2 : y = b
    · simp only [if_pos h2]; rw [h2]
    · simp only [if_neg h2]; exact h y (by simp [h1, h2])
theorem agree3 {a b c : Str} {m₁ m₀ : Str → Option Value} {v : Option Value} (h : Agree [a, b, c] m₁ m₀) : (fun y => if y = a then v else m₁ y) = fun y => if y = a then v else if y = b then m₁ b else if y = c then m₁ c else m₀ y := by
  funext y
  by_cases h1 : y = a
  · simp only [if_pos h1]
  · simp only [if_neg h1]
    by_cases h2 : y = b
    · simp only [if_pos h2]; rw [h2]
    · simp only [if_neg h2]
      by_cases h3 : y = c
      · simp only [if_pos h3]; rw [h3]
      · simp only [if_neg h3]; exact h y (by simp [h1, h2, h3])
end Mine
namespace Mine
open PySem PySem.W PyProof.Rows
theorem flush10 {M : Model} {A : Around} {Q : Flow → Shared → Prop} {E : Value → Shared → Prop} {s : Shared} {env : Env} (h : wpAny M A (execs [] env) Q E s) : wpAny M A (execs [] env) Q E s := by
  k_with_none
  (try (walk1; fail))
  w_top off
  exact h
end Mine
namespace Mine
open PySem PySem.W PyProof.Rows PySem.Calls
set_option maxHeartbeats 8000000
set_option linter.unusedVariables false
theorem kset11 : True := by
  k_with_none
  k_with "exec For Name Call cons nil" =>
    refine halt ?_
  k_with "pyIter ref" =>
    refine halt ?_
  k_with "call builtin:max" =>
    first
      | (refine max3i_K (by assumption) (by assumption) rfl ?_; intro h'₉ tk'₉ k'₉ F'₉ N'₉; (try k_sweep))
      | (refine max2i_K (by assumption) (by assumption) rfl ?_; intro h'₉ tk'₉ k'₉ F'₉ N'₉; (try k_sweep))
  k_with "call builtin:list.append" =>
    (refine' append_K (by k_asm) (by k_asm) (by k_upd) ?_ (by with_unfolding_all exact szA (by assumption)); intro h'₉ F'₉ N'₉; (try k_sweep))
  trivial
noncomputable def szTest (tabs blanks run behind equals size : Nat) : Bool :=
  if equals = 1 then tabs * size + blanks != run + (size - run % size) + behind else decide (run + (size - run % size) + behind ≤ tabs * size + blanks)
noncomputable def szs (tabs blanks run behind equals n : Nat) : List Nat := (List.range n).filterMap fun i => if szTest tabs blanks run behind equals (i + 1) then some (i + 1) else none
noncomputable def sizesL (tabs blanks run behind equals : Nat) : List Nat := szs tabs blanks run behind equals (max blanks (max run behind) + 1)
noncomputable def sizesJ (m₀ : Str → Option Value) (l : Addr) (tabs blanks run behind equals : Nat) (i : Nat) (m : Str → Option Value) (news : List (Addr × Obj)) : Prop :=
  Agree [Str.ofString "size", Str.ofString "first", Str.ofString "other"] m m₀ ∧ ∃ vs n, news = [(l, listOf vs.toArray n)] ∧ IntsAre vs ((szs tabs blanks run behind equals i).map Int.ofNat)
theorem szs_succ (tabs blanks run behind equals i : Nat) : szs tabs blanks run behind equals (i + 1) = szs tabs blanks run behind equals i ++ (if szTest tabs blanks run behind equals (i + 1) then [i + 1] else []) := by
  unfold szs
  rw [List.range_succ, List.filterMap_append]
  congr 1
  cases h : szTest tabs blanks run behind equals (i + 1) <;> simp [h]
theorem sizesJ_add {m' m₀ : Str → Option Value} {l : Addr} {tabs blanks run behind equals i n : Nat} {vs : List Value} {t : Tok} (ha : Agree [Str.ofString "size", Str.ofString "first", Str.ofString "other"] m' m₀)
    (hI : IntsAre vs ((szs tabs blanks run behind equals i).map Int.ofNat)) (ht : szTest tabs blanks run behind equals (i + 1) = true) :
    sizesJ m₀ l tabs blanks run behind equals (i + 1) m' [(l, listOf (vs.toArray.push (.int (1 + (i : Int)) t)) (n + 1))] := by
  refine ⟨ha, vs ++ [.int (1 + (i : Int)) t], n + 1, by rw [List.push_toArray], ?_⟩
  rw [szs_succ, ht, if_pos rfl, List.map_append]
  have e : Int.ofNat (i + 1) = 1 + (i : Int) := by show ((i + 1 : Nat) : Int) = _; omega
  rw [List.map_cons, e]
  exact IntsAre.append hI (.cons _ _ .nil)
theorem sizesJ_not {m' m₀ : Str → Option Value} {l : Addr} {tabs blanks run behind equals i n : Nat} {vs : List Value} (ha : Agree [Str.ofString "size", Str.ofString "first", Str.ofString "other"] m' m₀)
    (hI : IntsAre vs ((szs tabs blanks run behind equals i).map Int.ofNat)) (ht : szTest tabs blanks run behind equals (i + 1) = false) :
    sizesJ m₀ l tabs blanks run behind equals (i + 1) m' [(l, listOf vs.toArray n)] := by
  refine ⟨ha, vs, n, rfl, ?_⟩
  rw [szs_succ, ht]
  simpa using hI
theorem fm (a i : Nat) : (a : Int).fmod (1 + (i : Int)) = ((a % (i + 1) : Nat) : Int) := by
  have e : (1 + (i : Int)) = ((i + 1 : Nat) : Int) := by omega
  rw [e, Int.fmod_eq_emod_of_nonneg _ (by omega)]
  exact (Int.natCast_emod a (i + 1)).symm
theorem mu (a i : Nat) : (a : Int) * (1 + (i : Int)) = ((a * (i + 1) : Nat) : Int) := by
  have e : (1 + (i : Int)) = ((i + 1 : Nat) : Int) := by omega
  rw [e]; exact (Int.natCast_mul a (i + 1)).symm
section
variable {tabs blanks run behind equals i : Nat}
theorem szT_1 (h1 : (equals : Int) = 1) (h2 : (tabs : Int) * (1 + (i : Int)) + (blanks : Int) ≠ (run : Int) + (1 + (i : Int)) - (run : Int).fmod (1 + (i : Int)) + (behind : Int)) : szTest tabs blanks run behind equals (i + 1) = true := by
  rw [fm, mu] at h2
  have h3 : run % (i + 1) < i + 1 := Nat.mod_lt _ (by omega)
  unfold szTest
  rw [if_pos (by omega)]
  simp only [bne_iff_ne, ne_eq]
  generalize tabs * (i + 1) = x at *
  generalize run % (i + 1) = y at *
  omega
theorem szT_3 (h1 : (equals : Int) = 1) (h2 : (tabs : Int) * (1 + (i : Int)) + (blanks : Int) = (run : Int) + (1 + (i : Int)) - (run : Int).fmod (1 + (i : Int)) + (behind : Int)) : szTest tabs blanks run behind equals (i + 1) = false := by
  rw [fm, mu] at h2
  have h3 : run % (i + 1) < i + 1 := Nat.mod_lt _ (by omega)
  unfold szTest
  rw [if_pos (by omega)]
  simp only [bne_eq_false_iff_eq]
  generalize tabs * (i + 1) = x at *
  generalize run % (i + 1) = y at *
  omega
theorem szT_4 (h1 : (equals : Int) ≠ 1) (h2 : (run : Int) + (1 + (i : Int)) - (run : Int).fmod (1 + (i : Int)) + (behind : Int) ≤ (tabs : Int) * (1 + (i : Int)) + (blanks : Int)) : szTest tabs blanks run behind equals (i + 1) = true := by
  rw [fm, mu] at h2
  have h3 : run % (i + 1) < i + 1 := Nat.mod_lt _ (by omega)
  unfold szTest
  rw [if_neg (by omega)]
  apply decide_eq_true
  generalize tabs * (i + 1) = x at *
  generalize run % (i + 1) = y at *
  omega
theorem szT_5 (h1 : (equals : Int) ≠ 1) (h2 : ¬ (run : Int) + (1 + (i : Int)) - (run : Int).fmod (1 + (i : Int)) + (behind : Int) ≤ (tabs : Int) * (1 + (i : Int)) + (blanks : Int)) : szTest tabs blanks run behind equals (i + 1) = false := by
  rw [fm, mu] at h2
  have h3 : run % (i + 1) < i + 1 := Nat.mod_lt _ (by omega)
  unfold szTest
  rw [if_neg (by omega)]
  apply decide_eq_false
  generalize tabs * (i + 1) = x at *
  generalize run % (i + 1) = y at *
  omega
end
theorem range_small {b : Int} (h : b < 1000) (h0 : 0 ≤ b) : Builtin.Range.small 1 b 1 = true := small_one (by decide) (by decide) (by omega) (by omega)
theorem range_size {b : Int} (n : Nat) (e : b = n + 1) : Builtin.Range.rangeSize 1 b 1 = (n : Int) := by
  rw [rangeSize_one]
  by_cases h : (1 : Int) < b
  · rw [if_pos h]; omega
  · rw [if_neg h]; omega
theorem sizes_ctr : ∀ (w : World) (A : Around) (s : Shared) (R : Result → Shared → Prop) (mg mb : Str → Option Value) (loose : List Str) (tabs blanks run behind equals : Nat) (t1 t2 t3 t4 t5 : Tok)
    (X : (hd.heap_1 w.params).In s.heap) (T : TopRead viewQ loose mg mb s.heap) (hh : A.handled = none) (hr : A.depth < recursionLimit)
    (b1 : tabs < 2) (b2 : blanks < 24) (b3 : run < 8) (b4 : behind < 4) (b5 : equals < 2)
    (hR : ∀ h tk l vs n, Kp s.heap h → s.heap.get? l = none → h.get? l = some (listOf vs.toArray n) → IntsAre vs ((sizesL tabs blanks run behind equals).map Int.ofNat) → R (.ok (.ret (.ref l))) { s with heap := h, toks := tk }),
    codeAny (model PySem.Challenge.rw_pg0244_01.row.prog w) A (.call (.ref 190) ⟨[.int tabs t1, .int blanks t2, .int run t3, .int behind t4, .int equals t5], []⟩) R s := by
  k_fill
  intro w A s R mg mb loose tabs blanks run behind equals t1 t2 t3 t4 t5 X T hh hr b1 b2 b3 b4 b5 hR
  obtain ⟨ah, ad, af, ag, au⟩ := A
  dsimp only at hh hr
  subst hh
  refine' enterKq (binds := [(Str.ofString "tabs", .int tabs t1), (Str.ofString "blanks", .int blanks t2), (Str.ofString "run", .int run t3), (Str.ofString "behind", .int behind t4), (Str.ofString "equals", .int equals t5)]) X T.nolimit ?ho ?hcd hr (BindsTo.of_eq ?hb) ?hl ?hc ?h1 ?h2 ?h3 ?_
  case ho => k_dflt k_is
  case hcd => k_dflt k_is
  case hb => exact rfl
  case hl => exact locs rfl
  case hc => decide
  case h1 => exact rfl
  case h2 => exact rfl
  case h3 => exact rfl
  intro L₀ h₁ tk₀ m₀ F N envv Av Qv Ev
  (try dsimp only)
  k_steps
  unfold Halt
  rename (Fr _ _ _ _) => F1
  refine For_invVF F1 rfl rfl ?_
  k_steps
  unfold Halt
  rename IsRange _ _ _ _ _ _ _ _ => hr1
  rename (News _ _ _ _) => N2
  rename (Fr _ _ _ _) => F2
  refine range_G rfl (n := max blanks (max run behind) + 1) (sizesJ _ _ tabs blanks run behind equals) rfl hr1 (range_small (by omega) (by omega)) (range_size _ (by omega)) F2 N2 ⟨Agree.refl, [], 0, rfl, .nil⟩ ?_ ?_
  · rintro i t m₁ _ h tk I oI hi ⟨ha, vs, n, rfl, hI⟩ hoff F N
    rw [agree3 ha] at F
    clear F2 N2
    have hne := hoff _ (.head _)
    have hne2 := Ne.symm hne
    dsimp only at hne hne2
    have hlen : vs.length < 1000 := by
      rw [hI.length, List.length_map]
      exact Nat.lt_of_le_of_lt (List.length_filterMap_le _ _) (by rw [List.length_range]; omega)
    k_steps
    all_goals first
      | (exfalso; omega)
      | (refine' TurnE.next1 ?F ?N (.head _) ?n ?e ?j
         case F => assumption
         case N => assumption
         case n => exact .tail _ (.head _)
         case e => exact hne
         case j =>
           first
           | refine sizesJ_add ?_ hI (szT_1 (by assumption) (by assumption))
           | refine sizesJ_add ?_ hI (szT_4 (by assumption) (by assumption))
           | refine sizesJ_not ?_ hI (szT_3 (by assumption) (by assumption))
           | refine sizesJ_not ?_ hI (szT_5 (by assumption) (by assumption))
           repeat (first | exact Agree.refl | refine Agree.set (by simp) ?_))
  · rintro m₁ _ h tk ⟨ha, vs, n, rfl, hI⟩ F N
    rw [agree0 ha] at F
    k_steps
    trace_state
    rename (News _ _ _ _) => N'
    exact hR _ _ _ _ _ (Fr.keep (by assumption)) (News.fresh N' (.head _)) (News.get N' (.head _)) hI
end Mine
namespace Mine
open PySem PySem.W PyProof.Rows
theorem flush11 {M : Model} {A : Around} {Q : Flow → Shared → Prop} {E : Value → Shared → Prop} {s : Shared} {env : Env} (h : wpAny M A (execs [] env) Q E s) : wpAny M A (execs [] env) Q E s := by
  k_with_none
  (try (walk1; fail))
  w_top off
  exact h
end Mine
namespace Mine
open PySem PySem.W PyProof.Rows PySem.Calls
set_option maxHeartbeats 8000000
set_option linter.unusedVariables false

theorem enterKB {B : Heap} {hid : List (Addr × Obj)} {K : Frag} {prog : Program} {w : World} {A : Around} {R : Result → Shared → Prop} {s : Shared} {name qual : Str} {params : Arguments} {body : List Stmt} {scope : Scope} {dV kV doc pm cdv ct oc : Value} {an od : Option Addr} {osl : Array (Option Value)} {f : Addr} {args : Args} {binds : List (Str × Value)}
    (X : K.In B) (hk : ∀ b o, B.get? b = some o → s.heap.get? b = some o) (hsz : B.objs.size ≤ s.heap.objs.size) (hh : ∀ p ∈ hid, s.heap.get? p.1 = some p.2 ∧ B.get? p.1 = none) (nl : B.NoLimit)
    (ho : K.lookup f = some ⟨oc, od, .func (fnOf name qual params body scope dV kV doc pm an cdv ct), osl⟩) (hcd : codeIn K cdv qual = true) (hroom : A.depth < recursionLimit)
    (hbind : BindsTo s (fnOf name qual params body scope dV kV doc pm an cdv ct) args binds) (hloc : ∀ y ∈ binds, scope.names.lookup y.1 = some .local)
    (hcell : ∀ x ∈ scope.names, x.2 ≠ .cell)
    (hco : scope.isCoroutine = false) (hgen : scope.isGenerator = false) (hkd : scope.kind = .function)
    (h : ∀ h₁, Fr B s.heap.objs.size h₁ (fun y => binds.reverse.lookup y) → News B s.heap.objs.size h₁ hid → (∀ b o, s.heap.get? b = some o → h₁.get? b = some o) →
      wpAny (model prog w) (A.deeper (envOf qual scope s.heap.objs.size f cdv)) (execs body (envOf qual scope s.heap.objs.size f cdv))
        (fun fl s' => R (.ok (.ret (match fl with | .ret v => v | _ => .none))) s') (fun _ _ => False) { s with heap := h₁, toks := s.toks + binds.length }) :
    codeAny (model prog w) A (.call (.ref f) args) R s := by
  have X' := X.keeps hk
  refine codeAny_call_def (fd := fnOf name qual params body scope dV kV doc pm an cdv ct) (body := body) (binds := binds) hroom (X' _ _ ho) rfl (nl.keeps hk) (codeRec_of X' hcd) rfl hbind hcell hloc (fun h₁ hns hk₁ => ?_) hco hgen hkd
  exact wpAny_mono (h h₁ ⟨hns, fun b o e => hk₁ b o (hk b o e), hsz⟩ (fun p hp => ⟨hk₁ _ _ (hh p hp).1, Nat.ne_of_lt (Heap.lt_size (hh p hp).1), (hh p hp).2⟩) hk₁) (fun _ _ x => x) (fun _ _ x => x.elim)

theorem enterKBq {B : Heap} {hid : List (Addr × Obj)} {K : Frag} {prog : Program} {w : World} {A : Around} {R : Result → Shared → Prop} {s : Shared} {name qual : Str} {params : Arguments} {body : List Stmt} {scope : Scope} {dV kV doc pm cdv ct oc : Value} {an od : Option Addr} {osl : Array (Option Value)} {f : Addr} {args : Args} {binds : List (Str × Value)}
    (X : K.In B) (hk : ∀ b o, B.get? b = some o → s.heap.get? b = some o) (hsz : B.objs.size ≤ s.heap.objs.size) (hh : ∀ p ∈ hid, s.heap.get? p.1 = some p.2 ∧ B.get? p.1 = none) (nl : B.NoLimit)
    (ho : K.lookup f = some ⟨oc, od, .func (fnOf name qual params body scope dV kV doc pm an cdv ct), osl⟩) (hcd : codeIn K cdv qual = true) (hroom : A.depth < recursionLimit)
    (hbind : BindsTo s (fnOf name qual params body scope dV kV doc pm an cdv ct) args binds) (hloc : ∀ y ∈ binds, scope.names.lookup y.1 = some .local)
    (hcell : ∀ x ∈ scope.names, x.2 ≠ .cell)
    (hco : scope.isCoroutine = false) (hgen : scope.isGenerator = false) (hkd : scope.kind = .function)
    (h : ∀ L h₁ tk, let m₀ := (fun y => binds.reverse.lookup y); Fr B L h₁ m₀ → News B L h₁ hid → (∀ b o, s.heap.get? b = some o → h₁.get? b = some o) →
      let envv := envOf qual scope L f cdv
      let Av := A.deeper envv
        let Qv := (fun (fl : Flow) (s' : Shared) => R (.ok (.ret (match fl with | .ret v => v | _ => .none))) s')
      let Ev := (fun (_ : Value) (_ : Shared) => False)
      wpAny (model prog w) Av (execs body envv) Qv Ev ⟨h₁, s.gens, s.drawn, tk, s.os⟩) :
    codeAny (model prog w) A (.call (.ref f) args) R s :=
  enterKB X hk hsz hh nl ho hcd hroom hbind hloc hcell hco hgen hkd fun h₁ F N kp => h _ h₁ _ F N kp

/-- the names of a list, from one map; all others from another -/
noncomputable def chainOf (xs : List Str) (m m₀ : Str → Option Value) : Str → Option Value := match xs with
  | [] => m₀
  | x :: r => fun y => if y = x then m x else chainOf r m m₀ y
theorem chainOf_at (m m₀ : Str → Option Value) : ∀ (xs : List Str) (y : Str), (y ∈ xs → chainOf xs m m₀ y = m y) ∧ (y ∉ xs → chainOf xs m m₀ y = m₀ y)
  | [], y => ⟨fun h => (nomatch h), fun _ => rfl⟩
  | x :: r, y => by
    have ih := chainOf_at m m₀ r y
    constructor
    · intro hm
      show (if y = x then m x else chainOf r m m₀ y) = m y
      by_cases e : y = x
      · rw [if_pos e, e]
      · rw [if_neg e]; exact ih.1 ((List.mem_cons.mp hm).resolve_left e)
    · intro hm
      show (if y = x then m x else chainOf r m m₀ y) = m₀ y
      have e : y ≠ x := fun e => hm (e ▸ .head _)
      rw [if_neg e]; exact ih.2 fun h => hm (.tail _ h)
theorem agree_chain {xs : List Str} {m m₀ : Str → Option Value} (h : Agree xs m m₀) : m = chainOf xs m m₀ := by
  funext y
  by_cases hm : y ∈ xs
  · exact ((chainOf_at m m₀ xs y).1 hm).symm
  · rw [(chainOf_at m m₀ xs y).2 hm]; exact h y hm

section
variable {prog : Program} {w : World} {A : Around} {E : Value → Shared → Prop} {s : Shared} {env : Env} {h₀ : Heap} {x : Str} {body : List Stmt} {Q : Flow → Shared → Prop}
theorem str_G {L : Addr} (hL : env.locals = L) {z : Str} {t₀ : Tok} {m₀ : Str → Option Value} {news : List (Addr × Obj)} (J : Nat → (Str → Option Value) → List (Addr × Obj) → Prop)
    (hh : A.handled = none) (F : Fr h₀ L s.heap m₀) (N : News h₀ L s.heap news) (hj : J 0 m₀ news)
    (turn : ∀ i c t m₁ news₁ h tk I oI, i < z.cps.size → z.cps[i]? = some c → J i m₁ news₁ → (∀ p ∈ news₁, p.1 ≠ I) → Fr h₀ L h (fun y => if y = x then some (.str ⟨#[c]⟩ t) else m₁ y) → News h₀ L h ((I, oI) :: news₁) →
      wpAny (model prog w) A (execs body env) (TurnE h₀ L I oI (J (i + 1)) { s with heap := h, toks := tk } Q) E { s with heap := h, toks := tk })
    (done : ∀ m₁ news₁ h tk, J z.cps.size m₁ news₁ → Fr h₀ L h m₁ → News h₀ L h news₁ → Q .next { s with heap := h, toks := tk }) :
    wpAny (model prog w) A (pyIter (.str z t₀)) (fun it s₂ => LoopAtV prog w A h₀ env x body Q E it s₂) E s := by
  subst hL
  have core : ∀ (o : Obj) (St : Nat → Heap → Prop), Walks prog w A s.heap.objs.size [s.heap.objs.size] [s.heap.objs.size] z.cps.size (SignAt z) St → (∀ i h, St i h → ∃ o, h.get? s.heap.objs.size = some o) → St 0 (s.heap.push o) →
      LoopAtV prog w A h₀ env x body Q E (.ref s.heap.objs.size) { s with heap := s.heap.push o } := by
    intro o St W hSt h0
    refine loop_G J W ?_ (next_is_new F) hSt (fun b hb => .inl (List.mem_singleton.mp hb)) ?_ h0 (F.push _) (fun p hp => ⟨Heap.get?_push_of_some _ (N p hp).1, (N p hp).2⟩) hj ?_ done
    · intro hm
      exact absurd F.ns.lt ((List.mem_singleton.mp hm) ▸ Nat.lt_irrefl _)
    · intro p hp hI
      exact absurd (Heap.lt_size (N p hp).1) (hI ▸ Nat.lt_irrefl _)
    · rintro i v m₁ news₁ h tk oI hi ⟨c, t, hc, rfl⟩ hj' hoff F' N'
      exact turn i c t m₁ news₁ h tk _ oI hi hc hj' hoff F' N'
  cases ha : z.cps.all (· < 128)
  · exact wpAny_pyIter_wide ha (core _ _ (Walks.strWide hh _ z t₀) (fun i h st => let ⟨o, ho, _⟩ := st; ⟨o, ho⟩) ⟨_, Heap.get?_push_size _ rfl, rfl, rfl⟩)
  · exact wpAny_pyIter_ascii ha (core _ _ (Walks.strAscii hh _ z t₀) (fun i h st => let ⟨o, ho, _⟩ := st; ⟨o, ho⟩) ⟨_, Heap.get?_push_size _ rfl, rfl, rfl⟩)
end
end Mine
namespace Mine
open PySem PySem.W PyProof.Rows
theorem flush12 {M : Model} {A : Around} {Q : Flow → Shared → Prop} {E : Value → Shared → Prop} {s : Shared} {env : Env} (h : wpAny M A (execs [] env) Q E s) : wpAny M A (execs [] env) Q E s := by
  k_with_none
  (try (walk1; fail))
  w_top off
  exact h
end Mine
namespace Mine
open PySem PySem.W PyProof.Rows PySem.Calls
set_option maxHeartbeats 8000000
set_option linter.unusedVariables false
theorem kset12 : True := by
  k_with_none
  k_with "execs cons" =>
    first | dsimp only | (refine gen_toks ?_; intro tk₉)
  k_with "execs nil" =>
    first | dsimp only | (refine gen_toks ?_; intro tk₉)
  k_with "storeName" =>
    dsimp only
  trivial
theorem makeB {prog : Program} {w : World} {A : Around} {K : Frag} {C fI : Addr} {R : Result → Shared → Prop} {s : Shared} {rest : List Value} (X : K.In s.heap) (hm : makesIn K C = true)
    (hi : findIn K (.ref C) "__init__" = some (some (.ref fI))) (hf : isFn K (.ref fI) = true)
    (h : ∀ x dx h', Kp s.heap h' → s.heap.get? x = none → s.heap.get? dx = none → s.heap.objs.size ≤ dx → dx < x → h'.get? x = some (instObj C dx) → h'.get? dx = some (dictOf [] 0) → s.heap.objs.size ≤ h'.objs.size →
      codeAny (model prog w) (A.under (.builtin "type.__call__" ⟨.ref C :: rest, []⟩)) (.call (.ref fI) ⟨.ref x :: rest, []⟩) (InitBack x R) { s with heap := h' }) :
    codeAny (model prog w) A (.call (.ref C) ⟨rest, []⟩) R s := by
  obtain ⟨hh, g, d, t, os⟩ := s
  have fresh : ∀ {a : Addr}, hh.objs.size ≤ a → hh.get? a = none := fun {a} ha => by
    cases q : hh.get? a with
    | none => rfl
    | some o => exact absurd (Heap.lt_size q) (Nat.not_lt.mpr ha)
  have s1 : (hh.push emptyDict).objs.size = hh.objs.size + 1 := Heap.size_push ..
  refine make_core (makes_of X hm) (looks_findIn X hi) (fun self => bind_fn X self (beq_iff_eq.mp hf)) (.inl rfl) (h _ hh.objs.size _ (fun b o e => Heap.get?_push_of_some _ (Heap.get?_push_of_some _ e)) (fresh (Nat.le_succ _)) (fresh (Nat.le_refl _)) (Nat.le_refl _) (Nat.lt_succ_self _) ?_ ?_ ?_)
  · have := Heap.get?_push_size (hh.push emptyDict) (o := instObj C hh.objs.size) rfl
    rwa [s1] at this
  · exact Heap.get?_push_of_some _ (Heap.get?_push_size _ rfl)
  · rw [Heap.size_push, s1]; exact Nat.le_succ_of_le (Nat.le_succ _)
noncomputable def wsTxt (tb : Bool) (a c : Nat) : Str := ⟨((if tb then List.replicate a 32 ++ [9] else []) ++ List.replicate c 32).toArray⟩
theorem kset13 : True := by
  k_with "exec For Name Attribute cons nil" =>
    refine halt ?_
  k_with "pyIter str" =>
    refine halt ?_
  trivial
noncomputable def wsN (tb : Bool) (a i : Nat) : Nat × Nat × List Int := if tb && decide (a < i) then (i - a - 1, 1, List.replicate a 0 ++ [1]) else (i, 0, [])
noncomputable def wsJ (tb : Bool) (a : Nat) (m₀ : Str → Option Value) (rest : List (Addr × Obj)) (i : Nat) (m : Str → Option Value) (news : List (Addr × Obj)) : Prop :=
  Agree [Str.ofString "ch", Str.ofString "n", Str.ofString "b", Str.ofString "nt", Str.ofString "count"] m m₀ ∧ ∃ cl vs k t1 t2 t3, m (Str.ofString "count") = some (.ref cl) ∧ m (Str.ofString "n") = some (.int (i : Int) t1) ∧
    m (Str.ofString "b") = some (.int ((wsN tb a i).1 : Int) t2) ∧ m (Str.ofString "nt") = some (.int ((wsN tb a i).2.1 : Int) t3) ∧ news = (cl, listOf vs.toArray k) :: rest ∧ IntsAre vs (wsN tb a i).2.2 ∧ AllLt cl rest
theorem wsJ_intro {tb : Bool} {a i b n k : Nat} {m₀ m : Str → Option Value} {rest : List (Addr × Obj)} {cl : Addr} {vs : List Value} {t1 t2 t3 : Tok} {ii bb nn : Int} {cs : List Int}
    (hA : Agree [Str.ofString "ch", Str.ofString "n", Str.ofString "b", Str.ofString "nt", Str.ofString "count"] m m₀) (g1 : m (Str.ofString "count") = some (.ref cl)) (g2 : m (Str.ofString "n") = some (.int ii t1))
    (g3 : m (Str.ofString "b") = some (.int bb t2)) (g4 : m (Str.ofString "nt") = some (.int nn t3)) (hI : IntsAre vs cs) (hlt : AllLt cl rest) (e : wsN tb a i = (b, n, cs)) (ei : ii = (i : Int)) (eb : bb = (b : Int)) (en : nn = (n : Int)) :
    wsJ tb a m₀ rest i m ((cl, listOf vs.toArray k) :: rest) := by
  subst ei eb en
  refine ⟨hA, cl, vs, k, t1, t2, t3, g1, g2, ?_, ?_, rfl, ?_, hlt⟩ <;> rw [e] <;> assumption
noncomputable abbrev attrE (w : World) (name : String) (k : Tok) (v : Value) : DictEntry := { hash := PyData.keyHash w.params (Str.ofString name), key := .str (Str.ofString name) k, val := v }
noncomputable abbrev wsDict (w : World) (k1 k2 k3 k4 k5 : Tok) (raw n nt nm si : Value) : Obj := dictOf [attrE w "raw" k1 raw, attrE w "n" k2 n, attrE w "nt" k3 nt, attrE w "norm" k4 nm, attrE w "is_simple" k5 si] 5
noncomputable def cnt (tb : Bool) (a : Nat) : List Int := if tb then List.replicate a 0 ++ [1] else []
theorem wsN_end (tb : Bool) (a c : Nat) : wsN tb a ((if tb then a + 1 else 0) + c) = (c, if tb then 1 else 0, cnt tb a) := by
  unfold wsN cnt
  cases tb with
  | false => simp
  | true =>
    rw [if_pos (by simp; omega)]
    simp only [if_true]
    congr 1; omega
/-- an object of Whitespace as it lies: its own address, the table's, the tuple's, the counts' -/
noncomputable def wsObjs (w : World) (x dx nm ct : Addr) (k1 k2 k3 k4 k5 tn tc : Tok) (raw n si : Value) (nt : Int) (c : Int) (vs : List Value) : List (Addr × Obj) :=
  [(x, instObj 139 dx), (dx, wsDict w k1 k2 k3 k4 k5 raw n (.int nt tn) (.ref nm) si), (nm, tupO [.ref ct, .int c tc]), (ct, tupO vs)]
theorem wsObjs_of {w : World} {h : Heap} {x dx nm ct : Addr} {k1 k2 k3 k4 k5 tn tc : Tok} {raw n si : Value} {nt c : Int} {vs : List Value} (h1 : h.get? x = some (instObj 139 dx)) (h2 : h.get? dx = some (wsDict w k1 k2 k3 k4 k5 raw n (.int nt tn) (.ref nm) si))
    (h3 : h.get? nm = some (tupO [.ref ct, .int c tc])) (h4 : h.get? ct = some (tupO vs)) : ∀ p ∈ wsObjs w x dx nm ct k1 k2 k3 k4 k5 tn tc raw n si nt c vs, h.get? p.1 = some p.2 := by
  intro p hp
  simp only [wsObjs, List.mem_cons, List.not_mem_nil, or_false] at hp
  rcases hp with rfl | rfl | rfl | rfl <;> assumption
theorem wsN_len (tb : Bool) (a i : Nat) : (wsN tb a i).2.2.length ≤ a + 1 := by
  unfold wsN
  split <;> simp
theorem wsTxt_size (tb : Bool) (a c : Nat) : (wsTxt tb a c).cps.size = (if tb then a + 1 else 0) + c := by
  unfold wsTxt
  cases tb <;> simp <;> omega
theorem wsTxt_at {tb : Bool} {a c i x : Nat} (h : (wsTxt tb a c).cps[i]? = some x) : (x = 32 ∧ ¬ (tb = true ∧ i = a)) ∨ (x = 9 ∧ tb = true ∧ i = a) := by
  unfold wsTxt at h
  rw [List.getElem?_toArray] at h
  cases tb with
  | false =>
    simp only [Bool.false_eq_true, if_false, List.nil_append, List.getElem?_replicate] at h
    split at h
    · exact .inl ⟨(Option.some.inj h).symm, fun e => by cases e.1⟩
    · cases h
  | true =>
    simp only [if_true, List.append_assoc, List.getElem?_append, List.length_replicate, List.getElem?_replicate] at h
    by_cases h1 : i < a
    · rw [if_pos h1, if_pos h1] at h
      exact .inl ⟨(Option.some.inj h).symm, fun e => by omega⟩
    · rw [if_neg h1] at h
      by_cases h2 : i = a
      · subst h2
        simp at h
        exact .inr ⟨h.symm, rfl, rfl⟩
      · have h3 : ¬ (i - a < 1) := by omega
        simp only [List.length_cons, List.length_nil] at h
        rw [if_neg (by omega)] at h
        split at h
        · exact .inl ⟨(Option.some.inj h).symm, fun e => h2 e.2⟩
        · cases h
theorem flatRep {α : Type} (n : Nat) (z : α) : (List.replicate n [z]).flatten = List.replicate n z := by
  induction n with
  | zero => rfl
  | succ n ih => rw [List.replicate_succ, List.flatten_cons, ih]; rfl
theorem ws_len (i : Nat) : ((i : Int)) < (([] : List Int) ++ (List.replicate ((i : Int) - 0 + 1).toNat [(0 : Int)]).flatten).length := by
  rw [List.nil_append, flatRep, List.length_replicate]; omega
theorem ws_set (i : Nat) : ((([] : List Int) ++ (List.replicate ((i : Int) - 0 + 1).toNat [(0 : Int)]).flatten).set (i : Int).toNat ((([] : List Int) ++ (List.replicate ((i : Int) - 0 + 1).toNat [(0 : Int)]).flatten).getD (i : Int).toNat 0 + 1)) = List.replicate i 0 ++ [1] := by
  have e : ((i : Int) - 0 + 1).toNat = i + 1 := by omega
  rw [List.nil_append, flatRep, e, Int.toNat_natCast]
  have g : (List.replicate (i + 1) (0 : Int)).getD i 0 = 0 := by
    rw [List.getD_eq_getElem?_getD, List.getElem?_replicate]; split <;> rfl
  rw [g, List.replicate_succ']
  show (List.replicate i (0 : Int) ++ [0]).set i (0 + 1) = _
  induction i with
  | zero => rfl
  | succ i ih => rw [List.replicate_succ, List.cons_append, List.set_cons_succ, ih (by omega) (by simp)]; rfl
theorem kset14 : True := by
  k_with "setItem ref int" =>
    (refine' ksa_set (by k_asm) (by k_asm) (by k_upd) (by with_reducible assumption) (by omega) (by exact ws_len _) (by omega) ?_; intro h'₉ F'₉ N'₉ hi'₉ hl'₉ hs'₉; (try k_sweep))
  k_with "call type:tuple" =>
    (refine' kde_tupleOf (by k_asm) (by k_asm) (by with_unfolding_all first | exact News.isList (by assumption) (.head _) | exact News.isList (by assumption) (.tail _ (.head _))) (by assumption) rfl ?_; intro D'₉ h'₉ F'₉ N'₉ l1₉; (try k_lt l1₉); (try k_sweep))
  trivial
theorem ws_ctr : ∀ (w : World) (A : Around) (s : Shared) (R : Result → Shared → Prop) (mg mb : Str → Option Value) (loose : List Str) (tb : Bool) (a c : Nat) (t : Tok)
    (X : (hd.heap_1 w.params).In s.heap) (T : TopRead viewQ loose mg mb s.heap) (hh : A.handled = none) (hr : A.depth + 5 < recursionLimit) (ha : a < 8) (hc : c < 24)
    (hR : ∀ h tk x dx nm ct k1 k2 k3 k4 k5 tn tc raw n si nt vs, Kp s.heap h → (∀ p ∈ wsObjs w x dx nm ct k1 k2 k3 k4 k5 tn tc raw n si nt c vs, h.get? p.1 = some p.2) → nt = (if tb then 1 else 0) → IntsAre vs (cnt tb a) → dx < x ∧ x < ct ∧ ct < nm → s.heap.objs.size ≤ dx → (∀ b ∈ [x, dx, nm, ct], s.heap.get? b = none) →
      R (.ok (.ret (.ref x))) { s with heap := h, toks := tk }),
    codeAny (model PySem.Challenge.rw_pg0244_01.row.prog w) A (.call (.ref 139) ⟨[.str (wsTxt tb a c) t], []⟩) R s := by
  k_fill
  intro w A s R mg mb loose tb a c t X T hh hr ha hc hR
  refine' makeB X ?m1 ?m2 ?m3 ?_
  case m1 => k_dflt k_is
  case m2 => k_dflt k_is
  case m3 => k_dflt k_is
  intro x dx h1 kp1 nx nd hdx hlt gx gd hsz
  obtain ⟨ah, ad, af, ag, au⟩ := A
  dsimp only at hh hr
  subst hh
  refine' enterKBq (B := s.heap) (hid := [(x, instObj 139 dx), (dx, dictOf [] 0)]) (binds := [(Str.ofString "self", .ref x), (Str.ofString "ws", .str (wsTxt tb a c) t)]) X kp1 hsz ?hid T.nolimit ?ho ?hcd (by show ad + 1 < _; omega) (BindsTo.of_eq ?hb) ?hl ?hc ?h1 ?h2 ?h3 ?_
  case hid => exact List.forall_mem_cons.mpr ⟨⟨gx, nx⟩, List.forall_mem_cons.mpr ⟨⟨gd, nd⟩, List.forall_mem_nil _⟩⟩
  case ho => k_dflt k_is
  case hcd => k_dflt k_is
  case hb => exact rfl
  case hl => exact locs rfl
  case hc => decide
  case h1 => exact rfl
  case h2 => exact rfl
  case h3 => exact rfl
  intro L₀ h₁ tk₀ m₀ F N kp2 envv Av Qv Ev
  replace hlt := ltN hlt
  (try dsimp only)
  k_steps
  unfold Halt
  rename (Fr _ _ _ _) => F1
  refine For_invVF F1 rfl rfl ?_
  k_steps
  unfold Halt
  rename (Fr _ _ _ _) => F2
  rename (News _ _ _ _) => N2
  refine str_G rfl (wsJ tb a _ _) rfl F2 N2 (wsJ_intro (vs := []) Agree.refl rfl rfl rfl rfl .nil ?z4 (b := 0) (n := 0) ?z1 rfl rfl rfl) ?_ ?_
  case z1 => simp only [wsN, Nat.not_lt_zero, decide_false, Bool.and_false]; rfl
  case z4 => simp only [AllLt, and_true]; omega
  · rintro i ch t m₁ _ h tk I oI hi hch ⟨hA, cl, vs, k, u1, u2, u3, g1, g2, g3, g4, rfl, hI, hlt2⟩ hoff F N
    rw [agree_chain hA] at F
    simp only [chainOf, g1, g2, g3, g4] at F
    clear F2 N2
    have hne := hoff _ (.head _)
    have hne2 := Ne.symm hne
    dsimp only at hne hne2
    have hrest := fun q hq => hoff q (.tail _ hq)
    rcases wsTxt_at hch with ⟨rfl, hn⟩ | ⟨rfl, hb, hi2⟩
    · have e2 : ∃ b n cs, wsN tb a i = (b, n, cs) ∧ wsN tb a (i + 1) = (b + 1, n, cs) := by
        unfold wsN
        by_cases h1 : tb = true ∧ a < i
        · rw [h1.1, if_pos (by simp; omega), if_pos (by simp; omega)]
          exact ⟨_, _, _, rfl, by congr 1; omega⟩
        · rw [if_neg (by simpa using h1), if_neg (by simp; intro e; subst e; simp at h1 hn; omega)]
          exact ⟨_, _, _, rfl, rfl⟩
      obtain ⟨b, n, cs, e3, e4⟩ := e2
      rw [e3] at F hI
      dsimp only at F hI
      k_steps
      refine' TurnE.nextC ?zzF ?zzN (.head _) ?zzp ?zze ?zzr hrest ?zzj
      case zzF => assumption
      case zzN => assumption
      case zzp => exact .tail _ (.head _)
      case zze => exact hne
      case zzr => exact fun q hq => .tail _ (.tail _ hq)
      case zzj => exact wsJ_intro (by repeat (first | exact Agree.refl | refine Agree.set (by simp) ?_)) rfl rfl rfl rfl hI hlt2 e4 (by omega) (by omega) rfl
    · subst hb
      subst hi2
      have e : wsN true i i = (i, 0, []) := by simp only [wsN, Nat.lt_irrefl, decide_false, Bool.and_false]; rfl
      rw [e] at F hI
      dsimp only at F hI
      have e2 := IntsAre.nil_inv hI
      subst e2
      k_steps
      refine' TurnE.nextC ?yyF ?yyN (.tail _ (.tail _ (.tail _ (.head _)))) ?yyp ?yye ?yyr hrest ?yyj
      case yyF => assumption
      case yyN => assumption
      case yyp => exact .head _
      case yyr => exact fun q hq => .tail _ (.tail _ (.tail _ (.tail _ (.tail _ hq))))
      case yye => refine Ne.symm (neN ?_); omega
      case yyj =>
       refine wsJ_intro (by repeat (first | exact Agree.refl | refine Agree.set (by simp) ?_)) rfl rfl rfl rfl ?yyi ?yyl (b := 0) (n := 1) (by simp only [wsN, Nat.lt_succ_self, decide_true, Bool.and_true, if_true]; congr 1; omega) (by omega) rfl rfl
       case yyi => rw [← ws_set]; assumption
       case yyl => simp only [AllLt, and_true]; omega
  · rintro m₁ _ h tk ⟨hA, cl, vs, k, u1, u2, u3, g1, g2, g3, g4, rfl, hI, hlt2⟩ F N
    rw [agree_chain hA] at F
    simp only [chainOf, g1, g2, g3, g4] at F
    clear F2 N2
    rw [wsTxt_size] at F hI
    have hlen : vs.length < 1000 := by rw [hI.length]; exact Nat.lt_of_le_of_lt (wsN_len tb a _) (by omega)
    have hlen2 : vs.toArray.size ≤ 16384 := by rw [List.size_toArray]; omega
    rw [wsN_end] at F hI
    dsimp only at F hI
    simp only [AllLt, and_true] at hlt2
    k_steps
    rename (News _ _ _ _) => N3
    refine ⟨rfl, hR _ _ x dx _ _ _ _ _ _ _ _ _ _ _ _ _ vs (fun b o e => Fr.keep (by assumption) b o e)
      (wsObjs_of (News.get N3 (.tail _ (.tail _ (.tail _ (.tail _ (.head _)))))) (News.get N3 (.tail _ (.tail _ (.tail _ (.tail _ (.tail _ (.head _))))))) (News.get N3 (.head _)) (News.get N3 (.tail _ (.head _)))) ?zz1 hI ?zz2 hdx ?zz3⟩
    case zz1 => cases tb <;> rfl
    case zz2 => refine ⟨hlt, ltN ?_, ltN ?_⟩ <;> omega
    case zz3 =>
      refine List.forall_mem_cons.mpr ⟨nx, List.forall_mem_cons.mpr ⟨nd, List.forall_mem_cons.mpr ⟨News.fresh N3 (.head _), List.forall_mem_cons.mpr ⟨News.fresh N3 (.tail _ (.head _)), List.forall_mem_nil _⟩⟩⟩⟩
end Mine
namespace Mine
open PySem PySem.W PyProof.Rows
theorem flush13 {M : Model} {A : Around} {Q : Flow → Shared → Prop} {E : Value → Shared → Prop} {s : Shared} {env : Env} (h : wpAny M A (execs [] env) Q E s) : wpAny M A (execs [] env) Q E s := by
  k_with_none
  (try (walk1; fail))
  w_top off
  exact h
end Mine
namespace Mine
open PySem PySem.W PyProof.Rows PySem.Calls
set_option maxHeartbeats 8000000
set_option linter.unusedVariables false
/-- a heap that a contract may be entered from: the base below it, and the objects that lie open -/
structure Ready (w : World) (B h : Heap) (hid : List (Addr × Obj)) (mg mb : Str → Option Value) (loose : List Str) : Prop where
  X : (hd.heap_1 w.params).In B
  T : TopRead viewQ loose mg mb B
  kp : Kp B h
  sz : B.objs.size ≤ h.objs.size
  hid : ∀ p ∈ hid, h.get? p.1 = some p.2 ∧ B.get? p.1 = none
section
variable {w : World} {h₀ h h' : Heap} {L : Addr} {m : Str → Option Value} {news hid : List (Addr × Obj)} {mg mb : Str → Option Value} {loose : List Str}
theorem base_hide (F : Fr h₀ L h m) (N : News h₀ L h news) (hm : ∀ p ∈ hid, p ∈ news) : ∀ b o, h₀.get? b = some o → (hideAll h (hid.map (·.1))).get? b = some o := fun b o e => by
  refine hideAll_get _ (F.keep b o e) fun hb => ?_
  obtain ⟨p, hp, rfl⟩ := List.mem_map.mp hb
  rw [(N p (hm p hp)).2.2] at e; cases e
theorem ready_of (F : Fr h₀ L h m) (N : News h₀ L h news) (X : (hd.heap_1 w.params).In h₀) (T : TopRead viewQ loose mg mb h₀) (hm : ∀ p ∈ hid, p ∈ news) : Ready w (hideAll h (hid.map (·.1))) h hid mg mb loose where
  X := X.keeps (base_hide F N hm)
  T := T.keeps (base_hide F N hm)
  kp := fun b o e => of_hideAll _ e
  sz := Nat.le_of_eq (hideAll_size _ _)
  hid := fun p hp => ⟨(N p (hm p hp)).1, hideAll_none _ (List.mem_map.mpr ⟨p, hp, rfl⟩)⟩
theorem fr_hide (F : Fr h₀ L h m) (N : News h₀ L h news) (hm : ∀ p ∈ hid, p ∈ news) (kp : Kp (hideAll h (hid.map (·.1))) h') : Fr h₀ L h' m := by
  refine ⟨F.ns.at' fun o e => kp _ _ (hideAll_get _ e fun hb => ?_), fun b o e => kp _ _ (base_hide F N hm b o e), F.above⟩
  obtain ⟨p, hp, e2⟩ := List.mem_map.mp hb
  exact (N p (hm p hp)).2.1 e2
theorem kp_hide {hs : List (Addr × Obj)} (hh : ∀ p ∈ hs, h.get? p.1 = some p.2) (kp : Kp (hideAll h (hs.map (·.1))) h') (h2 : ∀ p ∈ hs, h'.get? p.1 = some p.2) : Kp h h' := fun b o e => by
  by_cases hb : b ∈ hs.map (·.1)
  · obtain ⟨p, hp, rfl⟩ := List.mem_map.mp hb
    rw [hh p hp] at e
    cases e
    exact h2 p hp
  · exact kp _ _ (hideAll_get _ e hb)
end
section
variable {prog : Program} {w : World} {A : Around} {E : Value → Shared → Prop} {s : Shared} {h₀ : Heap} {L a : Addr} {news : List (Addr × Obj)} {Q : Value → Shared → Prop}
theorem len_tupN {vs : List Value} {cs : List Int} (N : News h₀ L s.heap news) (hm : (a, tupO vs) ∈ news) (hI : IntsAre vs cs) (hl : cs.length < 1000) (h : Q (.int (cs.length : Int) (s.toks + 1)) { s with toks := s.toks + 1 + 1 }) :
    wpAny (model prog w) A (call (.builtin "len") [.ref a]) Q E s := by
  have e : vs.toArray.size = cs.length := by rw [List.size_toArray]; exact hI.length
  refine len_tuple (News.isTup N hm) (by rw [e]; exact Int.lt_of_lt_of_le (Int.ofNat_lt.mpr hl) (by decide)) ?_
  rw [e]; exact h
theorem sub_tupN {vs : List Value} {cs : List Int} {k : Int} {u : Tok} {value slice : PySem.Expr} (N : News h₀ L s.heap news) (hm : (a, tupO vs) ∈ news) (hI : IntsAre vs cs) (hl : cs.length < 1000) (h0 : 0 ≤ k) (h1 : k < cs.length) (h : ∀ t, Q (.int (cs.getD k.toNat 0) t) s)
    (hs : subscripted slice false (.ref a) (.int k u) = operate [.ref a, .int k u] (getItem (.ref a) (.int k u)) := by with_unfolding_all rfl) :
    wpAny (model prog w) A (subscriptTail value slice (.ref a) (.int k u)) Q E s := by
  have hj : k.toNat < cs.length := by omega
  have e0 : cs[k.toNat]? = some (cs.getD k.toNat 0) := by rw [List.getD_eq_getElem?_getD, List.getElem?_eq_getElem hj]; rfl
  obtain ⟨t, ht⟩ := hI.get k.toNat _ e0
  have e1 : vs.length = cs.length := hI.length
  refine item_tupleT (j := k.toNat) (News.isTup N hm) (by omega) (by omega) ?_ ht (h t) hs
  unfold seqIndex?
  simp only [e1]
  have n1 : ¬ k < 0 := by omega
  have n2 : (decide (0 ≤ k) && decide (k < (cs.length : Int))) = true := by simp only [Bool.and_eq_true, decide_eq_true_eq]; omega
  simp only [n1, if_false, n2, if_true]
end
end Mine
namespace Mine
open PySem PySem.W PyProof.Rows
theorem flush14 {M : Model} {A : Around} {Q : Flow → Shared → Prop} {E : Value → Shared → Prop} {s : Shared} {env : Env} (h : wpAny M A (execs [] env) Q E s) : wpAny M A (execs [] env) Q E s := by
  k_with_none
  (try (walk1; fail))
  w_top off
  exact h
end Mine
namespace Mine
open PySem PySem.W PyProof.Rows PySem.Calls
set_option maxHeartbeats 8000000
set_option linter.unusedVariables false
theorem kset15 : True := by
  k_with_none
  k_with "exec For Name Call cons nil" =>
    refine halt ?_
  k_with "pyIter ref" =>
    refine halt ?_
  k_with "call builtin:max" =>
    first
      | (refine max3i_K (by assumption) (by assumption) rfl ?_; intro h'₉ tk'₉ k'₉ F'₉ N'₉; (try k_sweep))
      | (refine max2i_K (by assumption) (by assumption) rfl ?_; intro h'₉ tk'₉ k'₉ F'₉ N'₉; (try k_sweep))
  k_with "call builtin:len" =>
    (refine' len_tupN (by k_asm) (by k_mem) (by assumption) (by assumption) ?_)
  trivial
theorem longest_ctr : ∀ (w : World) (A : Around) (s : Shared) (R : Result → Shared → Prop) (mg mb : Str → Option Value) (loose : List Str) (B : Heap) (x dx nm ct : Addr) (k1 k2 k3 k4 k5 tn tc : Tok) (raw n si : Value) (nt c : Int) (vs : List Value) (cs : List Int)
    (X : (hd.heap_1 w.params).In B) (hrd : Ready w B s.heap (wsObjs w x dx nm ct k1 k2 k3 k4 k5 tn tc raw n si nt c vs) mg mb loose) (hh : A.handled = none) (hr : A.depth < recursionLimit) (hI : IntsAre vs cs) (hlen : cs.length < 1000) (hlt : dx < x ∧ x < ct ∧ ct < nm)
    (hR : ∀ h tk t, Kp B h → (∀ p ∈ wsObjs w x dx nm ct k1 k2 k3 k4 k5 tn tc raw n si nt c vs, h.get? p.1 = some p.2) → R (.ok (.ret (.int (max ((cs.length : Int) - 1) c) t))) { s with heap := h, toks := tk }),
    codeAny (model PySem.Challenge.rw_pg0244_01.row.prog w) A (.call (.ref 101) ⟨[.ref x], []⟩) R s := by
  k_fill
  intro w A s R mg mb loose B x dx nm ct k1 k2 k3 k4 k5 tn tc raw n si nt c vs cs X hrd hh hr hI hlen hlt hR
  obtain ⟨-, T, kpB, hsz, hid⟩ := hrd
  obtain ⟨ah, ad, af, ag, au⟩ := A
  dsimp only at hh hr
  subst hh
  refine' enterKBq (B := B) (hid := wsObjs w x dx nm ct k1 k2 k3 k4 k5 tn tc raw n si nt c vs) (binds := [(Str.ofString "self", .ref x)]) X kpB hsz hid T.nolimit ?ho ?hcd hr (BindsTo.of_eq ?hb) ?hl ?hc ?h1 ?h2 ?h3 ?_
  case ho => k_dflt k_is
  case hcd => k_dflt k_is
  case hb => exact rfl
  case hl => exact locs rfl
  case hc => decide
  case h1 => exact rfl
  case h2 => exact rfl
  case h3 => exact rfl
  intro L₀ h₁ tk₀ m₀ F N kp2 envv Av Qv Ev
  clear hid
  unfold wsObjs at N
  have hlt1 := ltN hlt.1
  have hlt2 := ltN hlt.2.1
  have hlt3 := ltN hlt.2.2
  have e1 : vs.length = cs.length := hI.length
  (try dsimp only)
  k_steps
  rename (News _ _ _ _) => N3
  exact hR _ _ _ (Fr.keep (by assumption)) (fun p hp => (N3 p hp).1)

theorem kset16 : True := by
  k_with "subscriptTail Name Name ref int" =>
    (refine' sub_tupN (by k_asm) (by k_mem) (by assumption) (by assumption) (by omega) (by omega) ?_ (by with_unfolding_all rfl); intro _)
  trivial
theorem fd_ok (ts i : Int) (h0 : 0 < ts) (h1 : ts < 1000) (h2 : 0 ≤ i) (h3 : i < 1000) (z : Int) : IntMulOk ((ts + i).fdiv ts) z := by
  rw [Int.fdiv_eq_ediv_of_nonneg _ (Int.le_of_lt h0)]
  have a1 : 0 ≤ (ts + i) / ts := Int.ediv_nonneg (by omega) (by omega)
  have a2 : (ts + i) / ts ≤ ts + i := Int.ediv_le_self _ (by omega)
  exact IntMulOk.of_left (intBits_le_64 (by omega) (by omega))
noncomputable def ilT (ts : Int) (cs : List Int) (k : Nat) : Int := ((List.range k).map fun (j : Nat) => ((ts + (j : Int)).fdiv ts) * cs.getD (ts + (j : Int)).toNat 0).sum
theorem ilT_succ (ts : Int) (cs : List Int) (k : Nat) : ilT ts cs (k + 1) = ilT ts cs k + ((ts + (k : Int)).fdiv ts) * cs.getD (ts + (k : Int)).toNat 0 := by
  unfold ilT
  rw [List.range_succ, List.map_append, List.sum_append]
  simp
noncomputable def indJ (m₀ : Str → Option Value) (rest : List (Addr × Obj)) (ts : Int) (cs : List Int) (i : Nat) (m : Str → Option Value) (news : List (Addr × Obj)) : Prop :=
  Agree [Str.ofString "i", Str.ofString "il"] m m₀ ∧ news = rest ∧ ∃ t, m (Str.ofString "il") = some (.int (ilT ts cs i) t)
theorem indent_ctr : ∀ (w : World) (A : Around) (s : Shared) (R : Result → Shared → Prop) (mg mb : Str → Option Value) (loose : List Str) (B : Heap) (x dx nm ct : Addr) (k1 k2 k3 k4 k5 tn tc : Tok) (raw n si : Value) (nt c : Int) (vs : List Value) (cs : List Int) (ts : Int) (tts : Tok)
    (X : (hd.heap_1 w.params).In B) (hrd : Ready w B s.heap (wsObjs w x dx nm ct k1 k2 k3 k4 k5 tn tc raw n si nt c vs) mg mb loose) (hh : A.handled = none) (hr : A.depth < recursionLimit) (hI : IntsAre vs cs) (hlen : cs.length < 1000) (hlt : dx < x ∧ x < ct ∧ ct < nm) (h0 : 0 < ts) (h1 : ts < 1000)
    (hR : ∀ h tk t, Kp B h → (∀ p ∈ wsObjs w x dx nm ct k1 k2 k3 k4 k5 tn tc raw n si nt c vs, h.get? p.1 = some p.2) → R (.ok (.ret (.int (c + ts * (ilT ts cs (cs.length - ts.toNat) + nt)) t))) { s with heap := h, toks := tk }),
    codeAny (model PySem.Challenge.rw_pg0244_01.row.prog w) A (.call (.ref 108) ⟨[.ref x, .int ts tts], []⟩) R s := by
  k_fill
  intro w A s R mg mb loose B x dx nm ct k1 k2 k3 k4 k5 tn tc raw n si nt c vs cs ts tts X hrd hh hr hI hlen hlt h0 h1 hR
  obtain ⟨-, T, kpB, hsz, hid⟩ := hrd
  obtain ⟨ah, ad, af, ag, au⟩ := A
  dsimp only at hh hr
  subst hh
  refine' enterKBq (B := B) (hid := wsObjs w x dx nm ct k1 k2 k3 k4 k5 tn tc raw n si nt c vs) (binds := [(Str.ofString "self", .ref x), (Str.ofString "tabsize", .int ts tts)]) X kpB hsz hid T.nolimit ?ho ?hcd hr (BindsTo.of_eq ?hb) ?hl ?hc ?h1 ?h2 ?h3 ?_
  case ho => k_dflt k_is
  case hcd => k_dflt k_is
  case hb => exact rfl
  case hl => exact locs rfl
  case hc => decide
  case h1 => exact rfl
  case h2 => exact rfl
  case h3 => exact rfl
  intro L₀ h₁ tk₀ m₀ F N kp2 envv Av Qv Ev
  clear hid
  unfold wsObjs at N
  have hlt1 := ltN hlt.1
  have hlt2 := ltN hlt.2.1
  have hlt3 := ltN hlt.2.2
  have e1 : vs.length = cs.length := hI.length
  (try dsimp only)
  k_steps
  unfold Halt
  rename (Fr _ _ _ _) => F1
  refine For_invVF F1 rfl rfl ?_
  k_steps
  unfold Halt
  rename IsRange _ _ _ _ _ _ _ _ => hr1
  rename (News _ _ _ _) => N2
  rename (Fr _ _ _ _) => F2
  refine range_G rfl (n := cs.length - ts.toNat) (indJ _ _ ts cs) rfl hr1 (small_one (by omega) (by omega) (by omega) (by omega)) ?z1 F2 N2 ⟨Agree.refl, rfl, _, rfl⟩ ?_ ?_
  case z1 => rw [rangeSize_one]; split <;> omega
  · rintro i t m₁ news₁ h tk I oI hi ⟨ha, hnews, u1, g1⟩ hoff F N
    rw [hnews] at N hoff
    rw [agree_chain ha] at F
    simp only [chainOf, g1] at F
    clear F2 N2
    have hm := fd_ok ts i h0 h1 (by omega) (by omega) (cs.getD (ts + (i : Int)).toNat 0)
    k_steps
    refine' TurnE.next ?zzF ?zzN (.head _) (fun q hq => ⟨.tail _ hq, hoff q hq⟩) ?zzj
    case zzF => assumption
    case zzN => assumption
    case zzj => exact ⟨by repeat (first | exact Agree.refl | refine Agree.set (by simp) ?_), rfl, _, (by rw [ilT_succ]; rfl)⟩
  · rintro m₁ _ h tk ⟨ha, rfl, u1, g1⟩ F N
    rw [agree_chain ha] at F
    simp only [chainOf, g1] at F
    clear F2 N2
    k_steps
    rename (News _ _ _ _) => N3
    exact hR _ _ _ (Fr.keep (by assumption)) (fun p hp => (N3 p hp).1)
end Mine
namespace Mine
open PySem PySem.W PyProof.Rows
theorem flush15 {M : Model} {A : Around} {Q : Flow → Shared → Prop} {E : Value → Shared → Prop} {s : Shared} {env : Env} (h : wpAny M A (execs [] env) Q E s) : wpAny M A (execs [] env) Q E s := by
  k_with_none
  (try (walk1; fail))
  w_top off
  exact h
end Mine
section
local macro_rules | `(tactic| k_all) => `(tactic| assumption)
namespace Mine
open PySem PySem.W PyProof.Rows PySem.Calls
set_option maxHeartbeats 8000000
set_option linter.unusedVariables false
theorem kset17 : True := by
  k_with_none
  k_with "execs cons" =>
    first | dsimp only | (refine gen_toks ?_; intro tk₉)
  k_with "execs nil" =>
    first | dsimp only | (refine gen_toks ?_; intro tk₉)
  k_with "storeName" =>
    dsimp only
  k_with "exec For Name Call cons nil" =>
    refine halt ?_
  k_with "pyIter ref" =>
    refine halt ?_
  k_with "call builtin:max" =>
    first
      | (refine max3i_K (by assumption) (by assumption) rfl ?_; intro h'₉ tk'₉ k'₉ F'₉ N'₉; (try k_sweep))
      | (refine max2i_K (by assumption) (by assumption) rfl ?_; intro h'₉ tk'₉ k'₉ F'₉ N'₉; (try k_sweep))
  trivial
noncomputable def ilev (c nt : Int) (cs : List Int) (ts : Int) : Int := c + ts * (ilT ts cs (cs.length - ts.toNat) + nt)
section
variable {w : World} {A : Around} {E : Value → Shared → Prop} {s : Shared} {t u : Tok} {Q : Value → Shared → Prop} {h₀ h h' : Heap} {L : Addr} {m : Str → Option Value} {news : List (Addr × Obj)}
  {dp un : Nat} {fr : Option (List Env)} {gd : Option (List Code)} {env : Env} {mg mb : Str → Option Value} {loose : List Str}
  {x dx nm ct : Addr} {k1 k2 k3 k4 k5 tn tc : Tok} {raw n si : Value} {nt c : Int} {vs : List Value} {cs : List Int}
theorem wsObjs_mem (h1 : (x, instObj 139 dx) ∈ news) (h2 : (dx, wsDict w k1 k2 k3 k4 k5 raw n (.int nt tn) (.ref nm) si) ∈ news) (h3 : (nm, tupO [.ref ct, .int c tc]) ∈ news) (h4 : (ct, tupO vs) ∈ news) : ∀ p ∈ wsObjs w x dx nm ct k1 k2 k3 k4 k5 tn tc raw n si nt c vs, p ∈ news := by
  intro p hp
  simp only [wsObjs, List.mem_cons, List.not_mem_nil, or_false] at hp
  rcases hp with rfl | rfl | rfl | rfl <;> assumption
theorem longest_K (F : Fr h₀ L s.heap m) (N : News h₀ L s.heap news) (X : (hd.heap_1 w.params).In h₀) (T : TopRead viewQ loose mg mb h₀) (hr : dp + 5 < recursionLimit)
    (h1 : (x, instObj 139 dx) ∈ news) (h2 : (dx, wsDict w k1 k2 k3 k4 k5 raw n (.int nt tn) (.ref nm) si) ∈ news) (h3 : (nm, tupO [.ref ct, .int c tc]) ∈ news) (h4 : (ct, tupO vs) ∈ news) (hI : IntsAre vs cs) (hlen : cs.length < 1000) (hlt : dx < x ∧ x < ct ∧ ct < nm)
    (hq : ∀ h' tk t, Fr h₀ L h' m → News h₀ L h' news → Q (.int (max ((cs.length : Int) - 1) c) t) { s with heap := h', toks := tk }) :
    wpAny (model PySem.Challenge.rw_pg0244_01.row.prog w) (Around.deeper { depth := dp, frames := fr, guards := gd, units := un } env) (call (.ref 101) [.ref x]) Q E s := by
  have hm := wsObjs_mem h1 h2 h3 h4
  have rd := ready_of F N X T hm
  refine wpAny_call (longest_ctr w _ s _ mg mb loose _ x dx nm ct k1 k2 k3 k4 k5 tn tc raw n si nt c vs cs rd.X rd rfl (by show dp + 1 < _; omega) hI hlen hlt fun h' tk t kp hk => ?_)
  have kp' := kp_hide (fun p hp => (rd.hid p hp).1) kp hk
  exact hq h' tk t (Fr.kept F kp') (News.kept N kp')
theorem indent_K {ts : Int} (F : Fr h₀ L s.heap m) (N : News h₀ L s.heap news) (X : (hd.heap_1 w.params).In h₀) (T : TopRead viewQ loose mg mb h₀) (hr : dp + 5 < recursionLimit)
    (h1 : (x, instObj 139 dx) ∈ news) (h2 : (dx, wsDict w k1 k2 k3 k4 k5 raw n (.int nt tn) (.ref nm) si) ∈ news) (h3 : (nm, tupO [.ref ct, .int c tc]) ∈ news) (h4 : (ct, tupO vs) ∈ news) (hI : IntsAre vs cs) (hlen : cs.length < 1000) (hlt : dx < x ∧ x < ct ∧ ct < nm) (h0 : 0 < ts) (h01 : ts < 1000)
    (hq : ∀ h' tk t, Fr h₀ L h' m → News h₀ L h' news → Q (.int (ilev c nt cs ts) t) { s with heap := h', toks := tk }) :
    wpAny (model PySem.Challenge.rw_pg0244_01.row.prog w) (Around.deeper { depth := dp, frames := fr, guards := gd, units := un } env) (call (.ref 108) [.ref x, .int ts t]) Q E s := by
  have hm := wsObjs_mem h1 h2 h3 h4
  have rd := ready_of F N X T hm
  refine wpAny_call (indent_ctr w _ s _ mg mb loose _ x dx nm ct k1 k2 k3 k4 k5 tn tc raw n si nt c vs cs ts t rd.X rd rfl (by show dp + 1 < _; omega) hI hlen hlt h0 h01 fun h' tk t kp hk => ?_)
  have kp' := kp_hide (fun p hp => (rd.hid p hp).1) kp hk
  exact hq h' tk t (Fr.kept F kp') (News.kept N kp')
end
noncomputable def WRel (vs : List Value) (tups : List (Addr × Obj)) (ns : List Nat) : Prop := vs.length = ns.length ∧ ∀ (i n : Nat), ns[i]? = some n → ∃ a t v2 v3, vs[i]? = some (Value.ref a) ∧ (a, tupO [.int (n : Int) t, v2, v3]) ∈ tups
noncomputable def picks (f : Nat → Bool) (n : Nat) : List Nat := (List.range n).filterMap fun i => if f (i + 1) then some (i + 1) else none
theorem picks_succ (f : Nat → Bool) (i : Nat) : picks f (i + 1) = picks f i ++ (if f (i + 1) then [i + 1] else []) := by
  unfold picks
  rw [List.range_succ, List.filterMap_append]
  congr 1
  cases h : f (i + 1) <;> simp [h]
theorem picks_len (f : Nat → Bool) (n : Nat) : (picks f n).length ≤ n := by
  have := List.length_filterMap_le (fun i => if f (i + 1) then some (i + 1) else none) (List.range n)
  rw [List.length_range] at this
  exact this
theorem WRel.nil : WRel [] [] [] := ⟨rfl, fun i n h => by simp at h⟩
theorem WRel.weaken {vs : List Value} {tups tups' : List (Addr × Obj)} {ns : List Nat} (x : WRel vs tups ns) (h : ∀ p ∈ tups, p ∈ tups') : WRel vs tups' ns :=
  ⟨x.1, fun i n e => let ⟨a, t, v2, v3, h1, h2⟩ := x.2 i n e; ⟨a, t, v2, v3, h1, h _ h2⟩⟩
theorem WRel.add {vs : List Value} {tups : List (Addr × Obj)} {ns : List Nat} {a : Addr} {t : Tok} {n : Nat} {v2 v3 : Value} (x : WRel vs tups ns) : WRel (vs ++ [Value.ref a]) ((a, tupO [.int (n : Int) t, v2, v3]) :: tups) (ns ++ [n]) := by
  refine ⟨by rw [List.length_append, List.length_append, x.1]; rfl, fun i k e => ?_⟩
  rw [List.getElem?_append] at e
  by_cases hi : i < ns.length
  · rw [if_pos hi] at e
    obtain ⟨a', t', w2, w3, h1, h2⟩ := x.2 i k e
    refine ⟨a', t', w2, w3, ?_, .tail _ h2⟩
    rw [List.getElem?_append_left (by rw [x.1]; exact hi)]
    exact h1
  · rw [if_neg hi] at e
    have h0 : i - ns.length = 0 := by
      cases q : i - ns.length with
      | zero => rfl
      | succ j => rw [q] at e; simp at e
    rw [h0] at e
    have e' : n = k := Option.some.inj e
    subst e'
    refine ⟨a, t, v2, v3, ?_, .head _⟩
    rw [List.getElem?_append_right (by rw [x.1]; omega), x.1, h0]
    rfl
noncomputable def witJ (m₀ : Str → Option Value) (l : Addr) (rest : List (Addr × Obj)) (f : Nat → Bool) (i : Nat) (m : Str → Option Value) (news : List (Addr × Obj)) : Prop :=
  Agree [Str.ofString "ts"] m m₀ ∧ ∃ vs k tups, news = (l, listOf vs.toArray k) :: (rest ++ tups) ∧ WRel vs tups (picks f i) ∧ ∀ p ∈ tups, p.1 ≠ l
section
variable {h₀ h' : Heap} {L l I D : Addr} {m₀ m' : Str → Option Value} {rest tups : List (Addr × Obj)} {f : Nat → Bool} {i k tk : Nat} {oI : Obj} {s₁ : Shared} {Q : Flow → Shared → Prop} {vsr : List Value} {t : Tok} {v2 v3 : Value}
theorem wit_turn_add (F : Fr h₀ L h' m') (N : News h₀ L h' ((D, tupO [.int (1 + (i : Int)) t, v2, v3]) :: (I, oI) :: (l, listOf (vsr.toArray.push (.ref D)) (k + 1)) :: (rest ++ tups))) (ha : Agree [Str.ofString "ts"] m' m₀)
    (hoff : ∀ p ∈ (l, listOf vsr.toArray k) :: (rest ++ tups), p.1 ≠ I) (hDI : D ≠ I) (hDl : D ≠ l) (hne : ∀ p ∈ tups, p.1 ≠ l) (hW : WRel vsr tups (picks f i)) (hf : f (i + 1) = true) :
    TurnE h₀ L I oI (witJ m₀ l rest f (i + 1)) s₁ Q .next { s₁ with heap := h', toks := tk } := by
  refine TurnE.nextC (p := (l, listOf (vsr.toArray.push (.ref D)) (k + 1))) (rest := rest ++ ((D, tupO [.int (1 + (i : Int)) t, v2, v3]) :: tups)) F N (.tail _ (.head _)) (.tail _ (.tail _ (.head _))) (show l ≠ I from hoff (l, listOf vsr.toArray k) (.head _)) ?_ ?_ ⟨ha, vsr ++ [.ref D], k + 1, _, by rw [List.push_toArray], ?_, ?_⟩
  · intro q hq
    rcases List.mem_append.mp hq with h | h
    · exact .tail _ (.tail _ (.tail _ (List.mem_append.mpr (.inl h))))
    · rcases List.mem_cons.mp h with rfl | h
      · exact .head _
      · exact .tail _ (.tail _ (.tail _ (List.mem_append.mpr (.inr h))))
  · intro q hq
    rcases List.mem_append.mp hq with h | h
    · exact hoff q (.tail _ (List.mem_append.mpr (.inl h)))
    · rcases List.mem_cons.mp h with rfl | h
      · exact hDI
      · exact hoff q (.tail _ (List.mem_append.mpr (.inr h)))
  · rw [picks_succ, hf, if_pos rfl]
    have e : (1 : Int) + (i : Int) = ((i + 1 : Nat) : Int) := by omega
    rw [e]
    exact hW.add
  · intro p hp
    rcases List.mem_cons.mp hp with rfl | h
    · exact hDl
    · exact hne p h
theorem wit_turn_not (F : Fr h₀ L h' m') (N : News h₀ L h' ((I, oI) :: (l, listOf vsr.toArray k) :: (rest ++ tups))) (ha : Agree [Str.ofString "ts"] m' m₀)
    (hoff : ∀ p ∈ (l, listOf vsr.toArray k) :: (rest ++ tups), p.1 ≠ I) (hne : ∀ p ∈ tups, p.1 ≠ l) (hW : WRel vsr tups (picks f i)) (hf : f (i + 1) = false) :
    TurnE h₀ L I oI (witJ m₀ l rest f (i + 1)) s₁ Q .next { s₁ with heap := h', toks := tk } := by
  refine TurnE.nextC (p := (l, listOf vsr.toArray k)) (rest := rest ++ tups) F N (.head _) (.tail _ (.head _)) (hoff _ (.head _)) (fun q hq => .tail _ (.tail _ hq)) (fun q hq => hoff q (.tail _ hq)) ⟨ha, vsr, k, tups, rfl, ?_, hne⟩
  rw [picks_succ, hf]
  simpa using hW
end
theorem kset18 : True := by
  k_with "call ref" =>
    first
      | (refine' longest_K (by k_asm) (by k_asm) (by k_asm) (by k_asm) (by assumption) (by k_mem) (by k_mem) (by k_mem) (by k_mem) (by assumption) (by assumption) (by assumption) ?_; intro h'₉ tk'₉ t'₉ F'₉ N'₉; (try k_sweep))
      | (refine' indent_K (by k_asm) (by k_asm) (by k_asm) (by k_asm) (by assumption) (by k_mem) (by k_mem) (by k_mem) (by k_mem) (by assumption) (by assumption) (by assumption) (by omega) (by omega) ?_; intro h'₉ tk'₉ t'₉ F'₉ N'₉; (try k_sweep))
  k_with "call builtin:list.append" =>
    (refine' append_K (by k_asm) (by k_asm) (by k_upd) ?_ (by with_unfolding_all exact szA (by assumption)); intro h'₉ F'₉ N'₉; (try k_sweep))
  trivial
noncomputable def witN (cs cs' : List Int) (c c' : Nat) : Nat := (max (max ((cs.length : Int) - 1) c) (max ((cs'.length : Int) - 1) c')).toNat + 1
theorem neq_ctr : ∀ (w : World) (A : Around) (s : Shared) (R : Result → Shared → Prop) (mg mb : Str → Option Value) (loose : List Str) (B : Heap)
    (x dx nm ct : Addr) (k1 k2 k3 k4 k5 tn tc : Tok) (raw n si : Value) (nt : Int) (c : Nat) (vs : List Value) (cs : List Int)
    (x' dx' nm' ct' : Addr) (k1' k2' k3' k4' k5' tn' tc' : Tok) (raw' n' si' : Value) (nt' : Int) (c' : Nat) (vs' : List Value) (cs' : List Int)
    (X : (hd.heap_1 w.params).In B) (hrd : Ready w B s.heap (wsObjs w x dx nm ct k1 k2 k3 k4 k5 tn tc raw n si nt c vs ++ wsObjs w x' dx' nm' ct' k1' k2' k3' k4' k5' tn' tc' raw' n' si' nt' c' vs') mg mb loose) (hh : A.handled = none) (hr : A.depth + 6 < recursionLimit)
    (hI : IntsAre vs cs) (hlen : cs.length < 100) (hlt : dx < x ∧ x < ct ∧ ct < nm) (hc : c < 100) (hI' : IntsAre vs' cs') (hlen' : cs'.length < 100) (hlt' : dx' < x' ∧ x' < ct' ∧ ct' < nm') (hc' : c' < 100) (hlt2 : nm < dx')
    (hR : ∀ h tk l vsr k tups, Kp B h → (∀ p ∈ wsObjs w x dx nm ct k1 k2 k3 k4 k5 tn tc raw n si nt c vs ++ wsObjs w x' dx' nm' ct' k1' k2' k3' k4' k5' tn' tc' raw' n' si' nt' c' vs', h.get? p.1 = some p.2) →
      h.get? l = some (listOf vsr.toArray k) → (∀ p ∈ tups, h.get? p.1 = some p.2) → WRel vsr tups (picks (fun ts => ilev c nt cs ts != ilev c' nt' cs' ts) (witN cs cs' c c')) → R (.ok (.ret (.ref l))) { s with heap := h, toks := tk }),
    codeAny (model PySem.Challenge.rw_pg0244_01.row.prog w) A (.call (.ref 122) ⟨[.ref x, .ref x'], []⟩) R s := by
  k_fill
  intro w A s R mg mb loose B x dx nm ct k1 k2 k3 k4 k5 tn tc raw n si nt c vs cs x' dx' nm' ct' k1' k2' k3' k4' k5' tn' tc' raw' n' si' nt' c' vs' cs' X hrd hh hr hI hlen hlt hc hI' hlen' hlt' hc' hlt2 hR
  obtain ⟨-, T, kpB, hsz, hid⟩ := hrd
  obtain ⟨ah, ad, af, ag, au⟩ := A
  dsimp only at hh hr
  subst hh
  refine' enterKBq (B := B) (hid := wsObjs w x dx nm ct k1 k2 k3 k4 k5 tn tc raw n si nt c vs ++ wsObjs w x' dx' nm' ct' k1' k2' k3' k4' k5' tn' tc' raw' n' si' nt' c' vs') (binds := [(Str.ofString "self", .ref x), (Str.ofString "other", .ref x')]) X kpB hsz hid T.nolimit ?ho ?hcd (by show ad < _; omega) (BindsTo.of_eq ?hb) ?hl ?hc ?h1 ?h2 ?h3 ?_
  case ho => k_dflt k_is
  case hcd => k_dflt k_is
  case hb => exact rfl
  case hl => exact locs rfl
  case hc => decide
  case h1 => exact rfl
  case h2 => exact rfl
  case h3 => exact rfl
  intro L₀ h₁ tk₀ m₀ F N kp2 envv Av Qv Ev
  clear hid
  unfold wsObjs at N
  simp only [List.cons_append, List.nil_append] at N
  have hr5 : ad + 5 < recursionLimit := by omega
  have hlt1 := ltN hlt.1
  have hlt12 := ltN hlt.2.1
  have hlt13 := ltN hlt.2.2
  have hlt21 := ltN hlt'.1
  have hlt22 := ltN hlt'.2.1
  have hlt23 := ltN hlt'.2.2
  have hlt24 := ltN hlt2
  have hle := Nat.lt_trans hlen (by decide : 100 < 1000)
  have hle' := Nat.lt_trans hlen' (by decide : 100 < 1000)
  (try dsimp only)
  k_steps
  unfold Halt
  rename (Fr _ _ _ _) => F1
  refine For_invVF F1 rfl rfl ?_
  k_steps
  unfold Halt
  rename IsRange _ _ _ _ _ _ _ _ => hr1
  rename (News _ _ _ _) => N2
  rename (Fr _ _ _ _) => F2
  refine range_G rfl (n := witN cs cs' c c') (witJ _ _ (_ :: _ :: _ :: _ :: _ :: _ :: _ :: _ :: []) (fun ts => ilev c nt cs ts != ilev c' nt' cs' ts)) rfl hr1 (small_one (by omega) (by omega) (by omega) (by omega)) ?z1 F2 N2 ⟨Agree.refl, [], 0, [], rfl, WRel.nil, List.forall_mem_nil _⟩ ?_ ?_
  case z1 => rw [rangeSize_one]; unfold witN; split <;> omega
  · rintro i t m₁ news₁ h tk I oI hi ⟨ha, vsr, k, tups, hnews, hW, hne⟩ hoff F N
    rw [hnews] at N hoff
    rw [agree_chain ha] at F
    simp only [chainOf] at F
    simp only [List.cons_append, List.nil_append] at N
    clear F2 N2
    unfold witN at hi
    have hvl : vsr.length < 1000 := by
      rw [hW.1]
      exact Nat.lt_of_le_of_lt (picks_len _ i) (by omega)
    have hIl := neN (hoff _ (.head _))
    have hIl2 := neN (Ne.symm (hoff _ (.head _)))
    dsimp only at hIl hIl2
    k_steps
    all_goals have e1 : (1 : Int) + (i : Int) = ((i + 1 : Nat) : Int) := by omega
    · rename (News _ _ _ _) => N3
      refine' wit_turn_add ?yyF N3 ?yya hoff ?yyb ?yyc hne hW ?yyd
      case yyF => assumption
      case yya => repeat (first | exact Agree.refl | refine Agree.set (by simp) ?_)
      case yyb => refine Ne.symm (neN ?_); omega
      case yyc => refine Ne.symm (neN ?_); omega
      case yyd => rw [← e1]; exact bne_iff_ne.mpr (by assumption)
    · rename (News _ _ _ _) => N3
      refine' wit_turn_not ?xxF N3 ?xxa hoff hne hW ?xxd
      case xxF => assumption
      case xxa => repeat (first | exact Agree.refl | refine Agree.set (by simp) ?_)
      case xxd => rw [← e1]; exact bne_eq_false_iff_eq.mpr (by assumption)
  · rintro m₁ news₁ h tk ⟨ha, vsr, k, tups, hnews, hW, hne⟩ F N
    rw [hnews] at N
    rw [agree_chain ha] at F
    simp only [chainOf] at F
    clear F2 N2
    k_steps
    rename (News _ _ _ _) => N3
    exact hR _ _ _ vsr k tups (Fr.keep (by assumption)) (fun p hp => (N3 p (.tail _ (List.mem_append.mpr (.inl hp)))).1) (News.get N3 (.head _)) (fun p hp => (N3 p (.tail _ (List.mem_append.mpr (.inr hp)))).1) hW
theorem nle_ctr : ∀ (w : World) (A : Around) (s : Shared) (R : Result → Shared → Prop) (mg mb : Str → Option Value) (loose : List Str) (B : Heap)
    (x dx nm ct : Addr) (k1 k2 k3 k4 k5 tn tc : Tok) (raw n si : Value) (nt : Int) (c : Nat) (vs : List Value) (cs : List Int)
    (x' dx' nm' ct' : Addr) (k1' k2' k3' k4' k5' tn' tc' : Tok) (raw' n' si' : Value) (nt' : Int) (c' : Nat) (vs' : List Value) (cs' : List Int)
    (X : (hd.heap_1 w.params).In B) (hrd : Ready w B s.heap (wsObjs w x dx nm ct k1 k2 k3 k4 k5 tn tc raw n si nt c vs ++ wsObjs w x' dx' nm' ct' k1' k2' k3' k4' k5' tn' tc' raw' n' si' nt' c' vs') mg mb loose) (hh : A.handled = none) (hr : A.depth + 6 < recursionLimit)
    (hI : IntsAre vs cs) (hlen : cs.length < 100) (hlt : dx < x ∧ x < ct ∧ ct < nm) (hc : c < 100) (hI' : IntsAre vs' cs') (hlen' : cs'.length < 100) (hlt' : dx' < x' ∧ x' < ct' ∧ ct' < nm') (hc' : c' < 100) (hlt2 : nm < dx')
    (hR : ∀ h tk l vsr k tups, Kp B h → (∀ p ∈ wsObjs w x dx nm ct k1 k2 k3 k4 k5 tn tc raw n si nt c vs ++ wsObjs w x' dx' nm' ct' k1' k2' k3' k4' k5' tn' tc' raw' n' si' nt' c' vs', h.get? p.1 = some p.2) →
      h.get? l = some (listOf vsr.toArray k) → (∀ p ∈ tups, h.get? p.1 = some p.2) → WRel vsr tups (picks (fun ts => decide (ilev c' nt' cs' ts ≤ ilev c nt cs ts)) (witN cs cs' c c')) → R (.ok (.ret (.ref l))) { s with heap := h, toks := tk }),
    codeAny (model PySem.Challenge.rw_pg0244_01.row.prog w) A (.call (.ref 136) ⟨[.ref x, .ref x'], []⟩) R s := by
  k_fill
  intro w A s R mg mb loose B x dx nm ct k1 k2 k3 k4 k5 tn tc raw n si nt c vs cs x' dx' nm' ct' k1' k2' k3' k4' k5' tn' tc' raw' n' si' nt' c' vs' cs' X hrd hh hr hI hlen hlt hc hI' hlen' hlt' hc' hlt2 hR
  obtain ⟨-, T, kpB, hsz, hid⟩ := hrd
  obtain ⟨ah, ad, af, ag, au⟩ := A
  dsimp only at hh hr
  subst hh
  refine' enterKBq (B := B) (hid := wsObjs w x dx nm ct k1 k2 k3 k4 k5 tn tc raw n si nt c vs ++ wsObjs w x' dx' nm' ct' k1' k2' k3' k4' k5' tn' tc' raw' n' si' nt' c' vs') (binds := [(Str.ofString "self", .ref x), (Str.ofString "other", .ref x')]) X kpB hsz hid T.nolimit ?ho ?hcd (by show ad < _; omega) (BindsTo.of_eq ?hb) ?hl ?hc ?h1 ?h2 ?h3 ?_
  case ho => k_dflt k_is
  case hcd => k_dflt k_is
  case hb => exact rfl
  case hl => exact locs rfl
  case hc => decide
  case h1 => exact rfl
  case h2 => exact rfl
  case h3 => exact rfl
  intro L₀ h₁ tk₀ m₀ F N kp2 envv Av Qv Ev
  clear hid
  unfold wsObjs at N
  simp only [List.cons_append, List.nil_append] at N
  have hr5 : ad + 5 < recursionLimit := by omega
  have hlt1 := ltN hlt.1
  have hlt12 := ltN hlt.2.1
  have hlt13 := ltN hlt.2.2
  have hlt21 := ltN hlt'.1
  have hlt22 := ltN hlt'.2.1
  have hlt23 := ltN hlt'.2.2
  have hlt24 := ltN hlt2
  have hle := Nat.lt_trans hlen (by decide : 100 < 1000)
  have hle' := Nat.lt_trans hlen' (by decide : 100 < 1000)
  (try dsimp only)
  k_steps
  unfold Halt
  rename (Fr _ _ _ _) => F1
  refine For_invVF F1 rfl rfl ?_
  k_steps
  unfold Halt
  rename IsRange _ _ _ _ _ _ _ _ => hr1
  rename (News _ _ _ _) => N2
  rename (Fr _ _ _ _) => F2
  refine range_G rfl (n := witN cs cs' c c') (witJ _ _ (_ :: _ :: _ :: _ :: _ :: _ :: _ :: _ :: []) (fun ts => decide (ilev c' nt' cs' ts ≤ ilev c nt cs ts))) rfl hr1 (small_one (by omega) (by omega) (by omega) (by omega)) ?z1 F2 N2 ⟨Agree.refl, [], 0, [], rfl, WRel.nil, List.forall_mem_nil _⟩ ?_ ?_
  case z1 => rw [rangeSize_one]; unfold witN; split <;> omega
  · rintro i t m₁ news₁ h tk I oI hi ⟨ha, vsr, k, tups, hnews, hW, hne⟩ hoff F N
    rw [hnews] at N hoff
    rw [agree_chain ha] at F
    simp only [chainOf] at F
    simp only [List.cons_append, List.nil_append] at N
    clear F2 N2
    unfold witN at hi
    have hvl : vsr.length < 1000 := by
      rw [hW.1]
      exact Nat.lt_of_le_of_lt (picks_len _ i) (by omega)
    have hIl := neN (hoff _ (.head _))
    have hIl2 := neN (Ne.symm (hoff _ (.head _)))
    dsimp only at hIl hIl2
    k_steps
    all_goals have e1 : (1 : Int) + (i : Int) = ((i + 1 : Nat) : Int) := by omega
    · rename (News _ _ _ _) => N3
      refine' wit_turn_add ?yyF N3 ?yya hoff ?yyb ?yyc hne hW ?yyd
      case yyF => assumption
      case yya => repeat (first | exact Agree.refl | refine Agree.set (by simp) ?_)
      case yyb => refine Ne.symm (neN ?_); omega
      case yyc => refine Ne.symm (neN ?_); omega
      case yyd => rw [← e1]; exact decide_eq_true (by assumption)
    · rename (News _ _ _ _) => N3
      refine' wit_turn_not ?xxF N3 ?xxa hoff hne hW ?xxd
      case xxF => assumption
      case xxa => repeat (first | exact Agree.refl | refine Agree.set (by simp) ?_)
      case xxd => rw [← e1]; exact decide_eq_false (by assumption)
  · rintro m₁ news₁ h tk ⟨ha, vsr, k, tups, hnews, hW, hne⟩ F N
    rw [hnews] at N
    rw [agree_chain ha] at F
    simp only [chainOf] at F
    clear F2 N2
    k_steps
    rename (News _ _ _ _) => N3
    exact hR _ _ _ vsr k tups (Fr.keep (by assumption)) (fun p hp => (N3 p (.tail _ (List.mem_append.mpr (.inl hp)))).1) (News.get N3 (.head _)) (fun p hp => (N3 p (.tail _ (List.mem_append.mpr (.inr hp)))).1) hW
end Mine
namespace Mine
open PySem PySem.W PyProof.Rows
theorem flush16 {M : Model} {A : Around} {Q : Flow → Shared → Prop} {E : Value → Shared → Prop} {s : Shared} {env : Env} (h : wpAny M A (execs [] env) Q E s) : wpAny M A (execs [] env) Q E s := by
  k_with_none
  (try (walk1; fail))
  w_top off
  exact h
end Mine
namespace Mine
open PySem PySem.W PyProof.Rows PySem.Calls
set_option maxHeartbeats 8000000
set_option linter.unusedVariables false
section
variable {M : Model} {A : Around} {E : Value → Shared → Prop} {s : Shared}
/-- the code of a generator: made, or found in its table -/
theorem genCode {env : Env} {c P : Addr} {ps : Array Value} {pos : Pos} {qual : Str} {scope : Scope} {Q : Value → Shared → Prop} (C : CodeHd s.heap c P) (hP : s.heap.get? P = some (tabObj ps)) (ht : TriplesOk ps.toList) (hcode : env.code = .ref c)
    (h : ∀ cv h' tk ps', Heap.ExtBut P s.heap h' → s.heap.objs.size ≤ h'.objs.size → h'.get? P = some (tabObj ps') → TriplesOk ps'.toList → Q cv { s with heap := h', toks := tk }) :
    wpAny M A (genexprCode env pos qual scope) Q E s := by
  cases hf : codeAmong pos ps.toList with
  | some cv => exact wpAny_genexprCode_hit hcode (C.code hP ht) hf (h cv s.heap s.toks ps (fun _ _ _ e => e) (Nat.le_refl _) hP ht)
  | none =>
    refine wpAny_genexprCodeX hcode (C.code hP ht) (C.tab hP) hf fun c' h' tk hx hge hlt hok _ htb _ => ?_
    refine h _ h' tk _ hx (Nat.le_trans hge (Nat.le_of_lt hlt)) htb.2 ?_
    obtain ⟨_, _, _, _, _, _, _, _, _, op, _, _, _, _, _, _, _, hop, hod, htr, _⟩ := hok
    exact htr
end

/-- a generator that lies ready: what it needs lies in fp, not in L -/
noncomputable def GenReady (prog : Program) (w : World) (A : Around) (L g₀ : Addr) (a : Addr) (n : Nat) (F : Nat → Value → Prop) (s : Shared) : Prop :=
  ∃ fp wr g St, WalksS prog w A.in4 a fp wr (GenOnlyQ g) n F St ∧ (∀ h' tk, (∀ b ∈ fp, ∀ o, s.heap.get? b = some o → h'.get? b = some o) → St 0 { s with heap := h', toks := tk }) ∧ (∀ i s', St i s' → s'.TypeIs (.ref a) "generator") ∧ a ∈ fp ∧ (∀ b ∈ fp, b < s.heap.objs.size) ∧ L ∉ fp ∧ (∀ b ∈ wr, g₀ ≤ b)

section
variable {prog : Program} {w : World} {A : Around} {E : Value → Shared → Prop} {s : Shared}
theorem GenReady.step {L g₀ a : Addr} {n : Nat} {F : Nat → Value → Prop} {s : Shared} (X : GenReady prog w A L g₀ a n F s) {h' : Heap} {tk : Nat} (hsz : s.heap.objs.size ≤ h'.objs.size) (hk : ∀ b o, b ≠ L → s.heap.get? b = some o → h'.get? b = some o) : GenReady prog w A L g₀ a n F { s with heap := h', toks := tk } := by
  obtain ⟨fp, wr, g, St, W, h1, h2, h3, h4, h5, h6⟩ := X
  exact ⟨fp, wr, g, St, W, fun h'' tk' hk' => h1 h'' tk' fun b hb o e => hk' b hb o (hk b o (fun q => h5 (q ▸ hb)) e), h2, h3, fun b hb => Nat.lt_of_lt_of_le (h4 b hb) hsz, h5, h6⟩

theorem gen_make {L l c P : Addr} {items : Array Value} {env : Env} {elt iter : Expr} {x : Str} {px : Pos} {scope : Scope} {pos : Pos} {Q : Value → Shared → Prop} {ps : Array Value} {mg : Str → Option Value} {F : Nat → Value → Prop}
    (hh : A.handled = none) (hco : scope.isCoroutine = false) (hclos : closureFor scope env = pure []) (hcell : ∀ y ∈ scope.names, y.2 ≠ .cell) (h0 : scope.names.lookup (".0" : Str) = some NameKind.local)
    (hx : scope.names.lookup x = some .local) (hkind : scope.kind = .function) (hroom : A.depth < recursionLimit)
    (hit : ∀ (Q' : Value → Shared → Prop), Q' (.ref l) s → wpAny (model prog w) A (eval iter env) Q' E s)
    (hl : s.heap.IsList l items) (hlim : s.heap.NoLimit) (C : CodeHd s.heap c P) (hP : s.heap.get? P = some (tabObj ps)) (ht : TriplesOk ps.toList) (hcode : env.code = .ref c) (hg : s.heap.Ns env.globals mg) (hb : s.heap.BuiltinsAt mg P) (hPg : env.globals ≠ P)
    (hLl : l ≠ L) (hLs : cStatics ≠ L) (hPs : cStatics ≠ P) (hLP : L ≠ P) (hLlt : L < s.heap.objs.size)
    (hq : ∀ (code : Value) (C' : Addr) (A' : Around) E' i v (s₂ : Shared) m₂, A'.handled = none → items[i]? = some v → s₂.heap.Ns C' m₂ → m₂ x = some v → (∀ b o, b ≠ L → b ≠ P → s.heap.get? b = some o → s₂.heap.get? b = some o) → s.heap.objs.size ≤ C' →
      wpAny (model prog w) A' (eval elt (genEnv scope [] C' code builtinsNs env)) (fun y s₃ => F i y ∧ Keeps s₂ s₃) E' s₂)
    (h : ∀ a h₅ tk gs ps', gs.bare = true → (∀ b o, b ≠ P → s.heap.get? b = some o → h₅.get? b = some o) → s.heap.objs.size ≤ h₅.objs.size → h₅.get? P = some (tabObj ps') → TriplesOk ps'.toList →
      GenReady prog w A L s.heap.objs.size a items.size (fun j y => j < items.size ∧ F j y) { s with gens := s.gens.push gs, toks := tk, heap := h₅ } → Q (.ref a) { s with gens := s.gens.push gs, toks := tk, heap := h₅ })
    (hs : ∀ x, genFold iter env x = pure x) :
    wpAny (model prog w) A (eval (.GeneratorExp elt [⟨.Name x px, iter, [], 0⟩] scope pos) env) Q E s := by
  have hlt : l < s.heap.objs.size := by obtain ⟨_, e, _⟩ := hl; exact Heap.lt_size e
  have hPlt : P < s.heap.objs.size := Heap.lt_size hP
  have hlP : l ≠ P := fun e => by
    obtain ⟨o, ho, hc, _⟩ := hl
    rw [e, hP] at ho; cases ho; exact absurd hc (by simp)
  have hIlt : ∀ o, (s.heap.push o).objs.size = s.heap.objs.size + 1 := fun o => Heap.size_push ..
  refine wpAny_GeneratorExp_make hco hclos hcell h0 hkind hroom (hit _ (wpAny_pyIter_list hl ⟨hlim.push _, ?_⟩)) hs
  refine genCode (C.keeps fun b o e => Heap.get?_push_of_some _ e) (Heap.get?_push_of_some _ hP) ht hcode fun cv h₃ tk₃ ps' hx₃ hsz₃ hP₃ ht₃ => ?_
  have hx₃' : ∀ b o, b ≠ P → s.heap.get? b = some o → h₃.get? b = some o := fun b o hb e => hx₃ b o hb (Heap.get?_push_of_some _ e)
  obtain ⟨bm, ob, hbm, hne0, _, hneP, hbo, hcls, hdict, hdata⟩ := hb
  refine wpAny_builtinsFor ((hg.push _).extBut hx₃ hPg) hbm hne0 (hx₃' _ _ hneP hbo) hcls hdict hdata ?_
  intro h' hn' hs'
  have hsz3 : s.heap.objs.size + 1 ≤ h₃.objs.size := by rw [← hIlt]; exact hsz₃
  have hsz : h'.objs.size = h₃.objs.size + 1 := by rw [hs'.1, Heap.size_push]
  have keep' : ∀ b o, h₃.get? b = some o → h'.get? b = some o := fun b o e => hs'.extBut b o (Nat.ne_of_lt (Heap.lt_size e)) (Heap.get?_push_of_some _ e)
  have keep₅ : ∀ (og : Obj) b o, h₃.get? b = some o → (h'.push og).get? b = some o := fun og b o e => Heap.get?_push_of_some _ (keep' b o e)
  have hI₃ : ∃ o, h₃.get? s.heap.objs.size = some o ∧ (h₃.IsListIter s.heap.objs.size l 0) := by
    have : (s.heap.push { cls := .type "list_iterator", data := .fields #[.ref l, .int 0 0] }).IsListIter s.heap.objs.size l 0 := ⟨_, Heap.get?_push_size _ rfl, rfl, rfl⟩
    obtain ⟨o, ho, r⟩ := this
    exact ⟨o, hx₃ _ _ (Nat.ne_of_gt hPlt) ho, o, hx₃ _ _ (Nat.ne_of_gt hPlt) ho, r⟩
  obtain ⟨oI, hoI, hLI⟩ := hI₃
  have hl₃ : h₃.IsList l items := by
    obtain ⟨o, ho, r⟩ := hl
    exact ⟨o, hx₃' _ _ hlP ho, r⟩
  have hlim₃ : h₃.NoLimit := (hlim.push _).extBut hx₃ hPs
  let fp : List Addr := (List.range h₃.objs.size).filter (fun b => decide (b ≠ L))
  have mfp : ∀ b, b ∈ fp ↔ b < h₃.objs.size ∧ b ≠ L := fun b => by
    show b ∈ (List.range h₃.objs.size).filter _ ↔ _
    rw [List.mem_filter, List.mem_range, decide_eq_true_iff]
  have hclt : cStatics < h₃.objs.size := let ⟨_, hn, _⟩ := hlim₃; hn.lt
  have W₀ : ∀ A' : Around, A'.handled = none → Walks prog w A' s.heap.objs.size fp [s.heap.objs.size] items.size (fun i v => items[i]? = some v) (fun i h => h.IsListIter s.heap.objs.size l i ∧ h.IsList l items) := fun A' hA =>
    (Walks.list hA _ _ (Nat.ne_of_lt hlt) items).mono_fp fun b hb => by
      rcases List.mem_cons.mp hb with rfl | hb
      · exact (mfp _).mpr ⟨Nat.lt_of_lt_of_le (Nat.lt_succ_self _) hsz3, Nat.ne_of_gt hLlt⟩
      · rcases List.mem_cons.mp hb with rfl | hb
        · exact (mfp _).mpr ⟨Nat.lt_of_lt_of_le (Nat.lt_succ_of_lt hlt) hsz3, hLl⟩
        · cases hb
  have hsub : ∀ b ∈ [s.heap.objs.size], b ∈ fp := fun b hb => (W₀ A hh).sub b hb
  have haC : h'.objs.size ≠ h₃.objs.size := by rw [hsz]; exact Nat.succ_ne_self _
  have haf : h'.objs.size ∉ fp := fun hm => by have := ((mfp _).mp hm).1; rw [hsz] at this; exact Nat.lt_irrefl _ (Nat.lt_trans (Nat.lt_succ_self _) this)
  have hQG : ∀ href : Heap, (∀ b o, h₃.get? b = some o → href.get? b = some o) → QuietGen prog w (genEnv scope [] h₃.objs.size cv builtinsNs env) x [] elt fp [s.heap.objs.size] (fun i v => items[i]? = some v) (fun _ => true) F href := fun href hhref => {
    tests := fun A' E' i v s₂ m₂ hA hv hn hm hk => by
      simp only [List.forIn_nil]
      exact wpAny_pure ⟨rfl, _, _, rfl, fun _ _ e => e⟩
    elt := fun A' E' i v s₂ m₂ hA hv _ hn hm hk => hq cv _ A' E' i v s₂ m₂ hA hv hn hm (fun b o hbL hbP e => by
      refine hk b ((mfp b).mpr ⟨Nat.lt_of_lt_of_le (Nat.lt_succ_of_lt (Heap.lt_size e)) hsz3, hbL⟩) (fun hm => ?_) o (hhref b o (hx₃' b o hbP e))
      exact absurd (Heap.lt_size e) ((List.mem_singleton.mp hm) ▸ Nat.lt_irrefl _)) (Nat.le_of_lt hsz3) }
  have hcw : cStatics ∉ [s.heap.objs.size] := fun hm => by
    obtain ⟨_, hn, _⟩ := hlim
    have := hn.lt
    rw [List.mem_singleton.mp hm] at this
    exact Nat.lt_irrefl _ this
  have hpass : (passing (fun _ => true) items.size 0) = List.range items.size := by
    simp [passing]
  refine h _ _ _ _ ps' rfl (fun b o hb e => keep₅ _ b o (hx₃' b o hb e)) ?_ (keep₅ _ _ _ hP₃) ht₃ ?_
  · rw [Heap.size_push, hsz]; omega
  · refine ⟨_, _, _, _, (?_ : WalksS prog w A.in4 h'.objs.size (h'.objs.size :: h₃.objs.size :: fp) (h₃.objs.size :: [s.heap.objs.size]) (GenOnlyQ s.gens.size) items.size (fun j y => j < items.size ∧ F j y) (GenAt prog w A.in4 h'.objs.size s.gens.size h₃.objs.size fp [s.heap.objs.size] (fun _ => true) items.size F)), ?_, fun i s' st => st.1.typeIs, List.mem_cons_self, ?_, ?_, ?_⟩
    · have W := WalksS.genexpQ (prog := prog) (w := w) (A := A.in4) hh h'.objs.size s.gens.size h₃.objs.size fp [s.heap.objs.size] (fun _ => true) items.size F haC haf hsub hroom ((mfp _).mpr ⟨hclt, hLs⟩) (Nat.ne_of_lt hclt) hcw
      rw [hpass, List.length_range] at W
      have e : (fun j y => ∃ i, (List.range items.size)[j]? = some i ∧ F i y) = fun j y => j < items.size ∧ F j y := by
        funext j y
        apply propext
        constructor
        · rintro ⟨i, hi, hF⟩
          obtain ⟨hj, rfl⟩ := List.getElem?_eq_some_iff.mp hi
          rw [List.length_range] at hj
          rw [List.getElem_range] at hF
          exact ⟨hj, hF⟩
        · rintro ⟨hj, hF⟩
          exact ⟨j, by simp [hj], hF⟩
      rw [e] at W
      exact W
    · intro hX tkX hkX
      have W := WalksS.genexpQ (prog := prog) (w := w) (A := A.in4) hh h'.objs.size s.gens.size h₃.objs.size fp [s.heap.objs.size] (fun _ => true) items.size F haC haf hsub hroom ((mfp _).mpr ⟨hclt, hLs⟩) (Nat.ne_of_lt hclt) hcw
      refine W.frame 0 { s with gens := s.gens.push (.fresh (.compStart (.GeneratorExp elt [⟨.Name x px, iter, [], 0⟩] scope pos) 0 (.ref s.heap.objs.size) .none (genEnv scope [] h₃.objs.size cv builtinsNs env))), toks := tkX, heap := h'.push { cls := .type "generator", data := .fields #[.int s.gens.size 0, .str "<genexpr>" (tk₃ + 1), .str (env.qual ++ "<genexpr>") (tk₃ + 1 + 1)] } } hX tkX ?_ (Nat.le_refl _) hkX
      exact GenAt.fresh (A := A.in4) (cenv := genEnv scope [] h₃.objs.size cv builtinsNs env) (m := fun y => if y = ".0" then some (.ref s.heap.objs.size) else none) hh W₀ (fun _ => true) F hx (by simp [genEnv, hkind]) hco
        (fun hm => Nat.lt_irrefl _ ((mfp _).mp hm).1) (hQG _ (keep₅ _)) ⟨_, _, _, Heap.get?_push_size _ rfl, rfl, rfl, rfl⟩ (Array.getElem?_push_size ..) ((W₀ A hh).frame _ _ _ ⟨hLI, hl₃⟩ fun b _ o e => keep₅ _ b o e) (hn'.push _) (hlim₃.keeps (keep₅ _))
    · intro b hb
      show b < (h'.push _).objs.size
      rw [Heap.size_push, hsz]
      rcases List.mem_cons.mp hb with rfl | hb
      · rw [hsz]; exact Nat.lt_succ_self _
      · rcases List.mem_cons.mp hb with rfl | hb
        · exact Nat.lt_succ_of_lt (Nat.lt_succ_self _)
        · exact Nat.lt_succ_of_lt (Nat.lt_succ_of_lt ((mfp _).mp hb).1)
    · intro hm
      have hL3 : L < h₃.objs.size := Nat.lt_of_lt_of_le (Nat.lt_succ_of_lt hLlt) hsz3
      rcases List.mem_cons.mp hm with e | hm
      · rw [e, hsz] at hL3; exact Nat.lt_irrefl _ (Nat.lt_trans (Nat.lt_succ_self _) hL3)
      · rcases List.mem_cons.mp hm with e | hm
        · rw [e] at hL3; exact Nat.lt_irrefl _ hL3
        · exact ((mfp _).mp hm).2 rfl
    · intro b hb
      rcases List.mem_cons.mp hb with rfl | hb
      · exact Nat.le_of_succ_le hsz3
      · rw [List.mem_singleton.mp hb]; exact Nat.le_refl _
variable {h₀ : Heap} {L : Addr} {m : Str → Option Value} {news : List (Addr × Obj)}
theorem join_ready {g₀ a : Addr} {n : Nat} {F : Nat → Value → Prop} {sep : Str} {t : Tok} {Q : Value → Shared → Prop} (Fh : Fr h₀ L s.heap m) (N : News h₀ L s.heap news) (X : GenReady prog w A L g₀ a n F s) (hN : ∀ p ∈ news, p.1 < g₀) (hL : L < g₀)
    (tx : Nat → Str) (htx : ∀ j v, F j v → ∃ u, v = .str (tx j) u) (hok : JoinOk sep ((List.range n).map tx) = true) (hsz : n ≤ sizeLine)
    (hQ : ∀ h' tk gs t', Fr h₀ L h' m → News h₀ L h' news → (∀ b o, b < g₀ → s.heap.get? b = some o → h'.get? b = some o) → (AllBare s.gens → AllBare gs) → Q (.str (Txt.join sep ((List.range n).map tx)) t') { s with heap := h', toks := tk, gens := gs }) :
    wpAny (model prog w) A (call (.builtin "str.join") [.str sep t, .ref a]) Q E s := by
  obtain ⟨fp, wr, g, St, W, hst, hT, ha, hfp, hLf, hwr⟩ := X
  have W := W.in4_2
  refine SC.joinGen W hT (hst s.heap s.toks fun _ _ _ e => e) hfp ha (fun j v hv => let ⟨u, e⟩ := htx j v hv; ⟨_, u, e⟩) (fun s' lt hm hacc => ?_) hsz
  have hl : lt.map (·.1) = (List.range n).map tx := by
    apply List.ext_getElem?
    intro j
    have hsz : lt.length = n := by simpa [strValues] using hacc.1
    by_cases hj : j < n
    · have hj' : j < lt.length := hsz ▸ hj
      obtain ⟨u, hv⟩ := htx j _ (hacc.2 j (.str lt[j].1 lt[j].2) (by simp [strValues, List.getElem?_eq_getElem hj']))
      injection hv with h1 _
      simp [List.getElem?_eq_getElem hj', hj, h1]
    · rw [List.getElem?_eq_none (by simpa [hsz] using Nat.le_of_not_lt hj), List.getElem?_eq_none (by simpa using Nat.le_of_not_lt hj)]
  rw [hl]
  have f1 := Fh.moved hm fun b hb => Nat.lt_of_lt_of_le hL (hwr b hb)
  have k1 : ∀ b o, b < g₀ → s.heap.get? b = some o → s'.heap.get? b = some o := fun b o hb e => hm.heap b o (fun hmem => Nat.lt_irrefl _ (Nat.lt_of_lt_of_le hb (hwr b hmem))) e
  have n1 : News h₀ L s'.heap news := fun p hp => ⟨k1 _ _ (hN p hp) (N p hp).1, (N p hp).2⟩
  refine ⟨hok, fun t' k => ?_⟩
  have := hQ s'.heap k s'.gens t' f1 n1 k1 (fun G => G.movedS hm)
  obtain ⟨_, _, d', _, os'⟩ := s'
  have e1 := hm.os
  have e2 := hm.drawn
  dsimp only at e1 e2
  subst e1 e2
  exact this
theorem store_R {A' : Around} {M : Model} {env : Env} {g₀ a : Addr} {n : Nat} {F' : Nat → Value → Prop} {x : Str} {v : Value} {Q : Unit → Shared → Prop} (hL : env.locals = L) (F : Fr h₀ L s.heap m) (N : News h₀ L s.heap news)
    (X : GenReady prog w A' L g₀ a n F' ⟨s.heap, s.gens, s.drawn, 0, s.os⟩) (hx : env.kindOf x = some .local) (hp : (env.scope.kind == .class || (env.scope.kind == .module && env.locals != env.globals)) = false)
    (h : ∀ h', Fr h₀ L h' (fun y => if y = x then some v else m y) → News h₀ L h' news → GenReady prog w A' L g₀ a n F' ⟨h', s.gens, s.drawn, 0, s.os⟩ → Q () { s with heap := h', toks := s.toks + 1 }) : wpAny M A (storeName env x v) Q E s := by
  subst hL
  refine wpAny_storeName_local hx F.ns (fun h' hn hs => h h' (F.set hn hs) (N.set hs) ?_) hp
  exact X.step (Nat.le_of_eq hs.1.symm) fun b o hb e => (hs.2 b hb).trans e
end
end Mine
namespace Mine
open PySem PySem.W PyProof.Rows
theorem flush17 {M : Model} {A : Around} {Q : Flow → Shared → Prop} {E : Value → Shared → Prop} {s : Shared} {env : Env} (h : wpAny M A (execs [] env) Q E s) : wpAny M A (execs [] env) Q E s := by
  k_with_none
  (try (walk1; fail))
  w_top off
  exact h
end Mine
namespace Mine
open PySem PySem.W PyProof.Rows PySem.Calls
set_option maxHeartbeats 1000000
set_option linter.unusedVariables false
noncomputable def numT (n : Nat) : Str := Str.ofString (toString (n : Int))
noncomputable def repTxt (ns : List Nat) : Str := (if 1 < ns.length then Str.ofString "at tab sizes" else Str.ofString "at tab size") ++ Str.ofString " " ++ Txt.join (Str.ofString ", ") (ns.map numT)
theorem numT_len : ∀ n < 100, (numT n).length ≤ 2 := by decide +kernel
theorem numT_sum : ∀ (ns : List Nat), (∀ n ∈ ns, n < 100) → ((ns.map numT).map (·.length)).sum ≤ 2 * ns.length
  | [], _ => Nat.le_refl _
  | n :: r, h => by
    have h1 := numT_sum r fun m hm => h m (.tail _ hm)
    have h2 := numT_len n (h n (.head _))
    simp only [List.map_cons, List.sum_cons, List.length_cons]
    omega
theorem num_joinOk {ns : List Nat} (hn : ns.length < 40) (h : ∀ n ∈ ns, n < 100) : JoinOk (Str.ofString ", ") (ns.map numT) = true := by
  refine joinOk_of ?_
  have h1 := numT_sum ns h
  have h2 : (Str.ofString ", ").length = 2 := rfl
  rw [h2, List.length_map]
  omega
theorem range_num (ns : List Nat) : (List.range ns.length).map (fun j => numT (ns.getD j 0)) = ns.map numT := by
  apply List.ext_getElem?
  intro j
  simp only [List.getElem?_map, List.getElem?_range', List.getD_eq_getElem?_getD]
  by_cases hj : j < ns.length
  · simp [hj]
  · simp [hj]
theorem kset19 : True := by
  k_with_none
  k_with "eval GeneratorExp" =>
    refine halt ?_
  trivial
local macro_rules | `(tactic| walk_at "storeName") => `(tactic| (refine' store_R ?k1 ?k2 ?k3 ?k4 ?k5 ?k6 ?_; (case k2 => k_asm); (case k3 => k_asm); (case k1 => with_unfolding_all rfl); (case k4 => with_unfolding_all assumption); (case k5 => with_unfolding_all rfl); (case k6 => with_unfolding_all rfl); intro h' F' N' X'; (try k_sweep)))
theorem kset20 : True := by
  k_with "call builtin:str.join" =>
    refine halt ?_
  k_with "call builtin:len" =>
    refine len_list (stays_list (Fr.keep (by assumption)) (by assumption)) (by assumption) ?_
  trivial
theorem fmt_ctr : ∀ (w : World) (A : Around) (s : Shared) (R : Result → Shared → Prop) (mg mb : Str → Option Value) (loose : List Str) (B : Heap) (l : Addr) (vsr : List Value) (k : Nat) (tups : List (Addr × Obj)) (ns : List Nat) (ps : Array Value)
    (X : (hd.heap_1 w.params).In B) (hrd : Ready w B s.heap [(145, tabObj ps)] mg mb loose) (hbm : B.BuiltinsAt mg 145) (ht : TriplesOk ps.toList) (hh : A.handled = none) (hr : A.depth + 3 < recursionLimit)
    (hl : B.get? l = some (listOf vsr.toArray k)) (htp : ∀ p ∈ tups, B.get? p.1 = some p.2) (hW : WRel vsr tups ns) (hn : ns.length < 40) (hns : ∀ n ∈ ns, n < 100)
    (hR : ∀ h tk gs ps' t, Kp B h → h.get? 145 = some (tabObj ps') → TriplesOk ps'.toList → (AllBare s.gens → AllBare gs) → R (.ok (.ret (.str (repTxt ns) t))) { s with heap := h, toks := tk, gens := gs }),
    codeAny (model PySem.Challenge.rw_pg0244_01.row.prog w) A (.call (.ref 150) ⟨[.ref l], []⟩) R s := by
  k_fill
  intro w A s R mg mb loose B l vsr k tups ns ps X hrd hbm ht hh hr hl htp hW hn hns hR
  obtain ⟨-, T, kpB, hsz, hid⟩ := hrd
  obtain ⟨ah, ad, af, ag, au⟩ := A
  dsimp only at hh hr
  subst hh
  refine' enterKB (B := B) (hid := [(145, tabObj ps)]) (binds := [(Str.ofString "w", .ref l)]) X kpB hsz hid T.nolimit ?ho ?hcd (by show ad < _; omega) (BindsTo.of_eq ?hb) ?hl ?hc ?h1 ?h2 ?h3 ?_
  case ho => k_dflt k_is
  case hcd => k_dflt k_is
  case hb => exact rfl
  case hl => exact locs rfl
  case hc => decide
  case h1 => exact rfl
  case h2 => exact rfl
  case h3 => exact rfl
  intro h₁ F N kp2
  clear hid
  (try dsimp only)
  k_steps
  unfold Halt
  rename (Fr _ _ _ _) => F1
  rename (News _ _ _ _) => N1
  have hC : CodeHd B 149 145 := codeHd_of_K (c := 149) (P := 145) X (by kernel_rfl)
  have hfit : ((vsr.toArray.size : Nat) : Int) < 2 ^ 63 := by
    rw [List.size_toArray, hW.1]; exact Int.lt_of_lt_of_le (Int.ofNat_lt.mpr hn) (by decide)
  have hlB : B.IsList l vsr.toArray := ⟨_, hl, rfl, _, rfl⟩
  refine gen_make (L := s.heap.objs.size) (c := 149) (P := 145) (l := l) (items := vsr.toArray) (ps := ps) (mg := mg) (F := fun i y => ∃ t, y = .str (numT (ns.getD i 0)) t) rfl rfl rfl (by decide) rfl rfl rfl (by show ad + 1 < _; omega) ?hit (hlB.at fun o e => F1.keep _ _ e) (T.nolimit.keeps F1.keep) (hC.keeps F1.keep) (N1 _ (.head _)).1 ht rfl (T.g.keeps F1.keep) (hbm.keeps F1.keep) ?g1 ?g2 ?g3 ?g4 ?g5 ?g6 ?hq ?hk ?hs
  case hit => exact fun Q' hq' => ld F1 rfl hq'
  case g1 => show mainGlobals ≠ 145; decide
  case g2 => exact Nat.ne_of_lt (Nat.lt_of_lt_of_le (Heap.lt_size hl) hsz)
  case g3 => exact (let ⟨_, hn, _⟩ := T.nolimit; Nat.ne_of_lt (Nat.lt_of_lt_of_le hn.lt hsz))
  case g4 => decide
  case g5 => exact Ne.symm (N1 _ (.head _)).2.1
  case g6 => exact F1.ns.lt
  case hs => intro x; rfl
  case hq =>
    intro code C' A' E' i v s₂ m₂ hA hv hnsC hm hk hC'
    obtain ⟨ah, ad', af', ag', au'⟩ := A'
    dsimp only at hA
    subst hA
    have hkB : ∀ b o, B.get? b = some o → s₂.heap.get? b = some o := fun b o e => hk b o (Nat.ne_of_lt (Nat.lt_of_lt_of_le (Heap.lt_size e) hsz)) (fun q => by rw [q, (N1 _ (.head _)).2.2] at e; cases e) (F1.keep _ _ e)
    have hi : i < ns.length := by
      rw [← hW.1]
      have := (Array.getElem?_eq_some_iff.mp hv).1
      simpa using this
    obtain ⟨a, t, v2, v3, e1, e2⟩ := hW.2 i ns[i] (List.getElem?_eq_getElem hi)
    have e3 : v = .ref a := by
      have : vsr[i]? = some v := by simpa using hv
      rw [e1] at this; exact (Option.some.inj this).symm
    subst e3
    have hT : IsTup s₂.heap a (List.toArray [.int (ns[i] : Int) t, v2, v3]) := ⟨_, hkB _ _ (htp _ e2), rfl, _, rfl⟩
    have hng : s₂.heap.Ns mainGlobals mg := T.g.keeps hkB
    have hnb : s₂.heap.Ns builtinsNs mb := T.b.keeps hkB
    have hms : mg (Str.ofString "str") = none := mg_none_of X T.g (by k_dflt k_is)
    have hbs : mb (Str.ofString "str") = some (.type "str") := (T.builtins _ (by decide)).trans (by boot_fast)
    have hsm : ns[i] < 100 := hns ns[i] (List.getElem_mem hi)
    refine wpAny_Call_NameR ?_
    refine Name_function_global rfl rfl (loadGlobal_builtin hng hms hnb hbs ?_)
    walk1
    walk1
    walk1
    refine wpAny_Name (wpAny_loadName_local rfl rfl hnsC hm ?_) (by decide)
    walk1
    refine item_tupleT (l := [.int (ns[i] : Int) t, v2, v3]) hT (by decide) (by decide) rfl rfl ?_ (by with_unfolding_all rfl)
    walk1
    refine P.str_of_int (shown (N := 2 ^ 1920) (by omega) (by omega) (Int.le_refl _)) ?_
    refine ⟨⟨s₂.toks + 1, ?_⟩, s₂.heap, s₂.toks + 1 + 1, rfl, fun _ _ e => e⟩
    rw [List.getD_eq_getElem?_getD, List.getElem?_eq_getElem hi]
    rfl
  case hk =>
    intro a h₅ tk₅ gs ps' hbare hk5 hsz5 hP5 ht5 GR
    have hB145 : B.get? 145 = none := (N1 _ (.head _)).2.2
    have F5 : Fr B s.heap.objs.size h₅ (fun y => [(Str.ofString "w", Value.ref l)].reverse.lookup y) := ⟨F1.ns.at' fun o e => hk5 _ _ (Ne.symm (N1 _ (.head _)).2.1) e, fun b o e => hk5 b o (fun q => by rw [q, hB145] at e; cases e) (F1.keep b o e), F1.above⟩
    have N5 : News B s.heap.objs.size h₅ [(145, tabObj ps')] := List.forall_mem_cons.mpr ⟨⟨hP5, (N1 _ (.head _)).2⟩, List.forall_mem_nil _⟩
    have GR' : GenReady (PySem.Challenge.rw_pg0244_01.row.prog) w _ s.heap.objs.size h₁.objs.size a _ _ ⟨h₅, s.gens.push gs, s.drawn, 0, s.os⟩ := GR
    have h5B : Kp B h₅ := F5.keep
    have hg1 : h₁.objs.size ≤ h₅.objs.size := hsz5
    have h145 : (145 : Addr) < h₁.objs.size := Heap.lt_size (N1 _ (.head _)).1
    have hLlt := F1.ns.lt
    clear GR F1 N1
    have hsz7 : vsr.toArray.size = ns.length := by rw [List.size_toArray]; exact hW.1
    have hjo : JoinOk (Str.ofString ", ") ((List.range vsr.toArray.size).map fun j => numT (ns.getD j 0)) = true := by rw [hsz7, range_num]; exact num_joinOk hn hns
    have hsl : vsr.toArray.size ≤ sizeLine := by rw [hsz7, sizeLine_eq]; omega
    have hjl : (Txt.join (Str.ofString ", ") (ns.map numT)).length ≤ 1000 := by
      have h0 : Txt.join (Str.ofString ", ") (ns.map numT) = Str.join (Str.ofString ", ") (ns.map numT) := eq_of_beq (join_plain_closes _ _)
      rw [h0]
      have h1 := StrLaws.join_length_le (Str.ofString ", ") (ns.map numT)
      have h2 := numT_sum ns hns
      have h3 : (Str.ofString ", ").length = 2 := rfl
      rw [h3, List.length_map] at h1
      omega
    have hrn : (List.range vsr.toArray.size).map (fun j => numT (ns.getD j 0)) = ns.map numT := by rw [hsz7, range_num]
    k_steps
    all_goals unfold Halt
    all_goals
      rename (Fr _ _ _ _) => F7
      rename (News _ _ _ _) => N7
      rename (GenReady _ _ _ _ _ _ _ _ _) => X7
      refine join_ready F7 N7 X7 (List.forall_mem_cons.mpr ⟨h145, List.forall_mem_nil _⟩) hLlt (fun j => numT (ns.getD j 0)) (fun j v hv => hv.2) hjo hsl fun h' tk gs' t' F8 N8 k8 b8 => ?_
      rw [hrn]
      refine add_str (fun t'' tk'' => ?_) (by rw [sizeLine_eq]; refine Nat.le_trans (Nat.add_le_add_left hjl _) ?_; decide +kernel)
    · have e : repTxt ns = Str.ofString "at tab size" ++ Str.ofString "s" ++ Str.ofString " " ++ Txt.join (Str.ofString ", ") (ns.map numT) := by
        unfold repTxt
        rw [if_pos (by omega)]
        rfl
      rw [← e]
      exact hR _ _ _ ps' _ F8.keep (N8 _ (.head _)).1 ht5 fun G => b8 (G.push hbare)
    · have e : repTxt ns = Str.ofString "at tab size" ++ Str.ofString " " ++ Txt.join (Str.ofString ", ") (ns.map numT) := by
        unfold repTxt
        rw [if_neg (by omega)]
      rw [← e]
      exact hR _ _ _ ps' _ F8.keep (N8 _ (.head _)).1 ht5 fun G => b8 (G.push hbare)
end Mine
namespace Mine
open PySem PySem.W PyProof.Rows
theorem flush18 {M : Model} {A : Around} {Q : Flow → Shared → Prop} {E : Value → Shared → Prop} {s : Shared} {env : Env} (h : wpAny M A (execs [] env) Q E s) : wpAny M A (execs [] env) Q E s := by
  k_with_none
  (try (walk1; fail))
  w_top off
  exact h
end Mine
namespace Mine
open PySem PySem.W PyProof.Rows PySem.Calls
set_option maxHeartbeats 2000000
set_option linter.unusedVariables false
section
variable {w : World} {A : Around} {E : Value → Shared → Prop} {s : Shared} {t u : Tok} {Q : Value → Shared → Prop} {h₀ h h' : Heap} {L : Addr} {m : Str → Option Value} {news : List (Addr × Obj)}
  {dp un : Nat} {fr : Option (List Env)} {gd : Option (List Code)} {env : Env} {mg mb : Str → Option Value} {loose : List Str}
theorem ws_K {z : Str} {tb : Bool} {a c : Nat} (F : Fr h₀ L s.heap m) (N : News h₀ L s.heap news) (X : (hd.heap_1 w.params).In h₀) (T : TopRead viewQ loose mg mb h₀) (hr : dp + 8 < recursionLimit) (hz : z = wsTxt tb a c) (ha : a < 8) (hc : c < 24)
    (hq : ∀ h' tk x dx nm ct k1 k2 k3 k4 k5 tn tc raw n si nt vs, Fr h₀ L h' m → News h₀ L h' ((x, instObj 139 dx) :: (dx, wsDict w k1 k2 k3 k4 k5 raw n (.int nt tn) (.ref nm) si) :: (nm, tupO [.ref ct, .int (c : Int) tc]) :: (ct, tupO vs) :: news) →
      nt = (if tb then 1 else 0) → IntsAre vs (cnt tb a) → dx < x ∧ x < ct ∧ ct < nm → (∀ p ∈ news, p.1 < dx) → Q (.ref x) { s with heap := h', toks := tk }) :
    wpAny (model PySem.Challenge.rw_pg0244_01.row.prog w) (Around.deeper { depth := dp, frames := fr, guards := gd, units := un } env) (call (.ref 139) [.str z t]) Q E s := by
  subst hz
  refine wpAny_call (ws_ctr w _ s _ mg mb loose tb a c t (X.keeps F.keep) (T.keeps F.keep) rfl (by show dp + 1 + 5 < _; omega) ha hc fun h' tk x dx nm ct k1 k2 k3 k4 k5 tn tc raw n si nt vs kp ho hnt hI hlt hdx hf => ?_)
  have hx := fun (p : Addr × Obj) (hp : p ∈ [(x, instObj 139 dx), (dx, wsDict w k1 k2 k3 k4 k5 raw n (.int nt tn) (.ref nm) si), (nm, tupO [.ref ct, .int (c : Int) tc]), (ct, tupO vs)]) => (⟨by
    simp only [List.mem_cons, List.not_mem_nil, or_false] at hp
    rcases hp with rfl | rfl | rfl | rfl <;> exact hf _ (by simp), ho p hp⟩ : s.heap.get? p.1 = none ∧ h'.get? p.1 = some p.2)
  refine hq h' tk x dx nm ct k1 k2 k3 k4 k5 tn tc raw n si nt vs (Fr.kept F kp) (News.adds (extra := [_, _, _, _]) N F kp hx) hnt hI hlt fun p hp => Nat.lt_of_lt_of_le (Heap.lt_size (N p hp).1) hdx
theorem cnt_len (tb : Bool) (a : Nat) (ha : a < 8) : (cnt tb a).length < 100 := by
  unfold cnt
  cases tb <;> simp <;> omega
section
variable {x dx nm ct : Addr} {k1 k2 k3 k4 k5 tn tc : Tok} {raw n si : Value} {nt : Int} {c : Nat} {vs : List Value} {cs : List Int}
  {x' dx' nm' ct' : Addr} {k1' k2' k3' k4' k5' tn' tc' : Tok} {raw' n' si' : Value} {nt' : Int} {c' : Nat} {vs' : List Value} {cs' : List Int}
theorem neq_K (F : Fr h₀ L s.heap m) (N : News h₀ L s.heap news) (X : (hd.heap_1 w.params).In h₀) (T : TopRead viewQ loose mg mb h₀) (hr : dp + 8 < recursionLimit)
    (h1 : (x, instObj 139 dx) ∈ news) (h2 : (dx, wsDict w k1 k2 k3 k4 k5 raw n (.int nt tn) (.ref nm) si) ∈ news) (h3 : (nm, tupO [.ref ct, .int (c : Int) tc]) ∈ news) (h4 : (ct, tupO vs) ∈ news)
    (h5 : (x', instObj 139 dx') ∈ news) (h6 : (dx', wsDict w k1' k2' k3' k4' k5' raw' n' (.int nt' tn') (.ref nm') si') ∈ news) (h7 : (nm', tupO [.ref ct', .int (c' : Int) tc']) ∈ news) (h8 : (ct', tupO vs') ∈ news)
    (hI : IntsAre vs cs) (hlen : cs.length < 100) (hlt : dx < x ∧ x < ct ∧ ct < nm) (hc : c < 100) (hI' : IntsAre vs' cs') (hlen' : cs'.length < 100) (hlt' : dx' < x' ∧ x' < ct' ∧ ct' < nm') (hc' : c' < 100) (hlt2 : nm < dx')
    (hq : ∀ h' tk l vsr k tups, Fr h₀ L h' m → News h₀ L h' news → h'.get? l = some (listOf vsr.toArray k) → (∀ p ∈ tups, h'.get? p.1 = some p.2) → WRel vsr tups (picks (fun ts => ilev c nt cs ts != ilev c' nt' cs' ts) (witN cs cs' c c')) → Q (.ref l) { s with heap := h', toks := tk }) :
    wpAny (model PySem.Challenge.rw_pg0244_01.row.prog w) (Around.deeper { depth := dp, frames := fr, guards := gd, units := un } env) (call (.ref 122) [.ref x, .ref x']) Q E s := by
  have hm : ∀ p ∈ wsObjs w x dx nm ct k1 k2 k3 k4 k5 tn tc raw n si nt c vs ++ wsObjs w x' dx' nm' ct' k1' k2' k3' k4' k5' tn' tc' raw' n' si' nt' c' vs', p ∈ news := fun p hp => (List.mem_append.mp hp).elim (wsObjs_mem h1 h2 h3 h4 p) (wsObjs_mem h5 h6 h7 h8 p)
  have rd := ready_of F N X T hm
  refine wpAny_call (neq_ctr w _ s _ mg mb loose _ x dx nm ct k1 k2 k3 k4 k5 tn tc raw n si nt c vs cs x' dx' nm' ct' k1' k2' k3' k4' k5' tn' tc' raw' n' si' nt' c' vs' cs' rd.X rd rfl (by show dp + 1 + 6 < _; omega) hI hlen hlt hc hI' hlen' hlt' hc' hlt2 fun h' tk l vsr k tups kp ho hl ht hW => ?_)
  have kp' := kp_hide (fun p hp => (rd.hid p hp).1) kp ho
  exact hq h' tk l vsr k tups (Fr.kept F kp') (News.kept N kp') hl ht hW
theorem nle_K (F : Fr h₀ L s.heap m) (N : News h₀ L s.heap news) (X : (hd.heap_1 w.params).In h₀) (T : TopRead viewQ loose mg mb h₀) (hr : dp + 8 < recursionLimit)
    (h1 : (x, instObj 139 dx) ∈ news) (h2 : (dx, wsDict w k1 k2 k3 k4 k5 raw n (.int nt tn) (.ref nm) si) ∈ news) (h3 : (nm, tupO [.ref ct, .int (c : Int) tc]) ∈ news) (h4 : (ct, tupO vs) ∈ news)
    (h5 : (x', instObj 139 dx') ∈ news) (h6 : (dx', wsDict w k1' k2' k3' k4' k5' raw' n' (.int nt' tn') (.ref nm') si') ∈ news) (h7 : (nm', tupO [.ref ct', .int (c' : Int) tc']) ∈ news) (h8 : (ct', tupO vs') ∈ news)
    (hI : IntsAre vs cs) (hlen : cs.length < 100) (hlt : dx < x ∧ x < ct ∧ ct < nm) (hc : c < 100) (hI' : IntsAre vs' cs') (hlen' : cs'.length < 100) (hlt' : dx' < x' ∧ x' < ct' ∧ ct' < nm') (hc' : c' < 100) (hlt2 : nm < dx')
    (hq : ∀ h' tk l vsr k tups, Fr h₀ L h' m → News h₀ L h' news → h'.get? l = some (listOf vsr.toArray k) → (∀ p ∈ tups, h'.get? p.1 = some p.2) → WRel vsr tups (picks (fun ts => decide (ilev c' nt' cs' ts ≤ ilev c nt cs ts)) (witN cs cs' c c')) → Q (.ref l) { s with heap := h', toks := tk }) :
    wpAny (model PySem.Challenge.rw_pg0244_01.row.prog w) (Around.deeper { depth := dp, frames := fr, guards := gd, units := un } env) (call (.ref 136) [.ref x, .ref x']) Q E s := by
  have hm : ∀ p ∈ wsObjs w x dx nm ct k1 k2 k3 k4 k5 tn tc raw n si nt c vs ++ wsObjs w x' dx' nm' ct' k1' k2' k3' k4' k5' tn' tc' raw' n' si' nt' c' vs', p ∈ news := fun p hp => (List.mem_append.mp hp).elim (wsObjs_mem h1 h2 h3 h4 p) (wsObjs_mem h5 h6 h7 h8 p)
  have rd := ready_of F N X T hm
  refine wpAny_call (nle_ctr w _ s _ mg mb loose _ x dx nm ct k1 k2 k3 k4 k5 tn tc raw n si nt c vs cs x' dx' nm' ct' k1' k2' k3' k4' k5' tn' tc' raw' n' si' nt' c' vs' cs' rd.X rd rfl (by show dp + 1 + 6 < _; omega) hI hlen hlt hc hI' hlen' hlt' hc' hlt2 fun h' tk l vsr k tups kp ho hl ht hW => ?_)
  have kp' := kp_hide (fun p hp => (rd.hid p hp).1) kp ho
  exact hq h' tk l vsr k tups (Fr.kept F kp') (News.kept N kp') hl ht hW
end
noncomputable def isTy (p : Addr × Obj) : Bool := match p.2.cls with | .type _ => true | _ => false
theorem WRel.only {vs : List Value} {tups : List (Addr × Obj)} {ns : List Nat} (x : WRel vs tups ns) : WRel vs (tups.filter isTy) ns :=
  ⟨x.1, fun i n e => let ⟨a, t, v2, v3, h1, h2⟩ := x.2 i n e; ⟨a, t, v2, v3, h1, List.mem_filter.mpr ⟨h2, rfl⟩⟩⟩
theorem fmt_K {l : Addr} {vsr : List Value} {k : Nat} {tups : List (Addr × Obj)} {ns : List Nat} {ps : Array Value} (F : Fr h₀ L s.heap m) (N : News h₀ L s.heap ((145, tabObj ps) :: news)) (X : (hd.heap_1 w.params).In h₀) (T : TopRead viewQ loose mg mb h₀) (hbm : h₀.BuiltinsAt mg 145) (ht : TriplesOk ps.toList) (hr : dp + 8 < recursionLimit)
    (hne : ∀ p ∈ news, p.1 ≠ 145) (hl : s.heap.get? l = some (listOf vsr.toArray k)) (htp : ∀ p ∈ tups, s.heap.get? p.1 = some p.2) (hW : WRel vsr tups ns) (hn : ns.length < 40) (hns : ∀ n ∈ ns, n < 100)
    (hq : ∀ h' tk gs ps' t, Fr h₀ L h' m → News h₀ L h' ((145, tabObj ps') :: news) → TriplesOk ps'.toList → (AllBare s.gens → AllBare gs) → (∀ b o, b ≠ 145 → s.heap.get? b = some o → h'.get? b = some o) → Q (.str (repTxt ns) t) { s with heap := h', toks := tk, gens := gs }) :
    wpAny (model PySem.Challenge.rw_pg0244_01.row.prog w) (Around.deeper { depth := dp, frames := fr, guards := gd, units := un } env) (call (.ref 150) [.ref l]) Q E s := by
  have hm : ∀ p ∈ [((145 : Addr), tabObj ps)], p ∈ (145, tabObj ps) :: news := List.forall_mem_cons.mpr ⟨.head _, List.forall_mem_nil _⟩
  have rd := ready_of F N X T hm
  have h145 := (N _ (.head _)).1
  have hk : ∀ b o, b ≠ 145 → s.heap.get? b = some o → (hideAll s.heap ([((145 : Addr), tabObj ps)].map (·.1))).get? b = some o := fun b o hb e => hideAll_get _ e fun hm => hb (List.mem_singleton.mp hm)
  have hb : (hideAll s.heap ([((145 : Addr), tabObj ps)].map (·.1))).BuiltinsAt mg 145 := hbm.keeps (base_hide F N hm)
  have hl145 : l ≠ 145 := fun e => by
    rw [e] at hl
    have h145' : s.heap.get? 145 = some (tabObj ps) := h145
    rw [h145'] at hl; cases hl
  refine wpAny_call (fmt_ctr w _ s _ mg mb loose _ l vsr k (tups.filter isTy) ns ps rd.X rd hb ht rfl (by show dp + 1 + 3 < _; omega) (hk _ _ hl145 hl) (fun p hp => hk _ _ (fun e => ?_) (htp p (List.mem_filter.mp hp).1)) hW.only hn hns fun h' tk gs ps' t kp hp ht' hg => ?_)
  · obtain ⟨hp1, hp2⟩ := List.mem_filter.mp hp
    have h1 := htp p hp1
    have h145' : s.heap.get? 145 = some (tabObj ps) := h145
    rw [e, h145'] at h1
    unfold isTy at hp2
    rw [← Option.some.inj h1] at hp2
    cases hp2
  · have kall : ∀ b o, b ≠ 145 → s.heap.get? b = some o → h'.get? b = some o := fun b o hb e => kp b o (hk b o hb e)
    refine hq h' tk gs ps' t (fr_hide F N hm kp) (List.forall_mem_cons.mpr ⟨⟨hp, (N _ (.head _)).2⟩, fun p hp => ⟨kall _ _ (hne p hp) (N p (.tail _ hp)).1, (N p (.tail _ hp)).2⟩⟩) ht' hg kall
end
end Mine
namespace Mine
open PySem PySem.W PyProof.Rows
theorem flush19 {M : Model} {A : Around} {Q : Flow → Shared → Prop} {E : Value → Shared → Prop} {s : Shared} {env : Env} (h : wpAny M A (execs [] env) Q E s) : wpAny M A (execs [] env) Q E s := by
  k_with_none
  (try (walk1; fail))
  w_top off
  exact h
end Mine
namespace Mine
open PySem PySem.W PyProof.Rows PySem.Calls
set_option maxHeartbeats 2000000
set_option linter.unusedVariables false
theorem txt1 : ∀ tabs < 2, ∀ blanks < 24, Txt.mul (Str.ofString "\t") ((tabs : Nat) : Int) ++ Txt.mul (Str.ofString " ") ((blanks : Nat) : Int) = wsTxt (decide (tabs = 1)) 0 blanks := by decide +kernel
theorem txt2 : ∀ run < 8, ∀ behind < 4, Txt.mul (Str.ofString " ") ((run : Nat) : Int) ++ Str.ofString "\t" ++ Txt.mul (Str.ofString " ") ((behind : Nat) : Int) = wsTxt true run behind := by decide +kernel
theorem oth_fin : ∀ run : Nat, run < 8 → ∀ ts : Nat, ts < 8 → 0 < ts → ilT ts (cnt true run) ((cnt true run).length - (ts : Int).toNat) = ((run / ts : Nat) : Int) := by decide +kernel
theorem cnt_length (run : Nat) : (cnt true run).length = run + 1 := by simp [cnt]
theorem oth_il (run behind ts : Nat) (hr : run < 8) (h0 : 0 < ts) : ilev behind 1 (cnt true run) ts = ((run + (ts - run % ts) + behind : Nat) : Int) := by
  have e : ilT ts (cnt true run) ((cnt true run).length - (ts : Int).toNat) = ((run / ts : Nat) : Int) := by
    by_cases h : ts < 8
    · exact oth_fin run hr ts h h0
    · have e1 : (cnt true run).length - (ts : Int).toNat = 0 := by rw [cnt_length]; omega
      have e2 : run / ts = 0 := Nat.div_eq_of_lt (by omega)
      rw [e1, e2]; rfl
  unfold ilev
  rw [e]
  have h1 := Nat.div_add_mod run ts
  have h2 := Nat.mod_lt run h0
  have h3 : (ts : Int) * (((run / ts : Nat) : Int) + 1) = ((ts * (run / ts) : Nat) : Int) + ts := by
    rw [Int.mul_add, Int.mul_one, Int.natCast_mul]
  rw [h3]
  generalize run % ts = y at *
  generalize ts * (run / ts) = z at *
  omega
theorem fst_il (tabs blanks ts : Nat) (ht : tabs < 2) (h0 : 0 < ts) : ilev blanks (if (decide (tabs = 1)) = true then 1 else 0) (cnt (decide (tabs = 1)) 0) ts = ((tabs * ts + blanks : Nat) : Int) := by
  have e1 : (cnt (decide (tabs = 1)) 0).length - (ts : Int).toNat = 0 := by
    have : (cnt (decide (tabs = 1)) 0).length ≤ 1 := by unfold cnt; split <;> simp
    omega
  unfold ilev
  rw [e1]
  have e2 : ilT ts (cnt (decide (tabs = 1)) 0) 0 = 0 := rfl
  rw [e2]
  have h : tabs = 0 ∨ tabs = 1 := by omega
  rcases h with rfl | rfl
  · simp
  · simp; omega
theorem max_cast (a b : Nat) : max (a : Int) (b : Int) = ((max a b : Nat) : Int) := by
  rcases Nat.le_total a b with h | h
  · rw [Nat.max_eq_right h, Int.max_eq_right (Int.ofNat_le.mpr h)]
  · rw [Nat.max_eq_left h, Int.max_eq_left (Int.ofNat_le.mpr h)]
theorem max_nat3 (a b c : Nat) : (max (a : Int) (max (b : Int) c)).toNat = max a (max b c) := by
  rw [max_cast, max_cast]; rfl
theorem witN_eq (tabs blanks run behind : Nat) : witN (cnt (decide (tabs = 1)) 0) (cnt true run) blanks behind = max blanks (max run behind) + 1 := by
  unfold witN
  have h1 : (((cnt (decide (tabs = 1)) 0).length : Int) - 1) ≤ blanks := by
    have : (cnt (decide (tabs = 1)) 0).length ≤ 1 := by unfold cnt; split <;> simp
    omega
  rw [cnt_length, Int.max_eq_right h1, show (((run + 1 : Nat) : Int) - 1) = run from Int.add_sub_cancel (run : Int) 1, max_nat3]
theorem picks_eq {f g : Nat → Bool} (n : Nat) (h : ∀ ts, 0 < ts → f ts = g ts) : picks f n = picks g n := by
  unfold picks
  congr 1
  funext i
  rw [h (i + 1) (Nat.succ_pos i)]
theorem picks_neq (tabs blanks run behind : Nat) (ht : tabs < 2) (hr : run < 8) :
    picks (fun ts => ilev blanks (if (decide (tabs = 1)) = true then 1 else 0) (cnt (decide (tabs = 1)) 0) ts != ilev behind 1 (cnt true run) ts) (witN (cnt (decide (tabs = 1)) 0) (cnt true run) blanks behind) = sizesL tabs blanks run behind 1 := by
  rw [witN_eq]
  refine picks_eq _ fun ts h0 => ?_
  show (ilev _ _ _ _ != ilev _ _ _ _) = szTest tabs blanks run behind 1 ts
  rw [fst_il _ _ _ ht h0, oth_il _ _ _ hr h0]
  unfold szTest
  rw [if_pos rfl]
  by_cases h : tabs * ts + blanks = run + (ts - run % ts) + behind
  · rw [h]; simp
  · have h2 : ((tabs * ts + blanks : Nat) : Int) ≠ ((run + (ts - run % ts) + behind : Nat) : Int) := fun e => h (Int.ofNat.inj e)
    rw [bne_iff_ne.mpr h2, bne_iff_ne.mpr h]
theorem picks_nle (tabs blanks run behind : Nat) (ht : tabs < 2) (hr : run < 8) :
    picks (fun ts => decide (ilev behind 1 (cnt true run) ts ≤ ilev blanks (if (decide (tabs = 1)) = true then 1 else 0) (cnt (decide (tabs = 1)) 0) ts)) (witN (cnt (decide (tabs = 1)) 0) (cnt true run) blanks behind) = sizesL tabs blanks run behind 0 := by
  rw [witN_eq]
  refine picks_eq _ fun ts h0 => ?_
  show decide (ilev _ _ _ _ ≤ ilev _ _ _ _) = szTest tabs blanks run behind 0 ts
  rw [fst_il _ _ _ ht h0, oth_il _ _ _ hr h0]
  unfold szTest
  rw [if_neg (by decide)]
  exact decide_eq_decide.mpr Int.ofNat_le
theorem WRel.cast {vs : List Value} {tups : List (Addr × Obj)} {ns ns' : List Nat} (x : WRel vs tups ns) (e : ns = ns') : WRel vs tups ns' := e ▸ x
theorem sizesL_len {tabs blanks run behind equals : Nat} (b2 : blanks < 24) (b3 : run < 8) (b4 : behind < 4) : (sizesL tabs blanks run behind equals).length < 40 := by
  have := List.length_filterMap_le (fun i => if szTest tabs blanks run behind equals (i + 1) then some (i + 1) else none) (List.range (max blanks (max run behind) + 1))
  rw [List.length_range] at this
  show (List.filterMap _ _).length < 40
  omega
theorem sizesL_lt {tabs blanks run behind equals : Nat} (b2 : blanks < 24) (b3 : run < 8) (b4 : behind < 4) : ∀ n ∈ sizesL tabs blanks run behind equals, n < 100 := fun n hn => by
  obtain ⟨i, hi, e⟩ := List.mem_filterMap.mp hn
  have := List.mem_range.mp hi
  split at e
  · cases e; omega
  · cases e
theorem kset21 : True := by
  k_with_none
  k_with "call ref" =>
    first
      | (refine' ws_K (by k_asm) (by k_asm) (by k_asm) (by k_asm) (by assumption) (by with_unfolding_all first | exact txt1 _ (by assumption) _ (by assumption) | exact txt2 _ (by assumption) _ (by assumption)) (by omega) (by omega) ?_; intro h'₉ tk'₉ x'₉ dx'₉ nm'₉ ct'₉ k1'₉ k2'₉ k3'₉ k4'₉ k5'₉ tn'₉ tc'₉ raw'₉ n'₉ si'₉ nt'₉ vs'₉ F'₉ N'₉ ent₉ hI'₉ hlt'₉ l1₉; (try k_lt l1₉); subst ent₉; (try k_sweep))
      | (with_unfolding_all refine' neq_K (by k_asm) (by k_asm) (by k_asm) (by k_asm) (by assumption) (by with_unfolding_all k_mem) (by with_unfolding_all k_mem) (by with_unfolding_all k_mem) (by with_unfolding_all k_mem) (by with_unfolding_all k_mem) (by with_unfolding_all k_mem) (by with_unfolding_all k_mem) (by with_unfolding_all k_mem) (by with_unfolding_all assumption) (by with_unfolding_all exact cnt_len _ _ (by omega)) (by with_unfolding_all assumption) (by omega) (by with_unfolding_all assumption) (by with_unfolding_all exact cnt_len _ _ (by omega)) (by with_unfolding_all assumption) (by omega) (by refine ltN ?_; omega) ?_; intro h'₉ tk'₉ l'₉ vsr'₉ k'₉ tups'₉ F'₉ N'₉ hl'₉ ht'₉ hW'₉)
      | (with_unfolding_all refine' nle_K (by k_asm) (by k_asm) (by k_asm) (by k_asm) (by assumption) (by with_unfolding_all k_mem) (by with_unfolding_all k_mem) (by with_unfolding_all k_mem) (by with_unfolding_all k_mem) (by with_unfolding_all k_mem) (by with_unfolding_all k_mem) (by with_unfolding_all k_mem) (by with_unfolding_all k_mem) (by with_unfolding_all assumption) (by with_unfolding_all exact cnt_len _ _ (by omega)) (by with_unfolding_all assumption) (by omega) (by with_unfolding_all assumption) (by with_unfolding_all exact cnt_len _ _ (by omega)) (by with_unfolding_all assumption) (by omega) (by refine ltN ?_; omega) ?_; intro h'₉ tk'₉ l'₉ vsr'₉ k'₉ tups'₉ F'₉ N'₉ hl'₉ ht'₉ hW'₉)
      | refine halt ?_
  trivial
theorem report_ctr : ∀ (w : World) (A : Around) (s : Shared) (R : Result → Shared → Prop) (mg mb : Str → Option Value) (loose : List Str) (B : Heap) (ps : Array Value) (tabs blanks run behind equals : Nat) (t1 t2 t3 t4 t5 : Tok)
    (X : (hd.heap_1 w.params).In B) (hrd : Ready w B s.heap [(145, tabObj ps)] mg mb loose) (hbm : B.BuiltinsAt mg 145) (ht : TriplesOk ps.toList) (hh : A.handled = none) (hr : A.depth + 9 < recursionLimit)
    (b1 : tabs < 2) (b2 : blanks < 24) (b3 : run < 8) (b4 : behind < 4) (b5 : equals < 2)
    (hR : ∀ h tk gs ps' t, Kp B h → h.get? 145 = some (tabObj ps') → TriplesOk ps'.toList → (AllBare s.gens → AllBare gs) → R (.ok (.ret (.str (repTxt (sizesL tabs blanks run behind equals)) t))) { s with heap := h, toks := tk, gens := gs }),
    codeAny (model PySem.Challenge.rw_pg0244_01.row.prog w) A (.call (.ref 197) ⟨[.int tabs t1, .int blanks t2, .int run t3, .int behind t4, .int equals t5], []⟩) R s := by
  k_fill
  intro w A s R mg mb loose B ps tabs blanks run behind equals t1 t2 t3 t4 t5 X hrd hbm ht hh hr b1 b2 b3 b4 b5 hR
  obtain ⟨-, T, kpB, hsz, hid⟩ := hrd
  obtain ⟨ah, ad, af, ag, au⟩ := A
  dsimp only at hh hr
  subst hh
  refine' enterKBq (B := B) (hid := [(145, tabObj ps)]) (binds := [(Str.ofString "tabs", .int tabs t1), (Str.ofString "blanks", .int blanks t2), (Str.ofString "run", .int run t3), (Str.ofString "behind", .int behind t4), (Str.ofString "equals", .int equals t5)]) X kpB hsz hid T.nolimit ?ho ?hcd (by show ad < _; omega) (BindsTo.of_eq ?hb) ?hl ?hc ?h1 ?h2 ?h3 ?_
  case ho => k_dflt k_is
  case hcd => k_dflt k_is
  case hb => exact rfl
  case hl => exact locs rfl
  case hc => decide
  case h1 => exact rfl
  case h2 => exact rfl
  case h3 => exact rfl
  intro L₀ h₁ tk₀ m₀ F N kp2 envv Av Qv Ev
  clear hid
  have hr8 : ad + 8 < recursionLimit := by omega
  (try dsimp only)
  k_steps
  all_goals unfold Halt
  · have e1 : equals = 1 := by omega
    subst e1
    rename (WRel _ _ _) => hW1
    rename (News _ _ _ _) => N1
    rename (Fr _ _ _ _) => F1
    have hW2 := WRel.cast hW1 (picks_neq tabs blanks run behind b1 b3)
    have N2 : News B L₀ _ [((145 : Addr), tabObj ps)] := List.forall_mem_cons.mpr ⟨N1 _ (by simp), List.forall_mem_nil _⟩
    refine fmt_K F1 N2 X T hbm ht hr8 (List.forall_mem_nil _) (by assumption) (by assumption) hW2 (sizesL_len b2 b3 b4) (sizesL_lt b2 b3 b4) fun h' tk gs ps' t F2 N3 ht' hg hk => ?_
    exact hR _ _ _ ps' _ F2.keep (N3 _ (.head _)).1 ht' hg
  · have e1 : equals = 0 := by omega
    subst e1
    rename (WRel _ _ _) => hW1
    rename (News _ _ _ _) => N1
    rename (Fr _ _ _ _) => F1
    have hW2 := WRel.cast hW1 (picks_nle tabs blanks run behind b1 b3)
    have N2 : News B L₀ _ [((145 : Addr), tabObj ps)] := List.forall_mem_cons.mpr ⟨N1 _ (by simp), List.forall_mem_nil _⟩
    refine fmt_K F1 N2 X T hbm ht hr8 (List.forall_mem_nil _) (by assumption) (by assumption) hW2 (sizesL_len b2 b3 b4) (sizesL_lt b2 b3 b4) fun h' tk gs ps' t F2 N3 ht' hg hk => ?_
    exact hR _ _ _ ps' _ F2.keep (N3 _ (.head _)).1 ht' hg
end Mine
namespace Mine
open PySem PySem.W PyProof.Rows
theorem flush20 {M : Model} {A : Around} {Q : Flow → Shared → Prop} {E : Value → Shared → Prop} {s : Shared} {env : Env} (h : wpAny M A (execs [] env) Q E s) : wpAny M A (execs [] env) Q E s := by
  k_with_none
  (try (walk1; fail))
  w_top off
  exact h
end Mine
namespace Mine
open PySem PySem.W PyProof.Rows PySem.Calls Builtin Builtin.Str
set_option maxHeartbeats 2000000
set_option linter.unusedVariables false
theorem gen_toks1 {M : Model} {A : Around} {α : Type} {t : Sem α} {Q : α → Shared → Prop} {E : Value → Shared → Prop} {h : Heap} {g : Array GenState} {d : Drawn} {n : Nat} {os : OsState}
    (x : ∀ tk, 0 < tk → wpAny M A t Q E ⟨h, g, d, tk, os⟩) : wpAny M A t Q E ⟨h, g, d, n + 1, os⟩ := x _ (Nat.succ_pos _)
noncomputable def wrTxt (text : Str) (way : Nat) : Str := match way with
  | 0 => text
  | 1 => Txt.replace text (Str.ofString " ") (Str.ofString "\n\t") ++ Str.ofString " \n"
  | 2 => Str.ofString "\"" ++ text ++ Str.ofString "\""
  | _ => Txt.join (Str.ofString "") ((signs text).map fun a => Str.ofString "\\" ++ a)
theorem kset22 : True := by
  k_with_none
  k_with "execs cons" =>
    (refine gen_toks1 ?_; intro tk₉ htk₉)
  k_with "execs nil" =>
    (refine gen_toks1 ?_; intro tk₉ htk₉)
  k_with "eval ListComp" =>
    refine halt ?_
  k_with "call builtin:str.replace" =>
    refine halt ?_
  k_with "call builtin:str.join" =>
    refine halt ?_
  trivial
theorem rep_len (x : Str) (h : x.length ≤ 1000) : (Txt.replace x (Str.ofString " ") (Str.ofString "\n\t")).length ≤ 4000 := by
  unfold Txt.replace
  split
  · omega
  · have h1 := StrLaws.occ_length_le x (Str.ofString " ") 0 x.length (x.length + 1)
    have hy : (glued (Str.ofString " ") (partsBetween x (occurrences x (Str.ofString " ") 0 x.length (x.length + 1)) (Str.ofString " ").length)).length = x.length := by rw [StrLaws.glued_between_self]
    rw [size_glued, length_partsBetween, Nat.add_sub_cancel] at hy
    rw [size_glued, length_partsBetween, Nat.add_sub_cancel]
    have e : (Str.ofString "\n\t").length = 2 := rfl
    have e2 : (Str.ofString " ").length = 1 := rfl
    rw [e]
    rw [e2] at hy ⊢
    omega
section
variable {prog : Program} {w : World} {A : Around} {E : Value → Shared → Prop} {s : Shared} {h₀ : Heap} {L : Addr} {m : Str → Option Value} {news : List (Addr × Obj)} {env : Env}
theorem ListComp_signs1 {elt iter : Expr} {x : Str} {px : Pos} {scope : Scope} {pos : Pos} {Q : Value → Shared → Prop} {d : Str → PyData} {y : Str} {t : Tok}
    (hh : A.handled = none) (hfree : ∀ y ∈ scope.names, y.2 ≠ .free) (hcell : ∀ y ∈ scope.names, y.2 ≠ .cell) (hkind : scope.kind = .function)
    (hnames : ∀ y ∈ scope.names, y.2 = .local → scope.names.lookup y.1 = some .local) (hx : scope.names.lookup x = some .local)
    (hit : ∀ (Q' : Value → Shared → Prop), Q' (.str y t) s → wpAny (model prog w) A (eval iter env) Q' E s) (hsz : y.length ≤ sizeLine) (F : Fr h₀ L s.heap m) (N : News h₀ L s.heap news)
    (helt : ∀ C c u (s₂ : Shared) m₂ E', s₂.heap.Ns (compEnv scope C env).locals m₂ → m₂ x = some (.str ⟨#[c]⟩ u) → wpAny (model prog w) A (eval elt (compEnv scope C env)) (fun r s₃ => Carried r (d ⟨#[c]⟩) ∧ Keeps s₂ s₃) E' s₂)
    (hQ : ∀ D (ys : List Value) h' tk, Fr h₀ L h' m → News h₀ L h' news → h'.IsList D ys.toArray → CarriedAll ys ((signs y).map d) → Q (.ref D) { s with heap := h', toks := tk })
    (hs : ∀ x, foldedSetIterable iter env x = pure x) :
    wpAny (model prog w) A (eval (.ListComp elt [⟨.Name x px, iter, [], 0⟩] scope pos) env) Q E s := by
  refine wpAny_ListComp_walk (ItemKind.str.lift fun _ => true) (fun v r => ∃ a, ItemKind.str.is a v ∧ Carried r (d a)) hfree hcell hkind hnames hx (hit _ ?_) hs
  refine wpAny_pyIter_str fun o St W hst => ?_
  have up : ∀ (h' : Heap), (∀ b o', b ∉ [s.heap.objs.size] → (s.heap.push o).get? b = some o' → h'.get? b = some o') → ∀ b o', s.heap.get? b = some o' → h'.get? b = some o' :=
    fun h' hk b o' e => hk b o' (old_not_new e) (Heap.get?_push_of_some _ e)
  refine ⟨s.heap.objs.size, [s.heap.objs.size], [s.heap.objs.size], y.cps.size, SignAt y, St, rfl, W A hh, hsz, hst, ?_, ⟨?_, ?_⟩, ?_⟩
  · intro b hb
    show b < (s.heap.push o).objs.size
    rw [Heap.size_push, List.mem_singleton.mp hb]
    exact Nat.lt_succ_self _
  · intro C i v s₃ m₃ E' hP hn hm _ _
    obtain ⟨c, u, _, rfl⟩ := hP
    have ha : ItemKind.str.is ⟨#[c]⟩ (.str ⟨#[c]⟩ u) := ⟨u, rfl⟩
    rw [ItemKind.lift_is ha]
    simp only [List.forIn_nil]
    exact wpAny_pure ⟨rfl, _, _, rfl, fun _ _ e => e⟩
  · intro C i v s₃ m₃ E' hP hp hn hm _ _
    obtain ⟨c, u, _, rfl⟩ := hP
    exact wpAny_mono (helt C c u s₃ m₃ E' hn hm) (fun r s₄ h₄ => ⟨⟨_, ⟨u, rfl⟩, h₄.1⟩, h₄.2⟩) fun _ _ e => e
  · intro D h' tk ys vs hnew hlD hplD hlen hP hF hk
    have hc := (areOf_signs hlen hP).paired (fun _ => true) d _ hF
    rw [filter_true'] at hc
    exact hQ D ys.toList h' tk (F.keeps (up h' hk)) (News.kept N (up h' hk)) (by rw [Array.toArray_toList]; exact hlD) hc
end
theorem written_ctr : ∀ (w : World) (A : Around) (s : Shared) (R : Result → Shared → Prop) (mg mb : Str → Option Value) (loose : List Str) (text : Str) (way : Nat) (t1 t2 : Tok)
    (X : (hd.heap_1 w.params).In s.heap) (T : TopRead viewQ loose mg mb s.heap) (hh : A.handled = none) (hr : A.depth < recursionLimit) (hlen : text.length ≤ 1000) (hw : way < 4)
    (hR : ∀ h tk t, Kp s.heap h → R (.ok (.ret (.str (wrTxt text way) t))) { s with heap := h, toks := tk }),
    codeAny (model PySem.Challenge.rw_pg0244_01.row.prog w) A (.call (.ref 183) ⟨[.str text t1, .int way t2], []⟩) R s := by
  k_fill
  intro w A s R mg mb loose text way t1 t2 X T hh hr hlen hw hR
  obtain ⟨ah, ad, af, ag, au⟩ := A
  dsimp only at hh hr
  subst hh
  refine' enterKq (binds := [(Str.ofString "text", .str text t1), (Str.ofString "way", .int way t2)]) X T.nolimit ?ho ?hcd hr (BindsTo.of_eq ?hb) ?hl ?hc ?h1 ?h2 ?h3 ?_
  case ho => k_dflt k_is
  case hcd => k_dflt k_is
  case hb => exact rfl
  case hl => exact locs rfl
  case hc => decide
  case h1 => exact rfl
  case h2 => exact rfl
  case h3 => exact rfl
  intro L₀ h₁ tk₀ m₀ F N envv Av Qv Ev
  (try dsimp only)
  k_steps
  · have e : way = 0 := by omega
    subst e
    exact hR _ _ _ (Fr.keep F)
  · have e : way = 1 := by omega
    subst e
    unfold Halt
    refine SC.replaceW (by (try dsimp only); refine neN ?_; omega) (by (try dsimp only); refine neN ?_; omega) (by (try dsimp only); refine neN ?_; omega) (by decide +kernel) (by omega) (by decide +kernel) fun t' k => ?_
    walk1
    refine add_str (fun t'' tk'' => ?_) (by rw [sizeLine_eq]; exact Nat.le_trans (Nat.add_le_add (rep_len text hlen) (by decide +kernel : (Str.ofString " \n").length ≤ 100)) (by decide))
    exact hR _ _ _ (Fr.keep F)
  · have e : way = 2 := by omega
    subst e
    exact hR _ _ _ (Fr.keep F)
  · have e : way = 3 := by omega
    subst e
    unfold Halt
    refine ListComp_signs1 (d := fun a => .str (Str.ofString "\\" ++ a)) rfl (by decide) (by decide) rfl (by decide) rfl (fun Q' hq' => ld F rfl hq') (by rw [sizeLine_eq]; omega) F N ?_ ?_ (fun x => rfl)
    · intro C c u s₂ m₂ E' hn hm
      walk1
      walk1
      refine wpAny_Name (wpAny_loadName_local rfl rfl hn hm ?_) (by decide)
      refine add_str (fun t' tk' => ?_) (by rw [sizeLine_eq]; exact (by decide : 1 + 1 ≤ 16777216))
      exact ⟨.str _ _, s₂.heap, tk', rfl, fun _ _ e => e⟩
    · intro D ys h' tk F' N' hl hc
      k_steps
      unfold Halt
      refine KT.join_B 2 hl hc (fun a ha => ?_) ?_ (by decide) fun t' k => ?_
      · obtain ⟨c, _, rfl⟩ := List.mem_map.mp ha
        exact (by decide : 1 + 1 ≤ 2)
      · have : (signs text).length = text.length := by simp [signs, Str.length]
        omega
      · exact hR _ _ _ (Fr.keep F')
end Mine
namespace Mine
open PySem PySem.W PyProof.Rows
theorem flush21 {M : Model} {A : Around} {Q : Flow → Shared → Prop} {E : Value → Shared → Prop} {s : Shared} {env : Env} (h : wpAny M A (execs [] env) Q E s) : wpAny M A (execs [] env) Q E s := by
  k_with_none
  (try (walk1; fail))
  w_top off
  exact h
end Mine
namespace Mine
open PySem PySem.W PyProof.Rows PySem.Calls
set_option maxHeartbeats 2000000
set_option linter.unusedVariables false
noncomputable abbrev lexDict (w : World) (k1 k2 k3 k4 t1 t2 : Tok) (line : Int) (src : Value) (pb : Addr) : Obj := dictOf [attrE w "lineno" k1 (.int line t1), attrE w "instream" k2 src, attrE w "whitespace" k3 (.str (Str.ofString "\n\t\r ") t2), attrE w "pushback" k4 (.ref pb)] 4
theorem lexObjs_of {w : World} {h : Heap} {x dx pb : Addr} {k1 k2 k3 k4 t1 t2 : Tok} {line : Int} {src : Value} (h1 : h.get? x = some (instObj 73 dx)) (h2 : h.get? dx = some (lexDict w k1 k2 k3 k4 t1 t2 line src pb)) (h3 : h.get? pb = some (listOf #[] 0)) :
    ∀ p ∈ [(x, instObj 73 dx), (dx, lexDict w k1 k2 k3 k4 t1 t2 line src pb), (pb, listOf #[] 0)], h.get? p.1 = some p.2 := by
  intro p hp
  simp only [List.mem_cons, List.not_mem_nil, or_false] at hp
  rcases hp with rfl | rfl | rfl <;> assumption
theorem lexmk_ctr : ∀ (w : World) (A : Around) (s : Shared) (R : Result → Shared → Prop) (mg mb : Str → Option Value) (loose : List Str) (v : Value)
    (X : (hd.heap_1 w.params).In s.heap) (T : TopRead viewQ loose mg mb s.heap) (hh : A.handled = none) (hr : A.depth + 5 < recursionLimit)
    (hR : ∀ h tk x dx pb k1 k2 k3 k4 t1 t2, Kp s.heap h → (∀ p ∈ [(x, instObj 73 dx), (dx, lexDict w k1 k2 k3 k4 t1 t2 1 v pb), (pb, listOf #[] 0)], h.get? p.1 = some p.2) →
      dx < x ∧ x < pb → s.heap.objs.size ≤ dx → (∀ b ∈ [x, dx, pb], s.heap.get? b = none) → R (.ok (.ret (.ref x))) { s with heap := h, toks := tk }),
    codeAny (model PySem.Challenge.rw_pg0244_01.row.prog w) A (.call (.ref 73) ⟨[v], []⟩) R s := by
  k_fill
  intro w A s R mg mb loose v X T hh hr hR
  refine' makeB X ?m1 ?m2 ?m3 ?_
  case m1 => k_dflt k_is
  case m2 => k_dflt k_is
  case m3 => k_dflt k_is
  intro x dx h1 kp1 nx nd hdx hlt gx gd hsz
  obtain ⟨ah, ad, af, ag, au⟩ := A
  dsimp only at hh hr
  subst hh
  refine' enterKBq (B := s.heap) (hid := [(x, instObj 73 dx), (dx, dictOf [] 0)]) (binds := [(Str.ofString "self", .ref x), (Str.ofString "fp", v)]) X kp1 hsz ?hid T.nolimit ?ho ?hcd (by show ad + 1 < _; omega) (BindsTo.of_eq ?hb) ?hl ?hc ?h1 ?h2 ?h3 ?_
  case hid => exact List.forall_mem_cons.mpr ⟨⟨gx, nx⟩, List.forall_mem_cons.mpr ⟨⟨gd, nd⟩, List.forall_mem_nil _⟩⟩
  case ho => k_dflt k_is
  case hcd => k_dflt k_is
  case hb => exact rfl
  case hl => exact locs rfl
  case hc => decide
  case h1 => exact rfl
  case h2 => exact rfl
  case h3 => exact rfl
  intro L₀ h₁ tk₀ m₀ F N kp2 envv Av Qv Ev
  replace hlt := ltN hlt
  (try dsimp only)
  k_steps
  rename (News _ _ _ _) => N3
  refine ⟨rfl, hR _ _ x dx _ _ _ _ _ _ _ (fun b o e => Fr.keep (by assumption) b o e) (lexObjs_of (News.get N3 (.tail _ (.head _))) (News.get N3 (.tail _ (.tail _ (.head _)))) (News.get N3 (.head _))) ⟨hlt, ltN ?_⟩ hdx ?_⟩
  · omega
  · exact List.forall_mem_cons.mpr ⟨nx, List.forall_mem_cons.mpr ⟨nd, List.forall_mem_cons.mpr ⟨News.fresh N3 (.head _), List.forall_mem_nil _⟩⟩⟩
end Mine
namespace Mine
open PySem PySem.W PyProof.Rows
theorem flush22 {M : Model} {A : Around} {Q : Flow → Shared → Prop} {E : Value → Shared → Prop} {s : Shared} {env : Env} (h : wpAny M A (execs [] env) Q E s) : wpAny M A (execs [] env) Q E s := by
  k_with_none
  (try (walk1; fail))
  w_top off
  exact h
end Mine
namespace Mine
open PySem PySem.W PyProof.Rows PySem.Calls
set_option maxHeartbeats 2000000
set_option linter.unusedVariables false
/-- entering a function some of whose arguments are cells -/
theorem enterKC {B : Heap} {hid : List (Addr × Obj)} {K : Frag} {prog : Program} {w : World} {A : Around} {R : Result → Shared → Prop} {s : Shared} {name qual : Str} {params : Arguments} {body : List Stmt} {scope : Scope} {dV kV doc pm cdv ct oc : Value} {an od : Option Addr} {osl : Array (Option Value)} {f : Addr} {args : Args} {binds : List (Str × Value)}
    (X : K.In B) (hk : ∀ b o, B.get? b = some o → s.heap.get? b = some o) (hsz : B.objs.size ≤ s.heap.objs.size) (hh : ∀ p ∈ hid, s.heap.get? p.1 = some p.2 ∧ B.get? p.1 = none) (nl : B.NoLimit)
    (ho : K.lookup f = some ⟨oc, od, .func (fnOf name qual params body scope dV kV doc pm an cdv ct), osl⟩) (hcd : codeIn K cdv qual = true) (hroom : A.depth < recursionLimit)
    (hbind : BindsTo s (fnOf name qual params body scope dV kV doc pm an cdv ct) args binds) (hkind : (binds.all fun y => scope.names.lookup y.1 == some .local || scope.names.lookup y.1 == some .cell) = true)
    (hnd : ((cellsFrom 0 scope.names []).map (·.1)).Nodup)
    (hco : scope.isCoroutine = false) (hgen : scope.isGenerator = false) (hkd : scope.kind = .function)
    (h : ∀ h₁ tk cells, Fr B s.heap.objs.size h₁ (bindL (envOfC qual scope s.heap.objs.size f cdv).kindOf binds fun _ => none) → News B s.heap.objs.size h₁ (cells ++ hid) →
      CellsAre (bindC (envOfC qual scope s.heap.objs.size f cdv).kindOf binds fun _ => none) (cellsFrom (s.heap.objs.size + 1) scope.names []) cells → (∀ b o, s.heap.get? b = some o → h₁.get? b = some o) →
      wpAny (model prog w) (A.deeper (envOfC qual scope s.heap.objs.size f cdv)) (execs body (envOfC qual scope s.heap.objs.size f cdv))
        (fun fl s' => R (.ok (.ret (match fl with | .ret v => v | _ => .none))) s') (fun _ _ => False) { s with heap := h₁, toks := tk }) :
    codeAny (model prog w) A (.call (.ref f) args) R s := by
  have X' := X.keeps hk
  refine codeAny_call_function (fd := fnOf name qual params body scope dV kV doc pm an cdv ct) hroom (X' _ _ ho) rfl hco hgen rfl (codeRec_of X' hcd) (hbind _ _ _ _ ?_)
  refine wpAny_newFunctionEnv_cells hkd (kindsX hkind _) fun env' he s' x => ?_
  subst he
  refine ⟨(nl.keeps hk).keeps x.toInCall.keep, codeAny_func ?_⟩
  obtain ⟨h₁, tk, rfl, _⟩ := x.done
  have hk₁ := x.toInCall.keep
  obtain ⟨cells, NC, Y⟩ := Cl.news (h₀ := s.heap) (Nat.le_refl _) fun n c hm => ⟨x.cell n c (lookup_of_mem_nodup (cellsFrom_names scope.names 0 (s.heap.objs.size + 1) [] [] rfl ▸ hnd) hm), x.above n c hm⟩
  refine wpAny_mono (h h₁ tk cells ⟨x.toInCall.ns, fun b o e => hk₁ b o (hk b o e), hsz⟩ (fun p hp => ?_) Y hk₁) (fun _ _ y => y) fun _ _ y => y.elim
  rcases List.mem_append.mp hp with hp | hp
  · refine ⟨(NC p hp).1, (NC p hp).2.1, ?_⟩
    cases q : B.get? p.1 with
    | none => rfl
    | some o => have := hk _ _ q; rw [(NC p hp).2.2] at this; cases this
  · exact ⟨hk₁ _ _ (hh p hp).1, Nat.ne_of_lt (Heap.lt_size (hh p hp).1), (hh p hp).2⟩
end Mine
namespace Mine
open PySem PySem.W PyProof.Rows
theorem flush23 {M : Model} {A : Around} {Q : Flow → Shared → Prop} {E : Value → Shared → Prop} {s : Shared} {env : Env} (h : wpAny M A (execs [] env) Q E s) : wpAny M A (execs [] env) Q E s := by
  k_with_none
  (try (walk1; fail))
  w_top off
  exact h
end Mine
namespace Mine
open PySem PySem.W PyProof.Rows PySem.Calls
set_option maxHeartbeats 2000000
set_option linter.unusedVariables false
/-- entering a function that was made at run time, over its closure -/
theorem enterKF {B : Heap} {hid : List (Addr × Obj)} {prog : Program} {w : World} {A : Around} {R : Result → Shared → Prop} {s : Shared} {name qual : Str} {params : Arguments} {body : List Stmt} {scope : Scope} {cl : List (Str × Addr)} {doc pm ctv : Value} {c' f : Addr} {args : Args} {binds : List (Str × Value)}
    (hk : ∀ b o, B.get? b = some o → s.heap.get? b = some o) (hsz : B.objs.size ≤ s.heap.objs.size) (hh : ∀ p ∈ hid, s.heap.get? p.1 = some p.2 ∧ B.get? p.1 = none) (nl : B.NoLimit)
    (ho : s.heap.get? f = some (fnMade name qual params body scope cl doc pm c' ctv)) (hcd : s.heap.CodeRec (.ref c') qual) (hroom : A.depth < recursionLimit)
    (hbind : BindsTo s (fnX name qual params body scope cl .none .none doc pm none (.ref c') ctv) args binds) (hloc : ∀ y ∈ binds, scope.names.lookup y.1 = some .local)
    (hcell : ∀ x ∈ scope.names, x.2 ≠ .cell)
    (hco : scope.isCoroutine = false) (hgen : scope.isGenerator = false) (hkd : scope.kind = .function)
    (h : ∀ h₁, Fr B s.heap.objs.size h₁ (fun y => binds.reverse.lookup y) → News B s.heap.objs.size h₁ hid → (∀ b o, s.heap.get? b = some o → h₁.get? b = some o) →
      wpAny (model prog w) (A.deeper (envX qual scope s.heap.objs.size f (.ref c') cl)) (execs body (envX qual scope s.heap.objs.size f (.ref c') cl))
        (fun fl s' => R (.ok (.ret (match fl with | .ret v => v | _ => .none))) s') (fun _ _ => False) { s with heap := h₁, toks := s.toks + binds.length }) :
    codeAny (model prog w) A (.call (.ref f) args) R s := by
  refine codeAny_call_def (fd := fnX name qual params body scope cl .none .none doc pm none (.ref c') ctv) (body := body) (binds := binds) hroom ho rfl (nl.keeps hk) hcd rfl hbind hcell hloc (fun h₁ hns hk₁ => ?_) hco hgen hkd
  exact wpAny_mono (h h₁ ⟨hns, fun b o e => hk₁ b o (hk b o e), hsz⟩ (fun p hp => ⟨hk₁ _ _ (hh p hp).1, Nat.ne_of_lt (Heap.lt_size (hh p hp).1), (hh p hp).2⟩) hk₁) (fun _ _ x => x) (fun _ _ x => x.elim)
theorem enterKFq {B : Heap} {hid : List (Addr × Obj)} {prog : Program} {w : World} {A : Around} {R : Result → Shared → Prop} {s : Shared} {name qual : Str} {params : Arguments} {body : List Stmt} {scope : Scope} {cl : List (Str × Addr)} {doc pm ctv : Value} {c' f : Addr} {args : Args} {binds : List (Str × Value)}
    (hk : ∀ b o, B.get? b = some o → s.heap.get? b = some o) (hsz : B.objs.size ≤ s.heap.objs.size) (hh : ∀ p ∈ hid, s.heap.get? p.1 = some p.2 ∧ B.get? p.1 = none) (nl : B.NoLimit)
    (ho : s.heap.get? f = some (fnMade name qual params body scope cl doc pm c' ctv)) (hcd : s.heap.CodeRec (.ref c') qual) (hroom : A.depth < recursionLimit)
    (hbind : BindsTo s (fnX name qual params body scope cl .none .none doc pm none (.ref c') ctv) args binds) (hloc : ∀ y ∈ binds, scope.names.lookup y.1 = some .local)
    (hcell : ∀ x ∈ scope.names, x.2 ≠ .cell)
    (hco : scope.isCoroutine = false) (hgen : scope.isGenerator = false) (hkd : scope.kind = .function)
    (h : ∀ L h₁ tk, let m₀ := (fun y => binds.reverse.lookup y); Fr B L h₁ m₀ → News B L h₁ hid → (∀ b o, s.heap.get? b = some o → h₁.get? b = some o) →
      let envv := envX qual scope L f (.ref c') cl
      let Av := A.deeper envv
        let Qv := (fun (fl : Flow) (s' : Shared) => R (.ok (.ret (match fl with | .ret v => v | _ => .none))) s')
      let Ev := (fun (_ : Value) (_ : Shared) => False)
      wpAny (model prog w) Av (execs body envv) Qv Ev ⟨h₁, s.gens, s.drawn, tk, s.os⟩) :
    codeAny (model prog w) A (.call (.ref f) args) R s :=
  enterKF hk hsz hh nl ho hcd hroom hbind hloc hcell hco hgen hkd fun h₁ F N kp => h _ h₁ _ F N kp

/-- the def that a function's body begins with -/
noncomputable def takeOf (o : Option Obj) : Option (Str × Arguments × List Stmt × Scope) := match o with
  | some ⟨_, _, .func fd, _⟩ => (match fd.body with
    | .stmts (.FunctionDef nm ar bd _ _ _ sc _ _ _ :: _) => some (nm, ar, bd, sc)
    | _ => none)
  | _ => none
end Mine
namespace Mine
open PySem PySem.W PyProof.Rows
theorem flush24 {M : Model} {A : Around} {Q : Flow → Shared → Prop} {E : Value → Shared → Prop} {s : Shared} {env : Env} (h : wpAny M A (execs [] env) Q E s) : wpAny M A (execs [] env) Q E s := by
  k_with_none
  (try (walk1; fail))
  w_top off
  exact h
end Mine
namespace Mine
open PySem PySem.W PyProof.Rows PySem.Calls PySem.Spec PyProof.V
set_option maxHeartbeats 2000000
set_option linter.unusedVariables false
/-- the signs of a text as values -/
inductive SignsAre : List Value → List Nat → Prop
  | nil : SignsAre [] []
  | cons (c : Nat) (t : Tok) {vs : List Value} {cs : List Nat} : SignsAre vs cs → SignsAre (.str ⟨#[c]⟩ t :: vs) (c :: cs)
noncomputable def sgn (c : Nat) : PyData := .str ⟨#[c]⟩
theorem sg_ok : ∀ c : Nat, c < 128 → PyData.strOk ⟨#[c]⟩ = true := by decide +kernel
theorem sg_canLayAll0 : ∀ ns : List Nat, (∀ c ∈ ns, c < 128) → PyData.canLayAll0 (ns.map sgn) = true
  | [], _ => rfl
  | c :: r, h => by simp [PyData.canLayAll0, sgn, PyData.canLay0, sg_ok c (h c (.head _))]; exact sg_canLayAll0 r fun d hd => h d (.tail _ hd)
theorem sg_depthAll : ∀ ns : List Nat, PyData.depthAll (ns.map sgn) = 0
  | [] => rfl
  | _ :: r => by simp [PyData.depthAll, sgn, PyData.depth, sg_depthAll r]
theorem sg_shaped (ns : List Nat) (h : ∀ c ∈ ns, c < 128) : SeqAt.shaped (.list (ns.map sgn)) = true := by
  simp [SeqAt.shaped, PyData.canLay0, PyData.depth, sg_canLayAll0 ns h, sg_depthAll]
theorem sg_carried : ∀ {vs : List Value} {cs : List Nat}, SignsAre vs cs → CarriedAll vs (cs.map sgn)
  | _, _, .nil => .nil
  | _, _, .cons c t r => .cons (.str _ t) (sg_carried r)
theorem sg_same_nil (cs : List Nat) : PySem.Spec.same (.list (cs.map sgn)) (.list (([] : List Nat).map sgn)) = decide (cs = []) := by
  simp only [PySem.Spec.same]
  cases cs <;> simp [PySem.Spec.sameAll]
section
variable {prog : Program} {w : World} {A : Around} {E : Value → Shared → Prop} {s : Shared} {a b : Addr} {xs : List Value} {cs : List Nat} {Q : Value → Shared → Prop}
theorem sg_ne_nil (ha : s.heap.IsList a xs.toArray) (hb : s.heap.IsList b (List.toArray [])) (hi : SignsAre xs cs) (hok : ∀ c ∈ cs, c < 128) (hu : A.units + 64 < cLine) (h : Q (.bool (!decide (cs = []))) s) :
    wpAny (model prog w) A (compareOp .NotEq (.ref a) (.ref b)) Q E s :=
  ne_dataH_same (reads_newData ha (sg_carried hi)) (reads_newData hb (sg_carried .nil)) (sg_shaped _ hok) (sg_shaped [] fun _ h => nomatch h) hu (SeqAt.noMix_of_shape (.list .str) rfl _ _ (list_map_has fun _ => rfl) (list_map_has fun _ => rfl)) (by rw [sg_same_nil]; exact h)
theorem sg_ne_nilN {h₀ : Heap} {L : Addr} {news : List (Addr × Obj)} {n : Nat} (N : News h₀ L s.heap news) (h1 : (a, listOf xs.toArray n) ∈ news) (h2 : (b, listOf #[] 0) ∈ news) (hi : SignsAre xs cs) (hok : ∀ c ∈ cs, c < 128) (hu : A.units + 64 < cLine) (h : Q (.bool (!decide (cs = []))) s) :
    wpAny (model prog w) A (compareOp .NotEq (.ref a) (.ref b)) Q E s := sg_ne_nil (News.isList N h1) (News.isList N h2) hi hok hu h
theorem pop_head {h₀ : Heap} {L D : Addr} {m : Str → Option Value} {news news' : List (Addr × Obj)} {n : Nat} {v : Value} {vs : List Value} {u : Tok} (F : Fr h₀ L s.heap m) (N : News h₀ L s.heap news) (U : Upd D (listOf (v :: vs).toArray n) (listOf vs.toArray (n + 1)) news news') (hz : vs.length + 1 ≤ sizeLine)
    (h : ∀ h', Fr h₀ L h' m → News h₀ L h' news' → Q v { s with heap := h' }) : wpAny (model prog w) A (call (.builtin "list.pop") [.ref D, .int 0 u]) Q E s := by
  refine kl_popAt (k := 0) (p := []) (q := vs) (y := v) F N (by decide) ?_ rfl U (by simpa using hz) h
  simp [seqIndex?]
end
end Mine
namespace Mine
open PySem PySem.W PyProof.Rows
theorem flush25 {M : Model} {A : Around} {Q : Flow → Shared → Prop} {E : Value → Shared → Prop} {s : Shared} {env : Env} (h : wpAny M A (execs [] env) Q E s) : wpAny M A (execs [] env) Q E s := by
  k_with_none
  (try (walk1; fail))
  w_top off
  exact h
end Mine
namespace Mine
open PySem PySem.W PyProof.Rows PySem.Calls
set_option maxHeartbeats 1000000
set_option linter.unusedVariables false
theorem kset23 : True := by
  k_with_none
  k_with "exec While BoolOp" =>
    refine whl_start 2 ?_
  k_with "compareOp NotEq ref ref" =>
    (with_unfolding_all refine' sg_ne_nilN (by k_asm) (by with_unfolding_all k_mem) (by with_unfolding_all k_mem) (by with_unfolding_all assumption) (by with_unfolding_all assumption) (by first | with_unfolding_all assumption | (unfold Around.deeper; dsimp only; omega)) ?_)
  k_with "call builtin:list.pop" =>
    (with_unfolding_all refine' pop_head (by k_asm) (by k_asm) (by k_upd) (by with_unfolding_all assumption) ?_; intro h'₉ F'₉ N'₉; (try k_sweep))
  k_with "eval Name" =>
    with_unfolding_all refine nameX_F (by assumption) rfl (.head _) (by assumption) ?_
  trivial
theorem take_use {K : Frag} {a : Addr} {o : Obj} {nm : Str} {pr : Arguments} {bd : List Stmt} {sc : Scope} {P : Prop} (e : K.lookup a = some o) (h : takeOf (K.lookup a) = some (nm, pr, bd, sc)) (k : some (nm, pr, bd, sc) = takeOf (some o) → P) : P := k (h.symm.trans (by rw [e]))
theorem take_ctr : ∀ (w : World) (A : Around) (s : Shared) (R : Result → Shared → Prop) (mg mb : Str → Option Value) (loose : List Str) (B : Heap) (nm ql : Str) (pr : Arguments) (bd : List Stmt) (sc : Scope) (cell ll c' f : Addr) (oc : Obj) (doc pm ctv : Value) (n : Nat) (c : Nat) (u : Tok) (vs : List Value) (cs : List Nat) (t : Tok)
    (X : (hd.heap_1 w.params).In B) (T : TopRead viewQ loose mg mb B) (hT : takeOf ((hd.heap_1 w.params).lookup 157) = some (nm, pr, bd, sc))
    (kpB : Kp B s.heap) (hsz : B.objs.size ≤ s.heap.objs.size) (hid : ∀ p ∈ [(cell, oc), (ll, listOf (List.toArray (.str ⟨#[c]⟩ u :: vs)) n)], s.heap.get? p.1 = some p.2 ∧ B.get? p.1 = none) (hne : cell ≠ ll) (hoc : oc.data = .cell (some (.ref ll)))
    (ho : s.heap.get? f = some (fnMade nm ql pr bd sc [(Str.ofString "left", cell)] doc pm c' ctv)) (hcd : s.heap.CodeRec (.ref c') ql)
    (hh : A.handled = none) (hr : A.depth + 9 < recursionLimit) (hu : A.units + 100 < cLine) (hS : SignsAre vs cs) (hok : ∀ x ∈ c :: cs, x < 128) (hvl : vs.length + 1 ≤ sizeLine)
    (hR : ∀ h tk t, Kp B h → h.get? cell = some oc → h.get? ll = some (listOf vs.toArray (n + 1)) → R (.ok (.ret (.str ⟨#[c]⟩ t))) { s with heap := h, toks := tk }),
    codeAny (model PySem.Challenge.rw_pg0244_01.row.prog w) A (.call (.ref f) ⟨[.int 1 t], []⟩) R s := by
  k_fill
  intro w A s R mg mb loose B nm ql pr bd sc cell ll c' f oc doc pm ctv n c u vs cs t X T hT kpB hsz hid hne hoc ho hcd hh hr hu hS hok hvl hR
  refine' take_use ?e hT ?_
  case e => k_dflt k_is
  intro e4
  cases e4
  obtain ⟨ah, ad, af, ag, au⟩ := A
  dsimp only at hh hr hu
  subst hh
  have hne1 := neN hne
  have hC8 : CodeHd B 156 152 := codeHd_of_K (c := 156) (P := 152) X (by kernel_rfl)
  have hu2 : au + 64 < cLine := by omega
  have hok2 : ∀ x ∈ cs, x < 128 := fun x hx => hok x (.tail _ hx)
  have hS2 := SignsAre.cons c u hS
  refine' enterKF (B := B) (hid := [(cell, oc), (ll, listOf (List.toArray (.str ⟨#[c]⟩ u :: vs)) n)]) (binds := [(Str.ofString "size", .int 1 t)]) kpB hsz hid T.nolimit ho hcd (by show ad < _; omega) (BindsTo.of_eq ?hb) ?hl ?hc ?h1 ?h2 ?h3 ?_
  case hb => exact rfl
  case hl => exact locs rfl
  case hc => decide
  case h1 => exact rfl
  case h2 => exact rfl
  case h3 => exact rfl
  intro h₁ F N kp2
  (try dsimp only)
  k_steps
  all_goals first
    | (exfalso; exact List.cons_ne_nil _ _ (by assumption))
    | (rename (News _ _ _ _) => N9
       have e9 : Str.ofString "" ++ (⟨#[c]⟩ : Str) = ⟨#[c]⟩ := rfl
       dsimp only
       rw [e9]
       exact hR _ _ _ (Fr.keep (by assumption)) (N9 (cell, oc) (by simp)).1 (N9 (ll, listOf vs.toArray (n + 1)) (by simp)).1)
theorem take_nil : ∀ (w : World) (A : Around) (s : Shared) (R : Result → Shared → Prop) (mg mb : Str → Option Value) (loose : List Str) (B : Heap) (nm ql : Str) (pr : Arguments) (bd : List Stmt) (sc : Scope) (cell ll c' f : Addr) (oc : Obj) (doc pm ctv : Value) (n : Nat) (t : Tok)
    (X : (hd.heap_1 w.params).In B) (T : TopRead viewQ loose mg mb B) (hT : takeOf ((hd.heap_1 w.params).lookup 157) = some (nm, pr, bd, sc))
    (kpB : Kp B s.heap) (hsz : B.objs.size ≤ s.heap.objs.size) (hid : ∀ p ∈ [(cell, oc), (ll, listOf (List.toArray ([] : List Value)) n)], s.heap.get? p.1 = some p.2 ∧ B.get? p.1 = none) (hne : cell ≠ ll) (hoc : oc.data = .cell (some (.ref ll)))
    (ho : s.heap.get? f = some (fnMade nm ql pr bd sc [(Str.ofString "left", cell)] doc pm c' ctv)) (hcd : s.heap.CodeRec (.ref c') ql)
    (hh : A.handled = none) (hr : A.depth + 9 < recursionLimit) (hu : A.units + 100 < cLine)
    (hR : ∀ h tk t, Kp B h → h.get? cell = some oc → h.get? ll = some (listOf (List.toArray ([] : List Value)) n) → R (.ok (.ret (.str (Str.ofString "") t))) { s with heap := h, toks := tk }),
    codeAny (model PySem.Challenge.rw_pg0244_01.row.prog w) A (.call (.ref f) ⟨[.int 1 t], []⟩) R s := by
  k_fill
  intro w A s R mg mb loose B nm ql pr bd sc cell ll c' f oc doc pm ctv n t X T hT kpB hsz hid hne hoc ho hcd hh hr hu hR
  refine' take_use ?e hT ?_
  case e => k_dflt k_is
  intro e4
  cases e4
  obtain ⟨ah, ad, af, ag, au⟩ := A
  dsimp only at hh hr hu
  subst hh
  have hne1 := neN hne
  have hC8 : CodeHd B 156 152 := codeHd_of_K (c := 156) (P := 152) X (by kernel_rfl)
  have hu2 : au + 64 < cLine := by omega
  have hS2 := SignsAre.nil
  have hok2 : ∀ x ∈ ([] : List Nat), x < 128 := fun x hx => nomatch hx
  refine' enterKF (B := B) (hid := [(cell, oc), (ll, listOf (List.toArray ([] : List Value)) n)]) (binds := [(Str.ofString "size", .int 1 t)]) kpB hsz hid T.nolimit ho hcd (by show ad < _; omega) (BindsTo.of_eq ?hb) ?hl ?hc ?h1 ?h2 ?h3 ?_
  case hb => exact rfl
  case hl => exact locs rfl
  case hc => decide
  case h1 => exact rfl
  case h2 => exact rfl
  case h3 => exact rfl
  intro h₁ F N kp2
  (try dsimp only)
  k_steps
  all_goals first
    | (exfalso; exact absurd rfl (by assumption))
    | (rename (News _ _ _ _) => N9
       dsimp only
       exact hR _ _ _ (Fr.keep (by assumption)) (N9 (cell, oc) (by simp)).1 (N9 (ll, _) (by simp)).1)
end Mine
namespace Mine
open PySem PySem.W PyProof.Rows
theorem flush26 {M : Model} {A : Around} {Q : Flow → Shared → Prop} {E : Value → Shared → Prop} {s : Shared} {env : Env} (h : wpAny M A (execs [] env) Q E s) : wpAny M A (execs [] env) Q E s := by
  k_with_none
  (try (walk1; fail))
  w_top off
  exact h
end Mine
namespace Mine
open PySem PySem.W PyProof.Rows PySem.Calls
set_option maxHeartbeats 1000000
set_option linter.unusedVariables false
theorem slot_ci_next : Slot "callable_iterator" "__next__" "callable_iterator.__next__" :=
  .of (owner := "callable_iterator") (n := "__next__") (by rw [typeLookup_type, builtinLookup_eq_fast]; kernel_rfl) (by decide +kernel) (by decide +kernel) (by decide +kernel)
    (by first | exact .inl (by decide +kernel) | exact .inr (by decide +kernel)) (by rw [isSubtype_type]; kernel_rfl)
theorem entry_ci_next : entryFor table "callable_iterator.__next__" = some Builtin.«callable_iterator.__next__» := entryFor_of_fast (by kernel_rfl)
theorem args_ci_next (a : Value) : argsOk "callable_iterator.__next__" ⟨[a], []⟩ := by unfold argsOk; kernel_rfl
theorem slot_ci_iter : Slot "callable_iterator" "__iter__" "callable_iterator.__iter__" :=
  .of (owner := "callable_iterator") (n := "__iter__") (by rw [typeLookup_type, builtinLookup_eq_fast]; kernel_rfl) (by decide +kernel) (by decide +kernel) (by decide +kernel)
    (by first | exact .inl (by decide +kernel) | exact .inr (by decide +kernel)) (by rw [isSubtype_type]; kernel_rfl)
theorem entry_ci_iter : entryFor table "callable_iterator.__iter__" = some Builtin.«dict_keyiterator.__iter__» :=
  entryFor_alias (id' := "dict_keyiterator.__iter__") (by kernel_rfl) rfl (by decide +kernel) (by kernel_rfl)
theorem args_ci_iter (a : Value) : argsOk "callable_iterator.__iter__" ⟨[a], []⟩ := by unfold argsOk; kernel_rfl
theorem slot_meth_call : Slot "method" "__call__" "method.__call__" :=
  .of (owner := "method") (n := "__call__") (by rw [typeLookup_type, builtinLookup_eq_fast]; kernel_rfl) (by decide +kernel) (by decide +kernel) (by decide +kernel)
    (by first | exact .inl (by decide +kernel) | exact .inr (by decide +kernel)) (by rw [isSubtype_type]; kernel_rfl)
theorem args_iter2 (a b : Value) : argsOk "iter" ⟨[a, b], []⟩ := by unfold argsOk; kernel_rfl

noncomputable def ciObj (q : Addr) (t : Tok) : Obj := { cls := .type "callable_iterator", data := .fields #[.ref q, .str (Str.ofString "") t, .bool false] }
noncomputable def ciEnd : Obj := { cls := .type "callable_iterator", data := .fields #[.none, .none, .bool true] }
section
variable {prog : Program} {w : World} {A : Around} {E : Value → Shared → Prop} {s : Shared} {q f it : Addr} {self : Value} {t : Tok}
theorem iter_ci {Q : Value → Shared → Prop} (hq : s.heap.get? q = some (methodObj (.ref f) self)) (h : Q (.ref s.heap.objs.size) { s with heap := s.heap.push (ciObj q t) }) :
    wpAny (model prog w) A (call (.builtin "iter") [.ref q, .str (Str.ofString "") t]) Q E s := by
  refine call_function_entry (by decide +kernel) (by decide +kernel) kdk_entry_iter (args_iter2 _ _) ?_
  unfold Builtin.«iter»
  refine wpAny_bind (m := someArgs "iter" 1 2 _) (wpAny_of_eq (a := [Value.ref q, .str (Str.ofString "") t]) (by first | rfl | kernel_rfl!) ?_)
  dsimp only
  refine wpAny_bind (wpAny_specialOf (T := "method") (name := Str.ofString "__call__") ⟨_, hq, rfl⟩ slot_meth_call.lookup ?_)
  refine wpAny_ite_split (fun hab => by cases hab) (fun _ => ?_)
  refine wpAny_bind (wpAny_rule ?_)
  unfold newFields
  exact wpAny_bind (wpAny_newObj_type (wpAny_pure ⟨_, rfl, h⟩) (by size_fits))

theorem callBorrowed_ {g : Value} {pos : List Value} {Q : Value → Shared → Prop}
    (hc : codeAny (model prog w) A (.call g ⟨pos, []⟩) (fun r s' => match r with | .ok (.ret v) => Q v s' | .ok _ => False | .error e => E e s') s) :
    wpAny (model prog w) A (callBorrowed g pos) Q E s := fun Γ p hΓ => by
  unfold callBorrowed
  rw [Sem.wp_call]
  refine wpCode_mono ?_ (hc _ p rfl (hΓ.enter _ none p (by intro x; cases x)))
  intro r s' h'
  cases r with
  | error e => exact h'
  | ok f => cases f <;> first | exact h' | exact h'.elim
theorem borrows_meth {o : Obj} {fd : FuncData} {Q : Bool → Shared → Prop} (hq : s.heap.get? q = some (methodObj (.ref f) self)) (hf : s.heap.get? f = some o) (hd : o.data = .func fd) (h : Q true s) :
    wpAny (model prog w) A (borrowsExactly (.ref q)) Q E s := by
  unfold borrowsExactly
  refine wpAny_bind (wpAny_load hq ?_)
  dsimp only
  refine wpAny_ite_split (fun _ => ?_) (fun hab => absurd rfl hab)
  refine wpAny_bind (wpAny_load hf ?_)
  simp only [hd]
  exact wpAny_pure h
theorem stop_raise {Q : α → Shared → Prop} (hh : A.handled = none) (h : ∀ e h', (∀ b o, s.heap.get? b = some o → h'.get? b = some o) → (∃ oe, h'.get? e = some oe ∧ oe.cls = .type "StopIteration") → E (.ref e) { s with heap := h' }) :
    wpAny (model prog w) A (Builtin.SmallTypes.stopIteration : Sem α) Q E s := by
  unfold Builtin.SmallTypes.stopIteration
  refine wpAny_bind ?_
  simp only [newExc, newTuple]
  refine wpAny_bind (wpAny_newObj_type ?_ (by size_fits))
  refine wpAny_bind (m := firstArgMember _ _) (wpAny_of_eq (a := Value.none) (by first | rfl | (simp only [firstArgMember]; rfl)) ?_)
  refine wpAny_newObj_type ?_ (by size_fits)
  simp only [raiseNew]
  refine wpAny_bind (wpAny_handled ?_)
  rw [hh]
  refine wpAny_bind (wpAny_pure (wpAny_throw ?_))
  exact h _ _ (fun b o e => Heap.get?_push_of_some _ (Heap.get?_push_of_some _ e)) ⟨_, Heap.get?_push_size _ rfl, rfl⟩
end
end Mine
namespace Mine
open PySem PySem.W PyProof.Rows
theorem flush27 {M : Model} {A : Around} {Q : Flow → Shared → Prop} {E : Value → Shared → Prop} {s : Shared} {env : Env} (h : wpAny M A (execs [] env) Q E s) : wpAny M A (execs [] env) Q E s := by
  k_with_none
  (try (walk1; fail))
  w_top off
  exact h
end Mine
namespace Mine
open PySem PySem.W PyProof.Rows PySem.Calls
set_option maxHeartbeats 1000000
set_option linter.unusedVariables false
section
variable {prog : Program} {w : World} {A : Around} {E : Value → Shared → Prop} {s : Shared} {q f it : Addr} {self : Value} {t : Tok}
/-- what a turn of the iterator owes: a text, and the three objects as they were -/
noncomputable def CiBack (it q f : Addr) (self : Value) (t : Tok) (E : Value → Shared → Prop) (Q : Option Value → Shared → Prop) (r : Result) (s' : Shared) : Prop :=
  match r with
  | .ok (.ret v) => ∃ x u o fd, v = .str x u ∧ s'.heap.get? it = some (ciObj q t) ∧ s'.heap.get? q = some (methodObj (.ref f) self) ∧ s'.heap.get? f = some o ∧ o.data = .func fd ∧
      (x ≠ Str.ofString "" → Q (some v) s') ∧
      (x = Str.ofString "" → ∀ h', h'.get? it = some ciEnd → (∀ b o, b ≠ it → s'.heap.get? b = some o → h'.get? b = some o) → Q none { s' with heap := h' })
  | _ => False
theorem letsGo_meth {o : Obj} {fd : FuncData} {who : String} {busy : Code → Bool} {Q : Unit → Shared → Prop} (hq : s.heap.get? q = some (methodObj (.ref f) self)) (hf : s.heap.get? f = some o) (hd : o.data = .func fd) (h : Q () s) :
    wpAny (model prog w) A (slotLetsGo who (.ref q) busy) Q E s := by
  unfold slotLetsGo
  refine wpAny_bind (borrows_meth hq hf hd ?_)
  refine wpAny_ite_split (fun _ => ?_) (fun hab => absurd rfl hab)
  exact wpAny_pure h
theorem next_end {Q : Option Value → Shared → Prop} (hh : A.handled = none) (hit : s.heap.get? it = some ciEnd) (h : ∀ h', (∀ b o, s.heap.get? b = some o → h'.get? b = some o) → Q none { s with heap := h' }) :
    wpAny (model prog w) A (pyNext (.ref it)) Q E s := by
  unfold pyNext
  refine wpAny_bind (wpAny_attempt (wpAny_callSpecial?_slot (name := Str.ofString "__next__") ⟨_, hit, rfl⟩ slot_ci_next
    (wpAny_call_entry slot_ci_next ⟨_, hit, rfl⟩ entry_ci_next ?_ (args_ci_next _))))
  show wpAny _ _ (field (.ref it) 2 >>= _) _ _ s
  refine wpAny_bind (wpAny_field hit rfl (x := .bool true) rfl ?_)
  refine wpAny_ite_split (fun _ => ?_) (fun hab => absurd (by decide) hab)
  refine wpAny_bind (wpAny_rule ?_)
  refine wpAny_bind (stop_raise hh fun e h' hk he => ?_)
  obtain ⟨oe, he1, he2⟩ := he
  refine wpAny_bind (wpAny_isInstance (T := "StopIteration") (b := true) ⟨_, he1, he2⟩ isSubtype_stop ?_)
  exact wpAny_pure (h h' hk)
theorem iter_self {o : Obj} {Q : Value → Shared → Prop} (hit : s.heap.get? it = some o) (hc : o.cls = .type "callable_iterator") (h : Q (.ref it) s) : wpAny (model prog w) A (pyIter (.ref it)) Q E s := by
  refine wpAny_pyIter_slot ⟨_, hit, hc⟩ slot_ci_iter (wpAny_call_entry slot_ci_iter ⟨_, hit, hc⟩ entry_ci_iter ?_ (args_ci_iter _))
  show wpAny _ _ (ret (.ref it)) _ _ s
  exact wpAny_pure ⟨_, rfl, "callable_iterator", _, ⟨_, hit, hc⟩, slot_ci_next.lookup, h⟩
theorem next_ci {Q : Option Value → Shared → Prop} (hh : A.handled = none) (hit : s.heap.get? it = some (ciObj q t)) (hq : s.heap.get? q = some (methodObj (.ref f) self)) {o : Obj} {fd : FuncData} (hf : s.heap.get? f = some o) (hd : o.data = .func fd)
    (hc : codeAny (model prog w) A.in1 (.call (.ref f) ⟨[self], []⟩) (CiBack it q f self t E Q) s) :
    wpAny (model prog w) A (pyNext (.ref it)) Q E s := by
  unfold pyNext
  refine wpAny_bind (wpAny_attempt (wpAny_callSpecial?_slot (name := Str.ofString "__next__") ⟨_, hit, rfl⟩ slot_ci_next
    (wpAny_call_entry slot_ci_next ⟨_, hit, rfl⟩ entry_ci_next ?_ (args_ci_next _))))
  show wpAny _ _ (field (.ref it) 2 >>= _) _ _ s
  refine wpAny_bind (wpAny_field hit rfl (x := .bool false) rfl ?_)
  refine wpAny_ite_split (fun hab => absurd hab (by decide)) (fun _ => ?_)
  refine wpAny_bind (wpAny_field hit rfl (x := .ref q) rfl ?_)
  refine wpAny_bind (wpAny_attempt ?_)
  unfold callOutOfASlot
  refine wpAny_bind (borrows_meth hq hf hd ?_)
  refine wpAny_ite_split (fun _ => ?_) (fun hab => absurd rfl hab)
  refine callBorrowed_ (method_call hq (codeAny_mono hc ?_))
  rintro (e | fl) s' h'
  · exact h'.elim
  cases fl with
  | ret v =>
    obtain ⟨x, u, o', fd', rfl, hit', hq', hf', hd', h1, h2⟩ := h'
    dsimp only
    refine wpAny_bind (wpAny_field hit' rfl (x := .bool false) rfl ?_)
    refine wpAny_ite_split (fun hab => absurd hab (by decide)) (fun _ => ?_)
    refine wpAny_bind (wpAny_field hit' rfl (x := .str (Str.ofString "") t) rfl ?_)
    refine wpAny_bind (wpAny_holding (wpAny_eqBool_str ?_))
    by_cases hx : Str.ofString "" = x
    · rw [decide_eq_true hx]
      refine wpAny_ite_split (fun hab => absurd hab (by decide)) (fun _ => ?_)
      refine wpAny_bind (wpAny_rule ?_)
      have hn := h2 hx.symm
      show wpAny _ _ ((field (.ref it) 0 >>= fun old => slotLetsGo "callable_iterator.__next__" old _ >>= fun _ => setField (.ref it) 0 .none >>= fun _ => setField (.ref it) 1 .none >>= fun _ => setField (.ref it) 2 (.bool true)) >>= fun _ => _) _ _ _
      refine wpAny_bind (wpAny_bind (wpAny_field hit' rfl (x := .ref q) rfl ?_))
      refine wpAny_bind (letsGo_meth hq' hf' hd' ?_)
      refine wpAny_bind (wpAny_setField hit' rfl (by simp) ?_)
      have g1 := Heap.get?_update_self (Obj.mapFields (·.setIfInBounds 0 .none)) hit' rfl
      refine wpAny_bind (wpAny_setField g1 rfl (by simp) ?_)
      have g2 := Heap.get?_update_self (Obj.mapFields (·.setIfInBounds 1 .none)) g1 rfl
      refine wpAny_setField g2 rfl (by simp) ?_
      have g3 := Heap.get?_update_self (Obj.mapFields (·.setIfInBounds 2 (.bool true))) g2 rfl
      refine stop_raise hh fun e h' hk he => ?_
      obtain ⟨oe, he1, he2⟩ := he
      refine wpAny_bind (wpAny_isInstance (T := "StopIteration") (b := true) ⟨_, he1, he2⟩ isSubtype_stop ?_)
      refine wpAny_pure (hn h' (hk _ _ g3) fun b o hb e => hk _ _ ?_)
      have hb' := Ne.symm hb
      exact Heap.get?_update_of_ne _ hb' (Heap.get?_update_of_ne _ hb' (Heap.get?_update_of_ne _ hb' e))
    · rw [decide_eq_false hx]
      refine wpAny_ite_split (fun _ => ?_) (fun hab => absurd rfl hab)
      exact wpAny_pure ⟨_, rfl, wpAny_pure (h1 (fun e => hx e.symm))⟩
  | _ => exact h'.elim
end
end Mine
namespace Mine
open PySem PySem.W PyProof.Rows
theorem flush28 {M : Model} {A : Around} {Q : Flow → Shared → Prop} {E : Value → Shared → Prop} {s : Shared} {env : Env} (h : wpAny M A (execs [] env) Q E s) : wpAny M A (execs [] env) Q E s := by
  k_with_none
  (try (walk1; fail))
  w_top off
  exact h
end Mine
namespace Mine
open PySem PySem.W PyProof.Rows PySem.Calls
set_option maxHeartbeats 1000000
set_option linter.unusedVariables false
/-- what a reader is made of -/
structure Lx where
  (x2 dx2 pb2 x1 dx1 pb1 f c' cell ll : Addr)
  (k1 k2 k3 k4 t2 j1 j2 j3 j4 j5 u1 u2 : Tok)
  (oc occ : Obj)
  (nm ql : Str)
  (doc pm ctv : Value)
  (pr : Arguments)
  (bd : List Stmt)
  (sc : Scope)
noncomputable abbrev heldDict (w : World) (k1 k2 k3 k4 k5 t1 t2 : Tok) (pb f : Addr) : Obj := dictOf [attrE w "lineno" k1 (.int 1 t1), attrE w "instream" k2 .none, attrE w "whitespace" k3 (.str (Str.ofString "\n\t\r ") t2), attrE w "pushback" k4 (.ref pb), attrE w "read" k5 (.ref f)] 5
noncomputable def Lx.objs (w : World) (z : Lx) (line : Int) (t1 : Tok) (vs : List Value) (n : Nat) : List (Addr × Obj) :=
  [(z.x2, instObj 73 z.dx2), (z.dx2, lexDict w z.k1 z.k2 z.k3 z.k4 t1 z.t2 line (.ref z.x1) z.pb2), (z.ll, listOf vs.toArray n), (z.pb2, listOf #[] 0), (z.x1, instObj 73 z.dx1), (z.dx1, heldDict w z.j1 z.j2 z.j3 z.j4 z.j5 z.u1 z.u2 z.pb1 z.f),
   (z.f, fnMade z.nm z.ql z.pr z.bd z.sc [(Str.ofString "left", z.cell)] z.doc z.pm z.c' z.ctv), (z.c', z.occ), (z.cell, z.oc)]
structure Lx.Ok (w : World) (z : Lx) : Prop where
  o1 : z.ll < z.cell
  o2 : z.cell < z.c'
  o3 : z.c' < z.f
  o4 : z.f < z.dx1
  o5 : z.dx1 < z.x1
  o6 : z.x1 < z.pb1
  o7 : z.pb1 < z.dx2
  o8 : z.dx2 < z.x2
  o9 : z.x2 < z.pb2
  hT : takeOf ((hd.heap_1 w.params).lookup 157) = some (z.nm, z.pr, z.bd, z.sc)
  hoc : z.oc.data = .cell (some (.ref z.ll))
  hcd : ∃ vs t, z.occ.data = .fields vs ∧ vs[1]? = some (.str z.ql t)
theorem upd_news {h₀ h h' : Heap} {L d : Addr} {o o' : Obj} {news news' : List (Addr × Obj)} (U : Upd d o o' news news') (N : News h₀ L h news) (hd : h'.get? d = some o') (hk : ∀ p ∈ news, p.1 ≠ d → h'.get? p.1 = some p.2) : News h₀ L h' news' := by
  obtain ⟨pre, post, e1, e2, a, b⟩ := U.split
  subst e1 e2
  intro p hp
  rcases List.mem_append.mp hp with hp | hp
  · exact ⟨hk p (List.mem_append_left _ hp) (a p hp), (N p (List.mem_append_left _ hp)).2⟩
  · rcases List.mem_cons.mp hp with rfl | hp
    · exact ⟨hd, (N _ (List.mem_append_right _ (.head _))).2⟩
    · exact ⟨hk p (List.mem_append_right _ (.tail _ hp)) (b p hp), (N p (List.mem_append_right _ (.tail _ hp))).2⟩
theorem upd_mem {d : Addr} {o o' : Obj} {news news' : List (Addr × Obj)} (U : Upd d o o' news news') : (d, o) ∈ news := by
  obtain ⟨pre, post, e1, e2, a, b⟩ := U.split
  subst e1
  exact List.mem_append_right _ (.head _)
section
variable {w : World} {E : Value → Shared → Prop} {s : Shared} {Q : Value → Shared → Prop} {h₀ h h' : Heap} {L : Addr} {m : Str → Option Value} {news news' : List (Addr × Obj)}
  {dp un : Nat} {fr : Option (List Env)} {gd : Option (List Code)} {env : Env} {mg mb : Str → Option Value} {loose : List Str}
  {nm ql : Str} {pr : Arguments} {bd : List Stmt} {sc : Scope} {cell ll c' f : Addr} {oc occ : Obj} {doc pm ctv : Value} {n c : Nat} {u t : Tok} {vs : List Value} {cs : List Nat}
theorem take_K (F : Fr h₀ L s.heap m) (N : News h₀ L s.heap news) (X : (hd.heap_1 w.params).In h₀) (T : TopRead viewQ loose mg mb h₀) (hr : dp + 11 < recursionLimit) (hu : un + 110 < cLine)
    (hT : takeOf ((hd.heap_1 w.params).lookup 157) = some (nm, pr, bd, sc)) (hoc : oc.data = .cell (some (.ref ll))) (hcd : ∃ vs t, occ.data = .fields vs ∧ vs[1]? = some (.str ql t))
    (hf : (f, fnMade nm ql pr bd sc [(Str.ofString "left", cell)] doc pm c' ctv) ∈ news) (hc : (c', occ) ∈ news) (hcl : (cell, oc) ∈ news) (hne : cell ≠ ll)
    (U : Upd ll (listOf (List.toArray (.str ⟨#[c]⟩ u :: vs)) n) (listOf vs.toArray (n + 1)) news news') (hS : SignsAre vs cs) (hok : ∀ x ∈ c :: cs, x < 128) (hvl : vs.length + 1 ≤ sizeLine)
    (hq : ∀ h' tk t, Fr h₀ L h' m → News h₀ L h' news' → Q (.str ⟨#[c]⟩ t) { s with heap := h', toks := tk }) :
    wpAny (model PySem.Challenge.rw_pg0244_01.row.prog w) (Around.deeper { depth := dp, frames := fr, guards := gd, units := un } env) (call (.ref f) [.int 1 t]) Q E s := by
  have hm : ∀ p ∈ [(cell, oc), (ll, listOf (List.toArray (.str ⟨#[c]⟩ u :: vs)) n)], p ∈ news := List.forall_mem_cons.mpr ⟨hcl, List.forall_mem_cons.mpr ⟨(upd_mem U), List.forall_mem_nil _⟩⟩
  have rd := ready_of F N X T hm
  obtain ⟨vsc, tc, hd1, hd2⟩ := hcd
  refine wpAny_call (take_ctr w _ s _ mg mb loose _ nm ql pr bd sc cell ll c' f oc doc pm ctv n c u vs cs t rd.X rd.T hT rd.kp rd.sz rd.hid hne hoc (N _ hf).1 ⟨c', occ, vsc, _, rfl, (N _ hc).1, hd1, hd2⟩ rfl (by show dp + 1 + 9 < _; omega) (by unfold Around.deeper; dsimp only; omega) hS hok hvl fun h' tk t kp h1 h2 => ?_)
  have F' := fr_hide F N hm kp
  refine hq h' tk t F' (upd_news U N h2 fun p hp hne' => ?_)
  by_cases hpc : p.1 = cell
  · have := (N p hp).1
    have h3 := (N _ hcl).1
    rw [hpc] at this ⊢
    rw [h3] at this
    rw [h1]; exact this
  · refine kp _ _ (hideAll_get _ (N p hp).1 fun hb => ?_)
    simp only [List.map_cons, List.map_nil, List.mem_cons, List.not_mem_nil, or_false] at hb
    exact hb.elim hpc hne'
theorem takeNil_K (F : Fr h₀ L s.heap m) (N : News h₀ L s.heap news) (X : (hd.heap_1 w.params).In h₀) (T : TopRead viewQ loose mg mb h₀) (hr : dp + 11 < recursionLimit) (hu : un + 110 < cLine)
    (hT : takeOf ((hd.heap_1 w.params).lookup 157) = some (nm, pr, bd, sc)) (hoc : oc.data = .cell (some (.ref ll))) (hcd : ∃ vs t, occ.data = .fields vs ∧ vs[1]? = some (.str ql t))
    (hf : (f, fnMade nm ql pr bd sc [(Str.ofString "left", cell)] doc pm c' ctv) ∈ news) (hc : (c', occ) ∈ news) (hcl : (cell, oc) ∈ news) (hne : cell ≠ ll)
    (hl : (ll, listOf (List.toArray ([] : List Value)) n) ∈ news)
    (hq : ∀ h' tk t, Fr h₀ L h' m → News h₀ L h' news → Q (.str (Str.ofString "") t) { s with heap := h', toks := tk }) :
    wpAny (model PySem.Challenge.rw_pg0244_01.row.prog w) (Around.deeper { depth := dp, frames := fr, guards := gd, units := un } env) (call (.ref f) [.int 1 t]) Q E s := by
  have hm : ∀ p ∈ [(cell, oc), (ll, listOf (List.toArray ([] : List Value)) n)], p ∈ news := List.forall_mem_cons.mpr ⟨hcl, List.forall_mem_cons.mpr ⟨hl, List.forall_mem_nil _⟩⟩
  have rd := ready_of F N X T hm
  obtain ⟨vsc, tc, hd1, hd2⟩ := hcd
  refine wpAny_call (take_nil w _ s _ mg mb loose _ nm ql pr bd sc cell ll c' f oc doc pm ctv n t rd.X rd.T hT rd.kp rd.sz rd.hid hne hoc (N _ hf).1 ⟨c', occ, vsc, _, rfl, (N _ hc).1, hd1, hd2⟩ rfl (by show dp + 1 + 9 < _; omega) (by unfold Around.deeper; dsimp only; omega) fun h' tk t kp h1 h2 => ?_)
  have kp' := kp_hide (hs := [(cell, oc), (ll, listOf (List.toArray ([] : List Value)) n)]) (fun p hp => (rd.hid p hp).1) kp (List.forall_mem_cons.mpr ⟨h1, List.forall_mem_cons.mpr ⟨h2, List.forall_mem_nil _⟩⟩)
  exact hq h' tk t (Fr.kept F kp') (News.kept N kp')
theorem sg_beq (c d : Nat) : (({ cps := #[c] } : Str) == { cps := #[d] }) = decide (c = d) := by
  by_cases h : c = d
  · subst h; rw [decide_eq_true rfl]; exact beq_self_eq_true _
  · rw [decide_eq_false h]
    refine beq_eq_false_iff_ne.mpr fun e => h ?_
    injection e with e
    have := congrArg Array.toList e
    simpa using this
end
end Mine
namespace Mine
open PySem PySem.W PyProof.Rows
theorem flush29 {M : Model} {A : Around} {Q : Flow → Shared → Prop} {E : Value → Shared → Prop} {s : Shared} {env : Env} (h : wpAny M A (execs [] env) Q E s) : wpAny M A (execs [] env) Q E s := by
  k_with_none
  (try (walk1; fail))
  w_top off
  exact h
end Mine
namespace Mine
open PySem PySem.W PyProof.Rows PySem.Calls
set_option maxHeartbeats 1000000
set_option linter.unusedVariables false
theorem kset24 : True := by
  k_with_none
  k_with "callWith ref" =>
    ((with_unfolding_all refine' callWith_F (by with_unfolding_all exact FnAt.of (by assumption) (by k_mem)) ?_); k_whole)
  k_with "call ref" =>
    first
      | (with_unfolding_all refine' take_K (by k_asm) (by k_asm) (by k_asm) (by k_asm) (by assumption) (by assumption) (by assumption) (by assumption) (by assumption) (by with_unfolding_all k_mem) (by with_unfolding_all k_mem) (by with_unfolding_all k_mem) (by assumption) (by with_unfolding_all k_upd) (by assumption) (by assumption) (by assumption) ?_; intro h'₉ tk'₉ t'₉ F'₉ N'₉; (try k_sweep))
      | refine halt ?_
  trivial
theorem read_ctr : ∀ (w : World) (A : Around) (s : Shared) (R : Result → Shared → Prop) (mg mb : Str → Option Value) (loose : List Str) (B : Heap) (z : Lx) (line : Int) (t1 : Tok) (n : Nat) (c : Nat) (u : Tok) (vs : List Value) (cs : List Nat)
    (X : (hd.heap_1 w.params).In B) (hrd : Ready w B s.heap (z.objs w line t1 (.str ⟨#[c]⟩ u :: vs) n) mg mb loose) (hz : z.Ok w)
    (hh : A.handled = none) (hr : A.depth + 13 < recursionLimit) (hu : A.units + 120 < cLine) (hS : SignsAre vs cs) (hok : ∀ x ∈ c :: cs, x < 128) (hvl : vs.length + 1 ≤ sizeLine)
    (hR : ∀ h tk t t1', Kp B h → (∀ p ∈ z.objs w (if c = 10 then line + 1 else line) t1' vs (n + 1), h.get? p.1 = some p.2) → R (.ok (.ret (.str ⟨#[c]⟩ t))) { s with heap := h, toks := tk }),
    codeAny (model PySem.Challenge.rw_pg0244_01.row.prog w) A (.call (.ref 56) ⟨[.ref z.x2], []⟩) R s := by
  k_fill
  intro w A s R mg mb loose B z line t1 n c u vs cs X hrd hz hh hr hu hS hok hvl hR
  obtain ⟨-, T, kpB, hsz, hid⟩ := hrd
  obtain ⟨ah, ad, af, ag, au⟩ := A
  dsimp only at hh hr hu
  subst hh
  obtain ⟨x2, dx2, pb2, x1, dx1, pb1, f, c', cell, ll, k1, k2, k3, k4, t2, j1, j2, j3, j4, j5, u1, u2, oc, occ, nm, ql, doc, pm, ctv, pr, bd, sc⟩ := z
  obtain ⟨o1, o2, o3, o4, o5, o6, o7, o8, o9, hT, hoc, hcd⟩ := hz
  dsimp only at o1 o2 o3 o4 o5 o6 o7 o8 o9 hT hoc hcd
  unfold Lx.objs at hid hR
  dsimp only at hid hR
  refine' enterKBq (B := B) (hid := [(x2, instObj 73 dx2), (dx2, lexDict w k1 k2 k3 k4 t1 t2 line (.ref x1) pb2), (ll, listOf (List.toArray (.str ⟨#[c]⟩ u :: vs)) n), (pb2, listOf #[] 0), (x1, instObj 73 dx1), (dx1, heldDict w j1 j2 j3 j4 j5 u1 u2 pb1 f),
   (f, fnMade nm ql pr bd sc [(Str.ofString "left", cell)] doc pm c' ctv), (c', occ), (cell, oc)]) (binds := [(Str.ofString "self", .ref x2)]) X kpB hsz hid T.nolimit ?ho ?hcd (by show ad < _; omega) (BindsTo.of_eq ?hb) ?hl ?hc ?h1 ?h2 ?h3 ?_
  case ho => k_dflt k_is
  case hcd => k_dflt k_is
  case hb => exact rfl
  case hl => exact locs rfl
  case hc => decide
  case h1 => exact rfl
  case h2 => exact rfl
  case h3 => exact rfl
  intro L₀ h₁ tk₀ m₀ F N kp2 envv Av Qv Ev
  clear hid
  replace o1 := ltN o1
  replace o2 := ltN o2
  replace o3 := ltN o3
  replace o4 := ltN o4
  replace o5 := ltN o5
  replace o6 := ltN o6
  replace o7 := ltN o7
  replace o8 := ltN o8
  replace o9 := ltN o9
  have hr11 : ad + 11 < recursionLimit := by omega
  have hu11 : au + 110 < cLine := by omega
  have hcl : cell ≠ ll := Ne.symm (Nat.ne_of_lt o1)
  (try dsimp only)
  k_steps
  all_goals
    rename (News _ _ _ _) => N9
    dsimp only
  · have e : c = 10 := of_decide_eq_true ((sg_beq c 10).symm.trans (by assumption))
    simp only [if_pos e] at hR
    exact hR _ _ _ _ (Fr.keep (by assumption)) fun p hp => (N9 p hp).1
  · have e : ¬ c = 10 := of_decide_eq_false ((sg_beq c 10).symm.trans (by assumption))
    simp only [if_neg e] at hR
    exact hR _ _ _ _ (Fr.keep (by assumption)) fun p hp => (N9 p hp).1
theorem kset25 : True := by
  k_with "call ref" =>
    first
      | (with_unfolding_all refine' takeNil_K (by k_asm) (by k_asm) (by k_asm) (by k_asm) (by assumption) (by assumption) (by assumption) (by assumption) (by assumption) (by with_unfolding_all k_mem) (by with_unfolding_all k_mem) (by with_unfolding_all k_mem) (by assumption) (by with_unfolding_all k_mem) ?_; intro h'₉ tk'₉ t'₉ F'₉ N'₉; (try k_sweep))
      | refine halt ?_
  trivial
theorem read_nil : ∀ (w : World) (A : Around) (s : Shared) (R : Result → Shared → Prop) (mg mb : Str → Option Value) (loose : List Str) (B : Heap) (z : Lx) (line : Int) (t1 : Tok) (n : Nat)
    (X : (hd.heap_1 w.params).In B) (hrd : Ready w B s.heap (z.objs w line t1 [] n) mg mb loose) (hz : z.Ok w)
    (hh : A.handled = none) (hr : A.depth + 13 < recursionLimit) (hu : A.units + 120 < cLine)
    (hR : ∀ h tk t, Kp B h → (∀ p ∈ z.objs w line t1 [] n, h.get? p.1 = some p.2) → R (.ok (.ret (.str (Str.ofString "") t))) { s with heap := h, toks := tk }),
    codeAny (model PySem.Challenge.rw_pg0244_01.row.prog w) A (.call (.ref 56) ⟨[.ref z.x2], []⟩) R s := by
  k_fill
  intro w A s R mg mb loose B z line t1 n X hrd hz hh hr hu hR
  obtain ⟨-, T, kpB, hsz, hid⟩ := hrd
  obtain ⟨ah, ad, af, ag, au⟩ := A
  dsimp only at hh hr hu
  subst hh
  obtain ⟨x2, dx2, pb2, x1, dx1, pb1, f, c', cell, ll, k1, k2, k3, k4, t2, j1, j2, j3, j4, j5, u1, u2, oc, occ, nm, ql, doc, pm, ctv, pr, bd, sc⟩ := z
  obtain ⟨o1, o2, o3, o4, o5, o6, o7, o8, o9, hT, hoc, hcd⟩ := hz
  dsimp only at o1 o2 o3 o4 o5 o6 o7 o8 o9 hT hoc hcd
  unfold Lx.objs at hid hR
  dsimp only at hid hR
  refine' enterKBq (B := B) (hid := [(x2, instObj 73 dx2), (dx2, lexDict w k1 k2 k3 k4 t1 t2 line (.ref x1) pb2), (ll, listOf (List.toArray []) n), (pb2, listOf #[] 0), (x1, instObj 73 dx1), (dx1, heldDict w j1 j2 j3 j4 j5 u1 u2 pb1 f),
   (f, fnMade nm ql pr bd sc [(Str.ofString "left", cell)] doc pm c' ctv), (c', occ), (cell, oc)]) (binds := [(Str.ofString "self", .ref x2)]) X kpB hsz hid T.nolimit ?ho ?hcd (by show ad < _; omega) (BindsTo.of_eq ?hb) ?hl ?hc ?h1 ?h2 ?h3 ?_
  case ho => k_dflt k_is
  case hcd => k_dflt k_is
  case hb => exact rfl
  case hl => exact locs rfl
  case hc => decide
  case h1 => exact rfl
  case h2 => exact rfl
  case h3 => exact rfl
  intro L₀ h₁ tk₀ m₀ F N kp2 envv Av Qv Ev
  clear hid
  replace o1 := ltN o1
  replace o2 := ltN o2
  replace o3 := ltN o3
  replace o4 := ltN o4
  replace o5 := ltN o5
  replace o6 := ltN o6
  replace o7 := ltN o7
  replace o8 := ltN o8
  replace o9 := ltN o9
  have hr11 : ad + 11 < recursionLimit := by omega
  have hu11 : au + 110 < cLine := by omega
  have hcl : cell ≠ ll := Ne.symm (Nat.ne_of_lt o1)
  (try dsimp only)
  k_steps
  all_goals first
    | (exfalso; have e := eq_of_beq (by assumption : (Str.ofString "" == Str.ofString "\n") = true); revert e; decide)
    | (rename (News _ _ _ _) => N9
       dsimp only
       exact hR _ _ _ (Fr.keep (by assumption)) fun p hp => (N9 p hp).1)
end Mine
namespace Mine
open PySem PySem.W PyProof.Rows
theorem flush30 {M : Model} {A : Around} {Q : Flow → Shared → Prop} {E : Value → Shared → Prop} {s : Shared} {env : Env} (h : wpAny M A (execs [] env) Q E s) : wpAny M A (execs [] env) Q E s := by
  k_with_none
  (try (walk1; fail))
  w_top off
  exact h
end Mine
namespace Mine
open PySem PySem.W PyProof.Rows PySem.Calls
set_option maxHeartbeats 1000000
set_option linter.unusedVariables false
theorem fn_of {K : Frag} {a : Addr} {o : Obj} {fd : FuncData} (h : K.lookup a = some o) (hd : o.data = .func fd) : ∃ o fd, K.lookup a = some o ∧ o.data = .func fd := ⟨o, fd, h, hd⟩
theorem fn56 : ∀ (w : World) (_ : PySem.Challenge.rw_pg0244_01.row.prog = PySem.Challenge.rw_pg0244_01.row.prog), ∃ o fd, (hd.heap_1 w.params).lookup 56 = some o ∧ o.data = .func fd := by
  k_fill
  intro w _
  refine' fn_of ?a ?b
  case a => k_dflt k_is
  case b => rfl
noncomputable def headStr : List Nat → Str
  | [] => Str.ofString ""
  | c :: _ => ⟨#[c]⟩
noncomputable def nlOf (line : Int) : List Nat → Int
  | [] => line
  | c :: _ => if c = 10 then line + 1 else line
noncomputable def ciOf (q : Addr) (tq : Tok) (live : Bool) : Obj := if live then ciObj q tq else ciEnd
/-- the reader and its iterator as they lie -/
noncomputable def LW (w : World) (h₀ : Heap) (L : Addr) (z : Lx) (q it : Addr) (tq : Tok) (cs : List Nat) (line : Int) (live : Bool) (h : Heap) (m : Str → Option Value) : Prop :=
  ∃ t1 vs n, Fr h₀ L h m ∧ News h₀ L h (z.objs w line t1 vs n ++ [(q, methodObj (.ref 56) (.ref z.x2)), (it, ciOf q tq live)]) ∧ SignsAre vs cs
theorem SignsAre.length_eq : ∀ {vs : List Value} {cs : List Nat}, SignsAre vs cs → vs.length = cs.length
  | _, _, .nil => rfl
  | _, _, .cons _ _ r => congrArg (· + 1) r.length_eq
theorem Lx.le {w : World} {z : Lx} (hz : z.Ok w) {line : Int} {t1 : Tok} {vs : List Value} {n : Nat} : ∀ p ∈ z.objs w line t1 vs n, p.1 ≤ z.pb2 := by
  obtain ⟨o1, o2, o3, o4, o5, o6, o7, o8, o9, -, -, -⟩ := hz
  have e9 : z.x2 ≤ z.pb2 := Nat.le_of_lt o9
  have e8 : z.dx2 ≤ z.pb2 := Nat.le_trans (Nat.le_of_lt o8) e9
  have e7 : z.pb1 ≤ z.pb2 := Nat.le_trans (Nat.le_of_lt o7) e8
  have e6 : z.x1 ≤ z.pb2 := Nat.le_trans (Nat.le_of_lt o6) e7
  have e5 : z.dx1 ≤ z.pb2 := Nat.le_trans (Nat.le_of_lt o5) e6
  have e4 : z.f ≤ z.pb2 := Nat.le_trans (Nat.le_of_lt o4) e5
  have e3 : z.c' ≤ z.pb2 := Nat.le_trans (Nat.le_of_lt o3) e4
  have e2 : z.cell ≤ z.pb2 := Nat.le_trans (Nat.le_of_lt o2) e3
  have e1 : z.ll ≤ z.pb2 := Nat.le_trans (Nat.le_of_lt o1) e2
  intro p hp
  simp only [Lx.objs, List.mem_cons, List.not_mem_nil, or_false] at hp
  rcases hp with rfl | rfl | rfl | rfl | rfl | rfl | rfl | rfl | rfl <;> first | assumption | exact Nat.le_refl _
theorem Lx.addrs (w : World) (z : Lx) (line line' : Int) (t1 t1' : Tok) (vs vs' : List Value) (n n' : Nat) : (z.objs w line t1 vs n).map (·.1) = (z.objs w line' t1' vs' n').map (·.1) := rfl
section
variable {w : World} {A : Around} {E : Value → Shared → Prop} {s : Shared} {R : Result → Shared → Prop} {h₀ : Heap} {L : Addr} {m : Str → Option Value} {mg mb : Str → Option Value} {loose : List Str}
  {z : Lx} {q it : Addr} {tq : Tok} {cs : List Nat} {line : Int} {live : Bool}
theorem LW.back {h h' : Heap} {t1 t1' : Tok} {vs vs' : List Value} {n n' : Nat} {line' : Int} {cs' : List Nat} (hz : z.Ok w) (hq : z.pb2 < q) (hit : q < it) (F : Fr h₀ L h m) (N : News h₀ L h (z.objs w line t1 vs n ++ [(q, methodObj (.ref 56) (.ref z.x2)), (it, ciOf q tq live)]))
    (kp : Kp (hideAll h ((z.objs w line t1 vs n).map (·.1))) h') (ho : ∀ p ∈ z.objs w line' t1' vs' n', h'.get? p.1 = some p.2) (hS : SignsAre vs' cs') : LW w h₀ L z q it tq cs' line' live h' m := by
  have hm : ∀ p ∈ z.objs w line t1 vs n, p ∈ z.objs w line t1 vs n ++ [(q, methodObj (.ref 56) (.ref z.x2)), (it, ciOf q tq live)] := fun p hp => List.mem_append_left _ hp
  refine ⟨t1', vs', n', fr_hide F N hm kp, fun p hp => ?_, hS⟩
  rcases List.mem_append.mp hp with hp | hp
  · refine ⟨ho p hp, ?_⟩
    have e : p.1 ∈ (z.objs w line t1 vs n).map (·.1) := by
      rw [Lx.addrs w z line line' t1 t1' vs vs' n n']
      exact List.mem_map.mpr ⟨p, hp, rfl⟩
    obtain ⟨p', hp', e'⟩ := List.mem_map.mp e
    rw [← e']
    exact (N p' (hm p' hp')).2
  · refine ⟨kp _ _ (hideAll_get _ (N p (List.mem_append_right _ hp)).1 fun hb => ?_), (N p (List.mem_append_right _ hp)).2⟩
    obtain ⟨p', hp', e'⟩ := List.mem_map.mp hb
    have h1 := Lx.le hz p' hp'
    have h2 : z.pb2 < p.1 := by
      simp only [List.mem_cons, List.not_mem_nil, or_false] at hp
      rcases hp with rfl | rfl
      · exact hq
      · exact Nat.lt_trans hq hit
    rw [e'] at h1
    exact absurd h2 (Nat.not_lt.mpr h1)
theorem read_code (hz : z.Ok w) (hq : z.pb2 < q) (hit : q < it) (X : (hd.heap_1 w.params).In h₀) (T : TopRead viewQ loose mg mb h₀) (hh : A.handled = none) (hr : A.depth + 13 < recursionLimit) (hu : A.units + 120 < cLine)
    (W : LW w h₀ L z q it tq cs line live s.heap m) (hok : ∀ x ∈ cs, x < 128) (hl : cs.length < 100000)
    (hR : ∀ h' tk t, LW w h₀ L z q it tq cs.tail (nlOf line cs) live h' m → R (.ok (.ret (.str (headStr cs) t))) { s with heap := h', toks := tk }) :
    codeAny (model PySem.Challenge.rw_pg0244_01.row.prog w) A (.call (.ref 56) ⟨[.ref z.x2], []⟩) R s := by
  obtain ⟨t1, vs, n, F, N, hS⟩ := W
  have rd := ready_of F N X T (fun p hp => List.mem_append_left _ hp)
  cases hS with
  | nil => exact read_nil w A s R mg mb loose _ z line t1 n rd.X rd hz hh hr hu fun h tk t kp ho => hR h tk t (LW.back hz hq hit F N kp ho .nil)
  | cons c u hS' =>
    have e := hS'.length_eq
    refine read_ctr w A s R mg mb loose _ z line t1 n c u _ _ rd.X rd hz hh hr hu hS' hok ?_ fun h tk t t1' kp ho => hR h tk t (LW.back hz hq hit F N kp ho hS')
    rw [sizeLine_eq]
    simp only [List.length_cons] at hl
    omega
theorem next_LW {Q : Option Value → Shared → Prop} (hz : z.Ok w) (hq : z.pb2 < q) (hit : q < it) (X : (hd.heap_1 w.params).In h₀) (T : TopRead viewQ loose mg mb h₀) (hh : A.handled = none) (hr : A.depth + 13 < recursionLimit) (hu : A.units + 130 < cLine)
    (W : LW w h₀ L z q it tq cs line live s.heap m) (hok : ∀ x ∈ cs, x < 128) (hl : cs.length < 100000)
    (h1 : ∀ c r h' tk t, live = true → cs = c :: r → LW w h₀ L z q it tq r (nlOf line (c :: r)) true h' m → Q (some (.str ⟨#[c]⟩ t)) { s with heap := h', toks := tk })
    (h2 : ∀ h' tk, (live = true → cs = []) → LW w h₀ L z q it tq cs line false h' m → Q none { s with heap := h', toks := tk }) :
    wpAny (model PySem.Challenge.rw_pg0244_01.row.prog w) A (pyNext (.ref it)) Q E s := by
  have F0 := W
  obtain ⟨t1, vs, n, F, N, hS⟩ := F0
  cases live with
  | false =>
    refine next_end hh (N _ (List.mem_append_right _ (.tail _ (.head _)))).1 fun h' kp => ?_
    exact h2 h' s.toks (fun e => by cases e) ⟨t1, vs, n, Fr.kept F kp, News.kept N kp, hS⟩
  | true =>
    obtain ⟨o, fd, e1, e2⟩ := fn56 w rfl
    have hfn : ∀ h : Heap, (∀ b o, h₀.get? b = some o → h.get? b = some o) → h.get? 56 = some o := fun h kp => kp _ _ (X _ _ e1)
    refine next_ci hh (N _ (List.mem_append_right _ (.tail _ (.head _)))).1 (N _ (List.mem_append_right _ (.head _))).1 (hfn _ F.keep) e2 ?_
    refine read_code hz hq hit X T hh hr (by show A.units + 1 + 120 < cLine; omega) W hok hl fun h' tk t W' => ?_
    have W2 := W'
    obtain ⟨t1', vs', n', F', N', hS'⟩ := W2
    refine ⟨_, _, o, fd, rfl, (N' _ (List.mem_append_right _ (.tail _ (.head _)))).1, (N' _ (List.mem_append_right _ (.head _))).1, hfn _ F'.keep, e2, fun hne => ?_, fun he h'' hend hk => ?_⟩
    · cases cs with
      | nil => exact absurd rfl hne
      | cons c r => exact h1 c r h' tk t rfl rfl W'
    · cases cs with
      | cons c r => exact absurd (congrArg Str.length he) (Nat.succ_ne_zero 0)
      | nil =>
        have hof : ∀ p ∈ z.objs w line t1' vs' n' ++ [(q, methodObj (.ref 56) (.ref z.x2))], p.1 ≠ it := fun p hp => by
          have hle : p.1 ≤ q := by
            rcases List.mem_append.mp hp with hp | hp
            · exact Nat.le_of_lt (Nat.lt_of_le_of_lt (Lx.le hz p hp) hq)
            · rw [List.mem_singleton.mp hp]; exact Nat.le_refl _
          exact Nat.ne_of_lt (Nat.lt_of_le_of_lt hle hit)
        have hiN := N' _ (List.mem_append_right _ (.tail _ (.head _)))
        have F3 : Fr h₀ L h'' m := ⟨F'.ns.at' fun o e => hk _ _ (Ne.symm hiN.2.1) e, fun b o e => hk b o (fun q => by rw [q, hiN.2.2] at e; cases e) (F'.keep b o e), F'.above⟩
        have N3 : News h₀ L h'' (z.objs w line t1' vs' n' ++ [(q, methodObj (.ref 56) (.ref z.x2)), (it, ciEnd)]) := fun p hp => by
          have split : p ∈ z.objs w line t1' vs' n' ++ [(q, methodObj (.ref 56) (.ref z.x2))] ∨ p = (it, ciEnd) := by
            rcases List.mem_append.mp hp with hp | hp
            · exact .inl (List.mem_append_left _ hp)
            · rcases List.mem_cons.mp hp with rfl | hp
              · exact .inl (List.mem_append_right _ (.head _))
              · exact .inr (List.mem_singleton.mp hp)
          rcases split with hp | rfl
          · have hp' : p ∈ z.objs w line t1' vs' n' ++ [(q, methodObj (.ref 56) (.ref z.x2)), (it, ciOf q tq true)] := (List.mem_append.mp hp).elim (fun x => List.mem_append_left _ x) fun x => List.mem_append_right _ (by rw [List.mem_singleton.mp x]; exact .head _)
            exact ⟨hk _ _ (hof p hp) (N' p hp').1, (N' p hp').2⟩
          · exact ⟨hend, hiN.2⟩
        exact h2 h'' tk (fun _ => rfl) ⟨t1', vs', n', F3, N3, hS'⟩
end
end Mine
namespace Mine
open PySem PySem.W PyProof.Rows
theorem flush31 {M : Model} {A : Around} {Q : Flow → Shared → Prop} {E : Value → Shared → Prop} {s : Shared} {env : Env} (h : wpAny M A (execs [] env) Q E s) : wpAny M A (execs [] env) Q E s := by
  k_with_none
  (try (walk1; fail))
  w_top off
  exact h
end Mine
namespace Mine
open PySem PySem.W PyProof.Rows PySem.Calls
set_option maxHeartbeats 1000000
set_option linter.unusedVariables false
noncomputable def isWs (c : Nat) : Bool := c == 10 || c == 9 || c == 13 || c == 32
noncomputable def nl1 (line : Int) (c : Nat) : Int := if c = 10 then line + 1 else line
/-- a quoted word, a plain word, a token: the word, what is left, the line -/
noncomputable def qTok : List Nat → Int → List Nat → List Nat × List Nat × Int
  | acc, line, [] => (acc, [], line)
  | acc, line, [c] => if c = 34 then (acc, [], nl1 line c) else if c = 92 then (acc, [], nl1 line c) else (acc ++ [c], [], nl1 line c)
  | acc, line, c :: d :: r => if c = 34 then (acc, d :: r, nl1 line c) else if c = 92 then qTok (acc ++ [d]) (nl1 (nl1 line c) d) r else qTok (acc ++ [c]) (nl1 line c) (d :: r)
noncomputable def wTok : List Nat → Int → List Nat → List Nat × List Nat × Int
  | acc, line, [] => (acc, [], line)
  | acc, line, [c] => if isWs c then (acc, [], nl1 line c) else if c = 92 then (acc, [], nl1 line c) else (acc ++ [c], [], nl1 line c)
  | acc, line, c :: d :: r => if isWs c then (acc, d :: r, nl1 line c) else if c = 92 then wTok (acc ++ [d]) (nl1 (nl1 line c) d) r else wTok (acc ++ [c]) (nl1 line c) (d :: r)
noncomputable def sTok : Int → List Nat → List Nat × List Nat × Int
  | line, [] => ([], [], line)
  | line, c :: r => if isWs c then sTok (nl1 line c) r else if c = 34 then qTok [] (nl1 line c) r else if c = 92 then wTok (r.take 1) (nlOf (nl1 line c) r) r.tail else wTok [c] (nl1 line c) r
theorem nlOf_cons (line : Int) (c : Nat) (r : List Nat) : nlOf line (c :: r) = nl1 line c := rfl
theorem qTok_q (acc : List Nat) (line : Int) (c : Nat) (r : List Nat) (h : c = 34) : qTok acc line (c :: r) = (acc, r, nl1 line c) := by
  cases r <;> simp only [qTok, if_pos h]
theorem qTok_e (acc : List Nat) (line : Int) (c : Nat) (r : List Nat) (h : c ≠ 34) (h2 : c = 92) : qTok acc line (c :: r) = qTok (acc ++ r.take 1) (nlOf (nl1 line c) r) r.tail := by
  cases r with
  | nil => simp only [qTok, if_neg h, if_pos h2, List.take_nil, List.append_nil, nlOf, List.tail_nil]
  | cons d r => simp only [qTok, if_neg h, if_pos h2, List.take_succ_cons, List.take_zero, nlOf_cons, List.tail_cons]
theorem qTok_o (acc : List Nat) (line : Int) (c : Nat) (r : List Nat) (h : c ≠ 34) (h2 : c ≠ 92) : qTok acc line (c :: r) = qTok (acc ++ [c]) (nl1 line c) r := by
  cases r <;> simp only [qTok, if_neg h, if_neg h2]
theorem wTok_q (acc : List Nat) (line : Int) (c : Nat) (r : List Nat) (h : isWs c = true) : wTok acc line (c :: r) = (acc, r, nl1 line c) := by
  cases r <;> simp only [wTok, if_pos h]
theorem wTok_e (acc : List Nat) (line : Int) (c : Nat) (r : List Nat) (h : isWs c = false) (h2 : c = 92) : wTok acc line (c :: r) = wTok (acc ++ r.take 1) (nlOf (nl1 line c) r) r.tail := by
  have h : ¬ isWs c = true := by rw [h]; exact Bool.false_ne_true
  cases r with
  | nil => simp only [wTok, if_neg h, if_pos h2, List.take_nil, List.append_nil, nlOf, List.tail_nil]
  | cons d r => simp only [wTok, if_neg h, if_pos h2, List.take_succ_cons, List.take_zero, nlOf_cons, List.tail_cons]
theorem wTok_o (acc : List Nat) (line : Int) (c : Nat) (r : List Nat) (h : isWs c = false) (h2 : c ≠ 92) : wTok acc line (c :: r) = wTok (acc ++ [c]) (nl1 line c) r := by
  have h : ¬ isWs c = true := by rw [h]; exact Bool.false_ne_true
  cases r <;> simp only [wTok, if_neg h, if_neg h2]
theorem ws_in : ∀ c < 128, (!(Builtin.Str.occurrences (Str.ofString "\n\t\r ") ⟨#[c]⟩ 0 (Str.ofString "\n\t\r ").length 1).isEmpty) = isWs c := by decide +kernel
section
variable {w : World} {A : Around} {E : Value → Shared → Prop} {s : Shared} {h₀ : Heap} {L : Addr} {mg mb : Str → Option Value} {loose : List Str}
  {z : Lx} {q it : Addr} {tq : Tok} {env : Env}
theorem in_ws {prog : Program} {c : Nat} {t u : Tok} {Q : Value → Shared → Prop} (hc : c < 128) (h : Q (.bool (isWs c)) s) : wpAny (model prog w) A (compareOp .In (.str ⟨#[c]⟩ t) (.str (Str.ofString "\n\t\r ") u)) Q E s :=
  PyProof.Rows.in_str (by rw [ws_in c hc]; exact h)
noncomputable abbrev chS : Str := Str.ofString "ch"
noncomputable def TurnL (w : World) (h₀ : Heap) (L : Addr) (z : Lx) (q it : Addr) (tq : Tok) (Inv : List Nat → Int → Bool → (Str → Option Value) → Prop) (r : List Nat) (s : Shared) (Q : Flow → Shared → Prop) (f : Flow) (s' : Shared) : Prop :=
  match f with
  | .ret v => Q (.ret v) s'
  | .brk => False
  | _ => ∃ r' line' live' m' h' tk', s' = { s with heap := h', toks := tk' } ∧ LW w h₀ L z q it tq r' line' live' h' m' ∧ Inv r' line' live' m' ∧ r'.length ≤ r.length ∧ ∀ x ∈ r', x < 128
theorem TurnL.next {Inv : List Nat → Int → Bool → (Str → Option Value) → Prop} {r r' : List Nat} {Q : Flow → Shared → Prop} {line' : Int} {live' : Bool} {m' : Str → Option Value} {h' : Heap} {tk' : Nat} (W : LW w h₀ L z q it tq r' line' live' h' m') (hI : Inv r' line' live' m') (hl : r'.length ≤ r.length) (hok : ∀ x ∈ r', x < 128) :
    TurnL w h₀ L z q it tq Inv r s Q .next { s with heap := h', toks := tk' } := ⟨r', line', live', m', h', tk', rfl, W, hI, hl, hok⟩
theorem TurnL.cont {Inv : List Nat → Int → Bool → (Str → Option Value) → Prop} {r r' : List Nat} {Q : Flow → Shared → Prop} {line' : Int} {live' : Bool} {m' : Str → Option Value} {h' : Heap} {tk' : Nat} (W : LW w h₀ L z q it tq r' line' live' h' m') (hI : Inv r' line' live' m') (hl : r'.length ≤ r.length) (hok : ∀ x ∈ r', x < 128) :
    TurnL w h₀ L z q it tq Inv r s Q .cont { s with heap := h', toks := tk' } := ⟨r', line', live', m', h', tk', rfl, W, hI, hl, hok⟩
theorem for_LW {iter : Expr} {body : List Stmt} {px pos : Pos} {Q : Flow → Shared → Prop} {cs0 : List Nat} {line0 : Int} {live0 : Bool} {m0 : Str → Option Value} (hL : env.locals = L)
    (hx : env.kindOf chS = some .local) (hp : (env.scope.kind == .class || (env.scope.kind == .module && env.locals != env.globals)) = false)
    (hz : z.Ok w) (hq : z.pb2 < q) (hit : q < it) (X : (hd.heap_1 w.params).In h₀) (T : TopRead viewQ loose mg mb h₀) (hh : A.handled = none) (hr : A.depth + 13 < recursionLimit) (hu : A.units + 130 < cLine)
    (Inv : List Nat → Int → Bool → (Str → Option Value) → Prop)
    (W : LW w h₀ L z q it tq cs0 line0 live0 s.heap m0) (h0 : Inv cs0 line0 live0 m0) (hok0 : ∀ x ∈ cs0, x < 128) (hl0 : cs0.length < 100000)
    (hiter : ∀ (Q' : Value → Shared → Prop), Q' (.ref it) s → wpAny (model PySem.Challenge.rw_pg0244_01.row.prog w) A (eval iter env) Q' E s)
    (turn : ∀ c r line m h tk t, Inv (c :: r) line true m → (∀ x ∈ c :: r, x < 128) → (c :: r).length < 100000 → LW w h₀ L z q it tq r (nl1 line c) true h (fun y => if y = chS then some (.str ⟨#[c]⟩ t) else m y) →
      wpAny (model PySem.Challenge.rw_pg0244_01.row.prog w) A (execs body env) (TurnL w h₀ L z q it tq Inv r s Q) (fun _ _ => False) { s with heap := h, toks := tk })
    (done : ∀ cs line live m h tk, Inv cs line live m → (live = true → cs = []) → (∀ x ∈ cs, x < 128) → cs.length ≤ cs0.length → LW w h₀ L z q it tq cs line false h m → Q .next { s with heap := h, toks := tk })
    (hs : ∀ x, foldedSetIterable iter env x = pure x := by intro _; rfl) (ht : ∀ v, letOwnedTupleGo (.Name chS px) (.ref it) v = pure () := by intro _; rfl) :
    wpAny (model PySem.Challenge.rw_pg0244_01.row.prog w) A (exec (.For (.Name chS px) iter body [] pos) env) Q E s := by
  subst hL
  refine wpAny_For (hiter _ ?_) hs
  have W0 := W
  obtain ⟨_, _, _, F0, N0, _⟩ := W0
  have hcls : (ciOf q tq live0).cls = .type "callable_iterator" := by cases live0 <;> rfl
  refine iter_self (N0 _ (List.mem_append_right _ (.tail _ (.head _)))).1 hcls ?_
  refine codeAny_forLoop (fun n s' => ∃ cs line live m h tk, s' = { s with heap := h, toks := tk } ∧ LW w h₀ env.locals z q it tq cs line live h m ∧ Inv cs line live m ∧ (∀ x ∈ cs, x < 128) ∧ cs.length < 100000 ∧ cs.length ≤ cs0.length ∧ n = cs.length) ?_ cs0.length
    ⟨cs0, line0, live0, m0, s.heap, s.toks, rfl, W, h0, hok0, hl0, Nat.le_refl _, rfl⟩ ht
  rintro n s' ⟨cs, line, live, m, h, tk, rfl, W, hI, hok, hl, hle, rfl⟩
  refine next_LW hz hq hit X T hh hr hu W hok hl ?_ ?_
  · rintro c r h' tk' t rfl rfl W'
    refine wpAny_assign_Name ?_
    obtain ⟨t1, vs, n', F', N', hS'⟩ := W'
    refine wpAny_storeName_local (v := .str ⟨#[c]⟩ t) hx F'.ns (fun h'' hn hs => ?_) hp
    have W2 : LW w h₀ env.locals z q it tq r (nl1 line c) true h'' (fun y => if y = chS then some (.str ⟨#[c]⟩ t) else m y) := ⟨t1, vs, n', F'.set hn hs, N'.set hs, hS'⟩
    refine wpAny_mono (turn c r line m h'' _ t hI hok hl W2) (fun f s₃ hf => ?_) fun _ _ x => x.elim
    cases f with
    | ret v => exact hf
    | brk => exact hf.elim
    | next =>
      obtain ⟨r', line', live', m', h₃, tk₃, rfl, W₃, hI₃, hlt, hok₃⟩ := hf
      simp only [List.length_cons] at hl hle
      exact ⟨r'.length, by simp only [List.length_cons]; omega, r', line', live', m', h₃, tk₃, rfl, W₃, hI₃, hok₃, by omega, by omega, rfl⟩
    | cont =>
      obtain ⟨r', line', live', m', h₃, tk₃, rfl, W₃, hI₃, hlt, hok₃⟩ := hf
      simp only [List.length_cons] at hl hle
      exact ⟨r'.length, by simp only [List.length_cons]; omega, r', line', live', m', h₃, tk₃, rfl, W₃, hI₃, hok₃, by omega, by omega, rfl⟩
  · intro h' tk' hlv W'
    exact wpAny_execs_nil (done cs line live m h' tk' hI hlv hok hle W')
end
end Mine
namespace Mine
open PySem PySem.W PyProof.Rows
theorem flush32 {M : Model} {A : Around} {Q : Flow → Shared → Prop} {E : Value → Shared → Prop} {s : Shared} {env : Env} (h : wpAny M A (execs [] env) Q E s) : wpAny M A (execs [] env) Q E s := by
  k_with_none
  (try (walk1; fail))
  w_top off
  exact h
end Mine
namespace Mine
open PySem PySem.W PyProof.Rows PySem.Calls
set_option maxHeartbeats 1000000
set_option linter.unusedVariables false
section
variable {prog : Program} {w : World} {A : Around} {E : Value → Shared → Prop} {s : Shared} {h₀ : Heap} {L q f : Addr} {m : Str → Option Value} {self : Value} {t : Tok} {news : List (Addr × Obj)}
theorem iterci_K {Q : Value → Shared → Prop} (F : Fr h₀ L s.heap m) (N : News h₀ L s.heap news) (hq : (q, methodObj (.ref f) self) ∈ news)
    (h : ∀ it h', Fr h₀ L h' m → News h₀ L h' ((it, ciObj q t) :: news) → (∀ p ∈ news, p.1 < it) → Q (.ref it) { s with heap := h' }) :
    wpAny (model prog w) A (call (.builtin "iter") [.ref q, .str (Str.ofString "") t]) Q E s :=
  iter_ci (N _ hq).1 (h _ _ (F.push _) (News.push F N _ rfl) (fun p hp => Heap.lt_size (N p hp).1))
theorem add_sg {acc : List Nat} {c : Nat} {t u : Tok} {Q : Value → Shared → Prop} (h : acc.length < 100000) (hq : ∀ t tk, Q (.str ⟨(acc ++ [c]).toArray⟩ t) { s with toks := tk }) :
    wpAny (model prog w) A (inplaceOp .Add (.str ⟨acc.toArray⟩ t) (.str ⟨#[c]⟩ u)) Q E s := by
  refine PyProof.Rows.iadd_str (fun t tk => ?_) (by
    rw [sizeLine_eq]
    have e1 : (⟨acc.toArray⟩ : Str).length = acc.length := by simp [Str.length]
    have e2 : (⟨#[c]⟩ : Str).length = 1 := rfl
    rw [e1, e2]; omega)
  have e : (⟨acc.toArray⟩ ++ ⟨#[c]⟩ : Str) = ⟨(acc ++ [c]).toArray⟩ := by
    show Str.mk (acc.toArray ++ #[c]) = _
    congr 1
    simp
  rw [e]; exact hq t tk
theorem add_hd {acc r : List Nat} {t u : Tok} {Q : Value → Shared → Prop} (h : acc.length < 100000) (hq : ∀ t tk, Q (.str ⟨(acc ++ r.take 1).toArray⟩ t) { s with toks := tk }) :
    wpAny (model prog w) A (inplaceOp .Add (.str ⟨acc.toArray⟩ t) (.str (headStr r) u)) Q E s := by
  cases r with
  | cons c r => exact add_sg h hq
  | nil =>
    refine PyProof.Rows.iadd_str (fun t tk => ?_) (by
      rw [sizeLine_eq]
      have e1 : (⟨acc.toArray⟩ : Str).length = acc.length := by simp [Str.length]
      have e2 : (headStr []).length = 0 := rfl
      rw [e1, e2]; omega)
    have e : (⟨acc.toArray⟩ ++ headStr [] : Str) = ⟨(acc ++ ([] : List Nat).take 1).toArray⟩ := by
      show Str.mk (acc.toArray ++ #[]) = _
      congr 1
      simp
    rw [e]; exact hq t tk
noncomputable abbrev tkS : Str := Str.ofString "token"
noncomputable def InvT (m₀ : Str → Option Value) (res : List Nat × List Nat × Int) (f : List Nat → Int → List Nat → List Nat × List Nat × Int) (cs : List Nat) (line : Int) (live : Bool) (m : Str → Option Value) : Prop :=
  Agree [chS, tkS] m m₀ ∧ live = true ∧ ∃ acc t, m tkS = some (.str ⟨acc.toArray⟩ t) ∧ f acc line cs = res ∧ acc.length + cs.length < 100000
noncomputable def InvO (m₀ : Str → Option Value) (res : List Nat × List Nat × Int) (cs : List Nat) (line : Int) (live : Bool) (m : Str → Option Value) : Prop :=
  Agree [chS, tkS] m m₀ ∧ ∃ acc t, m tkS = some (.str ⟨acc.toArray⟩ t) ∧ acc.length + cs.length < 100000 ∧ ((live = true ∧ acc = [] ∧ sTok line cs = res) ∨ (live = false ∧ (acc, cs, line) = res))
end
section
variable {w : World} {E : Value → Shared → Prop} {s : Shared} {Q : Value → Shared → Prop} {h₀ : Heap} {L : Addr} {m : Str → Option Value} {mg mb : Str → Option Value} {loose : List Str} {dp un : Nat} {fr : Option (List Env)} {gd : Option (List Code)} {env : Env}
  {z : Lx} {q it : Addr} {tq t1 : Tok} {cs : List Nat} {line : Int} {live : Bool} {vs : List Value} {n : Nat}
theorem read_K (hz : z.Ok w) (hq : z.pb2 < q) (hit : q < it) (X : (hd.heap_1 w.params).In h₀) (T : TopRead viewQ loose mg mb h₀) (hr : dp + 15 < recursionLimit) (hu : un + 140 < cLine) (F : Fr h₀ L s.heap m)
    (N : News h₀ L s.heap (z.objs w line t1 vs n ++ [(q, methodObj (.ref 56) (.ref z.x2)), (it, ciOf q tq live)])) (hS : SignsAre vs cs) (hok : ∀ x ∈ cs, x < 128) (hl : cs.length < 100000)
    (h : ∀ h' tk t t1' vs' n', Fr h₀ L h' m → News h₀ L h' (z.objs w (nlOf line cs) t1' vs' n' ++ [(q, methodObj (.ref 56) (.ref z.x2)), (it, ciOf q tq live)]) → SignsAre vs' cs.tail → Q (.str (headStr cs) t) { s with heap := h', toks := tk }) :
    wpAny (model PySem.Challenge.rw_pg0244_01.row.prog w) (Around.deeper { depth := dp, frames := fr, guards := gd, units := un } env) (call (.ref 56) [.ref z.x2]) Q E s :=
  wpAny_call (read_code hz hq hit X T rfl (by show dp + 1 + 13 < _; omega) (by unfold Around.deeper; dsimp only; omega) ⟨t1, vs, n, F, N, hS⟩ hok hl fun h' tk t W => let ⟨t1', vs', n', F', N', hS'⟩ := W; h h' tk t t1' vs' n' F' N' hS')
end
theorem kset26 : True := by
  k_with_none
  k_with "call builtin:iter" =>
    ((with_unfolding_all refine' iterci_K (by k_asm) (by k_asm) (by with_unfolding_all k_mem) ?_); intro _ _ _ _ l1₉; (try k_lt l1₉); (try k_sweep))
  k_with "compareOp In str str" =>
    (refine in_ws (by assumption) ?_)
  k_with "inplaceOp Add str str" =>
    first | (refine add_sg (by assumption) ?_; intro t'₉ tk'₉) | (refine add_hd (by assumption) ?_; intro _ _)
  k_with "call ref" =>
    (with_unfolding_all refine' read_K (by assumption) (by assumption) (by assumption) (by assumption) (by assumption) (by assumption) (by assumption) (by k_asm) (by with_unfolding_all assumption) (by with_unfolding_all assumption) (by assumption) (by assumption) ?_; intro _ _ _ _ _ _ _ _ _; (try k_sweep))
  k_with "exec For Name Name cons nil" =>
    refine halt ?_
  trivial
theorem get_ctr : ∀ (w : World) (A : Around) (s : Shared) (R : Result → Shared → Prop) (mg mb : Str → Option Value) (loose : List Str) (B : Heap) (z : Lx) (line : Int) (t1 : Tok) (n : Nat) (vs : List Value) (cs : List Nat)
    (X : (hd.heap_1 w.params).In B) (hrd : Ready w B s.heap (z.objs w line t1 vs n) mg mb loose) (hz : z.Ok w)
    (hh : A.handled = none) (hr : A.depth + 16 < recursionLimit) (hu : A.units + 150 < cLine) (hS : SignsAre vs cs) (hok : ∀ x ∈ cs, x < 128) (hl : cs.length < 10000)
    (hR : ∀ h tk t t1' vs' n', Kp B h → (∀ p ∈ z.objs w (sTok line cs).2.2 t1' vs' n', h.get? p.1 = some p.2) → SignsAre vs' (sTok line cs).2.1 → R (.ok (.ret (.str ⟨(sTok line cs).1.toArray⟩ t))) { s with heap := h, toks := tk }),
    codeAny (model PySem.Challenge.rw_pg0244_01.row.prog w) A (.call (.ref 63) ⟨[.ref z.x2], []⟩) R s := by
  k_fill
  intro w A s R mg mb loose B z line t1 n vs cs X hrd hz hh hr hu hS hok hl hR
  obtain ⟨-, T, kpB, hsz, hid⟩ := hrd
  obtain ⟨ah, ad, af, ag, au⟩ := A
  dsimp only at hh hr hu
  subst hh
  have o1 := ltN hz.o1
  have o2 := ltN hz.o2
  have o3 := ltN hz.o3
  have o4 := ltN hz.o4
  have o5 := ltN hz.o5
  have o6 := ltN hz.o6
  have o7 := ltN hz.o7
  have o8 := ltN hz.o8
  have o9 := ltN hz.o9
  refine' enterKBq (B := B) (hid := z.objs w line t1 vs n) (binds := [(Str.ofString "self", .ref z.x2)]) X kpB hsz hid T.nolimit ?ho ?hcd (by show ad < _; omega) (BindsTo.of_eq ?hb) ?hl ?hc ?h1 ?h2 ?h3 ?_
  case ho => k_dflt k_is
  case hcd => k_dflt k_is
  case hb => exact rfl
  case hl => exact locs rfl
  case hc => decide
  case h1 => exact rfl
  case h2 => exact rfl
  case h3 => exact rfl
  intro L₀ h₁ tk₀ m₀ F N kp2 envv Av Qv Ev
  clear hid
  unfold Lx.objs at N
  (try dsimp only)
  k_steps
  unfold Halt
  rename (Fr _ _ _ _) => F1
  rename (News _ _ _ _) => N1
  rename_i q _ l1 it _ _
  have l2 := l1₉
  refine' for_LW (q := q) (it := it) (cs0 := cs) (line0 := line) (live0 := true) rfl rfl rfl hz ?hq ?hit X T rfl ?hr ?hu (InvO _ (sTok line cs)) ⟨t1, vs, n, F1, ?N, hS⟩ ⟨Agree.refl, [], _, rfl, ?b, .inl ⟨rfl, rfl, rfl⟩⟩ hok ?hl (fun Q' hq' => ld F1 rfl hq') ?turn ?done
  case hq => exact l1.2.2.2.1
  case hit => exact l2.1
  case hr => show ad + 1 + 13 < _; omega
  case hu => (show (Around.deeper _ envv).units + _ < _); unfold Around.deeper; dsimp only; omega
  case N =>
    intro p hp
    refine N1 p ?_
    rcases List.mem_append.mp hp with hp | hp
    · exact .tail _ (.tail _ hp)
    · simp only [List.mem_cons, List.not_mem_nil, or_false] at hp
      rcases hp with rfl | rfl
      · exact .tail _ (.head _)
      · exact .head _
  case b => simp only [List.length_nil]; omega
  case hl => omega
  case done =>
    rintro cs' line' live' m' h' tk' ⟨hA, acc, ta, g1, hb, hcase⟩ hlv hok' hle W'
    have hres : (acc, cs', line') = sTok line cs := by
      rcases hcase with ⟨hl1, ha, e⟩ | ⟨hl1, e⟩
      · have := hlv hl1
        subst this
        rw [ha]; exact e
      · exact e
    obtain ⟨t1', vs', n', F2, N2, hS2⟩ := W'
    rw [agree_chain hA] at F2
    simp only [chainOf, g1] at F2
    clear F1 N1
    k_steps
    dsimp only
    have hK := Fr.keep (by assumption)
    rw [← hres] at hR
    exact hR _ _ _ t1' vs' n' hK (fun p hp => (N2 p (List.mem_append_left _ hp)).1) hS2
  case turn =>
    rintro c r line' m' h' tk' t ⟨hA, acc, ta, g1, hb, hcase⟩ hok' hl' W'
    obtain ⟨t1', vs', n', F2, N2, hS2⟩ := W'
    rw [agree_chain hA] at F2
    simp only [chainOf, g1] at F2
    clear F1 N1
    have hc : c < 128 := hok' c (.head _)
    have hq : z.pb2 < q := l1.2.2.2.1
    have hit : q < it := l2.1
    have hokr : ∀ x ∈ r, x < 128 := fun x hx => hok' x (.tail _ hx)
    have hlr : r.length < 100000 := by simp only [List.length_cons] at hl'; omega
    have hr15 : ad + 15 < recursionLimit := by omega
    have hu14 : au + 140 < cLine := by omega
    have hacc : acc.length < 100000 := by omega
    rcases hcase with ⟨-, ha, e⟩ | ⟨h0, -⟩
    case inr => cases h0
    k_steps
    all_goals (try dsimp only)
    all_goals rename (Fr _ _ _ _) => F3
    all_goals rename (News _ _ _ _) => N3
    · refine TurnL.cont ⟨_, _, _, F3, N3, hS2⟩ ⟨?a, acc, ta, rfl, ?b, .inl ⟨rfl, ha, ?c⟩⟩ (Nat.le_refl _) hokr
      case a => repeat (first | exact Agree.refl | refine Agree.set (by simp) ?_)
      case b => simp only [List.length_cons] at hb; omega
      case c =>
        rw [← e]
        rename isWs c = true => hw
        simp only [sTok, if_pos hw]
    · unfold Halt
      refine' for_LW (q := q) (it := it) (cs0 := r) (line0 := nl1 line' c) (live0 := true) rfl rfl rfl hz hq hit X T rfl ?hr ?hu (InvT _ (sTok line cs) qTok) ⟨_, _, _, F3, N3, hS2⟩ ⟨Agree.refl, rfl, acc, _, rfl, ?e, ?b⟩ hokr hlr (fun Q' hq' => ld F3 rfl hq') ?turn2 ?done2
      case hr => show ad + 1 + 13 < _; omega
      case hu => (show (Around.deeper _ envv).units + _ < _); unfold Around.deeper; dsimp only; omega
      case e =>
        rw [← e]
        rename isWs c = false => hw
        have h34 : c = 34 := of_decide_eq_true ((sg_beq c 34).symm.trans (by assumption))
        rw [ha]
        simp only [sTok, hw, Bool.false_eq_true, if_false, if_pos h34]
      case b => simp only [List.length_cons] at hb; omega
      case done2 =>
        rintro cs4 line4 live4 m4 h4 tk4 ⟨hA4, hl4, acc4, ta4, g4, e4, hb4⟩ hlv hok4 hle4 W4
        have e5 := hlv hl4
        subst e5
        obtain ⟨t14, vs4, n4, F4, N4, hS4⟩ := W4
        rw [agree_chain hA4] at F4
        simp only [chainOf, g4] at F4
        clear F3 N3
        k_steps
        all_goals (try dsimp only)
        rename (Fr _ _ _ _) => F5
        rename (News _ _ _ _) => N5
        refine TurnL.next ⟨_, _, _, F5, N5, hS4⟩ ⟨?a5, acc4, ta4, rfl, ?b5, .inr ⟨rfl, e4⟩⟩ (Nat.zero_le _) (fun _ h => nomatch h)
        case a5 => repeat (first | exact Agree.refl | refine Agree.set (by simp) ?_)
        case b5 => simp only [List.length_nil] at hb4 ⊢; omega
      case turn2 =>
        rintro c4 r4 line4 m4 h4 tk4 t4 ⟨hA4, -, acc4, ta4, g4, e4, hb4⟩ hok4 hl4 W4
        obtain ⟨t14, vs4, n4, F4, N4, hS4⟩ := W4
        rw [agree_chain hA4] at F4
        simp only [chainOf, g4] at F4
        clear F3 N3
        have hc4 : c4 < 128 := hok4 c4 (.head _)
        have hokr4 : ∀ x ∈ r4, x < 128 := fun x hx => hok4 x (.tail _ hx)
        have hlr4 : r4.length < 100000 := by simp only [List.length_cons] at hl4; omega
        have hacc4 : acc4.length < 100000 := by omega
        k_steps
        all_goals (try dsimp only)
        all_goals rename (Fr _ _ _ _) => F5
        all_goals rename (News _ _ _ _) => N5
        · have hx : c4 = 34 := of_decide_eq_true ((sg_beq c4 34).symm.trans (by assumption))
          rw [qTok_q _ _ _ _ hx] at e4
          rw [← e4] at hR
          exact hR _ _ _ _ _ _ (Fr.keep F5) (fun p hp => (N5 p (List.mem_append_left _ hp)).1) hS4
        · refine TurnL.next ⟨_, _, _, F5, N5, by assumption⟩ ⟨?a6, rfl, acc4 ++ r4.take 1, _, rfl, ?e6, ?b6⟩ (by rw [List.length_tail]; omega) (fun x hx => hokr4 x (List.mem_of_mem_tail hx))
          case a6 => repeat (first | exact Agree.refl | refine Agree.set (by simp) ?_)
          case e6 =>
            have hx : ¬ c4 = 34 := of_decide_eq_false ((sg_beq c4 34).symm.trans (by assumption))
            have hy : c4 = 92 := of_decide_eq_true ((sg_beq c4 92).symm.trans (by assumption))
            rw [← e4, qTok_e _ _ _ _ hx hy]
          case b6 => simp only [List.length_cons, List.length_append, List.length_take, List.length_tail] at hb4 ⊢; omega
        · refine TurnL.next ⟨_, _, _, F5, N5, hS4⟩ ⟨?a7, rfl, acc4 ++ [c4], _, rfl, ?e7, ?b7⟩ (Nat.le_refl _) hokr4
          case a7 => repeat (first | exact Agree.refl | refine Agree.set (by simp) ?_)
          case e7 =>
            have hx : ¬ c4 = 34 := of_decide_eq_false ((sg_beq c4 34).symm.trans (by assumption))
            have hy : ¬ c4 = 92 := of_decide_eq_false ((sg_beq c4 92).symm.trans (by assumption))
            rw [← e4, qTok_o _ _ _ _ hx hy]
          case b7 => simp only [List.length_cons, List.length_append, List.length_nil] at hb4 ⊢; omega
    · unfold Halt
      refine' for_LW (q := q) (it := it) (cs0 := r.tail) (line0 := nlOf (nl1 line' c) r) (live0 := true) rfl rfl rfl hz hq hit X T rfl ?hr ?hu (InvT _ (sTok line cs) wTok) ⟨_, _, _, F3, N3, (by assumption)⟩ ⟨Agree.refl, rfl, (acc ++ r.take 1), _, rfl, ?e, ?b⟩ (fun x hx => hokr x (List.mem_of_mem_tail hx)) (Nat.lt_of_le_of_lt (by rw [List.length_tail]; omega) hlr) (fun Q' hq' => ld F3 rfl hq') ?turn2 ?done2
      case hr => show ad + 1 + 13 < _; omega
      case hu => (show (Around.deeper _ envv).units + _ < _); unfold Around.deeper; dsimp only; omega
      case e =>
        rw [← e]
        rename isWs c = false => hw
        have h34 : ¬ c = 34 := of_decide_eq_false ((sg_beq c 34).symm.trans (by assumption))
        have h92 : c = 92 := of_decide_eq_true ((sg_beq c 92).symm.trans (by assumption))
        rw [ha]
        simp only [sTok, hw, Bool.false_eq_true, if_false, if_neg h34, if_pos h92, List.nil_append]
      case b => simp only [List.length_cons, List.length_append, List.length_take, List.length_tail] at hb ⊢; omega
      case done2 =>
        rintro cs4 line4 live4 m4 h4 tk4 ⟨hA4, hl4, acc4, ta4, g4, e4, hb4⟩ hlv hok4 hle4 W4
        have e5 := hlv hl4
        subst e5
        obtain ⟨t14, vs4, n4, F4, N4, hS4⟩ := W4
        rw [agree_chain hA4] at F4
        simp only [chainOf, g4] at F4
        clear F3 N3
        k_steps
        all_goals (try dsimp only)
        rename (Fr _ _ _ _) => F5
        rename (News _ _ _ _) => N5
        refine TurnL.next ⟨_, _, _, F5, N5, hS4⟩ ⟨?a5, acc4, ta4, rfl, ?b5, .inr ⟨rfl, e4⟩⟩ (Nat.zero_le _) (fun _ h => nomatch h)
        case a5 => repeat (first | exact Agree.refl | refine Agree.set (by simp) ?_)
        case b5 => simp only [List.length_nil] at hb4 ⊢; omega
      case turn2 =>
        rintro c4 r4 line4 m4 h4 tk4 t4 ⟨hA4, -, acc4, ta4, g4, e4, hb4⟩ hok4 hl4 W4
        obtain ⟨t14, vs4, n4, F4, N4, hS4⟩ := W4
        rw [agree_chain hA4] at F4
        simp only [chainOf, g4] at F4
        clear F3 N3
        have hc4 : c4 < 128 := hok4 c4 (.head _)
        have hokr4 : ∀ x ∈ r4, x < 128 := fun x hx => hok4 x (.tail _ hx)
        have hlr4 : r4.length < 100000 := by simp only [List.length_cons] at hl4; omega
        have hacc4 : acc4.length < 100000 := by omega
        k_steps
        all_goals (try dsimp only)
        all_goals rename (Fr _ _ _ _) => F5
        all_goals rename (News _ _ _ _) => N5
        · rename isWs c4 = true => hx
          rw [wTok_q _ _ _ _ hx] at e4
          rw [← e4] at hR
          exact hR _ _ _ _ _ _ (Fr.keep F5) (fun p hp => (N5 p (List.mem_append_left _ hp)).1) hS4
        · refine TurnL.next ⟨_, _, _, F5, N5, by assumption⟩ ⟨?a6, rfl, acc4 ++ r4.take 1, _, rfl, ?e6, ?b6⟩ (by rw [List.length_tail]; omega) (fun x hx => hokr4 x (List.mem_of_mem_tail hx))
          case a6 => repeat (first | exact Agree.refl | refine Agree.set (by simp) ?_)
          case e6 =>
            rename isWs c4 = false => hx
            have hy : c4 = 92 := of_decide_eq_true ((sg_beq c4 92).symm.trans (by assumption))
            rw [← e4, wTok_e _ _ _ _ hx hy]
          case b6 => simp only [List.length_cons, List.length_append, List.length_take, List.length_tail] at hb4 ⊢; omega
        · refine TurnL.next ⟨_, _, _, F5, N5, hS4⟩ ⟨?a7, rfl, acc4 ++ [c4], _, rfl, ?e7, ?b7⟩ (Nat.le_refl _) hokr4
          case a7 => repeat (first | exact Agree.refl | refine Agree.set (by simp) ?_)
          case e7 =>
            rename isWs c4 = false => hx
            have hy : ¬ c4 = 92 := of_decide_eq_false ((sg_beq c4 92).symm.trans (by assumption))
            rw [← e4, wTok_o _ _ _ _ hx hy]
          case b7 => simp only [List.length_cons, List.length_append, List.length_nil] at hb4 ⊢; omega
    · unfold Halt
      refine' for_LW (q := q) (it := it) (cs0 := r) (line0 := nl1 line' c) (live0 := true) rfl rfl rfl hz hq hit X T rfl ?hr ?hu (InvT _ (sTok line cs) wTok) ⟨_, _, _, F3, N3, hS2⟩ ⟨Agree.refl, rfl, (acc ++ [c]), _, rfl, ?e, ?b⟩ hokr hlr (fun Q' hq' => ld F3 rfl hq') ?turn2 ?done2
      case hr => show ad + 1 + 13 < _; omega
      case hu => (show (Around.deeper _ envv).units + _ < _); unfold Around.deeper; dsimp only; omega
      case e =>
        rw [← e]
        rename isWs c = false => hw
        have h34 : ¬ c = 34 := of_decide_eq_false ((sg_beq c 34).symm.trans (by assumption))
        have h92 : ¬ c = 92 := of_decide_eq_false ((sg_beq c 92).symm.trans (by assumption))
        rw [ha]
        simp only [sTok, hw, Bool.false_eq_true, if_false, if_neg h34, if_neg h92, List.nil_append]
      case b => simp only [List.length_cons, List.length_append, List.length_nil] at hb ⊢; omega
      case done2 =>
        rintro cs4 line4 live4 m4 h4 tk4 ⟨hA4, hl4, acc4, ta4, g4, e4, hb4⟩ hlv hok4 hle4 W4
        have e5 := hlv hl4
        subst e5
        obtain ⟨t14, vs4, n4, F4, N4, hS4⟩ := W4
        rw [agree_chain hA4] at F4
        simp only [chainOf, g4] at F4
        clear F3 N3
        k_steps
        all_goals (try dsimp only)
        rename (Fr _ _ _ _) => F5
        rename (News _ _ _ _) => N5
        refine TurnL.next ⟨_, _, _, F5, N5, hS4⟩ ⟨?a5, acc4, ta4, rfl, ?b5, .inr ⟨rfl, e4⟩⟩ (Nat.zero_le _) (fun _ h => nomatch h)
        case a5 => repeat (first | exact Agree.refl | refine Agree.set (by simp) ?_)
        case b5 => simp only [List.length_nil] at hb4 ⊢; omega
      case turn2 =>
        rintro c4 r4 line4 m4 h4 tk4 t4 ⟨hA4, -, acc4, ta4, g4, e4, hb4⟩ hok4 hl4 W4
        obtain ⟨t14, vs4, n4, F4, N4, hS4⟩ := W4
        rw [agree_chain hA4] at F4
        simp only [chainOf, g4] at F4
        clear F3 N3
        have hc4 : c4 < 128 := hok4 c4 (.head _)
        have hokr4 : ∀ x ∈ r4, x < 128 := fun x hx => hok4 x (.tail _ hx)
        have hlr4 : r4.length < 100000 := by simp only [List.length_cons] at hl4; omega
        have hacc4 : acc4.length < 100000 := by omega
        k_steps
        all_goals (try dsimp only)
        all_goals rename (Fr _ _ _ _) => F5
        all_goals rename (News _ _ _ _) => N5
        · rename isWs c4 = true => hx
          rw [wTok_q _ _ _ _ hx] at e4
          rw [← e4] at hR
          exact hR _ _ _ _ _ _ (Fr.keep F5) (fun p hp => (N5 p (List.mem_append_left _ hp)).1) hS4
        · refine TurnL.next ⟨_, _, _, F5, N5, by assumption⟩ ⟨?a6, rfl, acc4 ++ r4.take 1, _, rfl, ?e6, ?b6⟩ (by rw [List.length_tail]; omega) (fun x hx => hokr4 x (List.mem_of_mem_tail hx))
          case a6 => repeat (first | exact Agree.refl | refine Agree.set (by simp) ?_)
          case e6 =>
            rename isWs c4 = false => hx
            have hy : c4 = 92 := of_decide_eq_true ((sg_beq c4 92).symm.trans (by assumption))
            rw [← e4, wTok_e _ _ _ _ hx hy]
          case b6 => simp only [List.length_cons, List.length_append, List.length_take, List.length_tail] at hb4 ⊢; omega
        · refine TurnL.next ⟨_, _, _, F5, N5, hS4⟩ ⟨?a7, rfl, acc4 ++ [c4], _, rfl, ?e7, ?b7⟩ (Nat.le_refl _) hokr4
          case a7 => repeat (first | exact Agree.refl | refine Agree.set (by simp) ?_)
          case e7 =>
            rename isWs c4 = false => hx
            have hy : ¬ c4 = 92 := of_decide_eq_false ((sg_beq c4 92).symm.trans (by assumption))
            rw [← e4, wTok_o _ _ _ _ hx hy]
          case b7 => simp only [List.length_cons, List.length_append, List.length_nil] at hb4 ⊢; omega
end Mine
namespace Mine
open PySem PySem.W PyProof.Rows
theorem flush33 {M : Model} {A : Around} {Q : Flow → Shared → Prop} {E : Value → Shared → Prop} {s : Shared} {env : Env} (h : wpAny M A (execs [] env) Q E s) : wpAny M A (execs [] env) Q E s := by
  k_with_none
  (try (walk1; fail))
  w_top off
  exact h
end Mine
namespace Mine
open PySem PySem.W PyProof.Rows PySem.Calls
set_option maxHeartbeats 2000000
set_option linter.unusedVariables false
section
variable {w : World} {E : Value → Shared → Prop} {s : Shared} {Q : Value → Shared → Prop} {h₀ h h' : Heap} {L : Addr} {m : Str → Option Value} {news : List (Addr × Obj)}
  {dp un : Nat} {fr : Option (List Env)} {gd : Option (List Code)} {env : Env} {mg mb : Str → Option Value} {loose : List Str} {v : Value}
theorem lexmk_K (F : Fr h₀ L s.heap m) (N : News h₀ L s.heap news) (X : (hd.heap_1 w.params).In h₀) (T : TopRead viewQ loose mg mb h₀) (hr : dp + 8 < recursionLimit)
    (hq : ∀ h' tk x dx pb k1 k2 k3 k4 t1 t2, Fr h₀ L h' m → News h₀ L h' ((x, instObj 73 dx) :: (dx, lexDict w k1 k2 k3 k4 t1 t2 1 v pb) :: (pb, listOf #[] 0) :: news) → dx < x ∧ x < pb → (∀ p ∈ news, p.1 < dx) → Q (.ref x) { s with heap := h', toks := tk }) :
    wpAny (model PySem.Challenge.rw_pg0244_01.row.prog w) (Around.deeper { depth := dp, frames := fr, guards := gd, units := un } env) (call (.ref 73) [v]) Q E s := by
  refine wpAny_call (lexmk_ctr w _ s _ mg mb loose v (X.keeps F.keep) (T.keeps F.keep) rfl (by show dp + 1 + 5 < _; omega) fun h' tk x dx pb k1 k2 k3 k4 t1 t2 kp ho hlt hdx hf => ?_)
  have hx := fun (p : Addr × Obj) (hp : p ∈ [(x, instObj 73 dx), (dx, lexDict w k1 k2 k3 k4 t1 t2 1 v pb), (pb, listOf #[] 0)]) => (⟨by
    simp only [List.mem_cons, List.not_mem_nil, or_false] at hp
    rcases hp with rfl | rfl | rfl <;> exact hf _ (by simp), ho p hp⟩ : s.heap.get? p.1 = none ∧ h'.get? p.1 = some p.2)
  refine hq h' tk x dx pb k1 k2 k3 k4 t1 t2 (Fr.kept F kp) (News.adds (extra := [_, _, _]) N F kp hx) hlt fun p hp => Nat.lt_of_lt_of_le (Heap.lt_size (N p hp).1) hdx
end
theorem topRead_law {loose loose' : List Str} {mean : ExcName → Option Value} {mg mb : Str → Option Value} {h : Heap} (T : Top topProg loose mean mg mb h) : TopRead viewQ loose mg mb h := by
  have T' := topRead_of T
  exact ⟨T'.g, T'.b, T'.nolimit, T'.builtins, fun x h1 h2 _ _ _ => T'.free x h1 h2 (fun h => (nomatch h)) (fun h => (nomatch h)) (fun h => (nomatch h))⟩
theorem kset27 : True := by
  k_with_none
  k_with "call ref" =>
    first
      | (with_unfolding_all refine' lexmk_K (by k_asm) (by k_asm) (by k_asm) (by with_unfolding_all exact topRead_law (loose' := []) (by assumption)) (by assumption) ?_; intro h'₉ tk'₉ x'₉ dx'₉ pb'₉ k1'₉ k2'₉ k3'₉ k4'₉ t1'₉ t2'₉ F'₉ N'₉ l0₉ l1₉; (try k_lt l1₉); have l2 := ltN (And.left l0₉); have l3 := ltN (And.right l0₉); clear l0₉; (try k_sweep))
      | refine halt ?_
  trivial
theorem take_of {K : Frag} {a : Addr} {o : Obj} {x : Option (Str × Arguments × List Stmt × Scope)} (e : K.lookup a = some o) (h : takeOf (some o) = x) : takeOf (K.lookup a) = x := by rw [e]; exact h
theorem rd_mem {α : Type} {p a b c d e f g h i q r : α} (hp : p ∈ [a, b, c, d, e, f, g, h, i]) : p ∈ [a, b, d, e, f, q, g, h, i, c, r] := by
  simp only [List.mem_cons, List.not_mem_nil, or_false] at hp ⊢
  grind
theorem reader_end {w : World} {s : Shared} {R : Result → Shared → Prop} {B h : Heap} {L ll x2 dx2 pb2 x1 dx1 pb1 f c' cell : Addr} {k1 k2 k3 k4 t1 t2 j1 j2 j3 j4 j5 u1 u2 : Tok} {oc occ : Obj} {nm ql : Str} {doc pm ctv : Value} {pr : Arguments} {bd : List Stmt} {sc : Scope} {vs : Array Value} {tq : Tok} {ps : Array Value} {tk : Nat}
    (hR : ∀ h tk (z : Lx) t1 ps, z.Ok w → z.ll = ll → s.heap.objs.size ≤ z.cell → Kp B h → (∀ p ∈ z.objs w 1 t1 [] 0, h.get? p.1 = some p.2) → h.get? 152 = some (tabObj ps) → R (.ok (.ret (.ref z.x2))) { s with heap := h, toks := tk })
    (kp : Kp B h) (N : News B L h [(x2, instObj 73 dx2), (dx2, lexDict w k1 k2 k3 k4 t1 t2 1 (.ref x1) pb2), (pb2, listOf #[] 0), (x1, instObj 73 dx1), (dx1, heldDict w j1 j2 j3 j4 j5 u1 u2 pb1 f), (pb1, listOf #[] 0),
      (f, fnMade nm ql pr bd sc [(Str.ofString "left", cell)] doc pm c' ctv), (c', occ), (cell, oc), (ll, listOf #[] 0), (152, tabObj ps)])
    (hT : takeOf ((hd.heap_1 w.params).lookup 157) = some (nm, pr, bd, sc)) (hce : cell = s.heap.objs.size + 1) (hc1 : occ.data = .fields vs) (hc2 : vs[1]? = some (.str ql tq)) (hoc : oc.data = .cell (some (.ref ll)))
    (ho : ll < cell ∧ cell < c' ∧ c' < f ∧ f < dx1 ∧ dx1 < x1 ∧ x1 < pb1 ∧ pb1 < dx2 ∧ dx2 < x2 ∧ x2 < pb2) :
    R (.ok (.ret (.ref x2))) { s with heap := h, toks := tk } := by
  obtain ⟨o1, o2, o3, o4, o5, o6, o7, o8, o9⟩ := ho
  refine hR h tk ⟨x2, dx2, pb2, x1, dx1, pb1, f, c', cell, ll, k1, k2, k3, k4, t2, j1, j2, j3, j4, j5, u1, u2, oc, occ, nm, ql, doc, pm, ctv, pr, bd, sc⟩ t1 ps ⟨o1, o2, o3, o4, o5, o6, o7, o8, o9, hT, hoc, ⟨vs, tq, hc1, hc2⟩⟩ rfl (by show _ ≤ cell; rw [hce]; exact Nat.le_succ _) kp (fun p hp => (N p ?_).1) (N (152, tabObj ps) (by simp)).1
  exact rd_mem hp
theorem reader_ctr : ∀ (w : World) (A : Around) (s : Shared) (R : Result → Shared → Prop) (mg mb : Str → Option Value) (loose : List Str) (mean : ExcName → Option Value) (B : Heap) (ll : Addr)
    (X : (hd.heap_1 w.params).In B) (T : Top topProg loose mean mg mb B) (kpB : Kp B s.heap) (hsz : B.objs.size ≤ s.heap.objs.size) (hid : ∀ p ∈ [(ll, listOf #[] 0), (152, tabObj #[])], s.heap.get? p.1 = some p.2 ∧ B.get? p.1 = none) (hll : ll ≠ 152)
    (hh : A.handled = none) (hr : A.depth + 9 < recursionLimit)
    (hR : ∀ h tk (z : Lx) t1 ps, z.Ok w → z.ll = ll → s.heap.objs.size ≤ z.cell → Kp B h → (∀ p ∈ z.objs w 1 t1 [] 0, h.get? p.1 = some p.2) → h.get? 152 = some (tabObj ps) → R (.ok (.ret (.ref z.x2))) { s with heap := h, toks := tk }),
    codeAny (model PySem.Challenge.rw_pg0244_01.row.prog w) A (.call (.ref 157) ⟨[.ref ll], []⟩) R s := by
  k_fill
  intro w A s R mg mb loose mean B ll X T kpB hsz hid hll hh hr hR
  obtain ⟨ah, ad, af, ag, au⟩ := A
  dsimp only at hh hr
  subst hh
  have hl2 := neN hll
  refine' enterKC (B := B) (hid := [(ll, listOf #[] 0), (152, tabObj #[])]) (binds := [(Str.ofString "left", .ref ll)]) X kpB hsz hid T.nolimit ?ho ?hcd (by show ad < _; omega) (BindsTo.of_eq ?hb) ?hl ?hnd ?h1 ?h2 ?h3 ?_
  case ho => k_dflt k_is
  case hcd => k_dflt k_is
  case hb => exact rfl
  case hl => exact rfl
  case hnd => decide +kernel
  case h1 => exact rfl
  case h2 => exact rfl
  case h3 => exact rfl
  intro h₁ tk0 cells F N Y kp2
  k_cells Y
  have hr8 : ad + 8 < recursionLimit := by omega
  have hC8 : CodeHd B 156 152 := codeHd_of_K (c := 156) (P := 152) X (by kernel_rfl)
  have hl3 : s.heap.objs.size > ll := Heap.lt_size (hid _ (.head _)).1
  have hl4 : s.heap.objs.size > 152 := Heap.lt_size (hid _ (.tail _ (.head _))).1
  replace hl3 := ltN hl3
  replace hl4 := ltN hl4
  (try simp only [List.cons_append, List.nil_append] at N)
  (try dsimp only)
  k_steps
  rename (News _ _ _ _) => N9
  dsimp only
  refine' reader_end hR (Fr.keep (by assumption)) N9 ?e1 rfl (by assumption) (by assumption) ?e2 ?e3
  case e1 => refine' take_of ?e ?f; (case e => k_dflt k_is); (case f => exact rfl)
  case e2 => exact (by assumption : Obj.data _ = Data.cell _).trans rfl
  case e3 => refine ⟨ltN ?_, ltN ?_, ltN ?_, ltN ?_, ltN ?_, ltN ?_, ltN ?_, ltN ?_, ltN ?_⟩ <;> omega
end Mine
namespace Mine
open PySem PySem.W PyProof.Rows
theorem flush34 {M : Model} {A : Around} {Q : Flow → Shared → Prop} {E : Value → Shared → Prop} {s : Shared} {env : Env} (h : wpAny M A (execs [] env) Q E s) : wpAny M A (execs [] env) Q E s := by
  k_with_none
  (try (walk1; fail))
  w_top off
  exact h
end Mine
namespace Mine
open PySem PySem.W PyProof.Rows PySem.Calls
set_option maxHeartbeats 1000000
set_option linter.unusedVariables false
/-- a function's statements; the statements of a loop among them; its scope -/
noncomputable def bodyIn (o : Option Obj) : List Stmt := match o with
  | some ⟨_, _, .func fd, _⟩ => (match fd.body with
    | .stmts l => l
    | _ => [])
  | _ => []
noncomputable def loopIn (i : Nat) (l : List Stmt) : List Stmt := match l.drop i with
  | .For _ _ b _ _ :: _ => b
  | .While _ b _ _ :: _ => b
  | _ => []
noncomputable def stmtIn (i : Nat) (l : List Stmt) : Option Stmt := (l.drop i).head?
noncomputable def scopeIn (o : Option Obj) : Option Scope := match o with
  | some ⟨_, _, .func fd, _⟩ => some fd.scope
  | _ => none
noncomputable abbrev lawEnv (sc : Scope) (L : Addr) : Env := envOfC (Str.ofString "law") sc L 202 (.ref 201)
theorem law_use {K : Frag} {a : Addr} {o : Obj} {x : Option Stmt} {y : Option Scope} {f : List Stmt → Option Stmt} {P : Prop} (e : K.lookup a = some o) (h1 : f (bodyIn (K.lookup a)) = x) (h2 : scopeIn (K.lookup a) = y) (k : f (bodyIn (some o)) = x → scopeIn (some o) = y → P) : P := by
  rw [e] at h1 h2
  exact k h1 h2
theorem Agree.same {xs : List Str} {m₁ m₀ : Str → Option Value} {a : Str} {v : Option Value} (e : m₀ a = v) (h : Agree xs m₁ m₀) : Agree xs (fun y => if y = a then v else m₁ y) m₀ := fun y hy => by
  by_cases c : y = a
  · simp only [if_pos c]; rw [c]; exact e.symm
  · simp only [if_neg c]; exact h y hy
theorem Agree.trans {xs ys : List Str} {m₂ m₁ m₀ : Str → Option Value} (h : Agree xs m₂ m₁) (h' : Agree ys m₁ m₀) : Agree (xs ++ ys) m₂ m₀ := fun y hy => (h y fun x => hy (List.mem_append_left _ x)).trans (h' y fun x => hy (List.mem_append_right _ x))
theorem Agree.mono {xs ys : List Str} {m₁ m₀ : Str → Option Value} (h : Agree xs m₁ m₀) (hs : ∀ x ∈ xs, x ∈ ys) : Agree ys m₁ m₀ := fun y hy => h y fun x => hy (hs y x)
end Mine
namespace Mine
open PySem PySem.W PyProof.Rows
theorem flush35 {M : Model} {A : Around} {Q : Flow → Shared → Prop} {E : Value → Shared → Prop} {s : Shared} {env : Env} (h : wpAny M A (execs [] env) Q E s) : wpAny M A (execs [] env) Q E s := by
  k_with_none
  (try (walk1; fail))
  w_top off
  exact h
end Mine
namespace Mine
open PySem PySem.W PyProof.Rows PySem.Calls
set_option maxHeartbeats 1000000
set_option linter.unusedVariables false
theorem kset28 : True := by
  k_with_none
  k_with "mine agree" =>
    repeat (first
      | exact Agree.refl
      | (refine' Agree.set (by first | exact .head _ | exact .tail _ (.head _) | exact .tail _ (.tail _ (.head _))) ?_)
      | (refine' Agree.same (by assumption) ?_))
  trivial
theorem nm5 (x : Nat) : (x : Int).fmod 5 = ((x % 5 : Nat) : Int) := by rw [Int.fmod_eq_emod_of_nonneg _ (by decide)]; omega
theorem nd5 (x : Nat) : ((x : Int).fdiv 5).fmod 8 = ((x / 5 % 8 : Nat) : Int) := by rw [Int.fdiv_eq_ediv_of_nonneg _ (by decide), Int.fmod_eq_emod_of_nonneg _ (by decide)]; omega
theorem nd40 (x : Nat) : ((x : Int).fdiv 40).fmod 4 = ((x / 40 % 4 : Nat) : Int) := by rw [Int.fdiv_eq_ediv_of_nonneg _ (by decide), Int.fmod_eq_emod_of_nonneg _ (by decide)]; omega
theorem nd160 (x : Nat) : ((x : Int).fdiv 160).fmod 2 = ((x / 160 % 2 : Nat) : Int) := by rw [Int.fdiv_eq_ediv_of_nonneg _ (by decide), Int.fmod_eq_emod_of_nonneg _ (by decide)]; omega
theorem nd320 (x : Nat) : ((x : Int).fdiv 320).fmod 2 = ((x / 320 % 2 : Nat) : Int) := by rw [Int.fdiv_eq_ediv_of_nonneg _ (by decide), Int.fmod_eq_emod_of_nonneg _ (by decide)]; omega
theorem nd640 (x : Nat) : ((x : Int).fdiv 640).fmod 4 = ((x / 640 % 4 : Nat) : Int) := by rw [Int.fdiv_eq_ediv_of_nonneg _ (by decide), Int.fmod_eq_emod_of_nonneg _ (by decide)]; omega
theorem T1 : ∀ (w : World) (sc : Scope) (st : Stmt) (B h : Heap) (g : Array GenState) (dd : Drawn) (tk : Nat) (os : OsState) (L : Addr) (m : Str → Option Value) (tl : List (Addr × Obj)) (Q : Flow → Shared → Prop)
    (ad au : Nat) (af : Option (List Env)) (ag : Option (List Code)) (mg mb : Str → Option Value) (loose : List Str) (x : Nat) (tx : Tok)
    (X : (hd.heap_1 w.params).In B) (T : TopRead viewQ loose mg mb B) (hst : stmtIn 0 (loopIn 7 (bodyIn ((hd.heap_1 w.params).lookup 202))) = some st) (hsc : scopeIn ((hd.heap_1 w.params).lookup 202) = some sc) (hr : ad + 30 < recursionLimit) (hu : au + 200 < cLine)
    (F : Fr B L h m) (N : News B L h (tl))
    (hx : m (Str.ofString "x") = some (.int (x : Int) tx))
    (hq : ∀ h' tk' m' t1 t2 t3, Fr B L h' m' → News B L h' tl → Agree [Str.ofString "k", Str.ofString "run", Str.ofString "behind"] m' m → m' (Str.ofString "k") = some (.int ((x % 5 : Nat) : Int) t1) → m' (Str.ofString "run") = some (.int ((x / 5 % 8 : Nat) : Int) t2) → m' (Str.ofString "behind") = some (.int ((x / 40 % 4 : Nat) : Int) t3) → Q .next ⟨h', g, dd, tk', os⟩),
    wpAny (model PySem.Challenge.rw_pg0244_01.row.prog w) (Around.deeper { depth := ad, frames := af, guards := ag, units := au } (lawEnv sc L)) (exec st (lawEnv sc L)) Q (fun _ _ => False) ⟨h, g, dd, tk, os⟩ := by
  k_fill
  intro w sc st B h g dd tk os L m tl Q ad au af ag mg mb loose x tx X T hst hsc hr hu F N hx hq
  refine' law_use (f := fun l => stmtIn 0 (loopIn 7 l)) ?e hst hsc ?_
  case e => k_dflt k_is
  intro e1 e2
  cases e1
  cases e2
  clear hst hsc
  have F1 : Fr B L h (chainOf [Str.ofString "x"] m m) := by rw [← agree_chain Agree.refl]; exact F
  simp only [chainOf, hx] at F1
  clear F
  unfold lawEnv
  k_steps
  rename (Fr _ _ _ _) => F9
  rename (News _ _ _ _) => N9
  refine' hq _ _ _ _ _ _ F9 (fun p hp => N9 p (.tail _ hp)) ?a9 ?b9 ?c9 ?d9
  case a9 => walk_at "mine agree"
  case b9 => rw [← nm5 x]; rfl
  case c9 => rw [← nd5 x]; rfl
  case d9 => rw [← nd40 x]; rfl
theorem T2 : ∀ (w : World) (sc : Scope) (st : Stmt) (B h : Heap) (g : Array GenState) (dd : Drawn) (tk : Nat) (os : OsState) (L : Addr) (m : Str → Option Value) (tl : List (Addr × Obj)) (Q : Flow → Shared → Prop)
    (ad au : Nat) (af : Option (List Env)) (ag : Option (List Code)) (mg mb : Str → Option Value) (loose : List Str) (x : Nat) (tx : Tok)
    (X : (hd.heap_1 w.params).In B) (T : TopRead viewQ loose mg mb B) (hst : stmtIn 1 (loopIn 7 (bodyIn ((hd.heap_1 w.params).lookup 202))) = some st) (hsc : scopeIn ((hd.heap_1 w.params).lookup 202) = some sc) (hr : ad + 30 < recursionLimit) (hu : au + 200 < cLine)
    (F : Fr B L h m) (N : News B L h (tl))
    (hx : m (Str.ofString "x") = some (.int (x : Int) tx))
    (hq : ∀ h' tk' m' t1 t2 t3, Fr B L h' m' → News B L h' tl → Agree [Str.ofString "tabs", Str.ofString "equals", Str.ofString "way"] m' m → m' (Str.ofString "tabs") = some (.int ((x / 160 % 2 : Nat) : Int) t1) → m' (Str.ofString "equals") = some (.int ((x / 320 % 2 : Nat) : Int) t2) → m' (Str.ofString "way") = some (.int ((x / 640 % 4 : Nat) : Int) t3) → Q .next ⟨h', g, dd, tk', os⟩),
    wpAny (model PySem.Challenge.rw_pg0244_01.row.prog w) (Around.deeper { depth := ad, frames := af, guards := ag, units := au } (lawEnv sc L)) (exec st (lawEnv sc L)) Q (fun _ _ => False) ⟨h, g, dd, tk, os⟩ := by
  k_fill
  intro w sc st B h g dd tk os L m tl Q ad au af ag mg mb loose x tx X T hst hsc hr hu F N hx hq
  refine' law_use (f := fun l => stmtIn 1 (loopIn 7 l)) ?e hst hsc ?_
  case e => k_dflt k_is
  intro e1 e2
  cases e1
  cases e2
  clear hst hsc
  have F1 : Fr B L h (chainOf [Str.ofString "x"] m m) := by rw [← agree_chain Agree.refl]; exact F
  simp only [chainOf, hx] at F1
  clear F
  unfold lawEnv
  k_steps
  rename (Fr _ _ _ _) => F9
  rename (News _ _ _ _) => N9
  refine' hq _ _ _ _ _ _ F9 (fun p hp => N9 p (.tail _ hp)) ?a9 ?b9 ?c9 ?d9
  case a9 => walk_at "mine agree"
  case b9 => rw [← nd160 x]; rfl
  case c9 => rw [← nd320 x]; rfl
  case d9 => rw [← nd640 x]; rfl
noncomputable def lampT (k p : Nat) (t1 t2 t3 : Tok) : Obj := tupO [(lamp k p).1.v t1, (lamp k p).2.1.v t2, (lamp k p).2.2.v t3]
noncomputable def LampIn (tl : List (Addr × Obj)) (a : Addr) (k p : Nat) : Prop := ∃ t1 t2 t3, (a, lampT k p t1 t2 t3) ∈ tl
theorem LampIn.at {B h : Heap} {L a : Addr} {tl : List (Addr × Obj)} {k p : Nat} (x : LampIn tl a k p) (N : News B L h tl) : LampAt h a k p := let ⟨t1, t2, t3, e⟩ := x; ⟨t1, t2, t3, (N _ e).1⟩
theorem kset29 : True := by
  k_with "subscriptTail" =>
    (refine' sub5 (by with_unfolding_all exact News.isList (by assumption) (by assumption)) (by assumption) ?_ (by with_unfolding_all rfl))
  k_with "call ref" =>
    (refine' told_K (by k_asm) (by k_asm) (by k_asm) (by k_asm) (by assumption) ?_ ?_ (by exact LampIn.at (by assumption) (by assumption)) ?_; (· assumption); (· assumption); intro h'₉ tk'₉ a'₉ t1'₉ t2'₉ t3'₉ F'₉ N'₉ kp'₉ p1'₉ p2'₉; clear kp'₉; (try k_sweep))
  trivial
theorem T3 : ∀ (w : World) (sc : Scope) (st : Stmt) (B h : Heap) (g : Array GenState) (dd : Drawn) (tk : Nat) (os : OsState) (L : Addr) (m : Str → Option Value) (tl : List (Addr × Obj)) (Q : Flow → Shared → Prop)
    (ad au : Nat) (af : Option (List Env)) (ag : Option (List Code)) (mg mb : Str → Option Value) (loose : List Str) (k p : Nat) (lp : Addr) (nl : Nat) (as : Nat → Addr) (tk0 : Tok)
    (X : (hd.heap_1 w.params).In B) (T : TopRead viewQ loose mg mb B) (hst : stmtIn 2 (loopIn 7 (bodyIn ((hd.heap_1 w.params).lookup 202))) = some st) (hsc : scopeIn ((hd.heap_1 w.params).lookup 202) = some sc) (hr : ad + 30 < recursionLimit) (hu : au + 200 < cLine)
    (F : Fr B L h m) (N : News B L h (tl))
    (hk : m (Str.ofString "k") = some (.int (k : Int) tk0)) (hlm : m (Str.ofString "lamps") = some (.ref lp)) (hlp : (lp, listOf (refs5 as).toArray nl) ∈ tl) (hk5 : k < 5) (hp : p < 16) (hlamp : LampIn tl (as k) k p)
    (hq : ∀ h' tk' m' a t1 t2 t3, Fr B L h' m' → News B L h' ((a, tupO [.float (hB p) t1, .float (lK k) t2, .int (gK k) t3]) :: tl) → 0 < t1 → 0 < t2 → Agree [Str.ofString "told"] m' m → m' (Str.ofString "told") = some (.ref a) → Q .next ⟨h', g, dd, tk', os⟩),
    wpAny (model PySem.Challenge.rw_pg0244_01.row.prog w) (Around.deeper { depth := ad, frames := af, guards := ag, units := au } (lawEnv sc L)) (exec st (lawEnv sc L)) Q (fun _ _ => False) ⟨h, g, dd, tk, os⟩ := by
  k_fill
  intro w sc st B h g dd tk os L m tl Q ad au af ag mg mb loose k p lp nl as tk0  X T hst hsc hr hu F N hk hlm hlp hk5 hp hlamp hq
  refine' law_use (f := fun l => stmtIn 2 (loopIn 7 l)) ?e hst hsc ?_
  case e => k_dflt k_is
  intro e1 e2
  cases e1
  cases e2
  clear hst hsc
  have F1 : Fr B L h (chainOf [Str.ofString "k", Str.ofString "lamps"] m m) := by rw [← agree_chain Agree.refl]; exact F
  simp only [chainOf, hk, hlm] at F1
  clear F
  unfold lawEnv
  have hr9 : ad + 9 < recursionLimit := by omega
  k_steps
  rename (Fr _ _ _ _) => F9
  rename (News _ _ _ _) => N9
  refine' hq _ _ _ _ _ _ _ F9 N9 (by assumption) (by assumption) ?a9 rfl
  case a9 => walk_at "mine agree"
end Mine
namespace Mine
open PySem PySem.W PyProof.Rows
theorem flush36 {M : Model} {A : Around} {Q : Flow → Shared → Prop} {E : Value → Shared → Prop} {s : Shared} {env : Env} (h : wpAny M A (execs [] env) Q E s) : wpAny M A (execs [] env) Q E s := by
  k_with_none
  (try (walk1; fail))
  w_top off
  exact h
end Mine
namespace Mine
open PySem PySem.W PyProof.Rows PySem.Calls
set_option maxHeartbeats 1000000
set_option linter.unusedVariables false
theorem kset30 : True := by
  k_with_none
  k_with "mine agree" =>
    repeat (first
      | exact Agree.refl
      | (refine' Agree.set (by first | exact .head _ | exact .tail _ (.head _) | exact .tail _ (.tail _ (.head _))) ?_)
      | (refine' Agree.same (by assumption) ?_))
  trivial
theorem ns_none {K : Frag} {h : Heap} {a : Addr} {m : Str → Option Value} {n : Str} (X : K.In h) (G : h.Ns a m) (e : nsIn K a n = some none) : m n = none := by
  obtain ⟨o, es, ep, ho, hd, _, hf⟩ := G
  unfold nsIn at e
  split at e
  · rename_i c d es' n' sl q
    have h1 := X _ _ q
    rw [ho] at h1
    cases h1
    cases hd
    split at e
    · cases e
    · rename_i he
      rw [← hf]
      unfold nsFind findBy
      rw [← Array.find?_toList, he]
      rfl
  · cases e
theorem booked0 : ∀ (w : World) (B : Heap) (_ : PySem.Challenge.rw_pg0244_01.row.prog = PySem.Challenge.rw_pg0244_01.row.prog), (hd.heap_1 w.params).In B → B.NoLimit → NoneBooked B := by
  k_fill
  intro w B _ X nl
  obtain ⟨mc, hn, _⟩ := nl
  refine ⟨mc, hn, ns_none X hn ?_⟩
  k_dflt k_is
theorem booked {w : World} {B h : Heap} (X : (hd.heap_1 w.params).In B) (nl : B.NoLimit) (kp : ∀ b o, B.get? b = some o → h.get? b = some o) : NoneBooked h := let ⟨mc, hn, e⟩ := booked0 w B rfl X nl; ⟨mc, hn.keeps kp, e⟩
theorem isSame_flo {M : Model} {A : Around} {E : Value → Shared → Prop} {s : Shared} {y z : UInt64} {u v : Tok} {Q : Bool → Shared → Prop} (hu : 0 < u) (hv : 0 < v) (hb : NoneBooked s.heap) (hq : ∀ b, Q b s) : wpAny M A (isSame (.float y u) (.float z v)) Q E s := by
  show wpAny M A (isSame.created _ u v) Q E s
  unfold isSame.created
  have h0 : (u == 0 || v == 0) = false := by
    have e1 : (u == 0) = false := beq_eq_false_iff_ne.mpr (Nat.ne_of_gt hu)
    have e2 : (v == 0) = false := beq_eq_false_iff_ne.mpr (Nat.ne_of_gt hv)
    rw [e1, e2]; rfl
  refine wpAny_ite ?_
  split
  · rename_i h; rw [h0] at h; exact absurd h Bool.false_ne_true
  refine wpAny_ite ?_
  split
  · exact wpAny_pure (hq _)
  refine wpAny_ite ?_
  split
  · exact wpAny_pure (hq _)
  refine wpAny_bind (wpAny_sharingNotTold_none hb ?_)
  refine wpAny_ite_split (fun h => by cases h) (fun _ => ?_)
  refine wpAny_bind (wpAny_sharingNotTold_none hb ?_)
  refine wpAny_ite_split (fun h => by cases h) (fun _ => ?_)
  exact wpAny_bind (wpAny_rule (wpAny_bind (wpAny_askSetting (wpAny_pure (hq _)))))
open PySem.SeqAt in
theorem eqAt_flo {A : Around} {s : Shared} {a : UInt64} {t u : Tok} (ht : 0 < t) (hu : 0 < u) (hb : NoneBooked s.heap) (h : (Float64.cmp a a == some Ordering.eq) = true) : EqAt A s (.float a t) (.float a u) true := fun prog w E Q hq => by
  unfold eqBool
  show wpAny _ _ (if (Value.float a t == Value.float a u) = true then _ else _) Q E s
  by_cases hab : (Value.float a t == Value.float a u) = true
  · rw [if_pos hab]
    exact wpAny_bind (wpAny_rule (wpAny_pure hq))
  · rw [if_neg hab]
    refine wpAny_bind (isSame_flo ht hu hb fun b => ?_)
    refine wpAny_ite_split (fun _ => wpAny_pure hq) (fun _ => ?_)
    refine wpAny_bind (richCompare_gives (op := .Eq) (T := "float") (AutoFloatOps.typeIs_float s a t) (AutoFloatOps.typeIs_float s a u) F.slot_float_eq F.entry_float_eq (F.args_float_eq_2 _ _) (AutoFloatG5.float___eq___float_float_0 a t a u) (fun x => nomatch x) ?_)
    show wpAny _ _ (truthy (Value.bool (Float64.cmp a a == some Ordering.eq))) _ _ _
    refine wpAny_truthy_bool ?_
    rw [h]; exact hq
theorem hB_eq : ∀ p < 16, (Float64.cmp (hB p) (hB p) == some Ordering.eq) = true := by decide +kernel
theorem lK_eq : ∀ k < 5, (Float64.cmp (lK k) (lK k) == some Ordering.eq) = true := by decide +kernel
section
variable {w : World} {A : Around} {E : Value → Shared → Prop} {s : Shared} {Q : Value → Shared → Prop} {h₀ : Heap} {L : Addr} {news : List (Addr × Obj)}
open PySem.SeqAt in
theorem told_ne {prog : Program} {a b : Addr} {k p : Nat} {t1 t2 t3 u1 u2 u3 : Tok} (N : News h₀ L s.heap news) (ha : (a, tupO [.float (hB p) t1, .float (lK k) t2, .int (gK k) t3]) ∈ news) (hb : (b, tupO [.float (hB p) u1, .float (lK k) u2, .int (gK k) u3]) ∈ news)
    (hk : k < 5) (hp : p < 16) (p1 : 0 < t1) (p2 : 0 < t2) (q1 : 0 < u1) (q2 : 0 < u2) (hbk : NoneBooked s.heap) (hu : A.units < cLine) (h : Q (.bool false) s) : wpAny (model prog w) A (compareOp .NotEq (.ref a) (.ref b)) Q E s := by
  have h1 : s.heap.IsTuple a (List.toArray [.float (hB p) t1, .float (lK k) t2, .int (gK k) t3]) := ⟨_, (N _ ha).1, rfl, _, rfl⟩
  have h2 : s.heap.IsTuple b (List.toArray [.float (hB p) u1, .float (lK k) u2, .int (gK k) u3]) := ⟨_, (N _ hb).1, rfl, _, rfl⟩
  refine RcNeAt.tuples h1 h2 (e := fun _ => true) hu (fun j j1 j2 => ?_) prog w E Q h
  match j, j1, j2 with
  | 0, _, _ => exact eqAt_flo p1 q1 hbk (hB_eq p hp)
  | 1, _, _ => exact eqAt_flo p2 q2 hbk (lK_eq k hk)
  | 2, _, _ =>
    have := EqAt.int_int (A := A.in1) (s := s) (gK k) t3 (gK k) u3
    rw [beq_self_eq_true] at this
    exact this
noncomputable def pl5 (P : Nat → Nat) : List Int := [(P 0 : Int), (P 1 : Int), (P 2 : Int), (P 3 : Int), (P 4 : Int)]
theorem sub_pl {prog : Program} {value slice : PySem.Expr} {l : Addr} {vs : List Value} {n : Nat} {P : Nat → Nat} {k : Nat} {u : Tok} (N : News h₀ L s.heap news) (hm : (l, listOf vs.toArray n) ∈ news) (hI : IntsAre vs (pl5 P)) (hk : k < 5) (h : ∀ t, Q (.int ((P k : Nat) : Int) t) s)
    (hs : subscripted slice false (.ref l) (.int (k : Int) u) = operate [.ref l, .int (k : Int) u] (getItem (.ref l) (.int (k : Int) u)) := by with_unfolding_all rfl) :
    wpAny (model prog w) A (subscriptTail value slice (.ref l) (.int (k : Int) u)) Q E s := by
  have hl := News.isList N hm
  have e0 : (pl5 P)[k]? = some ((P k : Nat) : Int) := lt5 (P := fun k => (pl5 P)[k]? = some ((P k : Nat) : Int)) hk rfl rfl rfl rfl rfl
  obtain ⟨t, ht⟩ := hI.get k _ e0
  refine tail_any hl.typeIs slot_list_getitem.lookup (wpAny_getItem_list hl (by omega) (by omega) ?_ (h t)) hs
  rw [Int.toNat_natCast]
  simpa using ht
theorem sub_kind {prog : Program} {value slice : PySem.Expr} {a : Addr} {l : List Value} {j : Nat} {i : Int} {v : Value} {u : Tok} (N : News h₀ L s.heap news) (hm : (a, tupO l) ∈ news) (h0 : 0 ≤ i) (h1 : i < 2 ^ 63) (hj : i = (j : Int)) (hv : l[j]? = some v) (h : Q v s)
    (hs : subscripted slice false (.ref a) (.int i u) = operate [.ref a, .int i u] (getItem (.ref a) (.int i u)) := by with_unfolding_all rfl) :
    wpAny (model prog w) A (subscriptTail value slice (.ref a) (.int i u)) Q E s := by
  subst hj
  refine item_tupleT (j := j) (News.isTup N hm) (by omega) h1 ?_ hv h hs
  unfold seqIndex?
  have e1 : j < l.length := by
    rcases Nat.lt_or_ge j l.length with e | e
    · exact e
    · rw [List.getElem?_eq_none e] at hv; cases hv
  have n1 : ¬ (j : Int) < 0 := by omega
  have n2 : (decide (0 ≤ (j : Int)) && decide ((j : Int) < (l.length : Int))) = true := by simp only [Bool.and_eq_true, decide_eq_true_eq]; omega
  simp only [n1, if_false, n2, if_true, Int.toNat_natCast]
end
theorem kset31 : True := by
  k_with "subscriptTail" =>
    first
      | (refine' sub5 (by with_unfolding_all exact News.isList (by assumption) (by (first | assumption | exact .head _ | exact .tail _ (by assumption) | exact .tail _ (.tail _ (by assumption)) | exact .tail _ (.tail _ (.tail _ (by assumption))) | exact .tail _ (.tail _ (.tail _ (.tail _ (by assumption)))) | exact .tail _ (.tail _ (.tail _ (.tail _ (.tail _ (by assumption)))))))) (by assumption) ?_ (by with_unfolding_all rfl))
      | (refine' sub_pl (by k_asm) (by (first | assumption | exact .head _ | exact .tail _ (by assumption) | exact .tail _ (.tail _ (by assumption)) | exact .tail _ (.tail _ (.tail _ (by assumption))) | exact .tail _ (.tail _ (.tail _ (.tail _ (by assumption)))) | exact .tail _ (.tail _ (.tail _ (.tail _ (.tail _ (by assumption))))))) (by assumption) (by assumption) ?_ (by with_unfolding_all rfl); intro _)
      | (refine' sub_kind (j := 0) (by k_asm) (by (first | assumption | exact .head _ | exact .tail _ (by assumption) | exact .tail _ (.tail _ (by assumption)) | exact .tail _ (.tail _ (.tail _ (by assumption))) | exact .tail _ (.tail _ (.tail _ (.tail _ (by assumption)))) | exact .tail _ (.tail _ (.tail _ (.tail _ (.tail _ (by assumption))))))) (by decide) (by decide) rfl (by exact rfl) ?_ (by with_unfolding_all rfl))
      | (refine' sub_kind (j := 2) (by k_asm) (by (first | assumption | exact .head _ | exact .tail _ (by assumption) | exact .tail _ (.tail _ (by assumption)) | exact .tail _ (.tail _ (.tail _ (by assumption))) | exact .tail _ (.tail _ (.tail _ (.tail _ (by assumption)))) | exact .tail _ (.tail _ (.tail _ (.tail _ (.tail _ (by assumption))))))) (by decide) (by decide) rfl (by exact rfl) ?_ (by with_unfolding_all rfl))
      | (refine' sub_kind (j := 3) (by k_asm) (by (first | assumption | exact .head _ | exact .tail _ (by assumption) | exact .tail _ (.tail _ (by assumption)) | exact .tail _ (.tail _ (.tail _ (by assumption))) | exact .tail _ (.tail _ (.tail _ (.tail _ (by assumption)))) | exact .tail _ (.tail _ (.tail _ (.tail _ (.tail _ (by assumption))))))) (by decide) (by decide) rfl (by exact rfl) ?_ (by with_unfolding_all rfl))
  k_with "binaryOp Div int int" =>
    (refine div16 rfl (by omega) ?_)
  k_with "compareOp NotEq ref ref" =>
    (refine' told_ne (by k_asm) (by (first | assumption | exact .head _ | exact .tail _ (by assumption) | exact .tail _ (.tail _ (by assumption)) | exact .tail _ (.tail _ (.tail _ (by assumption))) | exact .tail _ (.tail _ (.tail _ (.tail _ (by assumption)))) | exact .tail _ (.tail _ (.tail _ (.tail _ (.tail _ (by assumption))))))) (by (first | assumption | exact .head _ | exact .tail _ (by assumption) | exact .tail _ (.tail _ (by assumption)) | exact .tail _ (.tail _ (.tail _ (by assumption))) | exact .tail _ (.tail _ (.tail _ (.tail _ (by assumption)))) | exact .tail _ (.tail _ (.tail _ (.tail _ (.tail _ (by assumption))))))) (by assumption) (by assumption) (by assumption) (by assumption) (by exact Nat.succ_pos _) (by assumption) (by exact booked (by assumption) (TopRead.nolimit (by assumption)) (Fr.keep (by k_asm))) (by unfold Around.deeper; dsimp only; omega) ?_)
  trivial
theorem T4 : ∀ (w : World) (sc : Scope) (st : Stmt) (B h : Heap) (g : Array GenState) (dd : Drawn) (tk : Nat) (os : OsState) (L : Addr) (m : Str → Option Value) (tl : List (Addr × Obj)) (Q : Flow → Shared → Prop)
    (ad au : Nat) (af : Option (List Env)) (ag : Option (List Code)) (mg mb : Str → Option Value) (loose : List Str) (k : Nat) (tk0 : Tok) (a : Addr) (u1 u2 u3 : Tok) (oS oP oK oD : Obj) (pl : Addr) (pvs : List Value) (np : Nat) (P : Nat → Nat) (kl : Addr) (ka : Nat → Addr) (v1 v2 v3 v4 : Tok)
    (X : (hd.heap_1 w.params).In B) (T : TopRead viewQ loose mg mb B) (hst : stmtIn 3 (loopIn 7 (bodyIn ((hd.heap_1 w.params).lookup 202))) = some st) (hsc : scopeIn ((hd.heap_1 w.params).lookup 202) = some sc) (hr : ad + 30 < recursionLimit) (hu : au + 200 < cLine)
    (F : Fr B L h m) (N : News B L h ((L + 1 + 1 + 1 + 1, oS) :: (L + 1 + 1 + 1, oP) :: (L + 1 + 1, oK) :: (L + 1, oD) :: tl))
    (hk : m (Str.ofString "k") = some (.int (k : Int) tk0)) (hto : m (Str.ofString "told") = some (.ref a)) (hta : (a, tupO [.float (hB (P k)) u1, .float (lK k) u2, .int (gK k) u3]) ∈ tl) (dP : oP.data = .cell (some (.ref pl))) (dK : oK.data = .cell (some (.ref kl))) (hpl : (pl, listOf pvs.toArray np) ∈ tl) (hpv : IntsAre pvs (pl5 P)) (hkl : (kl, listO (refs5 ka)) ∈ tl) (hka : (ka k, tupO [(sK k).v v1, (vK k).v v2, .float (lK k) v3, .int (gK k) v4]) ∈ tl) (hk5 : k < 5) (hp : P k < 16) (q1 : 0 < u1) (q2 : 0 < u2) (q3 : 0 < v3)
    (hq : ∀ h' tk', Fr B L h' m → News B L h' ((L + 1 + 1 + 1 + 1, oS) :: (L + 1 + 1 + 1, oP) :: (L + 1 + 1, oK) :: (L + 1, oD) :: tl) → Q .next ⟨h', g, dd, tk', os⟩),
    wpAny (model PySem.Challenge.rw_pg0244_01.row.prog w) (Around.deeper { depth := ad, frames := af, guards := ag, units := au } (lawEnv sc L)) (exec st (lawEnv sc L)) Q (fun _ _ => False) ⟨h, g, dd, tk, os⟩ := by
  k_fill
  intro w sc st B h g dd tk os L m tl Q ad au af ag mg mb loose k tk0 a u1 u2 u3 oS oP oK oD pl pvs np P kl ka v1 v2 v3 v4 X T hst hsc hr hu F N hk hto hta dP dK hpl hpv hkl hka hk5 hp q1 q2 q3 hq
  refine' law_use (f := fun l => stmtIn 3 (loopIn 7 l)) ?e hst hsc ?_
  case e => k_dflt k_is
  intro e1 e2
  cases e1
  cases e2
  clear hst hsc
  have F1 : Fr B L h (chainOf [Str.ofString "k", Str.ofString "told"] m m) := by rw [← agree_chain Agree.refl]; exact F
  simp only [chainOf, hk, hto] at F1
  clear F
  unfold lawEnv
  k_steps
  rename (Fr _ _ _ _) => F9
  rename (News _ _ _ _) => N9
  exact hq _ _ (by rw [agree_chain (xs := [Str.ofString "k", Str.ofString "told"]) (m := m) (m₀ := m) Agree.refl]; simp only [chainOf, hk, hto]; exact F9) (fun p hp => N9 p (.tail _ hp))
end Mine
namespace Mine
open PySem PySem.W PyProof.Rows
theorem flush37 {M : Model} {A : Around} {Q : Flow → Shared → Prop} {E : Value → Shared → Prop} {s : Shared} {env : Env} (h : wpAny M A (execs [] env) Q E s) : wpAny M A (execs [] env) Q E s := by
  k_with_none
  (try (walk1; fail))
  w_top off
  exact h
end Mine
namespace Mine
open PySem PySem.W PyProof.Rows PySem.Calls
set_option maxHeartbeats 1000000
set_option linter.unusedVariables false
theorem kset32 : True := by
  k_with_none
  k_with "mine agree" =>
    repeat (first
      | exact Agree.refl
      | (refine' Agree.set (by first | exact .head _ | exact .tail _ (.head _) | exact .tail _ (.tail _ (.head _))) ?_)
      | (refine' Agree.same (by assumption) ?_))
  trivial
theorem hB_int : ∀ p < 16, Float64.isFinite (Float64.mul (hB p) (Float64.ofInt 16)) = true ∧ Flt.toInt Float64.truncOf (Float64.mul (hB p) (Float64.ofInt 16)) = (p : Int) := by decide +kernel
theorem wrTxt_len (x : Str) (way : Nat) (h : x.length ≤ 300) : (wrTxt x way).length ≤ 5000 := by
  unfold wrTxt
  split
  · omega
  · have e1 : (Txt.replace x (Str.ofString " ") (Str.ofString "\n\t") ++ Str.ofString " \n").length = (Txt.replace x (Str.ofString " ") (Str.ofString "\n\t")).length + 2 := by
      show (Array.size (_ ++ _)) = _
      rw [Array.size_append]; rfl
    rw [e1]
    have := rep_len x (by omega)
    omega
  · show (Array.size (_ ++ _ ++ _)) ≤ _
    rw [Array.size_append, Array.size_append]
    have e1 : (Str.ofString "\"").cps.size = 1 := rfl
    have e2 : x.cps.size = x.length := rfl
    rw [e1, e2]; omega
  · have h0 : Txt.join (Str.ofString "") ((signs x).map fun a => Str.ofString "\\" ++ a) = Str.join (Str.ofString "") ((signs x).map fun a => Str.ofString "\\" ++ a) := eq_of_beq (join_plain_closes _ _)
    rw [h0]
    have h1 := StrLaws.join_length_le (Str.ofString "") ((signs x).map fun a => Str.ofString "\\" ++ a)
    have h2 : ∀ l : List Nat, ((((l.map fun c => (⟨#[c]⟩ : Str)).map fun a => Str.ofString "\\" ++ a)).map (·.length)).sum = 2 * l.length := by
      intro l
      induction l with
      | nil => rfl
      | cons c l ih =>
        simp only [List.map_cons, List.sum_cons, List.length_cons]
        rw [ih]
        have : (Str.ofString "\\" ++ (⟨#[c]⟩ : Str)).length = 2 := rfl
        omega
    have h3 := h2 x.cps.toList
    have h4 : (Str.ofString "").length = 0 := rfl
    have h5 : x.cps.toList.length = x.length := by simp [Str.length]
    rw [h4, Nat.mul_zero] at h1
    unfold signs at *
    omega
theorem repTxt_len {ns : List Nat} (hn : ns.length < 40) (h : ∀ n ∈ ns, n < 100) : (repTxt ns).length ≤ 300 := by
  have h0 : Txt.join (Str.ofString ", ") (ns.map numT) = Str.join (Str.ofString ", ") (ns.map numT) := eq_of_beq (join_plain_closes _ _)
  have h1 := StrLaws.join_length_le (Str.ofString ", ") (ns.map numT)
  have h2 := numT_sum ns h
  have h3 : (Str.ofString ", ").length = 2 := rfl
  rw [h3, List.length_map] at h1
  unfold repTxt
  have h4 : ∀ a b : Str, (a ++ b).length = a.length + b.length := fun a b => Array.size_append
  rw [h4, h4, h0]
  have h5 : (if 1 < ns.length then Str.ofString "at tab sizes" else Str.ofString "at tab size").length ≤ 12 := by split <;> decide
  have h6 : (Str.ofString " ").length = 1 := rfl
  omega
section
variable {w : World} {E : Value → Shared → Prop} {s : Shared} {Q : Value → Shared → Prop} {h₀ h h' : Heap} {L : Addr} {m : Str → Option Value} {news : List (Addr × Obj)}
  {dp un : Nat} {fr : Option (List Env)} {gd : Option (List Code)} {env : Env} {mg mb : Str → Option Value} {loose : List Str} {t1 t2 t3 t4 t5 : Tok}
theorem report_K {ps : Array Value} {tabs blanks run behind equals : Nat} {bl : Int} (F : Fr h₀ L s.heap m) (N : News h₀ L s.heap ((145, tabObj ps) :: news)) (X : (hd.heap_1 w.params).In h₀) (T : TopRead viewQ loose mg mb h₀) (hbm : h₀.BuiltinsAt mg 145) (ht : TriplesOk ps.toList) (hr : dp + 15 < recursionLimit)
    (hne : ∀ p ∈ news, p.1 ≠ 145) (hbl : bl = (blanks : Int)) (b1 : tabs < 2) (b2 : blanks < 24) (b3 : run < 8) (b4 : behind < 4) (b5 : equals < 2)
    (hq : ∀ h' tk gs ps' t, Fr h₀ L h' m → News h₀ L h' ((145, tabObj ps') :: news) → TriplesOk ps'.toList → (AllBare s.gens → AllBare gs) → Q (.str (repTxt (sizesL tabs blanks run behind equals)) t) { s with heap := h', toks := tk, gens := gs }) :
    wpAny (model PySem.Challenge.rw_pg0244_01.row.prog w) (Around.deeper { depth := dp, frames := fr, guards := gd, units := un } env) (call (.ref 197) [.int tabs t1, .int bl t2, .int run t3, .int behind t4, .int equals t5]) Q E s := by
  subst hbl
  have hm : ∀ p ∈ [((145 : Addr), tabObj ps)], p ∈ (145, tabObj ps) :: news := List.forall_mem_cons.mpr ⟨.head _, List.forall_mem_nil _⟩
  have rd := ready_of F N X T hm
  have hb : (hideAll s.heap ([((145 : Addr), tabObj ps)].map (·.1))).BuiltinsAt mg 145 := hbm.keeps (base_hide F N hm)
  refine wpAny_call (report_ctr w _ s _ mg mb loose _ ps tabs blanks run behind equals t1 t2 t3 t4 t5 rd.X rd hb ht rfl (by show dp + 1 + 9 < _; omega) b1 b2 b3 b4 b5 fun h' tk gs ps' t kp hp ht' hg => ?_)
  exact hq h' tk gs ps' t (fr_hide F N hm kp) (List.forall_mem_cons.mpr ⟨⟨hp, (N _ (.head _)).2⟩, fun p hp => ⟨kp _ _ (hideAll_get _ (N p (.tail _ hp)).1 fun hm => hne p hp (List.mem_singleton.mp hm)), (N p (.tail _ hp)).2⟩⟩) ht' hg
theorem written_K {text : Str} {way : Nat} (F : Fr h₀ L s.heap m) (N : News h₀ L s.heap news) (X : (hd.heap_1 w.params).In h₀) (T : TopRead viewQ loose mg mb h₀) (hr : dp + 15 < recursionLimit) (hlen : text.length ≤ 1000) (hw : way < 4)
    (hq : ∀ h' tk t, Fr h₀ L h' m → News h₀ L h' news → Q (.str (wrTxt text way) t) { s with heap := h', toks := tk }) :
    wpAny (model PySem.Challenge.rw_pg0244_01.row.prog w) (Around.deeper { depth := dp, frames := fr, guards := gd, units := un } env) (call (.ref 183) [.str text t1, .int way t2]) Q E s :=
  wpAny_call (written_ctr w _ s _ mg mb loose text way t1 t2 (X.keeps F.keep) (T.keeps F.keep) rfl (by show dp + 1 < _; omega) hlen hw fun h' tk t kp => hq h' tk t (Fr.kept F kp) (News.kept N kp))
end
theorem kset33 : True := by
  k_with "call type:int" =>
    refine int_fl (by assumption) ?_
  k_with "subscriptTail" =>
    (refine' sub_kind (j := 0) (by k_asm) (by first | assumption | exact .tail _ (by assumption)) (by decide) (by decide) rfl (by exact rfl) ?_ (by with_unfolding_all rfl))
  k_with "call ref" =>
    first
      | (with_unfolding_all refine' report_K (by k_asm) (by with_unfolding_all assumption) (by k_asm) (by k_asm) (by assumption) (by assumption) (by assumption) (by assumption) (by assumption) (by assumption) (by assumption) (by assumption) (by assumption) (by assumption) ?_; intro h'₉ tk'₉ gs'₉ ps'₉ t'₉ F'₉ N'₉ ht'₉ hg'₉; (try k_sweep))
      | (with_unfolding_all refine' written_K (by k_asm) (by k_asm) (by k_asm) (by k_asm) (by assumption) (by assumption) (by assumption) ?_; intro h'₉ tk'₉ t'₉ F'₉ N'₉; (try k_sweep))
  trivial
theorem T5 : ∀ (w : World) (sc : Scope) (st : Stmt) (B h : Heap) (g : Array GenState) (dd : Drawn) (tk : Nat) (os : OsState) (L : Addr) (m : Str → Option Value) (tl : List (Addr × Obj)) (Q : Flow → Shared → Prop)
    (ad au : Nat) (af : Option (List Env)) (ag : Option (List Code)) (mg mb : Str → Option Value) (loose : List Str) (a : Addr) (u1 u2 u3 : Value) (ps : Array Value) (p tabs run behind equals way : Nat) (s1 s2 s3 s4 s5 : Tok)
    (X : (hd.heap_1 w.params).In B) (T : TopRead viewQ loose mg mb B) (hst : stmtIn 4 (loopIn 7 (bodyIn ((hd.heap_1 w.params).lookup 202))) = some st) (hsc : scopeIn ((hd.heap_1 w.params).lookup 202) = some sc) (hr : ad + 30 < recursionLimit) (hu : au + 200 < cLine)
    (F : Fr B L h m) (N : News B L h ((145, tabObj ps) :: tl))
    (hto : m (Str.ofString "told") = some (.ref a)) (h1 : m (Str.ofString "tabs") = some (.int (tabs : Int) s1)) (h2 : m (Str.ofString "run") = some (.int (run : Int) s2)) (h3 : m (Str.ofString "behind") = some (.int (behind : Int) s3)) (h4 : m (Str.ofString "equals") = some (.int (equals : Int) s4)) (h5 : m (Str.ofString "way") = some (.int (way : Int) s5)) (t0 : Tok) (hta : (a, tupO [.float (hB p) t0, u2, u3]) ∈ tl)
    (hbm : B.BuiltinsAt mg 145) (ht : TriplesOk ps.toList) (hne : ∀ p ∈ tl, p.1 ≠ 145) (hp : p < 16) (b1 : tabs < 2) (b3 : run < 8) (b4 : behind < 4) (b5 : equals < 2) (b6 : way < 4)
    (hq : ∀ h' tk' g' m' ps' t, Fr B L h' m' → News B L h' ((145, tabObj ps') :: tl) → TriplesOk ps'.toList → (AllBare g → AllBare g') → Agree [Str.ofString "text"] m' m → m' (Str.ofString "text") = some (.str (wrTxt (repTxt (sizesL tabs (run + p) run behind equals)) way) t) → Q .next ⟨h', g', dd, tk', os⟩),
    wpAny (model PySem.Challenge.rw_pg0244_01.row.prog w) (Around.deeper { depth := ad, frames := af, guards := ag, units := au } (lawEnv sc L)) (exec st (lawEnv sc L)) Q (fun _ _ => False) ⟨h, g, dd, tk, os⟩ := by
  k_fill
  intro w sc st B h g dd tk os L m tl Q ad au af ag mg mb loose a u1 u2 u3 ps p tabs run behind equals way s1 s2 s3 s4 s5 X T hst hsc hr hu F N hto h1 h2 h3 h4 h5 t0 hta hbm ht hne hp b1 b3 b4 b5 b6 hq
  refine' law_use (f := fun l => stmtIn 4 (loopIn 7 l)) ?e hst hsc ?_
  case e => k_dflt k_is
  intro e1 e2
  cases e1
  cases e2
  clear hst hsc
  have F1 : Fr B L h (chainOf [Str.ofString "told", Str.ofString "tabs", Str.ofString "run", Str.ofString "behind", Str.ofString "equals", Str.ofString "way"] m m) := by rw [← agree_chain Agree.refl]; exact F
  simp only [chainOf, hto, h1, h2, h3, h4, h5] at F1
  clear F
  unfold lawEnv
  obtain ⟨i1, i2⟩ := hB_int p hp
  have hr15 : ad + 15 < recursionLimit := by omega
  have hbl : (run : Int) + Flt.toInt Float64.truncOf (Float64.mul (hB p) (Float64.ofInt 16)) = ((run + p : Nat) : Int) := by rw [i2]; omega
  have b2 : run + p < 24 := by omega
  have hlen : (repTxt (sizesL tabs (run + p) run behind equals)).length ≤ 1000 := Nat.le_trans (repTxt_len (sizesL_len b2 b3 b4) (sizesL_lt b2 b3 b4)) (by decide)
  k_steps
  rename (Fr _ _ _ _) => F9
  rename (News _ _ _ _) => N9
  refine' hq _ _ _ _ _ _ F9 N9 (by assumption) (by assumption) ?a9 rfl
  case a9 => walk_at "mine agree"
end Mine
namespace Mine
open PySem PySem.W PyProof.Rows
theorem flush38 {M : Model} {A : Around} {Q : Flow → Shared → Prop} {E : Value → Shared → Prop} {s : Shared} {env : Env} (h : wpAny M A (execs [] env) Q E s) : wpAny M A (execs [] env) Q E s := by
  k_with_none
  (try (walk1; fail))
  w_top off
  exact h
end Mine
namespace Mine
open PySem PySem.W PyProof.Rows PySem.Calls
set_option maxHeartbeats 1000000
set_option linter.unusedVariables false
theorem kset34 : True := by
  k_with_none
  k_with "mine agree" =>
    repeat (first
      | exact Agree.refl
      | (refine' Agree.set (by first | exact .head _ | exact .tail _ (.head _) | exact .tail _ (.tail _ (.head _))) ?_)
      | (refine' Agree.same (by assumption) ?_))
  trivial
theorem signsAre_of : ∀ (vs : List Value) (cs : List Nat), vs.length = cs.length → (∀ (j : Nat) (v : Value), vs[j]? = some v → ∃ c u, cs[j]? = some c ∧ v = Value.str ⟨#[c]⟩ u) → SignsAre vs cs
  | [], [], _, _ => .nil
  | v :: vs, c :: cs, hl, h => by
    obtain ⟨c', u, e1, e2⟩ := h 0 v rfl
    have e3 : c = c' := Option.some.inj e1
    subst e3 e2
    exact .cons c u (signsAre_of vs cs (Nat.succ.inj hl) fun j v hv => h (j + 1) v hv)
  | [], _ :: _, hl, _ => by cases hl
  | _ :: _, [], hl, _ => by cases hl
section
variable {prog : Program} {w : World} {A : Around} {E : Value → Shared → Prop} {s : Shared} {h₀ : Heap} {L : Addr} {m : Str → Option Value} {Q : Value → Shared → Prop} {news : List (Addr × Obj)}
theorem list_str9 {x : Str} {t : Tok} (hh : A.handled = none) (F : Fr h₀ L s.heap m) (N : News h₀ L s.heap news) (hsz : x.length ≤ sizeLine)
    (hQ : ∀ D h' tk ys k, Fr h₀ L h' m → News h₀ L h' ((D, listOf (List.toArray ys) k) :: news) → SignsAre ys x.cps.toList → (∀ p ∈ news, p.1 < D) → Q (.ref D) { s with heap := h', toks := tk }) :
    wpAny (model prog w) A (call (.type "list") [.str x t]) Q E s := by
  refine call_list_str hh x t (hn := hsz) fun h' tk acc' c' hk hS' hacc => ?_
  have hnew : s.heap.get? s.heap.objs.size = none := by
    cases q : s.heap.get? s.heap.objs.size with
    | none => rfl
    | some o => exact absurd (Heap.lt_size q) (Nat.lt_irrefl _)
  refine hQ _ h' tk acc'.toList c' (F.keeps hk) (News.add N F hk hnew ?_) (signsAre_of _ _ ?_ fun j v hv => ?_) (fun p hp => Heap.lt_size (N p hp).1)
  · rw [Array.toArray_toList]; exact hS'
  · have := hacc.1
    simp only [Array.length_toList]
    exact this
  · obtain ⟨c, u, hc, e⟩ := hacc.2 j v (by simpa using hv)
    exact ⟨c, u, by simpa using hc, e⟩
end
theorem kset35 : True := by
  k_with "call type:list" =>
    (refine' list_str9 rfl (by k_asm) (by k_asm) (by assumption) ?_; intro _ _ _ _ _ _ _ _ _; (try k_sweep))
  k_with "call builtin:list.extend" =>
    refine halt ?_
  trivial
theorem T6 : ∀ (w : World) (sc : Scope) (st : Stmt) (B h : Heap) (g : Array GenState) (dd : Drawn) (tk : Nat) (os : OsState) (L : Addr) (m : Str → Option Value) (tl : List (Addr × Obj)) (Q : Flow → Shared → Prop)
    (ad au : Nat) (af : Option (List Env)) (ag : Option (List Code)) (mg mb : Str → Option Value) (loose : List Str) (ll : Addr) (n : Nat) (x : Str) (tx : Tok)
    (X : (hd.heap_1 w.params).In B) (T : TopRead viewQ loose mg mb B) (hst : stmtIn 5 (loopIn 7 (bodyIn ((hd.heap_1 w.params).lookup 202))) = some st) (hsc : scopeIn ((hd.heap_1 w.params).lookup 202) = some sc) (hr : ad + 30 < recursionLimit) (hu : au + 200 < cLine)
    (F : Fr B L h m) (N : News B L h ((ll, listOf (List.toArray []) n) :: tl))
    (hle : m (Str.ofString "left") = some (.ref ll)) (htx : m (Str.ofString "text") = some (.str x tx)) (hne : ∀ p ∈ tl, p.1 ≠ ll) (h0 : 0 < x.length) (h1 : x.length ≤ 5000)
    (hq : ∀ h' tk' ys, Fr B L h' m → News B L h' ((ll, listOf (List.toArray ys) (n + 1)) :: tl) → SignsAre ys x.cps.toList → Q .next ⟨h', g, dd, tk', os⟩),
    wpAny (model PySem.Challenge.rw_pg0244_01.row.prog w) (Around.deeper { depth := ad, frames := af, guards := ag, units := au } (lawEnv sc L)) (exec st (lawEnv sc L)) Q (fun _ _ => False) ⟨h, g, dd, tk, os⟩ := by
  k_fill
  intro w sc st B h g dd tk os L m tl Q ad au af ag mg mb loose ll n x tx X T hst hsc hr hu F N hle htx hne h0 h1 hq
  refine' law_use (f := fun l => stmtIn 5 (loopIn 7 l)) ?e hst hsc ?_
  case e => k_dflt k_is
  intro e1 e2
  cases e1
  cases e2
  clear hst hsc
  have F1 : Fr B L h (chainOf [Str.ofString "left", Str.ofString "text"] m m) := by rw [← agree_chain Agree.refl]; exact F
  simp only [chainOf, hle, htx] at F1
  clear F
  unfold lawEnv
  have hxs : x.length ≤ sizeLine := by rw [sizeLine_eq]; omega
  k_steps
  unfold Halt
  rename (Fr _ _ _ _) => F9
  rename (News _ _ _ _) => N9
  rename (SignsAre _ _) => hS
  rename_i D9 _ _ ys9 k9 l9
  have hlen : ys9.length = x.length := by rw [hS.length_eq]; simp [Str.length]
  have hDl : ll < D9 := l9 _ (.head _)
  refine kl_extend (l := ys9) F9 N9 (.head _) rfl (by simp only []; omega) (.tail (Ne.symm (Nat.ne_of_lt hDl)) (.head hne)) (by simp) (by simp) (by rw [sizeLine_eq]; simp; omega) fun h' F' N' => ?_
  exact hq _ _ ys9 (by rw [agree_chain (xs := [Str.ofString "left", Str.ofString "text"]) (m := m) (m₀ := m) Agree.refl]; simp only [chainOf, hle, htx]; exact F') (fun p hp => N' p (.tail _ hp)) hS
theorem T7 : ∀ (w : World) (sc : Scope) (st : Stmt) (B h : Heap) (g : Array GenState) (dd : Drawn) (tk : Nat) (os : OsState) (L : Addr) (m : Str → Option Value) (tl : List (Addr × Obj)) (Q : Flow → Shared → Prop)
    (ad au : Nat) (af : Option (List Env)) (ag : Option (List Code)) (mg mb : Str → Option Value) (loose : List Str) (row : Int) (x : Str) (tr tx : Tok)
    (X : (hd.heap_1 w.params).In B) (T : TopRead viewQ loose mg mb B) (hst : stmtIn 6 (loopIn 7 (bodyIn ((hd.heap_1 w.params).lookup 202))) = some st) (hsc : scopeIn ((hd.heap_1 w.params).lookup 202) = some sc) (hr : ad + 30 < recursionLimit) (hu : au + 200 < cLine)
    (F : Fr B L h m) (N : News B L h (tl))
    (hro : m (Str.ofString "row") = some (.int row tr)) (htx : m (Str.ofString "text") = some (.str x tx))
    (hq : ∀ h' tk' m' t, Fr B L h' m' → News B L h' tl → Agree [Str.ofString "row"] m' m → m' (Str.ofString "row") = some (.int (row + Txt.count x (Str.ofString "\n")) t) → Q .next ⟨h', g, dd, tk', os⟩),
    wpAny (model PySem.Challenge.rw_pg0244_01.row.prog w) (Around.deeper { depth := ad, frames := af, guards := ag, units := au } (lawEnv sc L)) (exec st (lawEnv sc L)) Q (fun _ _ => False) ⟨h, g, dd, tk, os⟩ := by
  k_fill
  intro w sc st B h g dd tk os L m tl Q ad au af ag mg mb loose row x tr tx X T hst hsc hr hu F N hro htx hq
  refine' law_use (f := fun l => stmtIn 6 (loopIn 7 l)) ?e hst hsc ?_
  case e => k_dflt k_is
  intro e1 e2
  cases e1
  cases e2
  clear hst hsc
  have F1 : Fr B L h (chainOf [Str.ofString "row", Str.ofString "text"] m m) := by rw [← agree_chain Agree.refl]; exact F
  simp only [chainOf, hro, htx] at F1
  clear F
  unfold lawEnv
  k_steps
  rename (Fr _ _ _ _) => F9
  rename (News _ _ _ _) => N9
  refine' hq _ _ _ _ F9 N9 ?a9 rfl
  case a9 => walk_at "mine agree"
end Mine
namespace Mine
open PySem PySem.W PyProof.Rows
theorem flush39 {M : Model} {A : Around} {Q : Flow → Shared → Prop} {E : Value → Shared → Prop} {s : Shared} {env : Env} (h : wpAny M A (execs [] env) Q E s) : wpAny M A (execs [] env) Q E s := by
  k_with_none
  (try (walk1; fail))
  w_top off
  exact h
end Mine
namespace Mine
open PySem PySem.W PyProof.Rows PySem.Calls
set_option maxHeartbeats 1000000
set_option linter.unusedVariables false
theorem kset36 : True := by
  k_with_none
  k_with "mine agree" =>
    repeat (first
      | exact Agree.refl
      | (refine' Agree.set (by first | exact .head _ | exact .tail _ (.head _) | exact .tail _ (.tail _ (.head _))) ?_)
      | (refine' Agree.same (by assumption) ?_))
  trivial
/-- texts as values -/
inductive StrsAre : List Value → List Str → Prop
  | nil : StrsAre [] []
  | cons (x : Str) (t : Tok) {vs : List Value} {xs : List Str} : StrsAre vs xs → StrsAre (.str x t :: vs) (x :: xs)
theorem StrsAre.len : ∀ {vs : List Value} {xs : List Str}, StrsAre vs xs → vs.length = xs.length
  | _, _, .nil => rfl
  | _, _, .cons _ _ r => congrArg (· + 1) r.len
theorem StrsAre.app : ∀ {vs us : List Value} {xs ys : List Str}, StrsAre vs xs → StrsAre us ys → StrsAre (vs ++ us) (xs ++ ys)
  | _, _, _, _, .nil, h => h
  | _, _, _, _, .cons x t r, h => .cons x t (r.app h)
theorem StrsAre.carry : ∀ {vs : List Value} {xs : List Str}, StrsAre vs xs → CarriedAll vs (xs.map .str)
  | _, _, .nil => .nil
  | _, _, .cons x t r => .cons (.str _ t) r.carry
theorem StrsAre.last {vs : List Value} {xs : List Str} {x : Str} (h : StrsAre vs (xs ++ [x])) : ∃ t, vs[xs.length]? = some (.str x t) := by
  induction xs generalizing vs with
  | nil =>
    cases h with
    | cons _ t _ => exact ⟨t, rfl⟩
  | cons y ys ih =>
    cases h with
    | cons _ t r =>
      obtain ⟨t', e⟩ := ih r
      exact ⟨t', by simpa using e⟩
noncomputable def txt (l : List Nat) : Str := ⟨l.toArray⟩
theorem qTok_rest : ∀ (n : Nat) (acc : List Nat) (line : Int) (cs : List Nat), cs.length ≤ n → (qTok acc line cs).2.1.length ≤ cs.length ∧ ∀ x ∈ (qTok acc line cs).2.1, x ∈ cs
  | 0, acc, line, cs, h => by
    have : cs = [] := List.length_eq_zero_iff.mp (Nat.le_zero.mp h)
    subst this; exact ⟨Nat.le_refl _, fun _ h => h⟩
  | n + 1, acc, line, [], h => ⟨Nat.le_refl _, fun _ h => h⟩
  | n + 1, acc, line, c :: r, h => by
    simp only [List.length_cons] at h
    by_cases h1 : c = 34
    · rw [qTok_q _ _ _ _ h1]; exact ⟨Nat.le_succ _, fun x hx => .tail _ hx⟩
    · by_cases h2 : c = 92
      · rw [qTok_e _ _ _ _ h1 h2]
        have ih := qTok_rest n (acc ++ r.take 1) (nlOf (nl1 line c) r) r.tail (by rw [List.length_tail]; omega)
        refine ⟨Nat.le_trans ih.1 (by rw [List.length_tail, List.length_cons]; omega), fun x hx => .tail _ (List.mem_of_mem_tail (ih.2 x hx))⟩
      · rw [qTok_o _ _ _ _ h1 h2]
        have ih := qTok_rest n (acc ++ [c]) (nl1 line c) r (by omega)
        exact ⟨Nat.le_succ_of_le ih.1, fun x hx => .tail _ (ih.2 x hx)⟩
theorem wTok_rest : ∀ (n : Nat) (acc : List Nat) (line : Int) (cs : List Nat), cs.length ≤ n → (wTok acc line cs).2.1.length ≤ cs.length ∧ ∀ x ∈ (wTok acc line cs).2.1, x ∈ cs
  | 0, acc, line, cs, h => by
    have : cs = [] := List.length_eq_zero_iff.mp (Nat.le_zero.mp h)
    subst this; exact ⟨Nat.le_refl _, fun _ h => h⟩
  | n + 1, acc, line, [], h => ⟨Nat.le_refl _, fun _ h => h⟩
  | n + 1, acc, line, c :: r, h => by
    simp only [List.length_cons] at h
    cases h1 : isWs c with
    | true => rw [wTok_q _ _ _ _ h1]; exact ⟨Nat.le_succ _, fun x hx => .tail _ hx⟩
    | false =>
      by_cases h2 : c = 92
      · rw [wTok_e _ _ _ _ h1 h2]
        have ih := wTok_rest n (acc ++ r.take 1) (nlOf (nl1 line c) r) r.tail (by rw [List.length_tail]; omega)
        refine ⟨Nat.le_trans ih.1 (by rw [List.length_tail, List.length_cons]; omega), fun x hx => .tail _ (List.mem_of_mem_tail (ih.2 x hx))⟩
      · rw [wTok_o _ _ _ _ h1 h2]
        have ih := wTok_rest n (acc ++ [c]) (nl1 line c) r (by omega)
        exact ⟨Nat.le_succ_of_le ih.1, fun x hx => .tail _ (ih.2 x hx)⟩
theorem sTok_rest : ∀ (line : Int) (cs : List Nat), (sTok line cs).2.1.length ≤ cs.length ∧ ∀ x ∈ (sTok line cs).2.1, x ∈ cs
  | line, [] => ⟨Nat.le_refl _, fun _ h => h⟩
  | line, c :: r => by
    unfold sTok
    split
    · have ih := sTok_rest (nl1 line c) r
      exact ⟨Nat.le_succ_of_le ih.1, fun x hx => .tail _ (ih.2 x hx)⟩
    · split
      · have ih := qTok_rest r.length [] (nl1 line c) r (Nat.le_refl _)
        exact ⟨Nat.le_succ_of_le ih.1, fun x hx => .tail _ (ih.2 x hx)⟩
      · split
        · have ih := wTok_rest r.tail.length (r.take 1) (nlOf (nl1 line c) r) r.tail (Nat.le_refl _)
          refine ⟨Nat.le_trans ih.1 (by rw [List.length_tail, List.length_cons]; omega), fun x hx => .tail _ (List.mem_of_mem_tail (ih.2 x hx))⟩
        · have ih := wTok_rest r.length [c] (nl1 line c) r (Nat.le_refl _)
          exact ⟨Nat.le_succ_of_le ih.1, fun x hx => .tail _ (ih.2 x hx)⟩
/-- from one token on to the empty one -/
inductive Lexes : List Nat → Int → List Nat → List (List Nat) → Int → List Nat → Prop
  | stop {line : Int} {cs : List Nat} : Lexes [] line cs [] line cs
  | step {tok : List Nat} {line line' : Int} {cs cs' : List Nat} {ts : List (List Nat)} : tok ≠ [] → Lexes (sTok line cs).1 (sTok line cs).2.2 (sTok line cs).2.1 ts line' cs' → Lexes tok line cs ((sTok line cs).1 :: ts) line' cs'
noncomputable def Lx.ads (z : Lx) : List Addr := [z.x2, z.dx2, z.ll, z.pb2, z.x1, z.dx1, z.f, z.c', z.cell]
theorem Lx.ads_eq (w : World) (z : Lx) (line : Int) (t1 : Tok) (vs : List Value) (n : Nat) : (z.objs w line t1 vs n).map (·.1) = z.ads := rfl
section
variable {w : World} {E : Value → Shared → Prop} {s : Shared} {Q : Value → Shared → Prop} {h₀ h h' : Heap} {L : Addr} {m : Str → Option Value} {tl : List (Addr × Obj)}
  {dp un : Nat} {fr : Option (List Env)} {gd : Option (List Code)} {env : Env} {mg mb : Str → Option Value} {loose : List Str}
  {z : Lx} {t1 : Tok} {cs : List Nat} {line : Int} {vs : List Value} {n : Nat}
theorem get_K (hz : z.Ok w) (X : (hd.heap_1 w.params).In h₀) (T : TopRead viewQ loose mg mb h₀) (hr : dp + 20 < recursionLimit) (hu : un + 160 < cLine) (F : Fr h₀ L s.heap m)
    (N : News h₀ L s.heap (z.objs w line t1 vs n ++ tl)) (hne : ∀ p ∈ tl, p.1 ∉ z.ads) (hS : SignsAre vs cs) (hok : ∀ x ∈ cs, x < 128) (hl : cs.length < 10000)
    (hq : ∀ h' tk t t1' vs' n', Fr h₀ L h' m → News h₀ L h' (z.objs w (sTok line cs).2.2 t1' vs' n' ++ tl) → SignsAre vs' (sTok line cs).2.1 → Q (.str (txt (sTok line cs).1) t) { s with heap := h', toks := tk }) :
    wpAny (model PySem.Challenge.rw_pg0244_01.row.prog w) (Around.deeper { depth := dp, frames := fr, guards := gd, units := un } env) (call (.ref 63) [.ref z.x2]) Q E s := by
  have hm : ∀ p ∈ z.objs w line t1 vs n, p ∈ z.objs w line t1 vs n ++ tl := fun p hp => List.mem_append_left _ hp
  have rd := ready_of F N X T hm
  refine wpAny_call (get_ctr w _ s _ mg mb loose _ z line t1 n vs cs rd.X rd hz rfl (by show dp + 1 + 16 < _; omega) (by unfold Around.deeper; dsimp only; omega) hS hok hl fun h' tk t t1' vs' n' kp ho hS' => ?_)
  refine hq h' tk t t1' vs' n' (fr_hide F N hm kp) (fun p hp => ?_) hS'
  rcases List.mem_append.mp hp with hp | hp
  · refine ⟨ho p hp, ?_⟩
    have e : p.1 ∈ (z.objs w line t1 vs n).map (·.1) := by
      rw [Lx.addrs w z line (sTok line cs).2.2 t1 t1' vs vs' n n']
      exact List.mem_map.mpr ⟨p, hp, rfl⟩
    obtain ⟨p', hp', e'⟩ := List.mem_map.mp e
    rw [← e']
    exact (N p' (hm p' hp')).2
  · refine ⟨kp _ _ (hideAll_get _ (N p (List.mem_append_right _ hp)).1 fun hb => ?_), (N p (List.mem_append_right _ hp)).2⟩
    exact hne p hp (Lx.ads_eq w z line t1 vs n ▸ hb)
theorem sub_last {prog : Program} {A : Around} {value slice : PySem.Expr} {W : Addr} {ws : List Value} {k : Nat} {xs : List Str} {x : Str} {u : Tok} {news : List (Addr × Obj)} (N : News h₀ L s.heap news) (hm : (W, listOf ws.toArray k) ∈ news) (hS : StrsAre ws (xs ++ [x])) (hl : xs.length < 1000) (h : ∀ t, Q (.str x t) s)
    (hs : subscripted slice false (.ref W) (.int (-1) u) = operate [.ref W, .int (-1) u] (getItem (.ref W) (.int (-1) u)) := by with_unfolding_all rfl) :
    wpAny (model prog w) A (subscriptTail value slice (.ref W) (.int (-1) u)) Q E s := by
  have hl' := News.isList N hm
  have e1 : ws.length = xs.length + 1 := by rw [hS.len]; simp
  obtain ⟨t, ht⟩ := hS.last
  refine tail_any hl'.typeIs slot_list_getitem.lookup (wpAny_getItem_list_neg hl' (by decide) (by rw [List.size_toArray]; omega) (by decide) ?_ (h t)) hs
  rw [List.size_toArray, e1]
  have e2 : ((-1 : Int) + ((xs.length + 1 : Nat) : Int)).toNat = xs.length := by omega
  rw [e2]
  simpa using ht
end
theorem kset37 : True := by
  k_with "call ref" =>
    (with_unfolding_all refine' get_K (by assumption) (by k_asm) (by k_asm) (by assumption) (by assumption) (by k_asm) (by with_unfolding_all assumption) (by assumption) (by assumption) (by assumption) (by assumption) ?_; intro _ _ _ _ _ _ _ _ _; (try k_sweep))
  trivial
theorem T8 : ∀ (w : World) (sc : Scope) (st : Stmt) (B h : Heap) (g : Array GenState) (dd : Drawn) (tk : Nat) (os : OsState) (L : Addr) (m : Str → Option Value) (tl : List (Addr × Obj)) (Q : Flow → Shared → Prop)
    (ad au : Nat) (af : Option (List Env)) (ag : Option (List Code)) (mg mb : Str → Option Value) (loose : List Str) (z : Lx) (line : Int) (t1 : Tok) (vs : List Value) (n : Nat) (cs : List Nat)
    (X : (hd.heap_1 w.params).In B) (T : TopRead viewQ loose mg mb B) (hst : stmtIn 7 (loopIn 7 (bodyIn ((hd.heap_1 w.params).lookup 202))) = some st) (hsc : scopeIn ((hd.heap_1 w.params).lookup 202) = some sc) (hr : ad + 30 < recursionLimit) (hu : au + 200 < cLine)
    (F : Fr B L h m) (N : News B L h (z.objs w line t1 vs n ++ tl))
    (hlx : m (Str.ofString "lexer") = some (.ref z.x2)) (hz : z.Ok w) (hne : ∀ p ∈ tl, p.1 ∉ z.ads) (hS : SignsAre vs cs) (hok : ∀ x ∈ cs, x < 128) (hl : cs.length < 10000)
    (hq : ∀ h' tk' m' W t k t1' vs' n', Fr B L h' m' → News B L h' ((W, listOf (List.toArray [.str (txt (sTok line cs).1) t]) k) :: (z.objs w (sTok line cs).2.2 t1' vs' n' ++ tl)) → SignsAre vs' (sTok line cs).2.1 → (∀ p ∈ z.objs w (sTok line cs).2.2 t1' vs' n' ++ tl, p.1 < W) → Agree [Str.ofString "words"] m' m → m' (Str.ofString "words") = some (.ref W) → Q .next ⟨h', g, dd, tk', os⟩),
    wpAny (model PySem.Challenge.rw_pg0244_01.row.prog w) (Around.deeper { depth := ad, frames := af, guards := ag, units := au } (lawEnv sc L)) (exec st (lawEnv sc L)) Q (fun _ _ => False) ⟨h, g, dd, tk, os⟩ := by
  k_fill
  intro w sc st B h g dd tk os L m tl Q ad au af ag mg mb loose z line t1 vs n cs X T hst hsc hr hu F N hlx hz hne hS hok hl hq
  refine' law_use (f := fun l => stmtIn 7 (loopIn 7 l)) ?e hst hsc ?_
  case e => k_dflt k_is
  intro e1 e2
  cases e1
  cases e2
  clear hst hsc
  have F1 : Fr B L h (chainOf [Str.ofString "lexer"] m m) := by rw [← agree_chain Agree.refl]; exact F
  simp only [chainOf, hlx] at F1
  clear F
  unfold lawEnv
  have o1 := ltN hz.o1
  have o2 := ltN hz.o2
  have o3 := ltN hz.o3
  have o4 := ltN hz.o4
  have o5 := ltN hz.o5
  have o6 := ltN hz.o6
  have o7 := ltN hz.o7
  have o8 := ltN hz.o8
  have o9 := ltN hz.o9
  have hr20 : ad + 20 < recursionLimit := by omega
  have hu16 : au + 160 < cLine := by omega
  unfold Lx.objs at N
  simp only [List.cons_append, List.nil_append] at N
  k_steps
  rename (Fr _ _ _ _) => F9
  rename (News _ _ _ _) => N9
  rename_i l9 _
  refine' hq _ _ _ _ _ _ _ _ _ F9 N9 (by assumption) l9 ?a9 rfl
  case a9 => walk_at "mine agree"
theorem get_KW {w : World} {E : Value → Shared → Prop} {s : Shared} {Q : Value → Shared → Prop} {h₀ : Heap} {L : Addr} {m : Str → Option Value} {tl : List (Addr × Obj)} {dp un : Nat} {fr : Option (List Env)} {gd : Option (List Code)} {env : Env} {mg mb : Str → Option Value} {loose : List Str}
  {z : Lx} {t1 : Tok} {cs : List Nat} {line : Int} {vs : List Value} {n : Nat} {W : Addr} {ow : Obj} (hz : z.Ok w) (X : (hd.heap_1 w.params).In h₀) (T : TopRead viewQ loose mg mb h₀) (hr : dp + 20 < recursionLimit) (hu : un + 160 < cLine) (F : Fr h₀ L s.heap m)
    (N : News h₀ L s.heap ((W, ow) :: (z.objs w line t1 vs n ++ tl))) (hWz : W ∉ z.ads) (hne : ∀ p ∈ tl, p.1 ∉ z.ads) (hS : SignsAre vs cs) (hok : ∀ x ∈ cs, x < 128) (hl : cs.length < 10000)
    (hq : ∀ h' tk t t1' vs' n', Fr h₀ L h' m → News h₀ L h' ((W, ow) :: (z.objs w (sTok line cs).2.2 t1' vs' n' ++ tl)) → SignsAre vs' (sTok line cs).2.1 → Q (.str (txt (sTok line cs).1) t) { s with heap := h', toks := tk }) :
    wpAny (model PySem.Challenge.rw_pg0244_01.row.prog w) (Around.deeper { depth := dp, frames := fr, guards := gd, units := un } env) (call (.ref 63) [.ref z.x2]) Q E s := by
  refine get_K (t1 := t1) (n := n) (tl := (W, ow) :: tl) hz X T hr hu F (fun p hp => N p ?_) (List.forall_mem_cons.mpr ⟨hWz, hne⟩) hS hok hl fun h' tk t t1' vs' n' F' N' hS' => hq h' tk t t1' vs' n' F' (fun p hp => N' p ?_) hS'
  · rcases List.mem_append.mp hp with hp | hp
    · exact .tail _ (List.mem_append_left _ hp)
    · rcases List.mem_cons.mp hp with rfl | hp
      · exact .head _
      · exact .tail _ (List.mem_append_right _ hp)
  · rcases List.mem_cons.mp hp with rfl | hp
    · exact List.mem_append_right _ (.head _)
    · rcases List.mem_append.mp hp with hp | hp
      · exact List.mem_append_left _ hp
      · exact List.mem_append_right _ (.tail _ hp)
theorem kset38 : True := by
  k_with "call ref" =>
    (with_unfolding_all refine' get_KW (by assumption) (by k_asm) (by k_asm) (by assumption) (by assumption) (by k_asm) (by with_unfolding_all assumption) (by assumption) (by assumption) (by assumption) (by assumption) (by assumption) ?_; intro _ _ _ _ _ _ _ _ _; (try k_sweep))
  k_with "subscriptTail" =>
    (refine' sub_last (by k_asm) (by exact .head _) (by assumption) (by assumption) ?_ (by with_unfolding_all rfl); intro _)
  trivial
local macro_rules | `(tactic| walk_at "call builtin:list.append") => `(tactic| (refine' append_K ?k1 ?k2 ?k3 ?_ ?z; (case k1 => k_asm); (case k2 => k_asm); (case k3 => exact .head (hWallF (by assumption) (by assumption) _ _ _ _)); (case z => with_unfolding_all exact szA (by assumption)); intro h' F' N'; (try k_sweep)))
theorem hWallF {w : World} {z : Lx} {W : Addr} {tl : List (Addr × Obj)} (hWz : W ∉ z.ads) (hWt : ∀ p ∈ tl, p.1 ≠ W) : ∀ line t1 vs n, ∀ p ∈ z.objs w line t1 vs n ++ tl, p.1 ≠ W := fun line t1 vs n p hp => by
  rcases List.mem_append.mp hp with hp | hp
  · exact fun e => hWz (by rw [← Lx.ads_eq w z line t1 vs n]; exact List.mem_map.mpr ⟨p, hp, e⟩)
  · exact hWt p hp
theorem txt_ne (l : List Nat) : ((txt l != Str.ofString "") = true) ↔ l ≠ [] := by
  have e : (txt l == Str.ofString "") = decide (l = []) := by
    by_cases h : l = []
    · subst h; rfl
    · rw [decide_eq_false h]
      refine beq_eq_false_iff_ne.mpr fun e => h ?_
      have e2 : (⟨l.toArray⟩ : Str) = ⟨#[]⟩ := e
      injection e2 with e2
      have := congrArg Array.toList e2
      simpa using this
  rw [bne, e]
  by_cases h : l = [] <;> simp [h]
theorem T9 : ∀ (w : World) (sc : Scope) (st : Stmt) (B h : Heap) (g : Array GenState) (dd : Drawn) (tk : Nat) (os : OsState) (L : Addr) (m : Str → Option Value) (tl : List (Addr × Obj)) (Q : Flow → Shared → Prop)
    (ad au : Nat) (af : Option (List Env)) (ag : Option (List Code)) (mg mb : Str → Option Value) (loose : List Str) (z : Lx) (line : Int) (t1 : Tok) (vs : List Value) (n : Nat) (cs : List Nat) (W : Addr) (ws : List Value) (k : Nat) (pre : List (List Nat)) (tok : List Nat) (ts : List (List Nat)) (line' : Int) (cs' : List Nat)
    (X : (hd.heap_1 w.params).In B) (T : TopRead viewQ loose mg mb B) (hst : stmtIn 8 (loopIn 7 (bodyIn ((hd.heap_1 w.params).lookup 202))) = some st) (hsc : scopeIn ((hd.heap_1 w.params).lookup 202) = some sc) (hr : ad + 30 < recursionLimit) (hu : au + 200 < cLine)
    (F : Fr B L h m) (N : News B L h ((W, listOf ws.toArray k) :: (z.objs w line t1 vs n ++ tl)))
    (hlx : m (Str.ofString "lexer") = some (.ref z.x2)) (hwo : m (Str.ofString "words") = some (.ref W)) (hz : z.Ok w) (hne : ∀ p ∈ tl, p.1 ∉ z.ads) (hWz : W ∉ z.ads) (hWt : ∀ p ∈ tl, p.1 ≠ W) (hS : SignsAre vs cs) (hok : ∀ x ∈ cs, x < 128) (hl : cs.length < 10000) (hws : StrsAre ws ((pre ++ [tok]).map txt)) (hlex : Lexes tok line cs ts line' cs') (hlen : (pre ++ tok :: ts).length < 900)
    (hq : ∀ h' tk' t1' vs' n' ws' k', Fr B L h' m → News B L h' ((W, listOf (List.toArray ws') k') :: (z.objs w line' t1' vs' n' ++ tl)) → SignsAre vs' cs' → StrsAre ws' ((pre ++ tok :: ts).map txt) → Q .next ⟨h', g, dd, tk', os⟩),
    wpAny (model PySem.Challenge.rw_pg0244_01.row.prog w) (Around.deeper { depth := ad, frames := af, guards := ag, units := au } (lawEnv sc L)) (exec st (lawEnv sc L)) Q (fun _ _ => False) ⟨h, g, dd, tk, os⟩ := by
  k_fill
  intro w sc st B h g dd tk os L m tl Q ad au af ag mg mb loose z line t1 vs n cs W ws k pre tok ts line' cs' X T hst hsc hr hu F N hlx hwo hz hne hWz hWt hS hok hl hws hlex hlen hq
  refine' law_use (f := fun l => stmtIn 8 (loopIn 7 l)) ?e hst hsc ?_
  case e => k_dflt k_is
  intro e1 e2
  cases e1
  cases e2
  clear hst hsc
  have F1 : Fr B L h (chainOf [Str.ofString "words", Str.ofString "lexer"] m m) := by rw [← agree_chain Agree.refl]; exact F
  simp only [chainOf, hwo, hlx] at F1
  clear F
  unfold lawEnv
  have o1 := ltN hz.o1
  have o2 := ltN hz.o2
  have o3 := ltN hz.o3
  have o4 := ltN hz.o4
  have o5 := ltN hz.o5
  have o6 := ltN hz.o6
  have o7 := ltN hz.o7
  have o8 := ltN hz.o8
  have o9 := ltN hz.o9
  have hr20 : ad + 20 < recursionLimit := by omega
  have hu16 : au + 160 < cLine := by omega
  have back : ∀ h', Fr B L h' (fun y => if y = Str.ofString "words" then some (Value.ref W) else if y = Str.ofString "lexer" then some (Value.ref z.x2) else m y) → Fr B L h' m := fun h' F' => by
    rw [agree_chain (xs := [Str.ofString "words", Str.ofString "lexer"]) (m := m) (m₀ := m) Agree.refl]; simp only [chainOf, hwo, hlx]; exact F'
  refine While_inv (fun j m₁ news₁ => m₁ = (fun y => if y = Str.ofString "words" then some (Value.ref W) else if y = Str.ofString "lexer" then some (Value.ref z.x2) else m y) ∧ ∃ pr tok' line₁ cs₁ ts₁ t1₁ vs₁ n₁ ws₁ k₁, news₁ = (W, listOf (List.toArray ws₁) k₁) :: (z.objs w line₁ t1₁ vs₁ n₁ ++ tl) ∧ SignsAre vs₁ cs₁ ∧ (∀ x ∈ cs₁, x < 128) ∧ cs₁.length < 10000 ∧ StrsAre ws₁ ((pr ++ [tok']).map txt) ∧ Lexes tok' line₁ cs₁ ts₁ line' cs' ∧ pr ++ tok' :: ts₁ = pre ++ tok :: ts ∧ j = ts₁.length) F1 N ⟨rfl, pre, tok, line, cs, ts, t1, vs, n, ws, k, rfl, hS, hok, hl, hws, hlex, rfl, rfl⟩ ?_
  rintro j m₁ news₁ h₁ tk₁ F N ⟨rfl, pr, tok', line₁, cs₁, ts₁, t1₁, vs₁, n₁, ws₁, k₁, rfl, hS₁, hok₁, hl₁, hws₁, hlex₁, hall, rfl⟩
  clear F1
  have hlen₁ : (pr ++ tok' :: ts₁).length < 900 := by rw [hall]; exact hlen
  simp only [List.length_append, List.length_cons] at hlen₁
  have hws2 : StrsAre ws₁ (pr.map txt ++ [txt tok']) := by rw [List.map_append] at hws₁; exact hws₁
  have hprl : (pr.map txt).length < 1000 := by rw [List.length_map]; omega
  have hwl : ws₁.length < 1000 := by rw [hws2.len, List.length_append, List.length_map]; simp only [List.length_cons, List.length_nil]; omega
  unfold Lx.objs at N
  simp only [List.cons_append, List.nil_append] at N
  k_steps
  skip
  · rename (Fr _ _ _ _) => F9
    rename (News _ _ _ _) => N9
    rename_i hS9
    have hnt : tok' ≠ [] := (txt_ne tok').mp (by assumption)
    refine' append_K F9 N9 (.head (hWallF hWz hWt _ _ _ _)) ?_ ?z
    case z => with_unfolding_all exact szA (by assumption)
    intro h9 F8 N8
    clear F9 N9
    k_steps
    cases hlex₁ with
    | stop => exact absurd rfl hnt
    | step _ hlex₂ =>
      have hrs := sTok_rest line₁ cs₁
      refine WhileStep.intro F8 N8 (Nat.lt_succ_self _) ⟨rfl, pr ++ [tok'], _, _, _, _, _, _, _, ws₁ ++ [_], k₁ + 1, by rw [List.push_toArray], hS9, fun x hx => hok₁ x (hrs.2 x hx), Nat.lt_of_le_of_lt hrs.1 hl₁, ?_, hlex₂, ?_, rfl⟩
      · rw [List.map_append]
        exact hws₁.app (.cons _ _ .nil)
      · rw [← hall]; simp
  · have hnt : tok' = [] := Classical.byContradiction fun e => by
      have h1 := (txt_ne tok').mpr e
      rename (txt tok' != Str.ofString "") = false => h2
      rw [h2] at h1; cases h1
    subst hnt
    cases hlex₁ with
    | step hn _ => exact absurd rfl hn
    | stop =>
      rename (Fr _ _ _ _) => F9
      refine hq _ _ t1₁ vs₁ n₁ ws₁ k₁ (back _ F9) ?_ hS₁ ?_
      · intro p hp
        refine N p ?_
        unfold Lx.objs at hp
        simpa only [List.cons_append, List.nil_append] using hp
      · rw [← hall]; exact hws₁
end Mine
namespace Mine
open PySem PySem.W PyProof.Rows
theorem flush40 {M : Model} {A : Around} {Q : Flow → Shared → Prop} {E : Value → Shared → Prop} {s : Shared} {env : Env} (h : wpAny M A (execs [] env) Q E s) : wpAny M A (execs [] env) Q E s := by
  k_with_none
  (try (walk1; fail))
  w_top off
  exact h
end Mine
namespace Mine
open PySem PySem.W PyProof.Rows PySem.Calls
set_option maxHeartbeats 1000000
set_option linter.unusedVariables false
theorem kset39 : True := by
  k_with_none
  k_with "mine agree" =>
    repeat (first
      | exact Agree.refl
      | (refine' Agree.set (by first | exact .head _ | exact .tail _ (.head _) | exact .tail _ (.tail _ (.head _))) ?_)
      | (refine' Agree.same (by assumption) ?_))
  trivial
theorem sizes_K {w : World} {E : Value → Shared → Prop} {s : Shared} {Q : Value → Shared → Prop} {h₀ : Heap} {L : Addr} {m : Str → Option Value} {news : List (Addr × Obj)} {dp un : Nat} {fr : Option (List Env)} {gd : Option (List Code)} {env : Env} {mg mb : Str → Option Value} {loose : List Str} {t1 t2 t3 t4 t5 : Tok}
    {tabs blanks run behind equals : Nat} {bl : Int} (F : Fr h₀ L s.heap m) (N : News h₀ L s.heap news) (X : (hd.heap_1 w.params).In h₀) (T : TopRead viewQ loose mg mb h₀) (hr : dp + 15 < recursionLimit)
    (hbl : bl = (blanks : Int)) (b1 : tabs < 2) (b2 : blanks < 24) (b3 : run < 8) (b4 : behind < 4) (b5 : equals < 2)
    (hq : ∀ h' tk l vs n, Fr h₀ L h' m → News h₀ L h' ((l, listOf vs.toArray n) :: news) → IntsAre vs ((sizesL tabs blanks run behind equals).map Int.ofNat) → (∀ p ∈ news, p.1 ≠ l) → Q (.ref l) { s with heap := h', toks := tk }) :
    wpAny (model PySem.Challenge.rw_pg0244_01.row.prog w) (Around.deeper { depth := dp, frames := fr, guards := gd, units := un } env) (call (.ref 190) [.int tabs t1, .int bl t2, .int run t3, .int behind t4, .int equals t5]) Q E s := by
  subst hbl
  refine wpAny_call (sizes_ctr w _ s _ mg mb loose tabs blanks run behind equals t1 t2 t3 t4 t5 (X.keeps F.keep) (T.keeps F.keep) rfl (by show dp + 1 < _; omega) b1 b2 b3 b4 b5 fun h' tk l vs n kp hn hg hI => ?_)
  exact hq h' tk l vs n (Fr.kept F kp) (News.add N F kp hn hg) hI fun p hp e => by
    have h1 := (N p hp).1
    rw [e, hn] at h1; cases h1
theorem kset40 : True := by
  k_with "subscriptTail" =>
    (refine' sub_pl (by k_asm) (by (first | assumption | exact .head _ | exact .tail _ (by assumption) | exact .tail _ (.tail _ (by assumption)) | exact .tail _ (.tail _ (.tail _ (by assumption))) | exact .tail _ (.tail _ (.tail _ (.tail _ (by assumption)))) | exact .tail _ (.tail _ (.tail _ (.tail _ (.tail _ (by assumption))))))) (by assumption) (by assumption) ?_ (by with_unfolding_all rfl); intro _)
  k_with "call ref" =>
    (with_unfolding_all refine' sizes_K (by k_asm) (by k_asm) (by k_asm) (by k_asm) (by assumption) (by assumption) (by assumption) (by assumption) (by assumption) (by assumption) (by assumption) ?_; intro _ _ _ _ _ _ _ _ hn'₉; have hn9 := neN (hn'₉ _ (.head _)); (try k_sweep))
  trivial
theorem T10 : ∀ (w : World) (sc : Scope) (st : Stmt) (B h : Heap) (g : Array GenState) (dd : Drawn) (tk : Nat) (os : OsState) (L : Addr) (m : Str → Option Value) (tl : List (Addr × Obj)) (Q : Flow → Shared → Prop)
    (ad au : Nat) (af : Option (List Env)) (ag : Option (List Code)) (mg mb : Str → Option Value) (loose : List Str) (k : Nat) (tk0 : Tok) (oS oP oK oD : Obj) (pl : Addr) (pvs : List Value) (np : Nat) (P : Nat → Nat) (tabs run behind equals : Nat) (s1 s2 s3 s4 : Tok)
    (X : (hd.heap_1 w.params).In B) (T : TopRead viewQ loose mg mb B) (hst : stmtIn 9 (loopIn 7 (bodyIn ((hd.heap_1 w.params).lookup 202))) = some st) (hsc : scopeIn ((hd.heap_1 w.params).lookup 202) = some sc) (hr : ad + 30 < recursionLimit) (hu : au + 200 < cLine)
    (F : Fr B L h m) (N : News B L h ((L + 1 + 1 + 1 + 1, oS) :: (L + 1 + 1 + 1, oP) :: (L + 1 + 1, oK) :: (L + 1, oD) :: tl))
    (hk : m (Str.ofString "k") = some (.int (k : Int) tk0)) (h1 : m (Str.ofString "tabs") = some (.int (tabs : Int) s1)) (h2 : m (Str.ofString "run") = some (.int (run : Int) s2)) (h3 : m (Str.ofString "behind") = some (.int (behind : Int) s3)) (h4 : m (Str.ofString "equals") = some (.int (equals : Int) s4)) (v : Option Value) (dS : oS.data = .cell v) (dP : oP.data = .cell (some (.ref pl))) (hpl : (pl, listOf pvs.toArray np) ∈ tl) (hpv : IntsAre pvs (pl5 P)) (hk5 : k < 5) (hp : P k < 16) (hne : ∀ p ∈ tl, p.1 ≠ L + 1 + 1 + 1 + 1) (b1 : tabs < 2) (b3 : run < 8) (b4 : behind < 4) (b5 : equals < 2)
    (hq : ∀ h' tk' oS' sl svs ns, Fr B L h' m → News B L h' ((L + 1 + 1 + 1 + 1, oS') :: (L + 1 + 1 + 1, oP) :: (L + 1 + 1, oK) :: (L + 1, oD) :: (sl, listOf (List.toArray svs) ns) :: tl) → oS'.data = .cell (some (.ref sl)) → IntsAre svs ((sizesL tabs (run + P k) run behind equals).map Int.ofNat) → (∀ p ∈ (L + 1 + 1 + 1 + 1, oS) :: (L + 1 + 1 + 1, oP) :: (L + 1 + 1, oK) :: (L + 1, oD) :: tl, p.1 ≠ sl) → Q .next ⟨h', g, dd, tk', os⟩),
    wpAny (model PySem.Challenge.rw_pg0244_01.row.prog w) (Around.deeper { depth := ad, frames := af, guards := ag, units := au } (lawEnv sc L)) (exec st (lawEnv sc L)) Q (fun _ _ => False) ⟨h, g, dd, tk, os⟩ := by
  k_fill
  intro w sc st B h g dd tk os L m tl Q ad au af ag mg mb loose k tk0 oS oP oK oD pl pvs np P tabs run behind equals s1 s2 s3 s4 X T hst hsc hr hu F N hk h1 h2 h3 h4 v dS dP hpl hpv hk5 hp hne b1 b3 b4 b5 hq
  refine' law_use (f := fun l => stmtIn 9 (loopIn 7 l)) ?e hst hsc ?_
  case e => k_dflt k_is
  intro e1 e2
  cases e1
  cases e2
  clear hst hsc
  have F1 : Fr B L h (chainOf [Str.ofString "k", Str.ofString "tabs", Str.ofString "run", Str.ofString "behind", Str.ofString "equals"] m m) := by rw [← agree_chain Agree.refl]; exact F
  simp only [chainOf, hk, h1, h2, h3, h4] at F1
  clear F
  unfold lawEnv
  have hr15 : ad + 15 < recursionLimit := by omega
  have hbl : (run : Int) + ((P k : Nat) : Int) = ((run + P k : Nat) : Int) := by omega
  have b2 : run + P k < 24 := by omega
  have back : ∀ h', Fr B L h' (fun y => if y = Str.ofString "k" then some (Value.int (k : Int) tk0) else if y = Str.ofString "tabs" then some (Value.int (tabs : Int) s1) else if y = Str.ofString "run" then some (Value.int (run : Int) s2) else if y = Str.ofString "behind" then some (Value.int (behind : Int) s3) else if y = Str.ofString "equals" then some (Value.int (equals : Int) s4) else m y) → Fr B L h' m := fun h' F' => by
    rw [agree_chain (xs := [Str.ofString "k", Str.ofString "tabs", Str.ofString "run", Str.ofString "behind", Str.ofString "equals"]) (m := m) (m₀ := m) Agree.refl]; simp only [chainOf, hk, h1, h2, h3, h4]; exact F'
  k_steps
  rename (Fr _ _ _ _) => F9
  rename (News _ _ _ _) => N9
  rename (IntsAre _ (List.map _ _)) => hI9
  rename (Obj.data _ = _) => d9
  rename_i n9 _ _
  refine' hq _ _ _ _ _ n9 (back _ F9) ?nn d9 hI9 (by assumption)
  intro p hp
  refine N9 p ?_
  simp only [List.mem_cons] at hp ⊢
  rcases hp with h | h | h | h | h | h
  · exact .inr (.inl h)
  · exact .inr (.inr (.inl h))
  · exact .inr (.inr (.inr (.inl h)))
  · exact .inr (.inr (.inr (.inr (.inl h))))
  · exact .inl h
  · exact .inr (.inr (.inr (.inr (.inr h))))
theorem len_listN {prog : Program} {w : World} {A : Around} {E : Value → Shared → Prop} {s : Shared} {Q : Value → Shared → Prop} {h₀ : Heap} {L : Addr} {news : List (Addr × Obj)} {a : Addr} {vs : List Value} {n : Nat} {cs : List Int} (N : News h₀ L s.heap news) (hm : (a, listOf vs.toArray n) ∈ news) (hI : IntsAre vs cs) (hl : cs.length < 1000) (h : Q (.int (cs.length : Int) (s.toks + 1)) { s with toks := s.toks + 1 + 1 }) :
    wpAny (model prog w) A (call (.builtin "len") [.ref a]) Q E s := by
  have e : vs.toArray.size = cs.length := by rw [List.size_toArray]; exact hI.length
  refine len_list (News.isList N hm) (by rw [e]; exact Int.lt_of_lt_of_le (Int.ofNat_lt.mpr hl) (by decide)) ?_
  rw [e]; exact h
theorem kset41 : True := by
  k_with "call builtin:len" =>
    (refine' len_listN (by k_asm) (by (first | assumption | exact .head _ | exact .tail _ (by assumption) | exact .tail _ (.tail _ (by assumption)) | exact .tail _ (.tail _ (.tail _ (by assumption))) | exact .tail _ (.tail _ (.tail _ (.tail _ (by assumption)))) | exact .tail _ (.tail _ (.tail _ (.tail _ (.tail _ (by assumption))))))) (by assumption) (by assumption) ?_)
  k_with "call builtin:str.join" =>
    refine halt ?_
  trivial
section
variable {prog : Program} {w : World} {A : Around} {E : Value → Shared → Prop} {s : Shared} {h₀ : Heap} {L : Addr} {m : Str → Option Value} {news : List (Addr × Obj)} {env : Env}
theorem strsAre_of : ∀ (vs : List Value) (xs : List Str), vs.length = xs.length → (∀ (j : Nat) (v : Value), vs[j]? = some v → ∃ x u, xs[j]? = some x ∧ v = Value.str x u) → StrsAre vs xs
  | [], [], _, _ => .nil
  | v :: vs, c :: cs, hl, h => by
    obtain ⟨c', u, e1, e2⟩ := h 0 v rfl
    have e3 : c = c' := Option.some.inj e1
    subst e3 e2
    exact .cons c u (strsAre_of vs cs (Nat.succ.inj hl) fun j v hv => h (j + 1) v hv)
  | [], _ :: _, hl, _ => by cases hl
  | _ :: _, [], hl, _ => by cases hl
theorem paired_at {F : Value → Value → Prop} : ∀ {vs us : List Value}, Paired F vs us → vs.length = us.length ∧ ∀ (j : Nat) (u : Value), us[j]? = some u → ∃ v, vs[j]? = some v ∧ F v u
  | _, _, .nil => ⟨rfl, fun j u h => by simp at h⟩
  | _, _, .cons hF r => by
    obtain ⟨h1, h2⟩ := paired_at r
    refine ⟨congrArg (· + 1) h1, fun j u h => ?_⟩
    cases j with
    | zero => simp at h; subst h; exact ⟨_, rfl, hF⟩
    | succ j => exact h2 j u (by simpa using h)
theorem ListComp_ints1 {elt iter : Expr} {x : Str} {px : Pos} {scope : Scope} {pos : Pos} {Q : Value → Shared → Prop} {d : Int → Str} {l : Addr} {vs : List Value} {n : Nat} {ns : List Int}
    (hh : A.handled = none) (hfree : ∀ y ∈ scope.names, y.2 ≠ .free) (hcell : ∀ y ∈ scope.names, y.2 ≠ .cell) (hkind : scope.kind = .function)
    (hnames : ∀ y ∈ scope.names, y.2 = .local → scope.names.lookup y.1 = some .local) (hx : scope.names.lookup x = some .local)
    (hit : ∀ (Q' : Value → Shared → Prop), Q' (.ref l) s → wpAny (model prog w) A (eval iter env) Q' E s) (F : Fr h₀ L s.heap m) (N : News h₀ L s.heap news) (hm : (l, listOf vs.toArray n) ∈ news) (hI : IntsAre vs ns) (hsz : ns.length < 1000)
    (helt : ∀ C a u (s₂ : Shared) m₂ E', a ∈ ns → s₂.heap.Ns (compEnv scope C env).locals m₂ → m₂ x = some (.int a u) → (∀ b o, h₀.get? b = some o → s₂.heap.get? b = some o) → wpAny (model prog w) A (eval elt (compEnv scope C env)) (fun r s₃ => (∃ t, r = .str (d a) t) ∧ Keeps s₂ s₃) E' s₂)
    (hQ : ∀ D ys k h' tk, Fr h₀ L h' m → News h₀ L h' ((D, listOf (List.toArray ys) k) :: news) → StrsAre ys (ns.map d) → Q (.ref D) { s with heap := h', toks := tk })
    (hs : ∀ x, foldedSetIterable iter env x = pure x) :
    wpAny (model prog w) A (eval (.ListComp elt [⟨.Name x px, iter, [], 0⟩] scope pos) env) Q E s := by
  have hl := News.isList N hm
  have hne : l ≠ s.heap.objs.size := Nat.ne_of_lt (Heap.lt_size (N _ hm).1)
  have hlen : vs.toArray.size = ns.length := by rw [List.size_toArray]; exact hI.length
  refine wpAny_ListComp_walk (fun _ => true) (fun v r => ∃ a u t, v = .int a u ∧ r = .str (d a) t) hfree hcell hkind hnames hx (hit _ ?_) hs
  refine wpAny_pyIter_list hl ?_
  have up : ∀ (h' : Heap), (∀ b o', b ∉ [s.heap.objs.size] → (s.heap.push { cls := .type "list_iterator", data := .fields #[.ref l, .int 0 0] }).get? b = some o' → h'.get? b = some o') → ∀ b o', s.heap.get? b = some o' → h'.get? b = some o' :=
    fun h' hk b o' e => hk b o' (old_not_new e) (Heap.get?_push_of_some _ e)
  have hv : ∀ (i : Nat) (v : Value), vs.toArray[i]? = some v → ∃ a u, ns[i]? = some a ∧ v = .int a u := fun i v h => by
    have h' : vs[i]? = some v := by simpa using h
    obtain ⟨a, t, e1, e2⟩ := hI.at i v h'
    exact ⟨a, t, e2, e1⟩
  refine ⟨s.heap.objs.size, [s.heap.objs.size, l], [s.heap.objs.size], vs.toArray.size, _, _, rfl, Walks.list hh _ l hne vs.toArray, by rw [hlen, sizeLine_eq]; omega, ⟨⟨_, Heap.get?_push_size _ rfl, rfl, rfl⟩, hl.at fun o e => Heap.get?_push_of_some _ e⟩, ?_, ⟨?_, ?_⟩, ?_⟩
  · intro b hb
    show b < (s.heap.push _).objs.size
    rw [Heap.size_push]
    rcases List.mem_cons.mp hb with rfl | hb
    · exact Nat.lt_succ_self _
    · rw [List.mem_singleton.mp hb]; exact Nat.lt_succ_of_lt (Heap.lt_size (N _ hm).1)
  · intro C i v s₃ m₃ E' hP hn hm _ _
    simp only [List.forIn_nil]
    exact wpAny_pure ⟨rfl, _, _, rfl, fun _ _ e => e⟩
  · intro C i v s₃ m₃ E' hP hp hn hm hk _
    obtain ⟨a, u, ha, rfl⟩ := hv i v hP
    exact wpAny_mono (helt C a u s₃ m₃ E' (List.mem_of_getElem? ha) hn hm fun b o e => hk b o (old_not_new (F.keep b o e)) (Heap.get?_push_of_some _ (F.keep b o e))) (fun r s₄ h₄ => ⟨let ⟨t, e⟩ := h₄.1; ⟨a, u, t, rfl, e⟩, h₄.2⟩) fun _ _ e => e
  · intro D h' tk ys vs' hnew hlD hplD hlen' hP hF hk
    obtain ⟨k, hD⟩ := hplD
    rw [List.filter_eq_self.mpr (fun _ _ => rfl)] at hF
    obtain ⟨e1, e2⟩ := paired_at hF
    have hnewD : s.heap.get? D = none := by
      cases q : s.heap.get? D with
      | none => rfl
      | some o => rw [Heap.get?_push_of_some _ q] at hnew; cases hnew
    refine hQ D ys.toList k h' tk (F.keeps (up h' hk)) (News.add N F (up h' hk) hnewD (by rw [Array.toArray_toList]; exact hD)) (strsAre_of _ _ ?_ fun j v hj => ?_)
    · rw [List.length_map, ← e1, hlen', hlen]
    · obtain ⟨v', hv', a, u, t, e3, e4⟩ := e2 j v hj
      obtain ⟨a', u', h5, h6⟩ := hv j v' (hP j v' hv')
      rw [e3] at h6
      cases h6
      exact ⟨d a, t, by simp [h5], e4⟩
end
theorem kset42 : True := by
  k_with "eval ListComp" =>
    refine halt ?_
  trivial
theorem T11 : ∀ (w : World) (sc : Scope) (st : Stmt) (B h : Heap) (g : Array GenState) (dd : Drawn) (tk : Nat) (os : OsState) (L : Addr) (m : Str → Option Value) (tl : List (Addr × Obj)) (Q : Flow → Shared → Prop)
    (ad au : Nat) (af : Option (List Env)) (ag : Option (List Code)) (mg mb : Str → Option Value) (loose : List Str) (oS oP oK oD : Obj) (sl : Addr) (svs : List Value) (nl : Nat) (ns : List Nat)
    (X : (hd.heap_1 w.params).In B) (T : TopRead viewQ loose mg mb B) (hst : stmtIn 10 (loopIn 7 (bodyIn ((hd.heap_1 w.params).lookup 202))) = some st) (hsc : scopeIn ((hd.heap_1 w.params).lookup 202) = some sc) (hr : ad + 30 < recursionLimit) (hu : au + 200 < cLine)
    (F : Fr B L h m) (N : News B L h ((L + 1 + 1 + 1 + 1, oS) :: (L + 1 + 1 + 1, oP) :: (L + 1 + 1, oK) :: (L + 1, oD) :: tl))
    (dS : oS.data = .cell (some (.ref sl))) (hsl : (sl, listOf svs.toArray nl) ∈ tl) (hI : IntsAre svs (ns.map Int.ofNat)) (hn : ns.length < 40) (hns : ∀ n ∈ ns, n < 100)
    (hq : ∀ h' tk' m' t, Fr B L h' m' → News B L h' ((L + 1 + 1 + 1 + 1, oS) :: (L + 1 + 1 + 1, oP) :: (L + 1 + 1, oK) :: (L + 1, oD) :: tl) → Agree [Str.ofString "due"] m' m → m' (Str.ofString "due") = some (.str (repTxt ns) t) → Q .next ⟨h', g, dd, tk', os⟩),
    wpAny (model PySem.Challenge.rw_pg0244_01.row.prog w) (Around.deeper { depth := ad, frames := af, guards := ag, units := au } (lawEnv sc L)) (exec st (lawEnv sc L)) Q (fun _ _ => False) ⟨h, g, dd, tk, os⟩ := by
  k_fill
  intro w sc st B h g dd tk os L m tl Q ad au af ag mg mb loose oS oP oK oD sl svs nl ns X T hst hsc hr hu F N dS hsl hI hn hns hq
  refine' law_use (f := fun l => stmtIn 10 (loopIn 7 l)) ?e hst hsc ?_
  case e => k_dflt k_is
  intro e1 e2
  cases e1
  cases e2
  clear hst hsc
  have F1 : Fr B L h (chainOf [] m m) := by rw [← agree_chain Agree.refl]; exact F
  simp only [chainOf] at F1
  clear F
  unfold lawEnv
  have hlen : (ns.map Int.ofNat).length < 1000 := by rw [List.length_map]; omega
  k_steps
  all_goals unfold Halt
  all_goals
    refine ListComp_ints1 (d := fun a => Str.ofString (toString a)) rfl (by decide) (by decide) rfl (by decide) rfl (fun Q' hq' => ?_) F1 N (.tail _ (.tail _ (.tail _ (.tail _ hsl)))) hI hlen ?_ ?_ (fun x => rfl)
    · walk1
      exact hq'
    · intro C a u s₂ m₂ E' ha hnC hmx hkB
      obtain ⟨n, hn', e⟩ := List.mem_map.mp ha
      have hsm : n < 100 := hns n hn'
      subst e
      have hng : s₂.heap.Ns mainGlobals mg := T.g.keeps hkB
      have hnb : s₂.heap.Ns builtinsNs mb := T.b.keeps hkB
      have hms : mg (Str.ofString "str") = none := mg_none_of X T.g (by k_dflt k_is)
      have hbs : mb (Str.ofString "str") = some (.type "str") := (T.builtins _ (by decide)).trans (by boot_fast)
      refine wpAny_Call_NameR ?_
      refine Name_function_global rfl rfl (loadGlobal_builtin hng hms hnb hbs ?_)
      walk1
      walk1
      refine wpAny_Name (wpAny_loadName_local rfl rfl hnC hmx ?_) (by decide)
      walk1
      refine P.str_of_int (shown (N := 2 ^ 1920) (by rw [Int.ofNat_eq_natCast]; omega) (by rw [Int.ofNat_eq_natCast]; omega) (Int.le_refl _)) ?_
      exact ⟨⟨_, rfl⟩, s₂.heap, _, rfl, fun _ _ e => e⟩
    · intro D ys k h' tk' F9 N9 hst
      k_steps
      unfold Halt
      have hc : CarriedAll ys ((ns.map Int.ofNat).map fun a => PyData.str (Str.ofString (toString a))) := by
        have := hst.carry
        rw [List.map_map] at this
        exact this
      refine KT.join_B 2 (News.isList N9 (.head _)) hc (fun a ha => ?_) (by omega) (by decide) fun t' k => ?_
      · obtain ⟨n, hn', e⟩ := List.mem_map.mp ha
        subst e
        exact numT_len n (hns n hn')
      · have hjj : Txt.join (Str.ofString ", ") ((ns.map Int.ofNat).map fun a => Str.ofString (toString a)) = Txt.join (Str.ofString ", ") (ns.map numT) := by rw [List.map_map]; rfl
        rw [hjj]
        have hjl : (Txt.join (Str.ofString ", ") (ns.map numT)).length ≤ 1000 := by
          have h0 : Txt.join (Str.ofString ", ") (ns.map numT) = Str.join (Str.ofString ", ") (ns.map numT) := eq_of_beq (join_plain_closes _ _)
          rw [h0]
          have h1 := StrLaws.join_length_le (Str.ofString ", ") (ns.map numT)
          have h2 := numT_sum ns hns
          have h3 : (Str.ofString ", ").length = 2 := rfl
          rw [h3, List.length_map] at h1
          omega
        k_steps
        rename (Fr _ _ _ _) => F8
        rename (News _ _ _ _) => N8
        have hcase : 1 < ns.length ∨ ¬ 1 < ns.length := Classical.em _
        refine' hq _ _ _ _ F8 (fun p hp => N8 p (.tail _ hp)) ?a9 ?b9
        case b9 =>
          rcases hcase with hc1 | hc1
          · first
              | (exfalso; simp only [List.length_map] at *; omega)
              | (unfold repTxt; rw [if_pos hc1]; rfl)
          · first
              | (exfalso; simp only [List.length_map] at *; omega)
              | (unfold repTxt; rw [if_neg hc1]; rfl)
        case a9 => walk_at "mine agree"
end Mine
namespace Mine
open PySem PySem.W PyProof.Rows
theorem flush41 {M : Model} {A : Around} {Q : Flow → Shared → Prop} {E : Value → Shared → Prop} {s : Shared} {env : Env} (h : wpAny M A (execs [] env) Q E s) : wpAny M A (execs [] env) Q E s := by
  k_with_none
  (try (walk1; fail))
  w_top off
  exact h
end Mine
namespace Mine
open PySem PySem.W PyProof.Rows PySem.Calls
set_option maxHeartbeats 1000000
set_option linter.unusedVariables false
theorem kset43 : True := by
  k_with_none
  k_with "mine agree" =>
    repeat (first
      | exact Agree.refl
      | (refine' Agree.set (by first | exact .head _ | exact .tail _ (.head _) | exact .tail _ (.tail _ (.head _))) ?_)
      | (refine' Agree.same (by assumption) ?_))
  trivial
theorem strs_values : ∀ l : List (Str × Tok), StrsAre (strValues l) (l.map (·.1))
  | [] => .nil
  | (x, t) :: r => .cons x t (strs_values r)
open PySem.SeqAt in
theorem eqAt_strs {A : Around} {s : Shared} : ∀ {ws us : List Value} {xs : List Str}, StrsAre ws xs → StrsAre us xs → ∀ (j : Nat) (u v : Value), ws[j]? = some u → us[j]? = some v → EqAt A s u v true
  | _, _, _, .nil, .nil, j, u, v, h, _ => by simp at h
  | _, _, _, .cons x t r, .cons _ t' r', j, u, v, h, h' => by
    cases j with
    | zero =>
      simp at h h'
      subst h h'
      have := EqAt.str_str (A := A) (s := s) x t x t'
      rw [beq_self_eq_true] at this
      exact this
    | succ j => exact eqAt_strs r r' j u v (by simpa using h) (by simpa using h')
open PySem.SeqAt in
theorem strs_ne {prog : Program} {w : World} {A : Around} {E : Value → Shared → Prop} {s : Shared} {Q : Value → Shared → Prop} {h₀ : Heap} {L : Addr} {news : List (Addr × Obj)} {a b : Addr} {ws us : List Value} {k k' : Nat} {xs : List Str} (N : News h₀ L s.heap news) (ha : (a, listOf ws.toArray k) ∈ news) (hb : (b, listOf us.toArray k') ∈ news)
    (hw : StrsAre ws xs) (hu : StrsAre us xs) (hr : A.units < cLine) (h : Q (.bool false) s) : wpAny (model prog w) A (compareOp .NotEq (.ref a) (.ref b)) Q E s := by
  have hsz : ws.toArray.size = us.toArray.size := by rw [List.size_toArray, List.size_toArray, hw.len, hu.len]
  have := RcNeAt.lists (A := A) (s := s) (News.isList N ha) (News.isList N hb) (e := fun _ => true) hsz hr (fun j j1 j2 => eqAt_strs hw hu j _ _ (by simp at j1 ⊢) (by simp at j2 ⊢))
  have e : (!(List.range ws.toArray.size).all fun _ => true) = false := by simp
  rw [e] at this
  exact this prog w E Q h
theorem sz11 {x y : Value} : (List.toArray [x]).size + (List.toArray [y]).size ≤ sizeLine := by rw [sizeLine_eq]; exact (by decide : 1 + 1 ≤ 16777216)
theorem sz_split {x : Str} {l : List (Str × Tok)} {v : Value} (h : (Txt.words x).length < 1000) (e : l.map (·.1) = Txt.words x) : (strValues l).toArray.size + (List.toArray [v]).size ≤ sizeLine := by
  have e1 : l.length < 1000 := by
    have := congrArg List.length e
    rw [List.length_map] at this
    omega
  rw [sizeLine_eq, List.size_toArray]
  simp only [strValues, List.length_map, List.size_toArray, List.length_cons, List.length_nil]
  omega
theorem kset44 : True := by
  k_with "compareOp NotEq ref ref" =>
    refine halt ?_
  k_with "call builtin:str.split" =>
    (refine' KSpl.split0 (by k_asm) (by k_asm) ?_ (by assumption); intro _ _ _ _ _ _ _ _ l1₉; (try k_lt l1₉); (try k_sweep))
  k_with "binaryOp Add ref ref" =>
    (refine' add_arrays (by k_asm) (by k_asm) (by kmk_list) (by kmk_list) ?_ (by first | exact sz11 | exact sz_split (by assumption) (by assumption)); intro _ _ _; (try k_sweep))
  trivial
theorem T12 : ∀ (w : World) (sc : Scope) (st : Stmt) (B h : Heap) (g : Array GenState) (dd : Drawn) (tk : Nat) (os : OsState) (L : Addr) (m : Str → Option Value) (tl : List (Addr × Obj)) (Q : Flow → Shared → Prop)
    (ad au : Nat) (af : Option (List Env)) (ag : Option (List Code)) (mg mb : Str → Option Value) (loose : List Str) (z : Lx) (line : Int) (t1 : Tok) (vs : List Value) (n : Nat) (W : Addr) (ws : List Value) (k : Nat) (xs : List Str) (way : Nat) (s1 : Tok) (due : Str) (s2 : Tok) (row : Int) (s3 : Tok)
    (X : (hd.heap_1 w.params).In B) (T : TopRead viewQ loose mg mb B) (hst : stmtIn 11 (loopIn 7 (bodyIn ((hd.heap_1 w.params).lookup 202))) = some st) (hsc : scopeIn ((hd.heap_1 w.params).lookup 202) = some sc) (hr : ad + 30 < recursionLimit) (hu : au + 200 < cLine)
    (F : Fr B L h m) (N : News B L h (z.objs w line t1 vs n ++ tl))
    (hlx : m (Str.ofString "lexer") = some (.ref z.x2)) (hwo : m (Str.ofString "words") = some (.ref W)) (hwa : m (Str.ofString "way") = some (.int (way : Int) s1)) (hdu : m (Str.ofString "due") = some (.str due s2)) (hro : m (Str.ofString "row") = some (.int row s3)) (hz : z.Ok w) (hW : (W, listOf ws.toArray k) ∈ tl) (hws : StrsAre ws xs) (hrow : row = line) (hx1 : 1 < way → xs = [due] ++ [Str.ofString ""]) (hx2 : way ≤ 1 → xs = Txt.words due ++ [Str.ofString ""]) (hdl : due.length + 2 ≤ sizeLine) (hwl : (Txt.words due).length < 1000)
    (hq : ∀ h' tk', Fr B L h' m → News B L h' (z.objs w line t1 vs n ++ tl) → Q .next ⟨h', g, dd, tk', os⟩),
    wpAny (model PySem.Challenge.rw_pg0244_01.row.prog w) (Around.deeper { depth := ad, frames := af, guards := ag, units := au } (lawEnv sc L)) (exec st (lawEnv sc L)) Q (fun _ _ => False) ⟨h, g, dd, tk, os⟩ := by
  k_fill
  intro w sc st B h g dd tk os L m tl Q ad au af ag mg mb loose z line t1 vs n W ws k xs way s1 due s2 row s3 X T hst hsc hr hu F N hlx hwo hwa hdu hro hz hW hws hrow hx1 hx2 hdl hwl hq
  refine' law_use (f := fun l => stmtIn 11 (loopIn 7 l)) ?e hst hsc ?_
  case e => k_dflt k_is
  intro e1 e2
  cases e1
  cases e2
  clear hst hsc
  have F1 : Fr B L h (chainOf [Str.ofString "lexer", Str.ofString "words", Str.ofString "way", Str.ofString "due", Str.ofString "row"] m m) := by rw [← agree_chain Agree.refl]; exact F
  simp only [chainOf, hlx, hwo, hwa, hdu, hro] at F1
  clear F
  unfold lawEnv
  have o1 := ltN hz.o1
  have o2 := ltN hz.o2
  have o3 := ltN hz.o3
  have o4 := ltN hz.o4
  have o5 := ltN hz.o5
  have o6 := ltN hz.o6
  have o7 := ltN hz.o7
  have o8 := ltN hz.o8
  have o9 := ltN hz.o9
  have hmem : ∀ pre : List (Addr × Obj), (W, listOf ws.toArray k) ∈ pre ++ tl := fun pre => List.mem_append_right _ hW
  unfold Lx.objs at N
  simp only [List.cons_append, List.nil_append] at N
  k_steps
  all_goals unfold Halt
  all_goals rename (News _ _ _ _) => N9
  · refine strs_ne (xs := xs) N9 (.tail _ (.tail _ (.tail _ (hmem [_, _, _, _, _, _, _, _, _])))) (.head _) hws (us := [_, _]) (by rw [hx1 (by omega)]; exact .cons _ _ (.cons _ _ .nil)) (by unfold Around.deeper; dsimp only; omega) ?_
    k_steps
    all_goals first
      | (exfalso; omega)
      | (rename (Fr _ _ _ _) => F8
         rename (News _ _ _ _) => N8
         exact hq _ _ (by rw [agree_chain (xs := [Str.ofString "lexer", Str.ofString "words", Str.ofString "way", Str.ofString "due", Str.ofString "row"]) (m := m) (m₀ := m) Agree.refl]; simp only [chainOf, hlx, hwo, hwa, hdu, hro]; exact F8) (fun p hp => N8 p (.tail _ (.tail _ (.tail _ hp)))))
  · rename (List.map _ _ = Txt.words _) => e9
    rename_i D9 l9 _ _ _ _ _ _ _ _
    refine strs_ne (xs := xs) N9 (.tail _ (.tail _ (.tail _ (hmem [_, _, _, _, _, _, _, _, _])))) (.head _) hws (by rw [hx2 (by omega), ← e9]; simpa using (strs_values _).app (.cons _ _ .nil)) (by unfold Around.deeper; dsimp only; omega) ?_
    k_steps
    all_goals first
      | (exfalso; omega)
      | (rename (Fr _ _ _ _) => F8
         rename (News _ _ _ _) => N8
         exact hq _ _ (by rw [agree_chain (xs := [Str.ofString "lexer", Str.ofString "words", Str.ofString "way", Str.ofString "due", Str.ofString "row"]) (m := m) (m₀ := m) Agree.refl]; simp only [chainOf, hlx, hwo, hwa, hdu, hro]; exact F8) (fun p hp => N8 p (.tail _ (.tail _ (.tail _ hp)))))
end Mine
namespace Mine
open PySem PySem.W PyProof.Rows
theorem flush42 {M : Model} {A : Around} {Q : Flow → Shared → Prop} {E : Value → Shared → Prop} {s : Shared} {env : Env} (h : wpAny M A (execs [] env) Q E s) : wpAny M A (execs [] env) Q E s := by
  k_with_none
  (try (walk1; fail))
  w_top off
  exact h
end Mine
namespace Mine
open PySem PySem.W PyProof.Rows PySem.Calls
set_option maxHeartbeats 1000000
set_option linter.unusedVariables false
theorem kset45 : True := by
  k_with_none
  k_with "mine agree" =>
    repeat (first
      | exact Agree.refl
      | (refine' Agree.set (by first | exact .head _ | exact .tail _ (.head _) | exact .tail _ (.tail _ (.head _))) ?_)
      | (refine' Agree.same (by assumption) ?_))
  trivial
noncomputable def LIter (o : Obj) (l : Addr) (i : Nat) : Prop := o.cls = .type "list_iterator" ∧ o.data = .fields #[.ref l, .int (i : Int) 0]
noncomputable def TurnN (B : Heap) (L I : Addr) (oI : Obj) (J : (Str → Option Value) → List (Addr × Obj) → Prop) (s₁ : Shared) (Q : Flow → Shared → Prop) (f : Flow) (s₂ : Shared) : Prop :=
  match f with
  | .ret v => Q (.ret v) s₂
  | .brk => False
  | _ => ∃ h' tk m' news', s₂ = { s₁ with heap := h', toks := tk } ∧ Fr B L h' m' ∧ News B L h' ((I, oI) :: news') ∧ (∀ p ∈ news', p.1 ≠ I) ∧ J m' news'
theorem TurnN.next {B h' : Heap} {L I : Addr} {oI : Obj} {J : (Str → Option Value) → List (Addr × Obj) → Prop} {s₁ : Shared} {Q : Flow → Shared → Prop} {tk : Nat} {m' : Str → Option Value} {news' : List (Addr × Obj)} (F : Fr B L h' m') (N : News B L h' ((I, oI) :: news')) (hI : ∀ p ∈ news', p.1 ≠ I) (hJ : J m' news') :
    TurnN B L I oI J s₁ Q .next { s₁ with heap := h', toks := tk } := ⟨h', tk, m', news', rfl, F, N, hI, hJ⟩
noncomputable def TurnG (B : Heap) (L I : Addr) (oI : Obj) (J : (Str → Option Value) → List (Addr × Obj) → Array GenState → Prop) (s₁ : Shared) (Q : Flow → Shared → Prop) (f : Flow) (s₂ : Shared) : Prop :=
  match f with
  | .ret v => Q (.ret v) s₂
  | .brk => False
  | _ => ∃ h' tk g' m' news', s₂ = { s₁ with heap := h', toks := tk, gens := g' } ∧ Fr B L h' m' ∧ News B L h' ((I, oI) :: news') ∧ (∀ p ∈ news', p.1 ≠ I) ∧ J m' news' g'
section
variable {prog : Program} {w : World} {A : Around} {E : Value → Shared → Prop} {s : Shared} {env : Env} {B : Heap} {L : Addr}
theorem for_listNG {x : Str} {px : Pos} {body : List Stmt} {Q : Flow → Shared → Prop} {l : Addr} {items : List Value} {kk : Nat} {m0 : Str → Option Value} {news0 : List (Addr × Obj)} (J : Nat → (Str → Option Value) → List (Addr × Obj) → Array GenState → Prop)
    (hL : env.locals = L) (hx : env.kindOf x = some .local) (hp : (env.scope.kind == .class || (env.scope.kind == .module && env.locals != env.globals)) = false) (hh : A.handled = none)
    (F : Fr B L s.heap m0) (N : News B L s.heap news0) (hl : ∀ i m news g, J i m news g → (l, listOf items.toArray kk) ∈ news) (hJ : J 0 m0 news0 s.gens)
    (turn : ∀ i v m news h tk g I oI, i < items.length → items[i]? = some v → J i m news g → (∀ p ∈ news, p.1 ≠ I) → LIter oI l (i + 1) → Fr B L h (fun y => if y = x then some v else m y) → News B L h ((I, oI) :: news) →
      wpAny (model prog w) A (execs body env) (TurnG B L I oI (J (i + 1)) { s with heap := h, toks := tk } Q) (fun _ _ => False) { s with heap := h, toks := tk, gens := g })
    (done : ∀ m news h tk g, J items.length m news g → Fr B L h m → News B L h news → Q .next { s with heap := h, toks := tk, gens := g })
    (ht : ∀ I v, letOwnedTupleGo (.Name x px) (.ref I) v = pure () := by intro _ _; rfl) :
    wpAny (model prog w) A (pyIter (.ref l)) (fun it s₂ => codeAny (model prog w) A (.forLoop (.Name x px) it body [] env) (fun r s' => match r with | .ok f => Q f s' | .error e => cameBackBy (model prog w) A env E e s') s₂) E s := by
  subst hL
  have hl0 := hl 0 m0 news0 _ hJ
  have hls : s.heap.IsList l items.toArray := News.isList N hl0
  refine wpAny_pyIter_list hls ?_
  have hN0 : ∀ p ∈ news0, p.1 ≠ s.heap.objs.size := fun p hp => Nat.ne_of_lt (Heap.lt_size (N p hp).1)
  refine codeAny_forLoop (fun n s' => ∃ i m news h tk g oI, s' = { s with heap := h, toks := tk, gens := g } ∧ Fr B env.locals h m ∧ News B env.locals h ((s.heap.objs.size, oI) :: news) ∧ (∀ p ∈ news, p.1 ≠ s.heap.objs.size) ∧ LIter oI l i ∧ J i m news g ∧ i ≤ items.length ∧ n = items.length - i) ?_ items.length
    ⟨0, m0, news0, _, s.toks, s.gens, _, rfl, F.push _, News.push F N _ rfl, hN0, ⟨rfl, rfl⟩, hJ, Nat.zero_le _, rfl⟩ (ht _)
  rintro n s' ⟨i, m, news, h, tk, g, oI, rfl, F1, N1, hI, hit, hJi, hle, rfl⟩
  have hit' : h.IsListIter s.heap.objs.size l i := ⟨oI, (N1 _ (.head _)).1, hit.1, hit.2⟩
  have hl1 : h.IsList l items.toArray := News.isList N1 (.tail _ (hl i m news g hJi))
  have hIn := N1 _ (.head _)
  by_cases hi : i < items.length
  · refine wpAny_pyNext_list_item hit' hl1 (x := items[i]) (by simp [hi]) fun h2 hit2 hs2 => ?_
    obtain ⟨oI2, ho2, hc2, hd2⟩ := hit2
    refine wpAny_assign_Name ?_
    have F2 : Fr B env.locals h2 m := F1.change hs2 hIn.2.1 hIn.2.2
    have N2 : News B env.locals h2 ((s.heap.objs.size, oI2) :: news) := List.forall_mem_cons.mpr ⟨⟨ho2, hIn.2⟩, fun p hp => ⟨(hs2.2 _ (hI p hp)).trans (N1 p (.tail _ hp)).1, (N1 p (.tail _ hp)).2⟩⟩
    refine wpAny_storeName_local (v := items[i]) hx F2.ns (fun h3 hn3 hs3 => ?_) hp
    refine wpAny_mono (turn i items[i] m news h3 _ g s.heap.objs.size oI2 hi (by simp [hi]) hJi hI ⟨hc2, hd2⟩ (F2.set hn3 hs3) (N2.set hs3)) (fun f s₃ hf => ?_) fun _ _ x => x.elim
    cases f with
    | ret v => exact hf
    | brk => exact hf.elim
    | next =>
      obtain ⟨h', tk', g', m', news', rfl, F4, N4, hI4, hJ4⟩ := hf
      exact ⟨items.length - (i + 1), by omega, i + 1, m', news', h', tk', g', oI2, rfl, F4, N4, hI4, ⟨hc2, hd2⟩, hJ4, hi, rfl⟩
    | cont =>
      obtain ⟨h', tk', g', m', news', rfl, F4, N4, hI4, hJ4⟩ := hf
      exact ⟨items.length - (i + 1), by omega, i + 1, m', news', h', tk', g', oI2, rfl, F4, N4, hI4, ⟨hc2, hd2⟩, hJ4, hi, rfl⟩
  · have e : i = items.length := by omega
    subst e
    refine wpAny_pyNext_list_end hh hit' hl1 (by simp) fun h2 hs2 => ?_
    refine wpAny_execs_nil (done m news h2 tk g hJi ⟨F1.ns.at' fun o e => hs2 _ _ (Ne.symm hIn.2.1) e, fun b o e => hs2 b o (fun q => by rw [q, hIn.2.2] at e; cases e) (F1.keep b o e), F1.above⟩ fun p hp => ⟨hs2 _ _ (hI p hp) (N1 p (.tail _ hp)).1, (N1 p (.tail _ hp)).2⟩)
theorem for_listN {x : Str} {px : Pos} {body : List Stmt} {Q : Flow → Shared → Prop} {l : Addr} {items : List Value} {kk : Nat} {m0 : Str → Option Value} {news0 : List (Addr × Obj)} (J : Nat → (Str → Option Value) → List (Addr × Obj) → Prop)
    (hL : env.locals = L) (hx : env.kindOf x = some .local) (hp : (env.scope.kind == .class || (env.scope.kind == .module && env.locals != env.globals)) = false) (hh : A.handled = none)
    (F : Fr B L s.heap m0) (N : News B L s.heap news0) (hl : ∀ i m news, J i m news → (l, listOf items.toArray kk) ∈ news) (hJ : J 0 m0 news0)
    (turn : ∀ i v m news h tk I oI, i < items.length → items[i]? = some v → J i m news → (∀ p ∈ news, p.1 ≠ I) → LIter oI l (i + 1) → Fr B L h (fun y => if y = x then some v else m y) → News B L h ((I, oI) :: news) →
      wpAny (model prog w) A (execs body env) (TurnN B L I oI (J (i + 1)) { s with heap := h, toks := tk } Q) (fun _ _ => False) { s with heap := h, toks := tk })
    (done : ∀ m news h tk, J items.length m news → Fr B L h m → News B L h news → Q .next { s with heap := h, toks := tk })
    (ht : ∀ I v, letOwnedTupleGo (.Name x px) (.ref I) v = pure () := by intro _ _; rfl) :
    wpAny (model prog w) A (pyIter (.ref l)) (fun it s₂ => codeAny (model prog w) A (.forLoop (.Name x px) it body [] env) (fun r s' => match r with | .ok f => Q f s' | .error e => cameBackBy (model prog w) A env E e s') s₂) E s := by
  refine for_listNG (fun i m news g => J i m news ∧ g = s.gens) hL hx hp hh F N (fun i m news g h => hl i m news h.1) ⟨hJ, rfl⟩ ?_ (fun m news h tk g hJ F N => by rw [hJ.2]; exact done m news h tk hJ.1 F N) ht
  rintro i v m news h tk g I oI hi hv ⟨hJ, rfl⟩ hI hit F1 N1
  refine wpAny_mono (turn i v m news h tk I oI hi hv hJ hI hit F1 N1) (fun f s₃ hf => ?_) fun _ _ x => x
  cases f with
  | ret v => exact hf
  | brk => exact hf
  | next =>
    obtain ⟨h', tk', m', news', rfl, F4, N4, hI4, hJ4⟩ := hf
    exact ⟨h', tk', _, m', news', rfl, F4, N4, hI4, hJ4, rfl⟩
  | cont =>
    obtain ⟨h', tk', m', news', rfl, F4, N4, hI4, hJ4⟩ := hf
    exact ⟨h', tk', _, m', news', rfl, F4, N4, hI4, hJ4, rfl⟩
end
end Mine
namespace Mine
open PySem PySem.W PyProof.Rows
theorem flush43 {M : Model} {A : Around} {Q : Flow → Shared → Prop} {E : Value → Shared → Prop} {s : Shared} {env : Env} (h : wpAny M A (execs [] env) Q E s) : wpAny M A (execs [] env) Q E s := by
  k_with_none
  (try (walk1; fail))
  w_top off
  exact h
end Mine
namespace Mine
open PySem PySem.W PyProof.Rows PySem.Calls
set_option maxHeartbeats 1000000
set_option linter.unusedVariables false
theorem kset46 : True := by
  k_with_none
  k_with "mine agree" =>
    repeat (first
      | exact Agree.refl
      | (refine' Agree.set (by first | exact .head _ | exact .tail _ (.head _) | exact .tail _ (.tail _ (.head _))) ?_)
      | (refine' Agree.same (by assumption) ?_))
  trivial
noncomputable def commaT (n : Nat) : Str := numT n ++ Str.ofString ","
noncomputable def numWords : List Nat → List Str
  | [] => []
  | [n] => [numT n]
  | n :: k :: r => commaT n :: numWords (k :: r)
theorem numWords_at : ∀ (ns : List Nat) (i : Nat) (x : Str), (numWords ns)[i]? = some x → ∃ n, ns[i]? = some n ∧ (x = numT n ∨ x = commaT n)
  | [], i, x, h => by simp [numWords] at h
  | [n], i, x, h => by
    cases i with
    | zero => simp [numWords] at h; exact ⟨n, rfl, .inl h.symm⟩
    | succ i => simp [numWords] at h
  | n :: k :: r, i, x, h => by
    cases i with
    | zero => simp [numWords] at h; exact ⟨n, rfl, .inr h.symm⟩
    | succ i => 
      obtain ⟨n', e1, e2⟩ := numWords_at (k :: r) i x (by simpa [numWords] using h)
      exact ⟨n', by simpa using e1, e2⟩
theorem numWords_len : ∀ ns : List Nat, (numWords ns).length = ns.length
  | [] => rfl
  | [n] => rfl
  | n :: k :: r => congrArg (· + 1) (numWords_len (k :: r))
theorem strip_num : ∀ n < 100, Txt.stripChars (numT n) (Str.ofString ",") = numT n ∧ Txt.stripChars (commaT n) (Str.ofString ",") = numT n ∧ (commaT n).length ≤ 3 := by decide +kernel
/-- where a lamp is after one more turn -/
noncomputable def adv (P : Nat → Nat) (n : Nat) : Nat → Nat := fun k => if k = n % 5 then (P k + n) % 16 else P k
theorem adv_lt {P : Nat → Nat} {n : Nat} (h : ∀ k < 5, P k < 16) : ∀ k < 5, adv P n k < 16 := fun k hk => by
  unfold adv; split
  · exact Nat.mod_lt _ (by decide)
  · exact h k hk
section
variable {w : World} {E : Value → Shared → Prop} {s : Shared} {Q : Value → Shared → Prop} {h₀ : Heap} {L : Addr} {m : Str → Option Value} {news : List (Addr × Obj)}
  {dp un : Nat} {fr : Option (List Env)} {gd : Option (List Code)} {env : Env} {mg mb : Str → Option Value} {loose : List Str} {tn : Tok} {l : Addr} {as : Nat → Addr} {p n k : Nat}
theorem turned_K (F : Fr h₀ L s.heap m) (N : News h₀ L s.heap news) (X : (hd.heap_1 w.params).In h₀) (T : TopRead viewQ loose mg mb h₀) (hr : dp + 15 < recursionLimit) {nl : Nat} (hm : (l, listOf (refs5 as).toArray nl) ∈ news) (b0 : p < 16) (hk : k < 5) (hl0 : LampIn news (as k) k p) (hn : n < 24) (hmd : n % 5 = k)
    (h : ∀ h' tk l' a' t1 t2 t3, Fr h₀ L h' m → News h₀ L h' ((l', listO (refs5 (upd as k a'))) :: (a', lampT k ((p + n) % 16) t1 t2 t3) :: news) → (∀ q ∈ news, q.1 ≠ l' ∧ q.1 ≠ a') → Q (.ref l') { s with heap := h', toks := tk }) :
    wpAny (model PySem.Challenge.rw_pg0244_01.row.prog w) (Around.deeper { depth := dp, frames := fr, guards := gd, units := un } env) (call (.ref 178) [.ref l, .int (n : Int) tn]) Q E s := by
  have hmd' : (n : Int).fmod 5 = (k : Int) := by rw [nm5, hmd]
  refine wpAny_call (turned_ctr w _ s _ mg mb loose l as p n k tn (X.keeps F.keep) (T.keeps F.keep) rfl (by show dp + 1 + 10 < _; omega) (News.isList N hm) b0 hk (hl0.at N) hn hmd' fun h' tk l' a' kp n1 n2 g1 g2 => ?_)
  obtain ⟨t1, t2, t3, g2⟩ := g2
  refine h h' tk l' a' t1 t2 t3 (Fr.kept F kp) (News.adds (extra := [_, _]) N F kp fun q hq => ?_) fun q hq => ?_
  · simp only [List.mem_cons, List.not_mem_nil, or_false] at hq
    rcases hq with rfl | rfl
    · exact ⟨n1, g1⟩
    · exact ⟨n2, g2⟩
  · have h1 := (N q hq).1
    exact ⟨fun e => (by rw [e, n1] at h1; cases h1), fun e => (by rw [e, n2] at h1; cases h1)⟩
end
theorem strs_of : ∀ {ws : List Value} {xs : List Str}, StrsAre ws xs → ∃ l : List (Str × Tok), ws = strValues l ∧ l.map (·.1) = xs
  | _, _, .nil => ⟨[], rfl, rfl⟩
  | _, _, .cons x t r => let ⟨l, e1, e2⟩ := strs_of r; ⟨(x, t) :: l, by rw [e1]; rfl, by rw [← e2]; rfl⟩
theorem join_W {prog : Program} {w : World} {A : Around} {E : Value → Shared → Prop} {s : Shared} {Q : Value → Shared → Prop} {h₀ : Heap} {L W : Addr} {news : List (Addr × Obj)} {ws : List Value} {k : Nat} {xs : List Str} {sep : Str} {t : Tok} (N : News h₀ L s.heap news) (hm : (W, listOf ws.toArray k) ∈ news) (hw : StrsAre ws xs) (hok : JoinOk sep xs = true)
    (hq : ∀ t' k, Q (.str (Txt.join sep xs) t') { s with toks := k }) : wpAny (model prog w) A (call (.builtin "str.join") [.str sep t, .ref W]) Q E s := by
  obtain ⟨l, e1, e2⟩ := strs_of hw
  subst e1
  exact SC.join (News.isList N hm) e2 hok hq
theorem slice3 {prog : Program} {w : World} {A : Around} {E : Value → Shared → Prop} {s : Shared} {h₀ : Heap} {L l : Addr} {m : Str → Option Value} {news : List (Addr × Obj)} {value slice : PySem.Expr} {vl vu : Value} {lo hi : Option Int} {items : List Value} {Q : Value → Shared → Prop}
    (F : Fr h₀ L s.heap m) (N : News h₀ L s.heap news) (hl : s.heap.IsList l items.toArray) (hlen : items.length < 1000) (pl : IsPart vl lo) (pu : IsPart vu hi)
    (h : ∀ D h', Fr h₀ L h' m → News h₀ L h' ((D, listO (kms_pick items lo hi)) :: news) → (∀ p ∈ news, p.1 < D) → Q (.ref D) { s with heap := h' })
    (hs : subscripted slice false (.ref l) (.ref s.heap.objs.size) = operate [.ref s.heap.objs.size, .ref l] (getItem (.ref l) (.ref s.heap.objs.size))) (ht : ∀ r, letTemporaryGo value (.ref l) r = pure ()) :
    wpAny (model prog w) A (subscriptTail value slice (.ref l) (.ref s.heap.objs.size)) Q E { s with heap := s.heap.push { cls := .type "slice", data := .fields #[vl, vu, .none] } } :=
  kms_slice_lit F N hl pl pu rfl (fun D h' F' N' l' => h D h' F' N' l') hs ht (by rw [sizeLine_eq, List.size_toArray]; omega)
theorem kset47 : True := by
  k_with "call builtin:str.join" =>
    (refine' join_W (by k_asm) (by (first | assumption | exact .head _ | exact .tail _ (by assumption) | exact .tail _ (.tail _ (by assumption)) | exact .tail _ (.tail _ (.tail _ (by assumption))) | exact .tail _ (.tail _ (.tail _ (.tail _ (by assumption)))) | exact .tail _ (.tail _ (.tail _ (.tail _ (.tail _ (by assumption))))))) (by assumption) (by assumption) ?_; intro _ _)
  k_with "call builtin:str.split" =>
    (refine' KSpl.split0 (by k_asm) (by k_asm) ?_ (by assumption); intro _ _ _ _ _ _ _ _ l1₉; (try k_lt l1₉); (try k_sweep))
  k_with "pyIter ref" =>
    refine halt ?_
  trivial
theorem sv_len {x : Str} {l : List (Str × Tok)} (h : (Txt.words x).length < 1000) (e : l.map (·.1) = Txt.words x) : (strValues l).length < 1000 := by
  have := congrArg List.length e
  rw [List.length_map] at this
  simp only [strValues, List.length_map]; omega
theorem kset48 : True := by
  k_with "subscriptTail Name Slice ref ref" =>
    (refine' slice3 (by k_asm) (by k_asm) (by exact News.isList (by assumption) (.head _)) (by exact sv_len (by assumption) (by assumption)) (by kmk_part) (by kmk_part) ?_ (by with_unfolding_all rfl) (by kmk_pure); intro _ _ _ _ _; (try k_sweep))
  trivial
theorem pick3 (l : List Value) : kms_pick l (some 3) none = l.drop 3 := by
  rcases l with _ | ⟨a, _ | ⟨b, _ | ⟨c, l⟩⟩⟩ <;> simp [kms_pick, kms_lo, kms_hi] <;> (try omega)
theorem drop_sv (l : List (Str × Tok)) (n : Nat) : (strValues l).drop n = strValues (l.drop n) := by simp [strValues, List.map_drop]
section
variable {prog : Program} {w : World} {A : Around} {E : Value → Shared → Prop} {s : Shared} {Q : Value → Shared → Prop}
theorem strip9 {x y : Str} {t u : Tok} (e : Txt.stripChars x (Str.ofString ",") = y) (hs : x.length ≤ sizeLine) (h : ∀ t' k, Q (.str y t') { s with toks := k }) : wpAny (model prog w) A (call (.builtin "str.strip") [.str x t, .str (Str.ofString ",") u]) Q E s := SC.stripChars (fun t' k => by rw [e]; exact h t' k) hs
theorem int9 {n : Nat} {t : Tok} (hn : n < 24) (h : ∀ t, Q (.int (n : Int) t) { s with toks := s.toks + 1 }) : wpAny (model prog w) A (call (.type "int") [.str (numT n) t]) Q E s := KIN.call_num (by omega) (by omega) (h _)
end
theorem kset49 : True := by
  k_with "call builtin:str.strip" =>
    (refine strip9 (by assumption) (by assumption) ?_; intro _ _)
  k_with "call type:int" =>
    (refine int9 (by assumption) ?_; intro _)
  k_with "call ref" =>
    (with_unfolding_all refine' turned_K (by k_asm) (by k_asm) (by k_asm) (by k_asm) (by assumption) (by assumption) (by assumption) (by assumption) (by assumption) (by assumption) (by assumption) ?_; intro _ _ _ _ _ _ _ _ _ _; (try k_sweep))
  trivial
theorem T13 : ∀ (w : World) (sc : Scope) (st : Stmt) (B h : Heap) (g : Array GenState) (dd : Drawn) (tk : Nat) (os : OsState) (L : Addr) (m : Str → Option Value) (tl : List (Addr × Obj)) (Q : Flow → Shared → Prop)
    (ad au : Nat) (af : Option (List Env)) (ag : Option (List Code)) (mg mb : Str → Option Value) (loose : List Str) (W : Addr) (ws : List Value) (k : Nat) (xs : List Str) (lp : Addr) (as : Nat → Addr) (P : Nat → Nat) (ns : List Nat) (lt : List (Addr × Obj))
    (X : (hd.heap_1 w.params).In B) (T : TopRead viewQ loose mg mb B) (hst : stmtIn 12 (loopIn 7 (bodyIn ((hd.heap_1 w.params).lookup 202))) = some st) (hsc : scopeIn ((hd.heap_1 w.params).lookup 202) = some sc) (hr : ad + 30 < recursionLimit) (hu : au + 200 < cLine)
    (F : Fr B L h m) (N : News B L h (tl))
    (hlt : ∀ p ∈ lt, p ∈ tl) (hwo : m (Str.ofString "words") = some (.ref W)) (hlm : m (Str.ofString "lamps") = some (.ref lp)) (hW : (W, listOf ws.toArray k) ∈ tl) (hws : StrsAre ws xs) (hjo : JoinOk (Str.ofString " ") xs = true) (hjl : (Txt.join (Str.ofString " ") xs).length + 2 ≤ sizeLine) (hwl : (Txt.words (Txt.join (Str.ofString " ") xs)).length < 1000) (hwd : (Txt.words (Txt.join (Str.ofString " ") xs)).drop 3 = numWords ns) (hlp : ∃ nl, (lp, listOf (refs5 as).toArray nl) ∈ lt) (hla : ∀ k < 5, LampIn lt (as k) k (P k)) (hP : ∀ k < 5, P k < 16) (hns : ∀ n ∈ ns, n < 24)
    (hq : ∀ h' tk' m' lp' as' ex, Fr B L h' m' → News B L h' (ex ++ tl) → (∀ p ∈ ex, ∀ q ∈ tl, q.1 ≠ p.1) → (∃ nl, (lp', listOf (refs5 as').toArray nl) ∈ ex ++ lt) → (∀ k < 5, LampIn (ex ++ lt) (as' k) k (ns.foldl adv P k)) → Agree [Str.ofString "word", Str.ofString "lamps"] m' m → m' (Str.ofString "lamps") = some (.ref lp') → Q .next ⟨h', g, dd, tk', os⟩),
    wpAny (model PySem.Challenge.rw_pg0244_01.row.prog w) (Around.deeper { depth := ad, frames := af, guards := ag, units := au } (lawEnv sc L)) (exec st (lawEnv sc L)) Q (fun _ _ => False) ⟨h, g, dd, tk, os⟩ := by
  k_fill
  intro w sc st B h g dd tk os L m tl Q ad au af ag mg mb loose W ws k xs lp as P ns lt X T hst hsc hr hu F N hlt hwo hlm hW hws hjo hjl hwl hwd hlp hla hP hns hq
  refine' law_use (f := fun l => stmtIn 12 (loopIn 7 l)) ?e hst hsc ?_
  case e => k_dflt k_is
  intro e1 e2
  cases e1
  cases e2
  clear hst hsc
  have F1 : Fr B L h (chainOf [Str.ofString "words", Str.ofString "lamps"] m m) := by rw [← agree_chain Agree.refl]; exact F
  simp only [chainOf, hwo, hlm] at F1
  clear F
  unfold lawEnv
  refine wpAny_For ?_ (fun x => rfl)
  k_steps
  skip
  unfold Halt
  rename (Fr _ _ _ _) => F3
  rename (News _ _ _ _) => N3
  rename (List.map _ _ = Txt.words _) => e9
  rename_i lv _ _ _ D2 _ lt2
  have hst : StrsAre ((strValues lv).drop 3) (numWords ns) := by
    rw [drop_sv, ← hwd, ← e9, ← List.map_drop]
    exact strs_values _
  rw [pick3] at N3
  have hln : ((strValues lv).drop 3).length = ns.length := by rw [hst.len, numWords_len]
  have hD2 : ∀ q ∈ tl, q.1 ≠ D2 := fun q hq => Nat.ne_of_lt (lt2 q (.tail _ hq))
  have N4 : News B L _ ((D2, listO ((strValues lv).drop 3)) :: tl) := fun p hp => N3 p (by
    rcases List.mem_cons.mp hp with rfl | hp
    · exact .head _
    · exact .tail _ (.tail _ hp))
  refine for_listN (items := (strValues lv).drop 3) (kk := 0) (fun i m' news => Agree [Str.ofString "word", Str.ofString "lamps"] m' m ∧ ∃ lpi asi ex, m' (Str.ofString "lamps") = some (.ref lpi) ∧ news = ex ++ ((D2, listO ((strValues lv).drop 3)) :: tl) ∧ (∀ p ∈ ex, ∀ q ∈ (D2, listO ((strValues lv).drop 3)) :: tl, q.1 ≠ p.1) ∧ (∃ nl, (lpi, listOf (refs5 asi).toArray nl) ∈ ex ++ lt) ∧ (∀ k < 5, LampIn (ex ++ lt) (asi k) k ((ns.take i).foldl adv P k)) ∧ (∀ k < 5, (ns.take i).foldl adv P k < 16))
    rfl rfl rfl rfl F3 N4 ?hl ?hJ ?turn ?done
  case hl =>
    rintro i m' news ⟨-, lpi, asi, ex, -, rfl, -⟩
    exact List.mem_append_right _ (.head _)
  case hJ =>
    refine ⟨?_, lp, as, [], rfl, rfl, (fun p hp => nomatch hp), hlp, hla, hP⟩
    walk_at "mine agree"
  case turn =>
    rintro i v m' news h5 tk5 I oI hi hv ⟨hA, lpi, asi, ex, g1, rfl, hsep, ⟨nl9, hlpi⟩, hlai, hPi⟩ hI hit F5 N5
    have hm5 : ∀ p ∈ ex ++ lt, p ∈ (I, oI) :: (ex ++ ((D2, listO ((strValues lv).drop 3)) :: tl)) := fun p hp => .tail _ ((List.mem_append.mp hp).elim (fun h => List.mem_append_left _ h) fun h => List.mem_append_right _ (.tail _ (hlt _ h)))
    obtain ⟨x, tx, ex1, ex2⟩ : ∃ x tx, (numWords ns)[i]? = some x ∧ v = Value.str x tx := by
      obtain ⟨l9, q1, q2⟩ := strs_of hst
      rw [q1, strValues, List.getElem?_map] at hv
      cases q3 : l9[i]? with
      | none => rw [q3] at hv; cases hv
      | some pr =>
        rw [q3] at hv
        refine ⟨pr.1, pr.2, ?_, (Option.some.inj hv).symm⟩
        rw [← q2, List.getElem?_map, q3]; rfl
    subst ex2
    obtain ⟨n, hn1, hn2⟩ := numWords_at ns i x ex1
    have hn24 : n < 24 := hns n (List.mem_of_getElem? hn1)
    obtain ⟨s1, s2, s3⟩ := strip_num n (by omega)
    have hnl := numT_len n (by omega)
    have hstrip : Txt.stripChars x (Str.ofString ",") = numT n := by rcases hn2 with rfl | rfl <;> assumption
    have hxl : x.length ≤ sizeLine := by rw [sizeLine_eq]; rcases hn2 with rfl | rfl <;> omega
    have htake : ns.take (i + 1) = ns.take i ++ [n] := by rw [List.take_add_one, hn1]; rfl
    have hmd : n % 5 = n % 5 := rfl
    have hk5 : n % 5 < 5 := Nat.mod_lt _ (by decide)
    have hPk := hPi (n % 5) hk5
    have hlp5 := hm5 _ hlpi
    have hla5 : LampIn ((I, oI) :: (ex ++ ((D2, listO ((strValues lv).drop 3)) :: tl))) (asi (n % 5)) (n % 5) ((ns.take i).foldl adv P (n % 5)) := let ⟨t1, t2, t3, e⟩ := hlai (n % 5) hk5; ⟨t1, t2, t3, hm5 _ e⟩
    rw [agree_chain hA] at F5
    simp only [chainOf, g1] at F5
    clear F3 N3 N4
    have hr15 : ad + 15 < recursionLimit := by omega
    k_steps
    rename (Fr _ _ _ _) => F9
    rename (News _ _ _ _) => N9
    rename_i l9 a9 u1 u2 u3 _ _ n9 _
    have nI := n9 _ (.head _)
    have nR : ∀ q ∈ ex ++ ((D2, listO ((strValues lv).drop 3)) :: tl), q.1 ≠ l9 ∧ q.1 ≠ a9 := fun q hq => n9 q (.tail _ hq)
    refine TurnN.next (news' := ((l9, listO (refs5 (upd asi (n % 5) a9))) :: (a9, lampT (n % 5) (((ns.take i).foldl adv P (n % 5) + n) % 16) u1 u2 u3) :: ex) ++ ((D2, listO ((strValues lv).drop 3)) :: tl)) F9 (fun p hp => N9 p ?_) ?_ ⟨?ag, l9, upd asi (n % 5) a9, (l9, listO (refs5 (upd asi (n % 5) a9))) :: (a9, lampT (n % 5) (((ns.take i).foldl adv P (n % 5) + n) % 16) u1 u2 u3) :: ex, rfl, rfl, ?_, ⟨0, .head _⟩, ?_, ?_⟩
    · rcases List.mem_cons.mp hp with rfl | hp
      · exact .tail _ (.tail _ (.head _))
      · rcases List.mem_cons.mp hp with rfl | hp
        · exact .head _
        · rcases List.mem_cons.mp hp with rfl | hp
          · exact .tail _ (.head _)
          · exact .tail _ (.tail _ (.tail _ hp))
    · intro p hp
      rcases List.mem_cons.mp hp with rfl | hp
      · exact Ne.symm nI.1
      · rcases List.mem_cons.mp hp with rfl | hp
        · exact Ne.symm nI.2
        · exact hI p hp
    case ag => walk_at "mine agree"
    · intro p hp q hq
      rcases List.mem_cons.mp hp with rfl | hp
      · exact (nR q (List.mem_append_right _ hq)).1
      · rcases List.mem_cons.mp hp with rfl | hp
        · exact (nR q (List.mem_append_right _ hq)).2
        · exact hsep p hp q hq
    · intro k hk
      rw [htake, List.foldl_append]
      show LampIn _ _ k (adv _ n k)
      unfold adv upd
      by_cases hkn : k = n % 5
      · subst hkn
        rw [if_pos rfl, if_pos rfl]
        exact ⟨u1, u2, u3, .tail _ (.head _)⟩
      · rw [if_neg hkn, if_neg hkn]
        obtain ⟨t1, t2, t3, e⟩ := hlai k hk
        exact ⟨t1, t2, t3, .tail _ (.tail _ e)⟩
    · intro k hk
      rw [htake, List.foldl_append]
      exact adv_lt hPi k hk
  case done =>
    rintro m' news h5 tk5 ⟨hA, lpi, asi, ex, g1, rfl, hsep, hlpi, hlai, hPi⟩ F5 N5
    rw [hln, List.take_length] at hlai
    refine hq h5 tk5 m' lpi asi ex F5 (fun p hp => N5 p ?_) (fun p hp q hq => hsep p hp q (.tail _ hq)) hlpi hlai hA g1
    exact (List.mem_append.mp hp).elim (fun h => List.mem_append_left _ h) fun h => List.mem_append_right _ (.tail _ h)
end Mine
namespace Mine
open PySem PySem.W PyProof.Rows
theorem flush44 {M : Model} {A : Around} {Q : Flow → Shared → Prop} {E : Value → Shared → Prop} {s : Shared} {env : Env} (h : wpAny M A (execs [] env) Q E s) : wpAny M A (execs [] env) Q E s := by
  k_with_none
  (try (walk1; fail))
  w_top off
  exact h
end Mine
namespace Mine
open PySem PySem.W PyProof.Rows PySem.Calls
set_option maxHeartbeats 1000000
set_option linter.unusedVariables false
theorem kset50 : True := by
  k_with_none
  k_with "mine agree" =>
    repeat (first
      | exact Agree.refl
      | (refine' Agree.set (by first | exact .head _ | exact .tail _ (.head _) | exact .tail _ (.tail _ (.head _))) ?_)
      | (refine' Agree.same (by assumption) ?_))
  trivial
/-- the loop name of a comprehension, as it is bound -/
noncomputable def CV (isC : Bool) (C : Addr) (x : Str) (v : Value) (h : Heap) : Prop := if isC then h.IsCell (C + 1) (some v) else ∃ mC, h.Ns C mC ∧ mC x = some v
noncomputable def cellsOf (isC : Bool) (C : Addr) (x : Str) (cl : List (Str × Addr)) : List (Str × Addr) := if isC then (x, C + 1) :: cl else cl
noncomputable def ownL (isC : Bool) (I : Addr) : List Addr := I :: (I + 1) :: (I + 2) :: (if isC then [I + 3] else [])
theorem ownL_ge {isC : Bool} {I a : Addr} (h : a ∈ ownL isC I) : I ≤ a := by
  unfold ownL at h
  rcases List.mem_cons.mp h with rfl | h
  · exact Nat.le_refl _
  · rcases List.mem_cons.mp h with rfl | h
    · exact Nat.le_succ _
    · rcases List.mem_cons.mp h with rfl | h
      · exact Nat.le_add_right _ 2
      · cases isC with
        | false => cases h
        | true => rw [List.mem_singleton.mp h]; exact Nat.le_add_right _ 3
theorem frBut {B h h' : Heap} {L : Addr} {m : Str → Option Value} {own : List Addr} (F : Fr B L h m) (hk : ∀ b o, b ∉ own → h.get? b = some o → h'.get? b = some o) (hL : L ∉ own) (hB : ∀ b o, B.get? b = some o → b ∉ own) : Fr B L h' m :=
  ⟨F.ns.at' fun o e => hk _ _ hL e, fun b o e => hk b o (hB b o e) (F.keep b o e), F.above⟩
theorem newsBut {B h h' : Heap} {L : Addr} {news : List (Addr × Obj)} {own : List Addr} (N : News B L h news) (hk : ∀ b o, b ∉ own → h.get? b = some o → h'.get? b = some o) (hn : ∀ p ∈ news, p.1 ∉ own) : News B L h' news :=
  fun p hp => ⟨hk _ _ (hn p hp) (N p hp).1, (N p hp).2⟩
section
variable {prog : Program} {w : World} {A : Around} {E : Value → Shared → Prop} {s : Shared} {env : Env} {B : Heap} {L : Addr} {m : Str → Option Value} {tl : List (Addr × Obj)}
theorem ListComp_G {elt iter : Expr} {x : Str} {px : Pos} {scope : Scope} {cl : List (Str × Addr)} {pos : Pos} {Q : Value → Shared → Prop} {n : Nat} {r : Addr} {t₀ u₀ v₀ : Tok} {isC : Bool} {use : Option (Value → Sem Unit)} (G : Nat → List Value → List (Addr × Obj) → Prop)
    (hh : A.handled = none) (hkind : scope.kind = .function) (hx : (relabel scope env).names.lookup x = some (if isC then .cell else .local))
    (hcs : ∀ (k : Nat) (h : Heap), cellsFrom k scope.names cl = (if isC then (x, k) :: cl else cl) ∧ pushCells h scope.names = (if isC then h.push { cls := .type "cell", data := .cell none } else h))
    (F : Fr B L s.heap m) (N : News B L s.heap tl) (hr : IsRange s.heap r 0 (n : Int) 1 t₀ u₀ v₀) (hn : n < 1000) (h0 : G 0 [] [])
    (helt : ∀ C i ys new t (s₂ : Shared), i < n → G i ys new → Fr B L s₂.heap m → News B L s₂.heap (new ++ tl) → CV isC C x (.int (i : Int) t) s₂.heap →
      wpAny (model prog w) A (eval elt (compEnvC scope (cellsOf isC C x cl) C env)) (fun y s₃ => ∃ h' tk new', s₃ = { s₂ with heap := h', toks := tk } ∧ (∀ b o, s₂.heap.get? b = some o → h'.get? b = some o) ∧ (∀ p ∈ new', s₂.heap.get? p.1 = none ∧ h'.get? p.1 = some p.2) ∧ G (i + 1) (ys ++ [y]) (new' ++ new)) (fun _ _ => False) s₂)
    (hQ : ∀ D ys k new h' tk C, G n ys new → Fr B L h' m → News B L h' ((D, listOf (List.toArray ys) k) :: (new ++ tl)) → (∀ p ∈ new ++ tl, p.1 ≠ D) → (∀ p ∈ new, ∀ q ∈ tl, q.1 ≠ p.1) → (∃ mC, h'.Ns C mC) → C ≠ L → (∀ p ∈ (D, listOf (List.toArray ys) k) :: (new ++ tl), p.1 ≠ C) → B.get? C = none → ∀ r, compPost (model prog w) A E use Q (.ref D) C (.ok r) { s with heap := h', toks := tk }) :
    wpAny (model prog w) A (pyIter (.ref r)) (fun it s₂ => wpAny (model prog w) A (newList []) (fun acc s₃ => wpAny (model prog w) A (newFunctionEnv scope env.globals cl [] env.qual none .none (some env)) (fun cenv s₄ =>
      codeAny (model prog w) A (.compStart (.ListComp elt [⟨.Name x px, iter, [], 0⟩] scope pos) 0 it acc { cenv with scope := relabel scope env }) (compPost (model prog w) A E use Q acc cenv.locals) s₄) E s₃) E s₂) E s := by
  have hsmall : Builtin.Range.small 0 (n : Int) 1 = true := small_one (by decide) (by decide) (by omega) (by omega)
  refine wpAny_pyIter_range hr hsmall ?_
  have hsize : Builtin.Range.rangeSize 0 (n : Int) 1 = (n : Int) := by
    rw [rangeSize_one]
    split <;> omega
  rw [hsize]
  generalize hI : s.heap.objs.size = I
  generalize hH1 : s.heap.push { cls := .type "range_iterator", data := .fields #[rawInt 0, rawInt (n : Int), rawInt 1] } = H1
  have hs1 : H1.objs.size = I + 1 := by rw [← hH1, Heap.size_push, hI]
  refine wpAny_newObj_type ?_
  dsimp only
  generalize hH2 : H1.push { cls := .type "list", dict := none, data := .seq ([] : List Value).toArray } = H2
  have hs2 : H2.objs.size = I + 2 := by rw [← hH2, Heap.size_push, hs1]
  simp only [newFunctionEnv, Option.isSome_some, if_true]
  refine wpAny_bind (wpAny_alloc ?_)
  refine wpAny_bind (wpAny_layCells _ (fun name kind cells => by cases hkc : kind == NameKind.cell <;> simp [hkc]) _ _ _ _ ?_)
  dsimp only
  generalize hH3 : H2.push { cls := .type "dict", data := .dict #[] } = H3
  have hs3 : H3.objs.size = I + 3 := by rw [← hH3, Heap.size_push, hs2]
  rw [(hcs _ H3).1, (hcs 0 H3).2, hs1, hs2, hs3]
  generalize hH4 : (if isC = true then H3.push { cls := .type "cell", data := .cell none } else H3) = H4
  rw [List.forIn_nil]
  refine wpAny_bind (wpAny_pure (wpAny_pure ?_))
  have kp1 : ∀ b o, s.heap.get? b = some o → H1.get? b = some o := fun b o e => hH1 ▸ Heap.get?_push_of_some _ e
  have kp2 : ∀ b o, H1.get? b = some o → H2.get? b = some o := fun b o e => hH2 ▸ Heap.get?_push_of_some _ e
  have kp3 : ∀ b o, H2.get? b = some o → H3.get? b = some o := fun b o e => hH3 ▸ Heap.get?_push_of_some _ e
  have kp4 : ∀ b o, H3.get? b = some o → H4.get? b = some o := fun b o e => by
    rw [← hH4]; split
    · exact Heap.get?_push_of_some _ e
    · exact e
  have kp : ∀ b o, s.heap.get? b = some o → H4.get? b = some o := fun b o e => kp4 _ _ (kp3 _ _ (kp2 _ _ (kp1 _ _ e)))
  have hit : IsRangeIter H4 I 0 (n : Int) 1 := kp4 _ _ (kp3 _ _ (kp2 _ _ (by
    have := Heap.get?_push_size s.heap (o := { cls := .type "range_iterator", data := .fields #[rawInt 0, rawInt (n : Int), rawInt 1] }) rfl
    rw [hI, hH1] at this
    exact this)))
  have hD : H4.PlainList (I + 1) #[] := ⟨0, kp4 _ _ (kp3 _ _ (by
    have := Heap.get?_push_size H1 (o := { cls := .type "list", dict := none, data := .seq ([] : List Value).toArray }) rfl
    rw [hs1, hH2] at this
    exact this))⟩
  have hC : H4.Ns (I + 2) (fun _ => none) := by
    have := Heap.Ns.new H2 (.type "dict")
    rw [hs2, hH3] at this
    exact this.keeps kp4
  have hcell : isC = true → H4.IsCell (I + 3) none := fun e => by
    subst e
    refine ⟨{ cls := .type "cell", data := .cell none }, ?_, rfl⟩
    have := Heap.get?_push_size H3 (o := { cls := .type "cell", data := .cell none }) rfl
    rw [hs3] at this
    rw [← hH4]
    exact this
  have ltI : ∀ b o, s.heap.get? b = some o → b < I := fun b o e => hI ▸ Heap.lt_size e
  have nown : ∀ b, b < I → b ∉ ownL isC I := fun b hb hm => Nat.lt_irrefl _ (Nat.lt_of_lt_of_le hb (ownL_ge hm))
  have hLo : L ∉ ownL isC I := nown _ (hI ▸ F.ns.lt)
  have hBo : ∀ b o, B.get? b = some o → b ∉ ownL isC I := fun b o e => nown _ (ltI _ _ (F.keep b o e))
  have htlo : ∀ p ∈ tl, p.1 ∉ ownL isC I := fun p hp => nown _ (ltI _ _ (N p hp).1)
  have kindx : Env.kindOf (compEnvC scope (cellsOf isC (I + 2) x cl) (I + 2) env) x = some (if isC then .cell else .local) := hx
  have loop : codeAny (model prog w) A (.compLoop (.ListComp elt [⟨.Name x px, iter, [], 0⟩] scope pos) 0 (.ref I) (.ref (I + 1)) (compEnvC scope (cellsOf isC (I + 2) x cl) (I + 2) env)) (compPost (model prog w) A E use Q (.ref (I + 1)) (I + 2)) { s with heap := H4 } := by
    refine codeAny_compLoop_tests (fun k s' => ∃ (i : Nat) (ys : List Value) (new : List (Addr × Obj)) (h : Heap) (tk : Nat), s' = { s with heap := h, toks := tk } ∧ Fr B L h m ∧ News B L h (new ++ tl) ∧ (∀ p ∈ new, p.1 ∉ ownL isC I) ∧ (∀ p ∈ new, ∀ q ∈ tl, q.1 ≠ p.1) ∧ IsRangeIter h I (i : Int) ((n : Int) - (i : Int)) 1 ∧ h.PlainList (I + 1) (List.toArray ys) ∧ (∃ mC, h.Ns (I + 2) mC) ∧ (isC = true → ∃ v0, h.IsCell (I + 3) v0) ∧ G i ys new ∧ ys.length = i ∧ i ≤ n ∧ k = n - i) ?_ n
      ⟨0, [], [], H4, s.toks, rfl, F.keeps kp, News.kept N kp, (fun _ h => nomatch h), (fun _ h => nomatch h), by simpa using hit, hD, ⟨_, hC⟩, fun e => ⟨_, hcell e⟩, h0, rfl, Nat.zero_le _, rfl⟩
    rintro k s' ⟨i, ys, new, h, tk, rfl, F1, N1, hno, hnt, hit1, hD1, ⟨mC, hC1⟩, hcl1, hG, hlen, hle, rfl⟩
    have oI : I ∈ ownL isC I := .head _
    have oD : I + 1 ∈ ownL isC I := .tail _ (.head _)
    have oC : I + 2 ∈ ownL isC I := .tail _ (.tail _ (.head _))
    have oX : isC = true → I + 3 ∈ ownL isC I := fun e => by subst e; exact .tail _ (.tail _ (.tail _ (.head _)))
    have hall : ∀ p ∈ new ++ tl, p.1 ∉ ownL isC I := fun p hp => (List.mem_append.mp hp).elim (hno p) (htlo p)
    have nID : I ≠ I + 1 := Nat.ne_of_lt (Nat.lt_succ_self _)
    have nIC : I ≠ I + 2 := Nat.ne_of_lt (Nat.lt_add_of_pos_right (by decide))
    have nIX : I ≠ I + 3 := Nat.ne_of_lt (Nat.lt_add_of_pos_right (by decide))
    have nDC : I + 1 ≠ I + 2 := Nat.ne_of_lt (Nat.lt_succ_self _)
    have nDX : I + 1 ≠ I + 3 := Nat.ne_of_lt (Nat.lt_add_of_pos_right (n := I + 1) (k := 2) (by decide))
    have nCX : I + 2 ≠ I + 3 := Nat.ne_of_lt (Nat.lt_succ_self _)
    by_cases hi : i < n
    · refine wpAny_pyNext_range_item hit1 (by omega) fun h2 hit2 hs2 => ?_
      have k2 : ∀ b o, b ∉ ownL isC I → h.get? b = some o → h2.get? b = some o := fun b o hb e => (hs2.2 b (fun q => hb (q ▸ oI))).trans e
      have F2 := frBut F1 k2 hLo hBo
      have N2 := newsBut N1 k2 hall
      have hC2 : h2.Ns (I + 2) mC := hC1.sameBut hs2 (Ne.symm nIC)
      have hD2 : h2.PlainList (I + 1) (List.toArray ys) := hD1.at fun o e => (hs2.2 _ (Ne.symm nID)).trans e
      refine wpAny_assign_Name ?_
      have next : ∀ h3 tk3, Fr B L h3 m → News B L h3 (new ++ tl) → CV isC (I + 2) x (.int (i : Int) tk) h3 → IsRangeIter h3 I ((i : Int) + 1) ((n : Int) - (i : Int) - 1) 1 → h3.PlainList (I + 1) (List.toArray ys) → (∃ mC, h3.Ns (I + 2) mC) → (isC = true → ∃ v0, h3.IsCell (I + 3) v0) →
          wpAny (model prog w) A (forIn ([] : List Expr) true fun c r => if r = true then do let ok ← isTrue c (compEnvC scope (cellsOf isC (I + 2) x cl) (I + 2) env) (eval c (compEnvC scope (cellsOf isC (I + 2) x cl) (I + 2) env)); pure (ForInStep.yield ok) else pure (ForInStep.yield r)) (fun ok s₃ =>
            if ok = true then wpAny (model prog w) A (eval elt (compEnvC scope (cellsOf isC (I + 2) x cl) (I + 2) env)) (fun y s₄ =>
              wpAny (model prog w) A (call (.builtin "list.append") [.ref (I + 1), y]) (fun _ s₅ => ∃ m', m' < n - i ∧ ∃ (i : Nat) (ys : List Value) (new : List (Addr × Obj)) (h : Heap) (tk : Nat), s₅ = { s with heap := h, toks := tk } ∧ Fr B L h m ∧ News B L h (new ++ tl) ∧ (∀ p ∈ new, p.1 ∉ ownL isC I) ∧ (∀ p ∈ new, ∀ q ∈ tl, q.1 ≠ p.1) ∧ IsRangeIter h I (i : Int) ((n : Int) - (i : Int)) 1 ∧ h.PlainList (I + 1) (List.toArray ys) ∧ (∃ mC, h.Ns (I + 2) mC) ∧ (isC = true → ∃ v0, h.IsCell (I + 3) v0) ∧ G i ys new ∧ ys.length = i ∧ i ≤ n ∧ m' = n - i)
                (notedBy (model prog w) A (compEnvC scope (cellsOf isC (I + 2) x cl) (I + 2) env) fun e s' => compPost (model prog w) A E use Q (.ref (I + 1)) (I + 2) (.error e) s') s₄) (notedBy (model prog w) A (compEnvC scope (cellsOf isC (I + 2) x cl) (I + 2) env) fun e s' => compPost (model prog w) A E use Q (.ref (I + 1)) (I + 2) (.error e) s') s₃
            else ∃ m', m' < n - i ∧ ∃ (i : Nat) (ys : List Value) (new : List (Addr × Obj)) (h : Heap) (tk : Nat), s₃ = { s with heap := h, toks := tk } ∧ Fr B L h m ∧ News B L h (new ++ tl) ∧ (∀ p ∈ new, p.1 ∉ ownL isC I) ∧ (∀ p ∈ new, ∀ q ∈ tl, q.1 ≠ p.1) ∧ IsRangeIter h I (i : Int) ((n : Int) - (i : Int)) 1 ∧ h.PlainList (I + 1) (List.toArray ys) ∧ (∃ mC, h.Ns (I + 2) mC) ∧ (isC = true → ∃ v0, h.IsCell (I + 3) v0) ∧ G i ys new ∧ ys.length = i ∧ i ≤ n ∧ m' = n - i) (notedBy (model prog w) A (compEnvC scope (cellsOf isC (I + 2) x cl) (I + 2) env) fun e s' => compPost (model prog w) A E use Q (.ref (I + 1)) (I + 2) (.error e) s') { s with heap := h3, toks := tk3 } := by
        intro h3 tk3 F3 N3 cv3 hit3 hD3 hC3 hX3
        refine wpAny_tests_nil ?_
        rw [if_pos rfl]
        refine wpAny_mono (helt (I + 2) i ys new tk { s with heap := h3, toks := tk3 } hi hG F3 N3 cv3) (fun y s₄ h₄ => ?_) fun _ _ x => x.elim
        obtain ⟨h4, tk4, new', rfl, kp4, hn4, hG4⟩ := h₄
        have alive : ∀ p ∈ new', p.1 ∉ ownL isC I := fun p hp hm => by
          have hnone := (hn4 p hp).1
          have al : ∀ o, h3.get? p.1 = some o → False := fun o e => by
            have : h3.get? p.1 = none := hnone
            rw [e] at this; cases this
          unfold ownL at hm
          rcases List.mem_cons.mp hm with e | hm
          · exact al _ (e ▸ hit3)
          · rcases List.mem_cons.mp hm with e | hm
            · obtain ⟨q, hq⟩ := hD3
              exact al _ (e ▸ hq)
            · rcases List.mem_cons.mp hm with e | hm
              · obtain ⟨mC', oC', _, _, hoC, _⟩ := hC3
                exact al _ (e ▸ hoC)
              · cases isC with
                | false => cases hm
                | true =>
                  obtain ⟨v0, o0, ho0, _⟩ := hX3 rfl
                  rw [List.mem_singleton.mp hm] at al
                  exact al _ ho0
        have sep : ∀ p ∈ new', ∀ q ∈ new ++ tl, q.1 ≠ p.1 := fun p hp q hq e => by
          have h1 := (N3 q hq).1
          have h2 : h3.get? p.1 = none := (hn4 p hp).1
          rw [e, h2] at h1; cases h1
        have N4 : News B L h4 ((new' ++ new) ++ tl) := fun p hp => by
          rw [List.append_assoc] at hp
          rcases List.mem_append.mp hp with hp | hp
          · have e0 : h3.get? p.1 = none := (hn4 p hp).1
            refine ⟨(hn4 p hp).2, fun e => ?_, ?_⟩
            · obtain ⟨oL, _, _, hL, _⟩ := F3.ns
              rw [e, hL] at e0; cases e0
            · cases q : B.get? p.1 with
              | none => rfl
              | some o => rw [F3.keep _ _ q] at e0; cases e0
          · exact ⟨kp4 _ _ (N3 p hp).1, (N3 p hp).2⟩
        have F4 : Fr B L h4 m := F3.keeps kp4
        have hall4 : ∀ p ∈ (new' ++ new) ++ tl, p.1 ∉ ownL isC I := fun p hp => by
          rw [List.append_assoc] at hp
          exact (List.mem_append.mp hp).elim (alive p) (hall p)
        refine wpAny_list_append_plain (hsz := by rw [List.size_toArray, hlen, sizeLine_eq]; omega) (hD3.at fun o e => kp4 _ o e) fun h5 hl5 hs5 => ?_
        have k5 : ∀ b o, b ∉ ownL isC I → h4.get? b = some o → h5.get? b = some o := fun b o hb e => (hs5.2 b (fun q => hb (q ▸ oD))).trans e
        refine ⟨n - (i + 1), by omega, i + 1, ys ++ [y], new' ++ new, h5, tk4, rfl, frBut F4 k5 hLo hBo, newsBut N4 k5 hall4, fun p hp => (List.mem_append.mp hp).elim (alive p) (hno p), ?_, ?_, ?_, ?_, ?_, hG4, by rw [List.length_append, hlen]; rfl, hi, rfl⟩
        · intro p hp q hq
          rcases List.mem_append.mp hp with hp | hp
          · exact sep p hp q (List.mem_append_right _ hq)
          · exact hnt p hp q hq
        · have e1 : ((i + 1 : Nat) : Int) = (i : Int) + 1 := by omega
          have e2 : (n : Int) - ((i + 1 : Nat) : Int) = (n : Int) - (i : Int) - 1 := by omega
          rw [e2, e1]
          exact (hs5.2 _ nID).trans (kp4 _ _ hit3)
        · have e1 : (ys ++ [y]).toArray = ys.toArray.push y := by simp
          rw [e1]; exact hl5
        · obtain ⟨mC', hC'⟩ := hC3
          exact ⟨mC', (hC'.keeps kp4).sameBut hs5 (Ne.symm nDC)⟩
        · intro e
          obtain ⟨v0, hv0⟩ := hX3 e
          exact ⟨v0, (hv0.keeps kp4).sameBut hs5 (Ne.symm nDX)⟩
      cases isC with
      | false =>
        refine wpAny_storeName_local (v := .int (i : Int) tk) kindx hC2 (fun h3 hn3 hs3 => ?_) (by simp [compEnvC, relabel, hkind])
        have k3 : ∀ b o, b ∉ ownL false I → h2.get? b = some o → h3.get? b = some o := fun b o hb e => (hs3.2 b (fun q => hb (q ▸ oC))).trans e
        exact next h3 _ (frBut F2 k3 hLo hBo) (newsBut N2 k3 hall) ⟨_, hn3, if_pos rfl⟩ ((hs3.2 _ nIC).trans hit2) (hD2.at fun o e => (hs3.2 _ nDC).trans e) ⟨_, hn3⟩ (fun e => by cases e)
      | true =>
        obtain ⟨v0, hv0⟩ := hcl1 rfl
        have hv2 : h2.IsCell (I + 3) v0 := hv0.sameBut hs2 (Ne.symm nIX)
        refine wpAny_storeName_cell (c := I + 3) (v := .int (i : Int) tk) (by show (relabel scope env).kind = _; exact hkind) kindx (by show List.lookup x ((x, I + 3) :: cl) = _; simp) hv2 fun h3 hv3 hs3 => ?_
        have k3 : ∀ b o, b ∉ ownL true I → h2.get? b = some o → h3.get? b = some o := fun b o hb e => (hs3.2 b (fun q => hb (q ▸ oX rfl))).trans e
        exact next h3 _ (frBut F2 k3 hLo hBo) (newsBut N2 k3 hall) hv3 ((hs3.2 _ nIX).trans hit2) (hD2.at fun o e => (hs3.2 _ nDX).trans e) ⟨_, hC2.sameBut hs3 nCX⟩ (fun _ => ⟨_, hv3⟩)
    · have hin : i = n := by omega
      subst hin
      refine wpAny_pyNext_range_end hh hit1 (by omega) fun h2 hs2 => ?_
      have k2 : ∀ b o, b ∉ ownL isC I → h.get? b = some o → h2.get? b = some o := fun b o hb e => hs2 b o (fun q => hb (q ▸ oI)) e
      obtain ⟨kk, hD2⟩ := hD1
      have hD3 : h2.get? (I + 1) = some (listOf (List.toArray ys) kk) := hs2 _ _ (Ne.symm nID) hD2
      have bn : ∀ a, a ∈ ownL isC I → B.get? a = none := fun a ha => by
        cases q : B.get? a with
        | none => rfl
        | some o => exact absurd ha (hBo _ _ q)
      exact hQ (I + 1) ys kk new h2 tk (I + 2) hG (frBut F1 k2 hLo hBo) (List.forall_mem_cons.mpr ⟨⟨hD3, fun e => hLo (e ▸ oD), bn _ oD⟩, newsBut N1 k2 hall⟩) (fun p hp e => hall p hp (e ▸ oD)) hnt ⟨mC, hC1.at' fun o e => hs2 _ o (Ne.symm nIC) e⟩ (fun e => hLo (e ▸ oC)) (List.forall_mem_cons.mpr ⟨nDC, fun p hp e => hall p hp (e ▸ oC)⟩) (bn _ oC) _
  exact codeAny_compStart_list loop (wpAny_pyIter_rangeiter hit loop)
theorem ListComp_N {elt iter : Expr} {x : Str} {px : Pos} {scope : Scope} {cl : List (Str × Addr)} {pos : Pos} {Q : Value → Shared → Prop} {n : Nat} {r : Addr} {t₀ u₀ v₀ : Tok} {isC : Bool} (G : Nat → List Value → List (Addr × Obj) → Prop)
    (hh : A.handled = none) (hkind : scope.kind = .function) (hx : (relabel scope env).names.lookup x = some (if isC then .cell else .local))
    (hcs : ∀ (k : Nat) (h : Heap), cellsFrom k scope.names cl = (if isC then (x, k) :: cl else cl) ∧ pushCells h scope.names = (if isC then h.push { cls := .type "cell", data := .cell none } else h))
    (F : Fr B L s.heap m) (N : News B L s.heap tl) (hr : IsRange s.heap r 0 (n : Int) 1 t₀ u₀ v₀) (hn : n < 1000) (h0 : G 0 [] [])
    (helt : ∀ C i ys new t (s₂ : Shared), i < n → G i ys new → Fr B L s₂.heap m → News B L s₂.heap (new ++ tl) → CV isC C x (.int (i : Int) t) s₂.heap →
      wpAny (model prog w) A (eval elt (compEnvC scope (cellsOf isC C x cl) C env)) (fun y s₃ => ∃ h' tk new', s₃ = { s₂ with heap := h', toks := tk } ∧ (∀ b o, s₂.heap.get? b = some o → h'.get? b = some o) ∧ (∀ p ∈ new', s₂.heap.get? p.1 = none ∧ h'.get? p.1 = some p.2) ∧ G (i + 1) (ys ++ [y]) (new' ++ new)) (fun _ _ => False) s₂)
    (hQ : ∀ D ys k new h' tk, G n ys new → Fr B L h' m → News B L h' ((D, listOf (List.toArray ys) k) :: (new ++ tl)) → (∀ p ∈ new ++ tl, p.1 ≠ D) → (∀ p ∈ new, ∀ q ∈ tl, q.1 ≠ p.1) → Q (.ref D) { s with heap := h', toks := tk }) :
    wpAny (model prog w) A (pyIter (.ref r)) (fun it s₂ => wpAny (model prog w) A (newList []) (fun acc s₃ => wpAny (model prog w) A (newFunctionEnv scope env.globals cl [] env.qual none .none (some env)) (fun cenv s₄ =>
      codeAny (model prog w) A (.compStart (.ListComp elt [⟨.Name x px, iter, [], 0⟩] scope pos) 0 it acc { cenv with scope := relabel scope env }) (compPost (model prog w) A E none Q acc cenv.locals) s₄) E s₃) E s₂) E s := by
  refine ListComp_G (use := none) G hh hkind hx hcs F N hr hn h0 helt fun D ys k new h' tk C hG F1 N1 hD hx1 ⟨mC, hC⟩ hCL hCn hCB _ => ?_
  refine ⟨mC, hC, fun h3 hs3 => hQ D ys k new h3 tk hG (F1.change hs3 hCL hCB) (fun p hp => ⟨(hs3.2 _ (hCn p hp)).trans (N1 p hp).1, (N1 p hp).2⟩) hD hx1⟩
theorem ListComp_A {elt iter : Expr} {x : Str} {px : Pos} {scope : Scope} {cl : List (Str × Addr)} {pos : Pos} {Q : Flow → Shared → Prop} {n : Nat} {r : Addr} {t₀ u₀ v₀ : Tok} {isC : Bool} (G : Nat → List Value → List (Addr × Obj) → Prop)
    {y : Str} {py : Pos} (hL : env.locals = L) (hy : env.kindOf y = some .local) (hp : (env.scope.kind == .class || (env.scope.kind == .module && env.locals != env.globals)) = false)
    (hh : A.handled = none) (hkind : scope.kind = .function) (hx : (relabel scope env).names.lookup x = some (if isC then .cell else .local))
    (hcs : ∀ (k : Nat) (h : Heap), cellsFrom k scope.names cl = (if isC then (x, k) :: cl else cl) ∧ pushCells h scope.names = (if isC then h.push { cls := .type "cell", data := .cell none } else h))
    (F : Fr B L s.heap m) (N : News B L s.heap tl) (hr : IsRange s.heap r 0 (n : Int) 1 t₀ u₀ v₀) (hn : n < 1000) (h0 : G 0 [] [])
    (helt : ∀ C i ys new t (s₂ : Shared), i < n → G i ys new → Fr B L s₂.heap m → News B L s₂.heap (new ++ tl) → CV isC C x (.int (i : Int) t) s₂.heap →
      wpAny (model prog w) A (eval elt (compEnvC scope (cellsOf isC C x cl) C env)) (fun y s₃ => ∃ h' tk new', s₃ = { s₂ with heap := h', toks := tk } ∧ (∀ b o, s₂.heap.get? b = some o → h'.get? b = some o) ∧ (∀ p ∈ new', s₂.heap.get? p.1 = none ∧ h'.get? p.1 = some p.2) ∧ G (i + 1) (ys ++ [y]) (new' ++ new)) (fun _ _ => False) s₂)
    (hQ : ∀ D ys k new h' tk, G n ys new → Fr B L h' (fun z => if z = y then some (.ref D) else m z) → News B L h' ((D, listOf (List.toArray ys) k) :: (new ++ tl)) → (∀ p ∈ new ++ tl, p.1 ≠ D) → (∀ p ∈ new, ∀ q ∈ tl, q.1 ≠ p.1) → Q .next { s with heap := h', toks := tk }) :
    wpAny (model prog w) A (pyIter (.ref r)) (fun it s₂ => wpAny (model prog w) A (newList []) (fun acc s₃ => wpAny (model prog w) A (newFunctionEnv scope env.globals cl [] env.qual none .none (some env)) (fun cenv s₄ =>
      codeAny (model prog w) A (.compStart (.ListComp elt [⟨.Name x px, iter, [], 0⟩] scope pos) 0 it acc { cenv with scope := relabel scope env }) (compPost (model prog w) A E (some (assign (.Name y py) env)) (fun _ s' => Q .next s') acc cenv.locals) s₄) E s₃) E s₂) E s := by
  refine ListComp_G (use := some (assign (.Name y py) env)) G hh hkind hx hcs F N hr hn h0 helt fun D ys k new h' tk C hG F1 N1 hD hx1 ⟨mC, hC⟩ hCL hCn hCB _ => ?_
  subst hL
  show wpAny _ A (assign (.Name y py) env (.ref D)) _ _ _
  refine wpAny_assign_Name (wpAny_storeName_local hy F1.ns (fun h₂ hn₂ hs₂ => ?_) hp)
  refine ⟨mC, hC.sameBut hs₂ hCL, fun h3 hs3 => ?_⟩
  have F2 := F1.set hn₂ hs₂
  have N2 := News.set N1 hs₂
  exact hQ D ys k new h3 _ hG (F2.change hs3 hCL hCB) (fun p hp => ⟨(hs3.2 _ (hCn p hp)).trans (N2 p hp).1, (N2 p hp).2⟩) hD hx1
theorem Assign_LC {elt iter : Expr} {x y : Str} {px py : Pos} {scope : Scope} {cl : List (Str × Addr)} {pos spos : Pos} {Q : Flow → Shared → Prop}
    (hsw : swapsWith (.ListComp elt [⟨.Name x px, iter, [], 0⟩] scope pos) (some (.Name y py)) spos.line env = pure true)
    (hclos : closureFor scope env = pure cl) (hkind : scope.kind = .function) (hnames : ∀ z ∈ scope.names, z.2 = .local → scope.names.lookup z.1 = some .local)
    (h : wpAny (model prog w) A (eval iter env) (fun x0 s₁ => wpAny (model prog w) A (pyIter x0) (fun it s₂ => wpAny (model prog w) A (newList []) (fun acc s₃ =>
      wpAny (model prog w) A (newFunctionEnv scope env.globals cl [] env.qual none .none (some env)) (fun cenv s₄ =>
        codeAny (model prog w) A (.compStart (.ListComp elt [⟨.Name x px, iter, [], 0⟩] scope pos) 0 it acc { cenv with scope := relabel scope env }) (compPost (model prog w) A E (some (assign (.Name y py) env)) (fun _ s' => Q .next s') acc cenv.locals) s₄) E s₃) E s₂) E s₁) E s)
    (hs : ∀ x, foldedSetIterable iter env x = pure x := by intro _; rfl) :
    wpAny (model prog w) A (exec (.Assign [.Name y py] (.ListComp elt [⟨.Name x px, iter, [], 0⟩] scope pos) spos) env) Q E s := by
  rw [exec_Assign_Name_used _ _ _ _ hsw]
  refine wpAny_bind (wpAny_standAt (wpAny_bind ?_))
  show wpAny _ A (do let _ ← comprehension (.ListComp elt [⟨.Name x px, iter, [], 0⟩] scope pos) scope env _ (newList []) false (eval iter env) (some (assign (.Name y py) env))) _ _ s
  exact wpAny_bind (wpAny_mono (wpAny_comprehension_free (use := some (assign (.Name y py) env)) (Q := fun _ s' => Q .next s') rfl hs hclos hkind hnames h) (fun _ s' hq => wpAny_pure (wpAny_pure hq)) fun _ _ e => e)
end
end Mine
namespace Mine
open PySem PySem.W PyProof.Rows
theorem flush45 {M : Model} {A : Around} {Q : Flow → Shared → Prop} {E : Value → Shared → Prop} {s : Shared} {env : Env} (h : wpAny M A (execs [] env) Q E s) : wpAny M A (execs [] env) Q E s := by
  k_with_none
  (try (walk1; fail))
  w_top off
  exact h
end Mine
namespace Mine
open PySem PySem.W PyProof.Rows PySem.Calls
set_option maxHeartbeats 1000000
set_option linter.unusedVariables false
theorem kset51 : True := by
  k_with_none
  k_with "mine agree" =>
    repeat (first
      | exact Agree.refl
      | (refine' Agree.set (by first | exact .head _ | exact .tail _ (.head _) | exact .tail _ (.tail _ (.head _))) ?_)
      | (refine' Agree.same (by assumption) ?_))
  k_with "eval ListComp" =>
    refine halt ?_
  k_with "pyIter ref" =>
    refine halt ?_
  trivial
section
variable {prog : Program} {w : World} {A : Around} {E : Value → Shared → Prop} {s : Shared} {Q : Value → Shared → Prop}
theorem sum_kp {l : Addr} {vs : List Value} {ns : List Int} (hh : A.handled = none) (hl : s.heap.IsList l vs.toArray) (hi : IntsAre vs ns)
    (h : ∀ h' tk t', Kp s.heap h' → Q (.int ns.sum t') { s with heap := h', toks := tk }) : wpAny (model prog w) A (call (.builtin "sum") [.ref l]) Q E s := by
  obtain ⟨xs, hx⟩ := hi.allInts.items
  have hn : numsOf vs.toArray.toList = ns := by rw [show vs.toArray.toList = vs from rfl, hi.numsOf]
  rw [hx] at hl hn
  rw [nums_intItems] at hn
  refine sum_intListG hh hl fun h' tk t' hk => ?_
  have := h h' tk t' hk
  rw [← hn] at this
  rw [preSum_eq, List.take_of_length_le (by simp)]; exact this
theorem nameCell {env : Env} {x : Str} {pos : Pos} {c : Addr} {v : Value} (hv : s.heap.IsCell c (some v)) (h : Q v s) (hk : env.scope.kind = .function) (hl : env.kindOf x = some .cell) (hc : env.cells.lookup x = some c) (hd : (x == ("__debug__" : Str)) = false) :
    wpAny (model prog w) A (eval (.Name x pos) env) Q E s := wpAny_Name (wpAny_loadName_cell hk hl hc hv h) hd
theorem nameLoc {env : Env} {x : Str} {pos : Pos} {mC : Str → Option Value} {v : Value} (hn : s.heap.Ns env.locals mC) (hm : mC x = some v) (h : Q v s) (hk : env.scope.kind = .function) (hl : env.kindOf x = some .local) (hd : (x == ("__debug__" : Str)) = false) :
    wpAny (model prog w) A (eval (.Name x pos) env) Q E s := wpAny_Name (wpAny_loadName_local hk hl hn hm h) hd
theorem nameGlob {env : Env} {x : Str} {pos : Pos} {mg mb : Str → Option Value} {v : Value} (hng : s.heap.Ns env.globals mg) (hms : mg x = none) (hnb : s.heap.Ns env.builtins mb) (hbs : mb x = some v) (h : Q v s) (hk : env.scope.kind = .function) (hl : env.kindOf x = some .globalImplicit) (hd : (x == ("__debug__" : Str)) = false) :
    wpAny (model prog w) A (eval (.Name x pos) env) Q E s := Name_function_global hk hl (loadGlobal_builtin hng hms hnb hbs h) hd
/-- the sizes whose lamp is i -/
theorem inner_K {cenv : Env} {l : Addr} {vs : List Value} {ns : List Nat} {i : Nat} {ti : Tok} {scope : Scope} {pos px p1 p2 p3 p4 p5 p6 p7 : Pos} {c : Addr} {cl : List (Str × Addr)} {x k : Str}
    (hh : A.handled = none) (hl : s.heap.IsList l vs.toArray) (hI : IntsAre vs (ns.map Int.ofNat)) (hn : ns.length < 1000) (hck : s.heap.IsCell c (some (.int (i : Int) ti)))
    (hit : ∀ (Q' : Value → Shared → Prop), Q' (.ref l) s → wpAny (model prog w) A (eval (.Name (Str.ofString "sizes") p1) cenv) Q' E s)
    (hclos : closureFor scope cenv = pure cl) (hcell : ∀ y ∈ scope.names, y.2 ≠ .cell) (hkind : scope.kind = .function) (hnames : ∀ y ∈ scope.names, y.2 = .local → scope.names.lookup y.1 = some .local) (hx : scope.names.lookup x = some .local)
    (hk1 : ∀ C, Env.kindOf (compEnvC scope cl C cenv) k = some .cell) (hk2 : cl.lookup k = some c) (hd1 : (x == ("__debug__" : Str)) = false) (hd2 : (k == ("__debug__" : Str)) = false)
    (hQ : ∀ D ys h' tk, Kp s.heap h' → h'.IsList D (List.toArray ys) → IntsAre ys ((ns.filter fun n => n % 5 == i).map Int.ofNat) → Q (.ref D) { s with heap := h', toks := tk }) :
    wpAny (model prog w) A (eval (.ListComp (.Name x p2) [⟨.Name x px, .Name (Str.ofString "sizes") p1, [.Compare (.BinOp (.Name x p3) .Mod (.Constant (.int 5) 0 p4) p5) [.Eq] [.Name k p6] p7], 0⟩] scope pos) cenv) Q E s := by
  have hlo : ∃ o, s.heap.get? l = some o := let ⟨o, ho, _⟩ := hl; ⟨o, ho⟩
  obtain ⟨ol, hol⟩ := hlo
  have hlt := Heap.lt_size hol
  have hne : l ≠ s.heap.objs.size := Nat.ne_of_lt hlt
  have hlen : vs.toArray.size = ns.length := by rw [List.size_toArray, hI.length, List.length_map]
  let pz : Value → Bool := fun v => match v with | .int a _ => a.fmod 5 == (i : Int) | _ => false
  refine wpAny_ListComp_free pz (fun v r => ∃ a u t, v = .int a u ∧ r = .int a t) hclos hcell hkind hnames hx (hit _ ?_) (fun _ => rfl)
  refine wpAny_pyIter_list hl ?_
  have up : ∀ (h' : Heap), (∀ b o', b ∉ [s.heap.objs.size] → (s.heap.push { cls := .type "list_iterator", data := .fields #[.ref l, .int 0 0] }).get? b = some o' → h'.get? b = some o') → ∀ b o', s.heap.get? b = some o' → h'.get? b = some o' :=
    fun h' hk b o' e => hk b o' (old_not_new e) (Heap.get?_push_of_some _ e)
  have hv : ∀ (j : Nat) (v : Value), vs.toArray[j]? = some v → ∃ n u, ns[j]? = some n ∧ v = .int (n : Int) u := fun j v h => by
    have h' : vs[j]? = some v := by simpa using h
    obtain ⟨a, t, e1, e2⟩ := hI.at j v h'
    rw [List.getElem?_map] at e2
    cases q : ns[j]? with
    | none => rw [q] at e2; cases e2
    | some n => rw [q] at e2; exact ⟨n, t, rfl, by rw [e1, ← Option.some.inj e2]; rfl⟩
  have hpz : ∀ (n : Nat) (u : Tok), pz (.int (n : Int) u) = (n % 5 == i) := fun n u => by
    show ((n : Int).fmod 5 == (i : Int)) = _
    rw [nm5]
    by_cases h : n % 5 = i
    · rw [h]; simp
    · have h2 : ((n % 5 : Nat) : Int) ≠ (i : Int) := fun e => h (Int.ofNat.inj e)
      rw [beq_eq_false_iff_ne.mpr h2, beq_eq_false_iff_ne.mpr h]
  refine ⟨s.heap.objs.size, [s.heap.objs.size, l], [s.heap.objs.size], vs.toArray.size, _, _, rfl, Walks.list hh _ l hne vs.toArray, by rw [hlen, sizeLine_eq]; omega, ⟨⟨_, Heap.get?_push_size _ rfl, rfl, rfl⟩, hl.at fun o e => Heap.get?_push_of_some _ e⟩, ?_, ⟨?_, ?_⟩, ?_⟩
  · intro b hb
    show b < (s.heap.push _).objs.size
    rw [Heap.size_push]
    rcases List.mem_cons.mp hb with rfl | hb
    · exact Nat.lt_succ_self _
    · rw [List.mem_singleton.mp hb]; exact Nat.lt_succ_of_lt hlt
  · intro C j v s₃ m₃ E' hC hP hnC hm hk _
    obtain ⟨n, u, e1, rfl⟩ := hv j v hP
    have hck3 : s₃.heap.IsCell c (some (.int (i : Int) ti)) := hck.keeps fun b o e => hk b o (old_not_new e) (Heap.get?_push_of_some _ e)
    refine wpAny_tests_one ?_
    refine wpAny_isTrue_Compare1 ?_
    refine wpAny_BinOp ?_
    refine nameLoc hnC hm ?_ hkind (lookup_relabel_local hx) hd1
    walk1
    refine mod_as (by decide) rfl ?_
    refine nameCell hck3 ?_ hkind (hk1 C) hk2 hd2
    refine eq_int ?_
    refine wpAny_truthy_bool ?_
    refine ⟨?_, s₃.heap, _, rfl, fun _ _ e => e⟩
    rw [hpz n u, nm5]
    show ((Int.ofNat (n % 5)) == (i : Int)) = _
    by_cases h : n % 5 = i
    · rw [h]; simp
    · have h2 : Int.ofNat (n % 5) ≠ (i : Int) := fun e => h (Int.ofNat.inj e)
      rw [beq_eq_false_iff_ne.mpr h2, beq_eq_false_iff_ne.mpr h]
  · intro C j v s₃ m₃ E' hC hP hp hnC hm hk _
    obtain ⟨n, u, e1, rfl⟩ := hv j v hP
    refine nameLoc hnC hm ?_ hkind (lookup_relabel_local hx) hd1
    exact ⟨⟨(n : Int), u, u, rfl, rfl⟩, s₃.heap, s₃.toks, rfl, fun _ _ e => e⟩
  · intro D h' tk ys vs' hnew hlD hplD hlen' hP hF hk
    refine hQ D ys.toList h' tk (up h' hk) (by rw [Array.toArray_toList]; exact hlD) ?_
    have key : ∀ (vs' : List Value) (ns' : List Nat) (ys : List Value), vs'.length = ns'.length → (∀ (j : Nat) (v : Value), vs'[j]? = some v → ∃ n u, ns'[j]? = some n ∧ v = Value.int (n : Int) u) → Paired (fun v r => ∃ a u t, v = Value.int a u ∧ r = Value.int a t) (vs'.filter pz) ys → IntsAre ys ((ns'.filter fun n => n % 5 == i).map Int.ofNat) := by
      intro vs'
      induction vs' with
      | nil =>
        intro ns' ys h1 h2 h3
        cases ns' with
        | nil => cases h3; exact .nil
        | cons _ _ => cases h1
      | cons v vs' ih =>
        intro ns' ys h1 h2 h3
        cases ns' with
        | nil => cases h1
        | cons n ns' =>
          obtain ⟨n', u, e1, e2⟩ := h2 0 v rfl
          have e3 : n = n' := Option.some.inj e1
          subst e3 e2
          have h2' : ∀ (j : Nat) (v : Value), vs'[j]? = some v → ∃ n u, ns'[j]? = some n ∧ v = Value.int (n : Int) u := fun j v hj => h2 (j + 1) v hj
          cases hb : (n % 5 == i) with
          | true =>
            rw [List.filter_cons_of_pos (by rw [hpz n u]; exact hb)] at h3
            rw [show (n :: ns').filter (fun n => n % 5 == i) = n :: ns'.filter (fun n => n % 5 == i) by rw [List.filter_cons, hb]; rfl]
            cases h3 with
            | cons hF ht =>
              obtain ⟨a, u', t, q1, q2⟩ := hF
              cases q1
              subst q2
              exact .cons (n : Int) t (ih ns' _ (Nat.succ.inj h1) h2' ht)
          | false =>
            rw [List.filter_cons_of_neg (by rw [hpz n u, hb]; exact Bool.false_ne_true)] at h3
            rw [show (n :: ns').filter (fun n => n % 5 == i) = ns'.filter (fun n => n % 5 == i) by rw [List.filter_cons, hb]; rfl]
            exact ih ns' _ (Nat.succ.inj h1) h2' h3
    exact key vs' ns ys.toList (by rw [hlen', hlen]) (fun j v hj => hv j v (hP j v hj)) hF
end
theorem T14 : ∀ (w : World) (sc : Scope) (st : Stmt) (B h : Heap) (g : Array GenState) (dd : Drawn) (tk : Nat) (os : OsState) (L : Addr) (m : Str → Option Value) (tl : List (Addr × Obj)) (Q : Flow → Shared → Prop)
    (ad au : Nat) (af : Option (List Env)) (ag : Option (List Code)) (mg mb : Str → Option Value) (loose : List Str) (oS oP oK oD : Obj) (sl : Addr) (svs : List Value) (nsz : Nat) (pl : Addr) (pvs : List Value) (np : Nat) (P : Nat → Nat) (ns : List Nat)
    (X : (hd.heap_1 w.params).In B) (T : TopRead viewQ loose mg mb B) (hst : stmtIn 13 (loopIn 7 (bodyIn ((hd.heap_1 w.params).lookup 202))) = some st) (hsc : scopeIn ((hd.heap_1 w.params).lookup 202) = some sc) (hr : ad + 30 < recursionLimit) (hu : au + 200 < cLine)
    (F : Fr B L h m) (N : News B L h ((L + 1 + 1 + 1 + 1, oS) :: (L + 1 + 1 + 1, oP) :: (L + 1 + 1, oK) :: (L + 1, oD) :: tl))
    (dS : oS.data = .cell (some (.ref sl))) (dP : oP.data = .cell (some (.ref pl))) (hpl : (pl, listOf pvs.toArray np) ∈ tl) (hpv : IntsAre pvs (pl5 P)) (hsl : (sl, listOf svs.toArray nsz) ∈ tl) (hI : IntsAre svs (ns.map Int.ofNat)) (hn : ns.length < 100) (hns : ∀ n ∈ ns, n < 24) (hP : ∀ k < 5, P k < 16) (hne : ∀ p ∈ tl, p.1 ≠ L + 1 + 1 + 1)
    (hq : ∀ h' tk' oP' pl' pvs' np', Fr B L h' m → News B L h' ((L + 1 + 1 + 1 + 1, oS) :: (L + 1 + 1 + 1, oP') :: (L + 1 + 1, oK) :: (L + 1, oD) :: (pl', listOf (List.toArray pvs') np') :: tl) → oP'.data = .cell (some (.ref pl')) → IntsAre pvs' (pl5 fun k => (P k + (ns.filter fun n => n % 5 == k).sum) % 16) → (∀ p ∈ (L + 1 + 1 + 1 + 1, oS) :: (L + 1 + 1 + 1, oP) :: (L + 1 + 1, oK) :: (L + 1, oD) :: tl, p.1 ≠ pl') → Q .next ⟨h', g, dd, tk', os⟩),
    wpAny (model PySem.Challenge.rw_pg0244_01.row.prog w) (Around.deeper { depth := ad, frames := af, guards := ag, units := au } (lawEnv sc L)) (exec st (lawEnv sc L)) Q (fun _ _ => False) ⟨h, g, dd, tk, os⟩ := by
  k_fill
  intro w sc st B h g dd tk os L m tl Q ad au af ag mg mb loose oS oP oK oD sl svs nsz pl pvs np P ns X T hst hsc hr hu F N dS dP hpl hpv hsl hI hn hns hP hne hq
  refine' law_use (f := fun l => stmtIn 13 (loopIn 7 l)) ?e hst hsc ?_
  case e => k_dflt k_is
  intro e1 e2
  cases e1
  cases e2
  clear hst hsc
  have F1 : Fr B L h (chainOf [] m m) := by rw [← agree_chain Agree.refl]; exact F
  simp only [chainOf] at F1
  clear F
  unfold lawEnv
  have hr15 : ad + 15 < recursionLimit := by omega
  have back : ∀ h', Fr B L h' (fun y => m y) → Fr B L h' m := fun h' F' => F'
  k_steps
  all_goals unfold Halt
  rw [eval_ListComp]
  refine wpAny_comprehension_free (use := none) rfl (fun x => rfl) rfl rfl (by decide) ?_
  show wpAny _ _ (eval _ _) _ _ _
  k_steps
  all_goals unfold Halt
  rename (Fr _ _ _ _) => F2
  rename (News _ _ _ _) => N2
  rename (IsRange _ _ _ _ _ _ _ _) => hr1
  refine ListComp_N (isC := true) (n := 5) (fun i ys new => new = [] ∧ IntsAre ys ((List.range i).map fun k => (((P k + (ns.filter fun n => n % 5 == k).sum) % 16 : Nat) : Int))) rfl rfl rfl (fun k h => ⟨rfl, rfl⟩) F2 N2 hr1 (by decide) ⟨rfl, .nil⟩ ?_ ?_
  · rintro C i ys new t s₂ hi ⟨rfl, hys⟩ F3 N3 cv
    have cK : s₂.heap.IsCell (C + 1) (some (.int (i : Int) t)) := cv
    have cP : s₂.heap.IsCell (L + 1 + 1 + 1) (some (.ref pl)) := ⟨oP, (N3 _ (.tail _ (.head _))).1, dP⟩
    have cS : s₂.heap.IsCell (L + 1 + 1 + 1 + 1) (some (.ref sl)) := ⟨oS, (N3 _ (.head _)).1, dS⟩
    have mP : (pl, listOf pvs.toArray np) ∈ ([] ++ (L + 1 + 1 + 1 + 1, oS) :: (L + 1 + 1 + 1, oP) :: (L + 1 + 1, oK) :: (L + 1, oD) :: tl) := .tail _ (.tail _ (.tail _ (.tail _ hpl)))
    have mS : (sl, listOf svs.toArray nsz) ∈ ([] ++ (L + 1 + 1 + 1 + 1, oS) :: (L + 1 + 1 + 1, oP) :: (L + 1 + 1, oK) :: (L + 1, oD) :: tl) := .tail _ (.tail _ (.tail _ (.tail _ hsl)))
    have hls := News.isList N3 mS
    walk1
    walk1
    walk1
    refine nameCell cP ?_ rfl (by kernel_rfl) (by kernel_rfl) (by kernel_rfl)
    refine nameCell cK ?_ rfl (by kernel_rfl) (by kernel_rfl) (by kernel_rfl)
    refine sub_pl N3 mP hpv hi ?_
    intro t1
    have hng : s₂.heap.Ns mainGlobals mg := T.g.keeps F3.keep
    have hnb : s₂.heap.Ns builtinsNs mb := T.b.keeps F3.keep
    have hms : mg (Str.ofString "sum") = none := mg_none_of X T.g (by k_dflt k_is)
    have hbs : mb (Str.ofString "sum") = some (.builtin "sum") := (T.builtins _ (by decide)).trans (by boot_fast)
    refine wpAny_Call_NameR ?_
    refine nameGlob hng hms hnb hbs ?_ rfl (by kernel_rfl) (by kernel_rfl)
    walk1
    walk1
    refine inner_K (cl := [(Str.ofString "k", C + 1)]) (c := C + 1) rfl hls hI (by omega) cK (fun Q' hq' => nameCell cS hq' rfl (by kernel_rfl) (by kernel_rfl) (by kernel_rfl)) rfl (by decide) rfl (by decide) (by decide) (fun C' => by kernel_rfl) (by kernel_rfl) (by kernel_rfl) (by kernel_rfl) ?_
    intro D zs h2 tk2 kp2 hlD hzs
    walk1
    refine sum_kp rfl hlD hzs ?_
    intro h3 tk3 t3 kp3
    refine add_int ?_
    walk1
    have esum : ∀ l : List Nat, (l.map Int.ofNat).sum = ((l.sum : Nat) : Int) := fun l => by
      induction l with
      | nil => rfl
      | cons a l ih => rw [List.map_cons, List.sum_cons, List.sum_cons, ih]; rfl
    refine mod_as (k := (((P i + (ns.filter fun n => n % 5 == i).sum) % 16 : Nat) : Int)) (by decide) ?_ ?_
    · rw [esum]
      rw [Int.fmod_eq_emod_of_nonneg _ (by decide)]
      omega
    · refine ⟨h3, _, [], rfl, fun b o e => kp3 b o (kp2 b o e), (fun _ h => nomatch h), rfl, ?_⟩
      rw [List.range_succ, List.map_append]
      exact IntsAre.append hys (.cons _ _ .nil)
  · rintro D ys k new h' tk' ⟨rfl, hys⟩ F3 N3 hnD _
    have ep5 : ((List.range 5).map fun k => (((P k + (ns.filter fun n => n % 5 == k).sum) % 16 : Nat) : Int)) = pl5 fun k => (P k + (ns.filter fun n => n % 5 == k).sum) % 16 := rfl
    rw [ep5] at hys
    have hn9 : ∀ p ∈ (L + 1 + 1 + 1 + 1, oS) :: (L + 1 + 1 + 1, oP) :: (L + 1 + 1, oK) :: (L + 1, oD) :: tl, p.1 ≠ D := hnD
    clear hnD
    have a1 := neN (hn9 _ (.head _))
    have a2 := neN (hn9 _ (.tail _ (.head _)))
    have a3 := neN (hn9 _ (.tail _ (.tail _ (.head _))))
    have a4 := neN (hn9 _ (.tail _ (.tail _ (.tail _ (.head _)))))
    have hn8 : ∀ p ∈ tl, p.1 ≠ D := fun p hp => hn9 p (.tail _ (.tail _ (.tail _ (.tail _ hp))))
    k_steps
    rename (Fr _ _ _ _) => F9
    rename (News _ _ _ _) => N9
    rename (Obj.data _ = _) => d9
    refine hq _ _ _ D ys k F9 (fun p hp => N9 p ?_) d9 hys hn9
    simp only [List.mem_cons] at hp ⊢
    rcases hp with h | h | h | h | h | h
    · exact .inr (.inl h)
    · exact .inr (.inr (.inl h))
    · exact .inr (.inr (.inr (.inl h)))
    · exact .inr (.inr (.inr (.inr (.inl h))))
    · exact .inl h
    · exact .inr (.inr (.inr (.inr (.inr h))))
end Mine
namespace Mine
open PySem PySem.W PyProof.Rows
theorem flush46 {M : Model} {A : Around} {Q : Flow → Shared → Prop} {E : Value → Shared → Prop} {s : Shared} {env : Env} (h : wpAny M A (execs [] env) Q E s) : wpAny M A (execs [] env) Q E s := by
  k_with_none
  (try (walk1; fail))
  w_top off
  exact h
end Mine
namespace Mine
open PySem PySem.W PyProof.Rows PySem.Calls
set_option maxHeartbeats 1000000
set_option linter.unusedVariables false
theorem kset52 : True := by
  k_with_none
  k_with "mine agree" =>
    repeat (first
      | exact Agree.refl
      | (refine' Agree.set (by first | exact .head _ | exact .tail _ (.head _) | exact .tail _ (.tail _ (.head _))) ?_)
      | (refine' Agree.same (by assumption) ?_))
  trivial
theorem cons4 {B h : Heap} {L D : Addr} {o : Obj} {m : Str → Option Value} {a b c d : Addr × Obj} {r : List (Addr × Obj)} (N : News B L h (a :: b :: c :: d :: r)) (F : Fr B L h m) (hB : B.get? D = none) (hD : h.get? D = some o) (ho : ∀ es n, o.data ≠ .dict es n) : News B L h ((D, o) :: r) := by
  refine List.forall_mem_cons.mpr ⟨⟨hD, fun e => ?_, hB⟩, fun p hp => N p (.tail _ (.tail _ (.tail _ (.tail _ hp))))⟩
  obtain ⟨oL, es, _, hL, hd, _⟩ := F.ns
  have e' : D = L := e
  rw [← e', hD] at hL
  cases hL
  exact ho _ _ hd
theorem made4 {B h : Heap} {L D : Addr} {ys : Array Value} {m : Str → Option Value} {a b c d : Addr × Obj} {oS oP oK oD : Obj} {tl : List (Addr × Obj)} (P : NewPlain h (a :: b :: c :: d :: (L + 1 + 1 + 1 + 1, oS) :: (L + 1 + 1 + 1, oP) :: (L + 1 + 1, oK) :: (L + 1, oD) :: tl) D ys) (N : News B L h (a :: b :: c :: d :: (L + 1 + 1 + 1 + 1, oS) :: (L + 1 + 1 + 1, oP) :: (L + 1 + 1, oK) :: (L + 1, oD) :: tl)) (F : Fr B L h m) (hB : B.get? D = none) :
    ∃ nd, News B L h ((D, listOf ys nd) :: (L + 1 + 1 + 1 + 1, oS) :: (L + 1 + 1 + 1, oP) :: (L + 1 + 1, oK) :: (L + 1, oD) :: tl) ∧ @Ne Nat (L + 1 + 1 + 1 + 1) D ∧ @Ne Nat (L + 1 + 1 + 1) D ∧ @Ne Nat (L + 1 + 1) D ∧ @Ne Nat (L + 1) D ∧ (∀ p ∈ tl, p.1 ≠ D) ∧ ∀ p ∈ (L + 1 + 1 + 1 + 1, oS) :: (L + 1 + 1 + 1, oP) :: (L + 1 + 1, oK) :: (L + 1, oD) :: tl, p.1 ≠ D := by
  obtain ⟨⟨nd, hD⟩, hne⟩ := P
  have hn9 : ∀ p ∈ (L + 1 + 1 + 1 + 1, oS) :: (L + 1 + 1 + 1, oP) :: (L + 1 + 1, oK) :: (L + 1, oD) :: tl, p.1 ≠ D := fun p hp => hne p (.tail _ (.tail _ (.tail _ (.tail _ hp))))
  exact ⟨nd, cons4 N F hB hD (fun es n e => by cases e), hn9 _ (.head _), hn9 _ (.tail _ (.head _)), hn9 _ (.tail _ (.tail _ (.head _))), hn9 _ (.tail _ (.tail _ (.tail _ (.head _)))), fun p hp => hn9 p (.tail _ (.tail _ (.tail _ (.tail _ hp)))), hn9⟩
theorem chain1 {x : Str} {v : Value} {m : Str → Option Value} (h : m x = some v) : (fun y => if y = x then some v else m y) = m := funext fun y => by
  by_cases c : y = x
  · rw [if_pos c, c, h]
  · rw [if_neg c]
theorem kset53 : True := by
  k_with "storeName" =>
    refine halt ?_
  trivial
theorem S1 : ∀ (w : World) (sc : Scope) (st : Stmt) (B h : Heap) (g : Array GenState) (dd : Drawn) (tk : Nat) (os : OsState) (L : Addr) (m : Str → Option Value) (tl : List (Addr × Obj)) (Q : Flow → Shared → Prop)
    (ad au : Nat) (af : Option (List Env)) (ag : Option (List Code)) (mg mb : Str → Option Value) (loose : List Str) (a : Addr) (vs : List Value) (ns : List Int) (oD : Obj) (v : Option Value) (oS oP oK : Obj)
    (X : (hd.heap_1 w.params).In B) (T : TopRead viewQ loose mg mb B) (hst : stmtIn 0 (bodyIn ((hd.heap_1 w.params).lookup 202)) = some st) (hsc : scopeIn ((hd.heap_1 w.params).lookup 202) = some sc) (hr : ad + 30 < recursionLimit) (hu : au + 200 < cLine)
    (F : Fr B L h m) (N : News B L h ((L + 1 + 1 + 1 + 1, oS) :: (L + 1 + 1 + 1, oP) :: (L + 1 + 1, oK) :: (L + 1, oD) :: tl))
    (hs : m (Str.ofString "script") = some (.ref a)) (hl : B.IsList a vs.toArray) (hI : IntsAre vs ns) (hlen : ns.length ≤ 1000) (hsz : vs.toArray.size ≤ sizeLine) (dD : oD.data = .cell v) (hne : ∀ p ∈ tl, p.1 ≠ L + 1)
    (hq : ∀ h' tk' oD' dl dvs nd, Fr B L h' m → News B L h' ((L + 1 + 1 + 1 + 1, oS) :: (L + 1 + 1 + 1, oP) :: (L + 1 + 1, oK) :: (L + 1, oD') :: (dl, listOf (List.toArray dvs) nd) :: tl) → oD'.data = .cell (some (.ref dl)) → IntsAre dvs (((ns.take 5 ++ [4321, 777, 2990, 1530, 3333]).take 5).map fun x : Int => x.fmod 1000000) → (∀ p ∈ (L + 1 + 1 + 1 + 1, oS) :: (L + 1 + 1 + 1, oP) :: (L + 1 + 1, oK) :: (L + 1, oD) :: tl, p.1 ≠ dl) → Q .next ⟨h', g, dd, tk', os⟩),
    wpAny (model PySem.Challenge.rw_pg0244_01.row.prog w) (Around.deeper { depth := ad, frames := af, guards := ag, units := au } (lawEnv sc L)) (exec st (lawEnv sc L)) Q (fun _ _ => False) ⟨h, g, dd, tk, os⟩ := by
  k_fill
  intro w sc st B h g dd tk os L m tl Q ad au af ag mg mb loose a vs ns oD v oS oP oK X T hst hsc hr hu F N hs hl hI hlen hsz dD hne hq
  refine' law_use (f := fun l => stmtIn 0 l) ?e hst hsc ?_
  case e => k_dflt k_is
  intro e1 e2
  cases e1
  cases e2
  clear hst hsc
  have F1 : Fr B L h (chainOf [Str.ofString "script"] m m) := by rw [← agree_chain Agree.refl]; exact F
  simp only [chainOf, hs] at F1
  clear F
  unfold lawEnv
  have hr15 : ad + 15 < recursionLimit := by omega
  k_steps
  unfold Halt
  rename (Fr _ _ _ _) => F2
  rename (News _ _ _ _) => N2
  rename (NewPlain _ _ _ _) => P2
  rename (CarriedAll _ _) => C2
  rename (_ = none) => hB
  have I2 := gn_ints P2 C2 (fun _ => rfl)
  obtain ⟨nd, N3, a1, a2, a3, a4, hn8, hn9⟩ := made4 P2 N2 F2 hB
  rw [chain1 hs] at F2
  clear N2 P2
  refine' storeX_C F2 N3 ?c ?U dD ?_ ?a ?b
  case a => rfl
  case b => rfl
  case c => rfl
  case U => k_updF
  intro h9 o9 F9 N9 d9
  refine hq _ _ _ _ _ nd F9 (fun p hp => N9 p ?_) d9 I2 hn9
  simp only [List.mem_cons] at hp ⊢
  rcases hp with h | h | h | h | h | h
  · exact .inr (.inl h)
  · exact .inr (.inr (.inl h))
  · exact .inr (.inr (.inr (.inl h)))
  · exact .inr (.inr (.inr (.inr (.inl h))))
  · exact .inl h
  · exact .inr (.inr (.inr (.inr (.inr h))))
end Mine
namespace Mine
open PySem PySem.W PyProof.Rows
theorem flush47 {M : Model} {A : Around} {Q : Flow → Shared → Prop} {E : Value → Shared → Prop} {s : Shared} {env : Env} (h : wpAny M A (execs [] env) Q E s) : wpAny M A (execs [] env) Q E s := by
  k_with_none
  (try (walk1; fail))
  w_top off
  exact h
end Mine
namespace Mine
open PySem PySem.W PyProof.Rows PySem.Calls
set_option maxHeartbeats 1000000
set_option linter.unusedVariables false
theorem kset54 : True := by
  k_with_none
  k_with "mine agree" =>
    repeat (first
      | exact Agree.refl
      | (refine' Agree.set (by first | exact .head _ | exact .tail _ (.head _) | exact .tail _ (.tail _ (.head _))) ?_)
      | (refine' Agree.same (by assumption) ?_))
  trivial
/-- the five kinds, as they lie -/
noncomputable def KindsIn (tl : List (Addr × Obj)) (kl : Addr) (ka : Nat → Addr) : Prop := (kl, listO (refs5 ka)) ∈ tl ∧ ∀ k < 5, ∃ v1 v2 v3 v4, 0 < v3 ∧ (ka k, tupO (kindT k v1 v2 v3 v4)) ∈ tl
noncomputable def pick5 (a0 a1 a2 a3 a4 : Addr) : Nat → Addr := fun i => match i with | 0 => a0 | 1 => a1 | 2 => a2 | 3 => a3 | _ => a4
theorem kinds_pack {B h : Heap} {L l a0 a1 a2 a3 a4 : Addr} {tl : List (Addr × Obj)} {oS oP oK oD : Obj} {t00 t01 t02 t03 t10 t11 t12 t13 t20 t21 t22 t23 t30 t31 t32 t33 t40 t41 t42 t43 : Tok}
    (N : News B L h ((l, listO [.ref a0, .ref a1, .ref a2, .ref a3, .ref a4]) :: (a0, tupO (kindT 0 t00 t01 t02 t03)) :: (a1, tupO (kindT 1 t10 t11 t12 t13)) :: (a2, tupO (kindT 2 t20 t21 t22 t23)) :: (a3, tupO (kindT 3 t30 t31 t32 t33)) :: (a4, tupO (kindT 4 t40 t41 t42 t43)) :: (L + 1 + 1 + 1 + 1, oS) :: (L + 1 + 1 + 1, oP) :: (L + 1 + 1, oK) :: (L + 1, oD) :: tl))
    (hq : ∀ p ∈ (L + 1 + 1 + 1 + 1, oS) :: (L + 1 + 1 + 1, oP) :: (L + 1 + 1, oK) :: (L + 1, oD) :: tl, ∀ x ∈ [l, a0, a1, a2, a3, a4], p.1 ≠ x) (hpos : 0 < t02 ∧ 0 < t12 ∧ 0 < t22 ∧ 0 < t32 ∧ 0 < t42) (hne : ∀ p ∈ tl, p.1 ≠ L + 1 + 1) :
    ∃ ex, News B L h ((L + 1 + 1, oK) :: (L + 1 + 1 + 1 + 1, oS) :: (L + 1 + 1 + 1, oP) :: (L + 1, oD) :: (ex ++ tl)) ∧ (∀ p ∈ (L + 1 + 1 + 1 + 1, oS) :: (L + 1 + 1 + 1, oP) :: (L + 1, oD) :: (ex ++ tl), p.1 ≠ L + 1 + 1) ∧ KindsIn ex l (pick5 a0 a1 a2 a3 a4) ∧ ∀ p ∈ ex, ∀ q ∈ (L + 1 + 1 + 1 + 1, oS) :: (L + 1 + 1 + 1, oP) :: (L + 1 + 1, oK) :: (L + 1, oD) :: tl, q.1 ≠ p.1 := by
  refine ⟨[(l, listO (refs5 (pick5 a0 a1 a2 a3 a4))), (a0, tupO (kindT 0 t00 t01 t02 t03)), (a1, tupO (kindT 1 t10 t11 t12 t13)), (a2, tupO (kindT 2 t20 t21 t22 t23)), (a3, tupO (kindT 3 t30 t31 t32 t33)), (a4, tupO (kindT 4 t40 t41 t42 t43))], fun p hp => N p ?_, ?_, ⟨.head _, ?_⟩, ?_⟩
  · show p ∈ (l, listO (refs5 (pick5 a0 a1 a2 a3 a4))) :: _
    generalize (l, listO (refs5 (pick5 a0 a1 a2 a3 a4))) = c0 at *
    generalize (a0, tupO (kindT 0 t00 t01 t02 t03)) = c1 at *
    generalize (a1, tupO (kindT 1 t10 t11 t12 t13)) = c2 at *
    generalize (a2, tupO (kindT 2 t20 t21 t22 t23)) = c3 at *
    generalize (a3, tupO (kindT 3 t30 t31 t32 t33)) = c4 at *
    generalize (a4, tupO (kindT 4 t40 t41 t42 t43)) = c5 at *
    simp only [List.mem_cons, List.mem_append, List.not_mem_nil, or_false] at hp ⊢
    clear hq N hne hpos
    grind
  · have hK := hq (L + 1 + 1, oK) (.tail _ (.tail _ (.head _)))
    intro p hp
    rcases List.mem_cons.mp hp with rfl | hp
    · exact Nat.ne_of_gt (Nat.lt_add_of_pos_right (n := L + 1 + 1) (k := 2) (by decide))
    rcases List.mem_cons.mp hp with rfl | hp
    · exact Nat.ne_of_gt (Nat.lt_succ_self _)
    rcases List.mem_cons.mp hp with rfl | hp
    · exact Nat.ne_of_lt (Nat.lt_succ_self _)
    rcases List.mem_append.mp hp with hp | hp
    · simp only [List.mem_cons, List.not_mem_nil, or_false] at hp
      rcases hp with rfl | rfl | rfl | rfl | rfl | rfl
      · exact fun e => hK l (by simp) e.symm
      · exact fun e => hK a0 (by simp) e.symm
      · exact fun e => hK a1 (by simp) e.symm
      · exact fun e => hK a2 (by simp) e.symm
      · exact fun e => hK a3 (by simp) e.symm
      · exact fun e => hK a4 (by simp) e.symm
    · exact hne p hp
  · intro k hk
    match k, hk with
    | 0, _ => exact ⟨_, _, _, _, hpos.1, .tail _ (.head _)⟩
    | 1, _ => exact ⟨_, _, _, _, hpos.2.1, .tail _ (.tail _ (.head _))⟩
    | 2, _ => exact ⟨_, _, _, _, hpos.2.2.1, .tail _ (.tail _ (.tail _ (.head _)))⟩
    | 3, _ => exact ⟨_, _, _, _, hpos.2.2.2.1, .tail _ (.tail _ (.tail _ (.tail _ (.head _))))⟩
    | 4, _ => exact ⟨_, _, _, _, hpos.2.2.2.2, .tail _ (.tail _ (.tail _ (.tail _ (.tail _ (.head _)))))⟩
  · intro p hp q hq'
    simp only [List.mem_cons, List.not_mem_nil, or_false] at hp
    rcases hp with rfl | rfl | rfl | rfl | rfl | rfl
    · exact hq q hq' l (by simp)
    · exact hq q hq' a0 (by simp)
    · exact hq q hq' a1 (by simp)
    · exact hq q hq' a2 (by simp)
    · exact hq q hq' a3 (by simp)
    · exact hq q hq' a4 (by simp)
theorem kset55 : True := by
  k_with "call ref" =>
    (refine' kinds_K (by k_asm) (by k_asm) (by k_asm) (by k_asm) (by assumption) ?_; intro _ _ _ _ _ _ _ _ _ _ _ _ _ _ _ _ _ _ _ _ _ _ _ _ _ _ _ _ _ kp'₉ _ _ _; clear kp'₉)
  k_with "storeName" =>
    refine halt ?_
  trivial
theorem S2 : ∀ (w : World) (sc : Scope) (st : Stmt) (B h : Heap) (g : Array GenState) (dd : Drawn) (tk : Nat) (os : OsState) (L : Addr) (m : Str → Option Value) (tl : List (Addr × Obj)) (Q : Flow → Shared → Prop)
    (ad au : Nat) (af : Option (List Env)) (ag : Option (List Code)) (mg mb : Str → Option Value) (loose : List Str) (oD : Obj) (v : Option Value) (oS oP oK : Obj)
    (X : (hd.heap_1 w.params).In B) (T : TopRead viewQ loose mg mb B) (hst : stmtIn 1 (bodyIn ((hd.heap_1 w.params).lookup 202)) = some st) (hsc : scopeIn ((hd.heap_1 w.params).lookup 202) = some sc) (hr : ad + 30 < recursionLimit) (hu : au + 200 < cLine)
    (F : Fr B L h m) (N : News B L h ((L + 1 + 1 + 1 + 1, oS) :: (L + 1 + 1 + 1, oP) :: (L + 1 + 1, oK) :: (L + 1, oD) :: tl))
    (dK : oK.data = .cell v) (hne : ∀ p ∈ tl, p.1 ≠ L + 1 + 1)
    (hq : ∀ h' tk' oK' kl ka ex, Fr B L h' m → News B L h' ((L + 1 + 1 + 1 + 1, oS) :: (L + 1 + 1 + 1, oP) :: (L + 1 + 1, oK') :: (L + 1, oD) :: (ex ++ tl)) → oK'.data = .cell (some (.ref kl)) → KindsIn ex kl ka → (∀ p ∈ ex, ∀ q ∈ (L + 1 + 1 + 1 + 1, oS) :: (L + 1 + 1 + 1, oP) :: (L + 1 + 1, oK) :: (L + 1, oD) :: tl, q.1 ≠ p.1) → Q .next ⟨h', g, dd, tk', os⟩),
    wpAny (model PySem.Challenge.rw_pg0244_01.row.prog w) (Around.deeper { depth := ad, frames := af, guards := ag, units := au } (lawEnv sc L)) (exec st (lawEnv sc L)) Q (fun _ _ => False) ⟨h, g, dd, tk, os⟩ := by
  k_fill
  intro w sc st B h g dd tk os L m tl Q ad au af ag mg mb loose oD v oS oP oK X T hst hsc hr hu F N dK hne hq
  refine' law_use (f := fun l => stmtIn 1 l) ?e hst hsc ?_
  case e => k_dflt k_is
  intro e1 e2
  cases e1
  cases e2
  clear hst hsc
  have F1 : Fr B L h (chainOf [] m m) := by rw [← agree_chain Agree.refl]; exact F
  simp only [chainOf] at F1
  clear F
  unfold lawEnv
  have hr9 : ad + 9 < recursionLimit := by omega
  k_steps
  unfold Halt
  rename (Fr _ _ _ _) => F2
  rename (News _ _ _ _) => N2
  rename (∀ p ∈ _, _) => hq9
  rename_i hpos9
  obtain ⟨ex, N3, hU, hk9, hx9⟩ := kinds_pack N2 hq9 hpos9 hne
  refine' storeX_C F2 N3 ?c (UpdF.head hU) dK ?_ ?a ?b
  case a => rfl
  case b => rfl
  case c => rfl
  intro h9 o9 F9 N9 d9
  refine hq _ _ _ _ (pick5 _ _ _ _ _) ex F9 (fun p hp => N9 p ?_) d9 hk9 hx9
  simp only [List.mem_cons, List.mem_append] at hp ⊢
  grind
end Mine
namespace Mine
open PySem PySem.W PyProof.Rows
theorem flush48 {M : Model} {A : Around} {Q : Flow → Shared → Prop} {E : Value → Shared → Prop} {s : Shared} {env : Env} (h : wpAny M A (execs [] env) Q E s) : wpAny M A (execs [] env) Q E s := by
  k_with_none
  (try (walk1; fail))
  w_top off
  exact h
end Mine
namespace Mine
open PySem PySem.W PyProof.Rows PySem.Calls
set_option maxHeartbeats 1000000
set_option linter.unusedVariables false
theorem kset56 : True := by
  k_with_none
  k_with "mine agree" =>
    repeat (first
      | exact Agree.refl
      | (refine' Agree.set (by first | exact .head _ | exact .tail _ (.head _) | exact .tail _ (.tail _ (.head _))) ?_)
      | (refine' Agree.same (by assumption) ?_))
  k_with "eval ListComp" =>
    refine halt ?_
  k_with "pyIter ref" =>
    refine halt ?_
  trivial
theorem S3 : ∀ (w : World) (sc : Scope) (st : Stmt) (B h : Heap) (g : Array GenState) (dd : Drawn) (tk : Nat) (os : OsState) (L : Addr) (m : Str → Option Value) (tl : List (Addr × Obj)) (Q : Flow → Shared → Prop)
    (ad au : Nat) (af : Option (List Env)) (ag : Option (List Code)) (mg mb : Str → Option Value) (loose : List Str) (oS oP oK oD : Obj) (dl : Addr) (dvs : List Value) (nd : Nat) (D : Nat → Nat) (v : Option Value)
    (X : (hd.heap_1 w.params).In B) (T : TopRead viewQ loose mg mb B) (hst : stmtIn 2 (bodyIn ((hd.heap_1 w.params).lookup 202)) = some st) (hsc : scopeIn ((hd.heap_1 w.params).lookup 202) = some sc) (hr : ad + 30 < recursionLimit) (hu : au + 200 < cLine)
    (F : Fr B L h m) (N : News B L h ((L + 1 + 1 + 1 + 1, oS) :: (L + 1 + 1 + 1, oP) :: (L + 1 + 1, oK) :: (L + 1, oD) :: tl))
    (dD : oD.data = .cell (some (.ref dl))) (dP : oP.data = .cell v) (hdl : (dl, listOf dvs.toArray nd) ∈ tl) (hdv : IntsAre dvs (pl5 D)) (hD : ∀ k < 5, D k < 1000000) (hne : ∀ p ∈ tl, p.1 ≠ L + 1 + 1 + 1)
    (hq : ∀ h' tk' oP' pl' pvs' np', Fr B L h' m → News B L h' ((L + 1 + 1 + 1 + 1, oS) :: (L + 1 + 1 + 1, oP') :: (L + 1 + 1, oK) :: (L + 1, oD) :: (pl', listOf (List.toArray pvs') np') :: tl) → oP'.data = .cell (some (.ref pl')) → IntsAre pvs' (pl5 fun k => D k / 7 % 16) → (∀ p ∈ (L + 1 + 1 + 1 + 1, oS) :: (L + 1 + 1 + 1, oP) :: (L + 1 + 1, oK) :: (L + 1, oD) :: tl, p.1 ≠ pl') → Q .next ⟨h', g, dd, tk', os⟩),
    wpAny (model PySem.Challenge.rw_pg0244_01.row.prog w) (Around.deeper { depth := ad, frames := af, guards := ag, units := au } (lawEnv sc L)) (exec st (lawEnv sc L)) Q (fun _ _ => False) ⟨h, g, dd, tk, os⟩ := by
  k_fill
  intro w sc st B h g dd tk os L m tl Q ad au af ag mg mb loose oS oP oK oD dl dvs nd D v X T hst hsc hr hu F N dD dP hdl hdv hD hne hq
  refine' law_use (f := fun l => stmtIn 2 l) ?e hst hsc ?_
  case e => k_dflt k_is
  intro e1 e2
  cases e1
  cases e2
  clear hst hsc
  have F1 : Fr B L h (chainOf [] m m) := by rw [← agree_chain Agree.refl]; exact F
  simp only [chainOf] at F1
  clear F
  unfold lawEnv
  have hr15 : ad + 15 < recursionLimit := by omega
  k_steps
  all_goals unfold Halt
  rw [eval_ListComp]
  refine wpAny_comprehension_free (use := none) rfl (fun x => rfl) rfl rfl (by decide) ?_
  show wpAny _ _ (eval _ _) _ _ _
  k_steps
  all_goals unfold Halt
  rename (Fr _ _ _ _) => F2
  rename (News _ _ _ _) => N2
  rename (IsRange _ _ _ _ _ _ _ _) => hr1
  refine ListComp_N (isC := false) (cl := [(Str.ofString "drawn", L + 1)]) (n := 5) (fun i ys new => new = [] ∧ IntsAre ys ((List.range i).map fun k => ((D k / 7 % 16 : Nat) : Int))) rfl rfl rfl (fun k h => ⟨rfl, rfl⟩) F2 N2 hr1 (by decide) ⟨rfl, .nil⟩ ?_ ?_
  · rintro C i ys new t s₂ hi ⟨rfl, hys⟩ F3 N3 ⟨mC, hnC, hmC⟩
    have cD : s₂.heap.IsCell (L + 1) (some (.ref dl)) := ⟨oD, (N3 _ (.tail _ (.tail _ (.tail _ (.head _))))).1, dD⟩
    have mD : (dl, listOf dvs.toArray nd) ∈ ([] ++ (L + 1 + 1 + 1 + 1, oS) :: (L + 1 + 1 + 1, oP) :: (L + 1 + 1, oK) :: (L + 1, oD) :: tl) := .tail _ (.tail _ (.tail _ (.tail _ hdl)))
    walk1
    walk1
    walk1
    refine nameCell cD ?_ rfl (by kernel_rfl) (by kernel_rfl) (by kernel_rfl)
    refine nameLoc hnC hmC ?_ rfl (by kernel_rfl) (by kernel_rfl)
    refine sub_pl N3 mD hdv hi ?_
    intro t1
    walk1
    refine floordiv_int (by decide) ?_ (Or.inl (PyProof.noPylong_small (by decide)))
    walk1
    refine mod_as (k := ((D i / 7 % 16 : Nat) : Int)) (by decide) ?_ ?_
    · rw [Int.fdiv_eq_ediv_of_nonneg _ (by decide), Int.fmod_eq_emod_of_nonneg _ (by decide)]
      omega
    · refine ⟨s₂.heap, _, [], rfl, fun b o e => e, (fun _ h => nomatch h), rfl, ?_⟩
      rw [List.range_succ, List.map_append]
      exact IntsAre.append hys (.cons _ _ .nil)
  · rintro E9 ys k new h' tk' ⟨rfl, hys⟩ F3 N3 hnD _
    have ep5 : ((List.range 5).map fun k => ((D k / 7 % 16 : Nat) : Int)) = pl5 fun k => D k / 7 % 16 := rfl
    rw [ep5] at hys
    have hn9 : ∀ p ∈ (L + 1 + 1 + 1 + 1, oS) :: (L + 1 + 1 + 1, oP) :: (L + 1 + 1, oK) :: (L + 1, oD) :: tl, p.1 ≠ E9 := hnD
    clear hnD
    have a1 := neN (hn9 _ (.head _))
    have a2 := neN (hn9 _ (.tail _ (.head _)))
    have a3 := neN (hn9 _ (.tail _ (.tail _ (.head _))))
    have a4 := neN (hn9 _ (.tail _ (.tail _ (.tail _ (.head _)))))
    have hn8 : ∀ p ∈ tl, p.1 ≠ E9 := fun p hp => hn9 p (.tail _ (.tail _ (.tail _ (.tail _ hp))))
    k_steps
    rename (Fr _ _ _ _) => F9
    rename (News _ _ _ _) => N9
    rename (Obj.data _ = _) => d9
    refine hq _ _ _ E9 ys k F9 (fun p hp => N9 p ?_) d9 hys hn9
    simp only [List.mem_cons] at hp ⊢
    rcases hp with h | h | h | h | h | h
    · exact .inr (.inl h)
    · exact .inr (.inr (.inl h))
    · exact .inr (.inr (.inr (.inl h)))
    · exact .inr (.inr (.inr (.inr (.inl h))))
    · exact .inl h
    · exact .inr (.inr (.inr (.inr (.inr h))))
section
variable {w : World} {E : Value → Shared → Prop} {s : Shared} {Q : Value → Shared → Prop} {B : Heap} {dp un : Nat} {fr : Option (List Env)} {gd : Option (List Code)} {env : Env} {mg mb : Str → Option Value} {loose : List Str} {t u x : Tok}
theorem hsv_A {k n : Nat} (X : (hd.heap_1 w.params).In B) (T : TopRead viewQ loose mg mb B) (kp0 : Kp B s.heap) (hr : dp + 9 < recursionLimit) (hk : k < 5) (hn : n < 16)
    (h : ∀ h' tk a t1 t2 t3, Kp s.heap h' → s.heap.get? a = none → h'.get? a = some (lampT k n t1 t2 t3) → Q (.ref a) { s with heap := h', toks := tk }) :
    wpAny (model PySem.Challenge.rw_pg0244_01.row.prog w) (Around.deeper { depth := dp, frames := fr, guards := gd, units := un } env) (call (.ref 35) [.float (hB n) t, (sK k).v u, (vK k).v x]) Q E s := by
  have sm : ∀ j : Nat, (sK j).ok ∧ (vK j).ok := fun j => by
    have e : (1 : Int).natAbs < 2 ^ 1023 := Nat.one_lt_two_pow (by decide)
    match j with
    | 0 => exact ⟨e, e⟩
    | 1 => exact ⟨e, trivial⟩
    | 2 => exact ⟨trivial, e⟩
    | 3 => exact ⟨trivial, trivial⟩
    | _ + 4 => exact ⟨trivial, trivial⟩
  have hn4 : n < 40 := by omega
  refine wpAny_call (hsv_ctr w _ s _ mg mb loose (hB n) (sK k) (vK k) _ _ _ (X.keeps kp0) (T.keeps kp0) rfl (by show dp + 1 < _; omega) (sm k).1 (sm k).2 (sK_ok k hk) (hB_fin n hn4) (Nat.lt_of_lt_of_le (hB_small n hn4) (Nat.le_trans (by decide : 1000 ≤ 2 ^ 10) (Nat.pow_le_pow_right (by decide) (by decide)))) fun h' tk a c t1 t2 t3 kp hn' hg e => ?_)
  rw [lamp_ring k hk n hn4, Nat.mod_eq_of_lt hn] at e
  subst e
  exact h h' tk a t1 t2 t3 kp hn' hg
end
noncomputable def LampsUp (P : Nat → Nat) (i : Nat) (ys : List Value) (new : List (Addr × Obj)) : Prop := ∃ as : Nat → Addr, ys = (List.range i).map (fun k => Value.ref (as k)) ∧ ∀ k < i, LampIn new (as k) k (P k)
theorem LampsUp.zero (P : Nat → Nat) : LampsUp P 0 [] [] := ⟨fun _ => (0 : Nat), rfl, fun k h => absurd h (Nat.not_lt_zero k)⟩
theorem LampsUp.next {P : Nat → Nat} {i : Nat} {ys : List Value} {new : List (Addr × Obj)} {a : Addr} {o : Obj} (h : LampsUp P i ys new) (ho : ∃ t1 t2 t3, o = lampT i (P i) t1 t2 t3) : LampsUp P (i + 1) (ys ++ [.ref a]) ([(a, o)] ++ new) := by
  obtain ⟨as, rfl, hl⟩ := h
  refine ⟨fun k => if k = i then a else as k, ?_, fun k hk => ?_⟩
  · rw [List.range_succ, List.map_append]
    congr 1
    · refine List.map_congr_left fun k hk => ?_
      show _ = Value.ref (if k = i then a else as k)
      rw [if_neg (Nat.ne_of_lt (List.mem_range.mp hk))]
    · show _ = [Value.ref (if i = i then a else as i)]
      rw [if_pos rfl]
  · by_cases e : k = i
    · subst e
      obtain ⟨t1, t2, t3, rfl⟩ := ho
      show LampIn _ (if k = k then a else as k) _ _
      rw [if_pos rfl]
      exact ⟨t1, t2, t3, .head _⟩
    · show LampIn _ (if k = i then a else as k) _ _
      rw [if_neg e]
      obtain ⟨t1, t2, t3, hm⟩ := hl k (by omega)
      exact ⟨t1, t2, t3, .tail _ hm⟩
theorem S4 : ∀ (w : World) (sc : Scope) (st : Stmt) (B h : Heap) (g : Array GenState) (dd : Drawn) (tk : Nat) (os : OsState) (L : Addr) (m : Str → Option Value) (tl : List (Addr × Obj)) (Q : Flow → Shared → Prop)
    (ad au : Nat) (af : Option (List Env)) (ag : Option (List Code)) (mg mb : Str → Option Value) (loose : List Str) (oS oP oK oD : Obj) (pl : Addr) (pvs : List Value) (np : Nat) (P : Nat → Nat) (kl : Addr) (ka : Nat → Addr)
    (X : (hd.heap_1 w.params).In B) (T : TopRead viewQ loose mg mb B) (hst : stmtIn 3 (bodyIn ((hd.heap_1 w.params).lookup 202)) = some st) (hsc : scopeIn ((hd.heap_1 w.params).lookup 202) = some sc) (hr : ad + 30 < recursionLimit) (hu : au + 200 < cLine)
    (F : Fr B L h m) (N : News B L h ((L + 1 + 1 + 1 + 1, oS) :: (L + 1 + 1 + 1, oP) :: (L + 1 + 1, oK) :: (L + 1, oD) :: tl))
    (dP : oP.data = .cell (some (.ref pl))) (dK : oK.data = .cell (some (.ref kl))) (hpl : (pl, listOf pvs.toArray np) ∈ tl) (hpv : IntsAre pvs (pl5 P)) (hP : ∀ k < 5, P k < 16) (hki : KindsIn tl kl ka)
    (hq : ∀ h' tk' m' lp as ex, Fr B L h' m' → News B L h' (ex ++ ((L + 1 + 1 + 1 + 1, oS) :: (L + 1 + 1 + 1, oP) :: (L + 1 + 1, oK) :: (L + 1, oD) :: tl)) → Agree [Str.ofString "lamps"] m' m → m' (Str.ofString "lamps") = some (.ref lp) → (∃ nl, (lp, listOf (refs5 as).toArray nl) ∈ ex) → (∀ k < 5, LampIn ex (as k) k (P k)) → (∀ p ∈ ex, ∀ q ∈ (L + 1 + 1 + 1 + 1, oS) :: (L + 1 + 1 + 1, oP) :: (L + 1 + 1, oK) :: (L + 1, oD) :: tl, q.1 ≠ p.1) → Q .next ⟨h', g, dd, tk', os⟩),
    wpAny (model PySem.Challenge.rw_pg0244_01.row.prog w) (Around.deeper { depth := ad, frames := af, guards := ag, units := au } (lawEnv sc L)) (exec st (lawEnv sc L)) Q (fun _ _ => False) ⟨h, g, dd, tk, os⟩ := by
  k_fill
  intro w sc st B h g dd tk os L m tl Q ad au af ag mg mb loose oS oP oK oD pl pvs np P kl ka X T hst hsc hr hu F N dP dK hpl hpv hP hki hq
  refine' law_use (f := fun l => stmtIn 3 l) ?e hst hsc ?_
  case e => k_dflt k_is
  intro e1 e2
  cases e1
  cases e2
  clear hst hsc
  have F1 : Fr B L h (chainOf [] m m) := by rw [← agree_chain Agree.refl]; exact F
  simp only [chainOf] at F1
  clear F
  unfold lawEnv
  have hr15 : ad + 15 < recursionLimit := by omega
  refine Assign_LC (by kernel_rfl) rfl rfl (by decide) ?_
  k_steps
  all_goals unfold Halt
  rename (Fr _ _ _ _) => F2
  rename (News _ _ _ _) => N2
  rename (IsRange _ _ _ _ _ _ _ _) => hr1
  refine ListComp_A (isC := false) (n := 5) (LampsUp P) rfl (by kernel_rfl) rfl rfl rfl rfl (fun k h => ⟨rfl, rfl⟩) F2 N2 hr1 (by decide) (LampsUp.zero P) ?_ ?_
  · rintro C i ys new t s₂ hi hG F3 N3 ⟨mC, hnC, hmC⟩
    have sub : ∀ p ∈ (L + 1 + 1 + 1 + 1, oS) :: (L + 1 + 1 + 1, oP) :: (L + 1 + 1, oK) :: (L + 1, oD) :: tl, p ∈ new ++ ((L + 1 + 1 + 1 + 1, oS) :: (L + 1 + 1 + 1, oP) :: (L + 1 + 1, oK) :: (L + 1, oD) :: tl) := fun p hp => List.mem_append_right _ hp
    have cP : s₂.heap.IsCell (L + 1 + 1 + 1) (some (.ref pl)) := ⟨oP, (N3 _ (sub _ (.tail _ (.head _)))).1, dP⟩
    have cK : s₂.heap.IsCell (L + 1 + 1) (some (.ref kl)) := ⟨oK, (N3 _ (sub _ (.tail _ (.tail _ (.head _))))).1, dK⟩
    have inT : ∀ p ∈ tl, p ∈ new ++ ((L + 1 + 1 + 1 + 1, oS) :: (L + 1 + 1 + 1, oP) :: (L + 1 + 1, oK) :: (L + 1, oD) :: tl) := fun p hp => sub p (.tail _ (.tail _ (.tail _ (.tail _ hp))))
    obtain ⟨hk1, hk2⟩ := hki
    obtain ⟨v1, v2, v3, v4, _, hk3⟩ := hk2 i hi
    refine wpAny_Call_NameR ?_
    refine nameG_K (v := .ref 35) F3 X T (by k_dflt k_is) ?_ rfl rfl (by kernel_rfl) (by kernel_rfl)
    have hp16 := hP i hi
    walk1
    walk1
    walk1
    walk1
    refine nameCell cP ?_ rfl (by kernel_rfl) (by kernel_rfl) (by kernel_rfl)
    refine nameLoc hnC hmC ?_ rfl (by kernel_rfl) (by kernel_rfl)
    refine sub_pl N3 (inT _ hpl) hpv hi ?_
    intro t1
    walk1
    refine div16 rfl (by omega) ?_
    walk1
    walk1
    walk1
    refine nameCell cK ?_ rfl (by kernel_rfl) (by kernel_rfl) (by kernel_rfl)
    refine nameLoc hnC hmC ?_ rfl (by kernel_rfl) (by kernel_rfl)
    refine sub5 (News.isList N3 (inT _ hk1)) hi ?_
    walk1
    refine sub_kind (j := 0) N3 (inT _ hk3) (by decide) (by decide) rfl rfl ?_
    walk1
    walk1
    walk1
    refine nameCell cK ?_ rfl (by kernel_rfl) (by kernel_rfl) (by kernel_rfl)
    refine nameLoc hnC hmC ?_ rfl (by kernel_rfl) (by kernel_rfl)
    refine sub5 (News.isList N3 (inT _ hk1)) hi ?_
    walk1
    refine sub_kind (j := 1) N3 (inT _ hk3) (by decide) (by decide) rfl rfl ?_
    walk1
    refine ⟨X.keeps F3.keep, hsv_A (dp := ad) X T F3.keep (by omega) hi hp16 fun h' tk a t1 t2 t3 kp hn hg => ?_⟩
    refine ⟨h', tk, [(a, lampT i (P i) t1 t2 t3)], rfl, kp, ?_, hG.next ⟨t1, t2, t3, rfl⟩⟩
    intro p hp
    rw [List.mem_singleton.mp hp]
    exact ⟨hn, hg⟩
  · rintro D9 ys k new h' tk' ⟨as, hys, hlm⟩ F3 N3 hnD hnt
    have eys : ys = refs5 as := hys
    subst eys
    refine hq h' _ _ D9 as ((D9, listOf (refs5 as).toArray k) :: new) F3 N3 ?_ (if_pos rfl) ⟨k, .head _⟩ (fun i hi => let ⟨t1, t2, t3, e⟩ := hlm i hi; ⟨t1, t2, t3, .tail _ e⟩) ?_
    · walk_at "mine agree"
    · intro p hp q hq'
      rcases List.mem_cons.mp hp with rfl | hp
      · exact hnD q (List.mem_append_right _ hq')
      · exact hnt p hp q hq'
end Mine
namespace Mine
open PySem PySem.W PyProof.Rows
theorem flush49 {M : Model} {A : Around} {Q : Flow → Shared → Prop} {E : Value → Shared → Prop} {s : Shared} {env : Env} (h : wpAny M A (execs [] env) Q E s) : wpAny M A (execs [] env) Q E s := by
  k_with_none
  (try (walk1; fail))
  w_top off
  exact h
end Mine
namespace Mine
open PySem PySem.W PyProof.Rows PySem.Calls
set_option maxHeartbeats 1000000
set_option linter.unusedVariables false
theorem kset57 : True := by
  k_with_none
  k_with "mine agree" =>
    repeat (first
      | exact Agree.refl
      | (refine' Agree.set (by first | exact .head _ | exact .tail _ (.head _) | exact .tail _ (.tail _ (.head _))) ?_)
      | (refine' Agree.same (by assumption) ?_))
  trivial
theorem S5 : ∀ (w : World) (sc : Scope) (st : Stmt) (B h : Heap) (g : Array GenState) (dd : Drawn) (tk : Nat) (os : OsState) (L : Addr) (m : Str → Option Value) (tl : List (Addr × Obj)) (Q : Flow → Shared → Prop)
    (ad au : Nat) (af : Option (List Env)) (ag : Option (List Code)) (mg mb : Str → Option Value) (loose : List Str) (v : Nat)
    (X : (hd.heap_1 w.params).In B) (T : TopRead viewQ loose mg mb B) (hst : stmtIn 4 (bodyIn ((hd.heap_1 w.params).lookup 202)) = some st) (hsc : scopeIn ((hd.heap_1 w.params).lookup 202) = some sc) (hr : ad + 30 < recursionLimit) (hu : au + 200 < cLine)
    (F : Fr B L h m) (N : News B L h (tl))
    (hv : v = 0)
    (hq : ∀ h' tk' m' ll, Fr B L h' m' → News B L h' ((ll, listOf #[] 0) :: tl) → (∀ p ∈ tl, p.1 < ll) → Agree [Str.ofString "left"] m' m → m' (Str.ofString "left") = some (.ref ll) → Q .next ⟨h', g, dd, tk', os⟩),
    wpAny (model PySem.Challenge.rw_pg0244_01.row.prog w) (Around.deeper { depth := ad, frames := af, guards := ag, units := au } (lawEnv sc L)) (exec st (lawEnv sc L)) Q (fun _ _ => False) ⟨h, g, dd, tk, os⟩ := by
  k_fill
  intro w sc st B h g dd tk os L m tl Q ad au af ag mg mb loose v X T hst hsc hr hu F N hv hq
  refine' law_use (f := fun l => stmtIn 4 l) ?e hst hsc ?_
  case e => k_dflt k_is
  intro e1 e2
  cases e1
  cases e2
  clear hst hsc
  have F1 : Fr B L h (chainOf [] m m) := by rw [← agree_chain Agree.refl]; exact F
  simp only [chainOf] at F1
  clear F
  unfold lawEnv
  have hr15 : ad + 15 < recursionLimit := by omega
  k_steps
  rename (Fr _ _ _ _) => F9
  rename (News _ _ _ _) => N9
  rename (∀ p ∈ _, _ < _) => l9
  refine hq _ _ _ _ F9 N9 l9 ?_ (if_pos rfl)
  walk_at "mine agree"
theorem reader_K {w : World} {E : Value → Shared → Prop} {s : Shared} {Q : Value → Shared → Prop} {h₀ : Heap} {L : Addr} {m : Str → Option Value} {news : List (Addr × Obj)} {dp un : Nat} {fr : Option (List Env)} {gd : Option (List Code)} {env : Env} {mg mb : Str → Option Value} {loose : List Str} {mean : ExcName → Option Value} {ll : Addr}
    (F : Fr h₀ L s.heap m) (N : News h₀ L s.heap ((ll, listOf #[] 0) :: (152, tabObj #[]) :: news)) (X : (hd.heap_1 w.params).In h₀) (T : Top topProg loose mean mg mb h₀) (hr : dp + 15 < recursionLimit) (hll : ll ≠ 152) (hne : ∀ p ∈ news, p.1 ≠ ll ∧ p.1 ≠ 152)
    (hq : ∀ h' tk (z : Lx) t1 ps, Fr h₀ L h' m → News h₀ L h' (z.objs w 1 t1 [] 0 ++ (152, tabObj ps) :: news) → z.Ok w → z.ll = ll → (∀ p ∈ (152, tabObj ps) :: news, p.1 ∉ z.ads) → Q (.ref z.x2) { s with heap := h', toks := tk }) :
    wpAny (model PySem.Challenge.rw_pg0244_01.row.prog w) (Around.deeper { depth := dp, frames := fr, guards := gd, units := un } env) (call (.ref 157) [.ref ll]) Q E s := by
  have hm : ∀ p ∈ [(ll, listOf #[] 0), ((152 : Addr), tabObj #[])], p ∈ (ll, listOf #[] 0) :: (152, tabObj #[]) :: news := List.forall_mem_cons.mpr ⟨.head _, List.forall_mem_cons.mpr ⟨.tail _ (.head _), List.forall_mem_nil _⟩⟩
  have hk := base_hide F N hm
  refine wpAny_call (reader_ctr w _ s _ mg mb loose mean _ ll (X.keeps hk) (T.keeps hk) (fun b o e => of_hideAll _ e) (Nat.le_of_eq (hideAll_size _ _)) (fun p hp => ⟨(N p (hm p hp)).1, hideAll_none _ (List.mem_map.mpr ⟨p, hp, rfl⟩)⟩) hll rfl (by show dp + 1 + 9 < _; omega) fun h' tk z t1 ps hz hzl hsz kp hob h152 => ?_)
  have F' : Fr h₀ L h' m := fr_hide F N hm kp
  have big : ∀ p ∈ z.objs w 1 t1 [] 0, p.1 ≠ ll → s.heap.objs.size ≤ p.1 := fun p hp hpl => by
    have o2 : @LT.lt Nat _ z.cell z.c' := hz.o2
    have o3 : @LT.lt Nat _ z.c' z.f := hz.o3
    have o4 : @LT.lt Nat _ z.f z.dx1 := hz.o4
    have o5 : @LT.lt Nat _ z.dx1 z.x1 := hz.o5
    have o6 : @LT.lt Nat _ z.x1 z.pb1 := hz.o6
    have o7 : @LT.lt Nat _ z.pb1 z.dx2 := hz.o7
    have o8 : @LT.lt Nat _ z.dx2 z.x2 := hz.o8
    have o9 : @LT.lt Nat _ z.x2 z.pb2 := hz.o9
    simp only [Lx.objs, List.mem_cons, List.not_mem_nil, or_false] at hp
    have key : ∀ a : Nat, z.cell ≤ a → s.heap.objs.size ≤ a := fun a h => Nat.le_trans hsz h
    rcases hp with rfl | rfl | rfl | rfl | rfl | rfl | rfl | rfl | rfl
    · exact key _ (by show @LE.le Nat _ z.cell z.x2; omega)
    · exact key _ (by show @LE.le Nat _ z.cell z.dx2; omega)
    · exact absurd hzl hpl
    · exact key _ (by show @LE.le Nat _ z.cell z.pb2; omega)
    · exact key _ (by show @LE.le Nat _ z.cell z.x1; omega)
    · exact key _ (by show @LE.le Nat _ z.cell z.dx1; omega)
    · exact key _ (by show @LE.le Nat _ z.cell z.f; omega)
    · exact key _ (by show @LE.le Nat _ z.cell z.c'; omega)
    · exact key _ (Nat.le_refl _)
  have small : ∀ p ∈ (ll, listOf #[] 0) :: (152, tabObj #[]) :: news, p.1 < s.heap.objs.size := fun p hp => Heap.lt_size (N p hp).1
  have h0 : ∀ a, s.heap.objs.size ≤ a → h₀.get? a = none := fun a ha => by
    cases q : h₀.get? a with
    | none => rfl
    | some o => exact absurd (Heap.lt_size (F.keep _ _ q)) (Nat.not_lt_of_le ha)
  have hLs : L < s.heap.objs.size := F.ns.lt
  have N0 := N (ll, listOf #[] 0) (.head _)
  have N1 := N (152, tabObj #[]) (.tail _ (.head _))
  refine hq h' tk z t1 ps F' ?_ hz hzl ?_
  · intro p hp
    rcases List.mem_append.mp hp with hp | hp
    · refine ⟨hob p hp, ?_⟩
      by_cases e : p.1 = ll
      · rw [e]; exact N0.2
      · have hb := big p hp e
        exact ⟨fun e2 => absurd hLs (Nat.not_lt_of_le (e2 ▸ hb)), h0 _ hb⟩
    · rcases List.mem_cons.mp hp with rfl | hp
      · exact ⟨h152, N1.2⟩
      · have Np := N p (.tail _ (.tail _ hp))
        refine ⟨kp _ _ (hideAll_get _ Np.1 fun hb => ?_), Np.2⟩
        have hn := hne p hp
        simp only [List.map_cons, List.map_nil, List.mem_cons, List.not_mem_nil, or_false] at hb
        exact hb.elim hn.1 hn.2
  · intro p hp ha
    obtain ⟨q, hq1, hq2⟩ := List.mem_map.mp (show p.1 ∈ (z.objs w 1 t1 [] 0).map (·.1) from ha)
    have hps : p.1 < s.heap.objs.size := by
      rcases List.mem_cons.mp hp with rfl | hp
      · exact small (152, tabObj #[]) (.tail _ (.head _))
      · exact small _ (.tail _ (.tail _ hp))
    have hpl : p.1 ≠ ll := by
      rcases List.mem_cons.mp hp with rfl | hp
      · exact Ne.symm hll
      · exact (hne p hp).1
    have := big q hq1 (by rw [hq2]; exact hpl)
    rw [hq2] at this
    exact absurd hps (Nat.not_lt_of_le this)
theorem kset58 : True := by
  k_with "call ref" =>
    (with_unfolding_all refine' reader_K (by k_asm) (by k_asm) (by k_asm) (by assumption) (by assumption) (by assumption) (by assumption) ?_; intro h'₉ tk'₉ z'₉ t1'₉ ps'₉ F'₉ N'₉ hz'₉ hzl'₉ hne'₉; (try k_sweep))
  trivial
theorem S6 : ∀ (w : World) (sc : Scope) (st : Stmt) (B h : Heap) (g : Array GenState) (dd : Drawn) (tk : Nat) (os : OsState) (L : Addr) (m : Str → Option Value) (tl : List (Addr × Obj)) (Q : Flow → Shared → Prop)
    (ad au : Nat) (af : Option (List Env)) (ag : Option (List Code)) (mg mb : Str → Option Value) (loose : List Str) (ll : Addr) (mean : ExcName → Option Value)
    (X : (hd.heap_1 w.params).In B) (T : TopRead viewQ loose mg mb B) (hst : stmtIn 5 (bodyIn ((hd.heap_1 w.params).lookup 202)) = some st) (hsc : scopeIn ((hd.heap_1 w.params).lookup 202) = some sc) (hr : ad + 30 < recursionLimit) (hu : au + 200 < cLine)
    (F : Fr B L h m) (N : News B L h ((ll, listOf #[] 0) :: (152, tabObj #[]) :: tl))
    (TT : Top topProg loose mean mg mb B) (hle : m (Str.ofString "left") = some (.ref ll)) (hll : ll ≠ 152) (hne : ∀ p ∈ tl, p.1 ≠ ll ∧ p.1 ≠ 152)
    (hq : ∀ h' tk' m' (z : Lx) t1 ps, Fr B L h' m' → News B L h' (z.objs w 1 t1 [] 0 ++ (152, tabObj ps) :: tl) → z.Ok w → z.ll = ll → (∀ p ∈ (152, tabObj ps) :: tl, p.1 ∉ z.ads) → Agree [Str.ofString "lexer"] m' m → m' (Str.ofString "lexer") = some (.ref z.x2) → Q .next ⟨h', g, dd, tk', os⟩),
    wpAny (model PySem.Challenge.rw_pg0244_01.row.prog w) (Around.deeper { depth := ad, frames := af, guards := ag, units := au } (lawEnv sc L)) (exec st (lawEnv sc L)) Q (fun _ _ => False) ⟨h, g, dd, tk, os⟩ := by
  k_fill
  intro w sc st B h g dd tk os L m tl Q ad au af ag mg mb loose ll mean X T hst hsc hr hu F N TT hle hll hne hq
  refine' law_use (f := fun l => stmtIn 5 l) ?e hst hsc ?_
  case e => k_dflt k_is
  intro e1 e2
  cases e1
  cases e2
  clear hst hsc
  have F1 : Fr B L h (chainOf [Str.ofString "left"] m m) := by rw [← agree_chain Agree.refl]; exact F
  simp only [chainOf, hle] at F1
  clear F
  unfold lawEnv
  have hr15 : ad + 15 < recursionLimit := by omega
  k_steps
  rename (Fr _ _ _ _) => F9
  rename (News _ _ _ _) => N9
  rename (Lx.Ok _ _) => z9
  rename (∀ p ∈ _, _ ∉ _) => e9
  rename (Lx.ll _ = _) => y9
  refine hq _ _ _ _ _ _ F9 N9 z9 y9 e9 ?_ (if_pos rfl)
  walk_at "mine agree"
theorem S7 : ∀ (w : World) (sc : Scope) (st : Stmt) (B h : Heap) (g : Array GenState) (dd : Drawn) (tk : Nat) (os : OsState) (L : Addr) (m : Str → Option Value) (tl : List (Addr × Obj)) (Q : Flow → Shared → Prop)
    (ad au : Nat) (af : Option (List Env)) (ag : Option (List Code)) (mg mb : Str → Option Value) (loose : List Str) (v : Nat)
    (X : (hd.heap_1 w.params).In B) (T : TopRead viewQ loose mg mb B) (hst : stmtIn 6 (bodyIn ((hd.heap_1 w.params).lookup 202)) = some st) (hsc : scopeIn ((hd.heap_1 w.params).lookup 202) = some sc) (hr : ad + 30 < recursionLimit) (hu : au + 200 < cLine)
    (F : Fr B L h m) (N : News B L h (tl))
    (hv : v = 0)
    (hq : ∀ h' tk' m' t, Fr B L h' m' → News B L h' tl → Agree [Str.ofString "row"] m' m → m' (Str.ofString "row") = some (.int 1 t) → Q .next ⟨h', g, dd, tk', os⟩),
    wpAny (model PySem.Challenge.rw_pg0244_01.row.prog w) (Around.deeper { depth := ad, frames := af, guards := ag, units := au } (lawEnv sc L)) (exec st (lawEnv sc L)) Q (fun _ _ => False) ⟨h, g, dd, tk, os⟩ := by
  k_fill
  intro w sc st B h g dd tk os L m tl Q ad au af ag mg mb loose v X T hst hsc hr hu F N hv hq
  refine' law_use (f := fun l => stmtIn 6 l) ?e hst hsc ?_
  case e => k_dflt k_is
  intro e1 e2
  cases e1
  cases e2
  clear hst hsc
  have F1 : Fr B L h (chainOf [] m m) := by rw [← agree_chain Agree.refl]; exact F
  simp only [chainOf] at F1
  clear F
  unfold lawEnv
  have hr15 : ad + 15 < recursionLimit := by omega
  k_steps
  rename (Fr _ _ _ _) => F9
  rename (News _ _ _ _) => N9
  refine hq _ _ _ _ F9 N9 ?_ (if_pos rfl)
  walk_at "mine agree"
end Mine
namespace Mine
open PySem PySem.W PyProof.Rows
theorem flush50 {M : Model} {A : Around} {Q : Flow → Shared → Prop} {E : Value → Shared → Prop} {s : Shared} {env : Env} (h : wpAny M A (execs [] env) Q E s) : wpAny M A (execs [] env) Q E s := by
  k_with_none
  (try (walk1; fail))
  w_top off
  exact h
end Mine
namespace Mine
open PySem PySem.W PyProof.Rows PySem.Calls
set_option maxHeartbeats 1000000
set_option linter.unusedVariables false
theorem kset59 : True := by
  k_with_none
  k_with "mine agree" =>
    repeat (first
      | exact Agree.refl
      | (refine' Agree.set (by first | exact .head _ | exact .tail _ (.head _) | exact .tail _ (.tail _ (.head _))) ?_)
      | (refine' Agree.same (by assumption) ?_))
  k_with "pyIter ref" =>
    refine halt ?_
  k_with "exec For" =>
    refine halt ?_
  k_with "subscriptTail" =>
    first
      | (refine' sub5 (by with_unfolding_all exact News.isList (by assumption) (by (first | assumption | exact .head _ | exact .tail _ (by assumption) | exact .tail _ (.tail _ (by assumption)) | exact .tail _ (.tail _ (.tail _ (by assumption))) | exact .tail _ (.tail _ (.tail _ (.tail _ (by assumption)))) | exact .tail _ (.tail _ (.tail _ (.tail _ (.tail _ (by assumption))))) | exact .tail _ (.tail _ (.tail _ (.tail _ (.tail _ (.tail _ (by assumption)))))) | exact .tail _ (.tail _ (.tail _ (.tail _ (.tail _ (.tail _ (.tail _ (by assumption))))))) | exact .tail _ (.tail _ (.tail _ (.tail _ (.tail _ (.tail _ (.tail _ (.tail _ (by assumption)))))))) | exact .tail _ (.tail _ (.tail _ (.tail _ (.tail _ (.tail _ (.tail _ (.tail _ (.tail _ (by assumption)))))))))))) (by assumption) ?_ (by with_unfolding_all rfl))
      | (refine' sub_pl (by k_asm) (by (first | assumption | exact .head _ | exact .tail _ (by assumption) | exact .tail _ (.tail _ (by assumption)) | exact .tail _ (.tail _ (.tail _ (by assumption))) | exact .tail _ (.tail _ (.tail _ (.tail _ (by assumption)))) | exact .tail _ (.tail _ (.tail _ (.tail _ (.tail _ (by assumption))))) | exact .tail _ (.tail _ (.tail _ (.tail _ (.tail _ (.tail _ (by assumption)))))) | exact .tail _ (.tail _ (.tail _ (.tail _ (.tail _ (.tail _ (.tail _ (by assumption))))))) | exact .tail _ (.tail _ (.tail _ (.tail _ (.tail _ (.tail _ (.tail _ (.tail _ (by assumption)))))))) | exact .tail _ (.tail _ (.tail _ (.tail _ (.tail _ (.tail _ (.tail _ (.tail _ (.tail _ (by assumption))))))))))) (by assumption) (by assumption) ?_ (by with_unfolding_all rfl); intro _)
      | (refine' sub_kind (j := 2) (by k_asm) (by (first | assumption | exact .head _ | exact .tail _ (by assumption) | exact .tail _ (.tail _ (by assumption)) | exact .tail _ (.tail _ (.tail _ (by assumption))) | exact .tail _ (.tail _ (.tail _ (.tail _ (by assumption)))) | exact .tail _ (.tail _ (.tail _ (.tail _ (.tail _ (by assumption))))) | exact .tail _ (.tail _ (.tail _ (.tail _ (.tail _ (.tail _ (by assumption)))))) | exact .tail _ (.tail _ (.tail _ (.tail _ (.tail _ (.tail _ (.tail _ (by assumption))))))) | exact .tail _ (.tail _ (.tail _ (.tail _ (.tail _ (.tail _ (.tail _ (.tail _ (by assumption)))))))) | exact .tail _ (.tail _ (.tail _ (.tail _ (.tail _ (.tail _ (.tail _ (.tail _ (.tail _ (by assumption))))))))))) (by decide) (by decide) rfl (by exact rfl) ?_ (by with_unfolding_all rfl))
      | (refine' sub_kind (j := 3) (by k_asm) (by (first | assumption | exact .head _ | exact .tail _ (by assumption) | exact .tail _ (.tail _ (by assumption)) | exact .tail _ (.tail _ (.tail _ (by assumption))) | exact .tail _ (.tail _ (.tail _ (.tail _ (by assumption)))) | exact .tail _ (.tail _ (.tail _ (.tail _ (.tail _ (by assumption))))) | exact .tail _ (.tail _ (.tail _ (.tail _ (.tail _ (.tail _ (by assumption)))))) | exact .tail _ (.tail _ (.tail _ (.tail _ (.tail _ (.tail _ (.tail _ (by assumption))))))) | exact .tail _ (.tail _ (.tail _ (.tail _ (.tail _ (.tail _ (.tail _ (.tail _ (by assumption)))))))) | exact .tail _ (.tail _ (.tail _ (.tail _ (.tail _ (.tail _ (.tail _ (.tail _ (.tail _ (by assumption))))))))))) (by decide) (by decide) rfl (by exact rfl) ?_ (by with_unfolding_all rfl))
  k_with "binaryOp Div int int" =>
    (refine div16 rfl (by omega) ?_)
  k_with "compareOp NotEq ref ref" =>
    refine halt ?_
  k_with "call ref" =>
    (refine' told_K (by k_asm) (by k_asm) (by k_asm) (by k_asm) (by assumption) ?_ ?_ (by exact LampIn.at (by assumption) (by assumption)) ?_; (· assumption); (· assumption); intro h'₉ tk'₉ a'₉ t1'₉ t2'₉ t3'₉ F'₉ N'₉ kp'₉ p1'₉ p2'₉; clear kp'₉; (try k_sweep))
  trivial
theorem S9 : ∀ (w : World) (sc : Scope) (st : Stmt) (B h : Heap) (g : Array GenState) (dd : Drawn) (tk : Nat) (os : OsState) (L : Addr) (m : Str → Option Value) (tl : List (Addr × Obj)) (Q : Flow → Shared → Prop)
    (ad au : Nat) (af : Option (List Env)) (ag : Option (List Code)) (mg mb : Str → Option Value) (loose : List Str) (lp : Addr) (nl : Nat) (as : Nat → Addr) (oS oP oK oD : Obj) (pl : Addr) (pvs : List Value) (np : Nat) (P : Nat → Nat) (kl : Addr) (ka : Nat → Addr)
    (X : (hd.heap_1 w.params).In B) (T : TopRead viewQ loose mg mb B) (hst : stmtIn 8 (bodyIn ((hd.heap_1 w.params).lookup 202)) = some st) (hsc : scopeIn ((hd.heap_1 w.params).lookup 202) = some sc) (hr : ad + 30 < recursionLimit) (hu : au + 200 < cLine)
    (F : Fr B L h m) (N : News B L h ((L + 1 + 1 + 1 + 1, oS) :: (L + 1 + 1 + 1, oP) :: (L + 1 + 1, oK) :: (L + 1, oD) :: tl))
    (hlm : m (Str.ofString "lamps") = some (.ref lp)) (hlp : (lp, listOf (refs5 as).toArray nl) ∈ tl) (hla : ∀ k < 5, LampIn tl (as k) k (P k)) (dP : oP.data = .cell (some (.ref pl))) (dK : oK.data = .cell (some (.ref kl))) (hpl : (pl, listOf pvs.toArray np) ∈ tl) (hpv : IntsAre pvs (pl5 P)) (hki : KindsIn tl kl ka) (hP : ∀ k < 5, P k < 16)
    (hq : ∀ h' tk' m', Fr B L h' m' → News B L h' ((L + 1 + 1 + 1 + 1, oS) :: (L + 1 + 1 + 1, oP) :: (L + 1 + 1, oK) :: (L + 1, oD) :: tl) → Q .next ⟨h', g, dd, tk', os⟩),
    wpAny (model PySem.Challenge.rw_pg0244_01.row.prog w) (Around.deeper { depth := ad, frames := af, guards := ag, units := au } (lawEnv sc L)) (exec st (lawEnv sc L)) Q (fun _ _ => False) ⟨h, g, dd, tk, os⟩ := by
  k_fill
  intro w sc st B h g dd tk os L m tl Q ad au af ag mg mb loose lp nl as oS oP oK oD pl pvs np P kl ka X T hst hsc hr hu F N hlm hlp hla dP dK hpl hpv hki hP hq
  refine' law_use (f := fun l => stmtIn 8 l) ?e hst hsc ?_
  case e => k_dflt k_is
  intro e1 e2
  cases e1
  cases e2
  clear hst hsc
  have F1 : Fr B L h (chainOf [Str.ofString "lamps"] m m) := by rw [← agree_chain Agree.refl]; exact F
  simp only [chainOf, hlm] at F1
  clear F
  unfold lawEnv
  have hr9 : ad + 9 < recursionLimit := by omega
  obtain ⟨hk1, hk2⟩ := hki
  refine For_invVF F1 rfl rfl ?_
  k_steps
  unfold Halt
  rename (Fr _ _ _ _) => F2
  rename (News _ _ _ _) => N2
  rename (IsRange _ _ _ _ _ _ _ _) => hr1
  refine range_G (L := L) rfl (n := 5) (fun i m' nx => Agree [Str.ofString "k", Str.ofString "lamps"] m' m ∧ m' (Str.ofString "lamps") = some (.ref lp) ∧ nx = (L + 1 + 1 + 1 + 1, oS) :: (L + 1 + 1 + 1, oP) :: (L + 1 + 1, oK) :: (L + 1, oD) :: tl) rfl hr1 (small_one (by omega) (by omega) (by omega) (by omega)) (by decide +kernel) F2 N2 ⟨?_, if_pos rfl, rfl⟩ ?_ ?_
  · walk_at "mine agree"
  · rintro i t m' nx h2 tk2 I oI hi ⟨hA, g1, rfl⟩ hI F3 N3
    rw [Int.zero_add, agree_chain hA] at F3
    simp only [chainOf, g1] at F3
    clear F2 N2
    obtain ⟨v1, v2, v3, v4, q3, hka⟩ := hk2 i hi
    have hla' : LampIn ((I, oI) :: ((L + 1 + 1 + 1 + 1, oS) :: (L + 1 + 1 + 1, oP) :: (L + 1 + 1, oK) :: (L + 1, oD) :: tl)) (as i) i (P i) := let ⟨t1, t2, t3, e⟩ := hla i hi; ⟨t1, t2, t3, .tail _ (.tail _ (.tail _ (.tail _ (.tail _ e))))⟩
    have hPi := hP i hi
    k_steps
    unfold Halt
    rename (Fr _ _ _ _) => F4
    rename (News _ _ _ _) => N4
    refine told_ne N4 (.tail _ (.head _)) (.head _) hi hPi (by assumption) (by assumption) (Nat.succ_pos _) q3 (booked X T.nolimit F4.keep) (by unfold Around.deeper; dsimp only; omega) ?_
    k_steps
    refine TurnE.next F4 N4 (.tail _ (.tail _ (.head _))) (fun p hp => ⟨.tail _ (.tail _ (.tail _ hp)), hI p hp⟩) ⟨?_, rfl, rfl⟩
    walk_at "mine agree"
  · rintro m' nx h2 tk2 ⟨hA, g1, rfl⟩ F3 N3
    exact hq _ _ _ F3 N3
end Mine
namespace Mine
open PySem PySem.W PyProof.Rows
theorem flush51 {M : Model} {A : Around} {Q : Flow → Shared → Prop} {E : Value → Shared → Prop} {s : Shared} {env : Env} (h : wpAny M A (execs [] env) Q E s) : wpAny M A (execs [] env) Q E s := by
  k_with_none
  (try (walk1; fail))
  w_top off
  exact h
end Mine
namespace Mine
open PySem PySem.W PyProof.Rows PySem.Calls
set_option maxHeartbeats 1000000
set_option linter.unusedVariables false
/-- the lexer's law: words between blanks -/
noncomputable def Plain (w : List Nat) : Prop := ∀ x ∈ w, isWs x = false ∧ x ≠ 34 ∧ x ≠ 92
noncomputable def lay : List (List Nat × List Nat) → List Nat
  | [] => []
  | (w, s) :: r => w ++ s ++ lay r
noncomputable def GoodL : List (List Nat × List Nat) → Prop
  | [] => True
  | (w, s) :: r => w ≠ [] ∧ Plain w ∧ (∀ x ∈ s, isWs x = true) ∧ (s = [] → r = []) ∧ GoodL r
noncomputable def n10 (l : List Nat) : Int := (l.count 10 : Nat)
theorem n10_nil : n10 [] = 0 := rfl
theorem n10_append (a b : List Nat) : n10 (a ++ b) = n10 a + n10 b := by unfold n10; rw [List.count_append]; omega
theorem n10_cons (c : Nat) (l : List Nat) (line : Int) : nl1 line c + n10 l = line + n10 (c :: l) := by
  unfold nl1 n10
  rw [List.count_cons]
  by_cases h : c = 10
  · rw [if_pos h, h]; simp; omega
  · rw [if_neg h]; simp [h]
theorem n10_plain : ∀ w : List Nat, Plain w → n10 w = 0
  | [], _ => rfl
  | c :: w, h => by
    have hc := (h c (.head _)).1
    have : c ≠ 10 := fun e => by subst e; cases hc
    have ih := n10_plain w fun x hx => h x (.tail _ hx)
    unfold n10 at ih ⊢
    rw [List.count_cons]
    simp only [beq_iff_eq, if_neg this]
    omega
theorem sTok_skip : ∀ (s r : List Nat) (line : Int), (∀ x ∈ s, isWs x = true) → sTok line (s ++ r) = sTok (line + n10 s) r
  | [], r, line, _ => by rw [List.nil_append, n10_nil, Int.add_zero]
  | c :: s, r, line, h => by
    rw [List.cons_append, sTok, if_pos (h c (.head _)), sTok_skip s r _ fun x hx => h x (.tail _ hx), n10_cons]
theorem wTok_plain : ∀ (u acc r : List Nat) (line : Int), Plain u → wTok acc line (u ++ r) = wTok (acc ++ u) line r
  | [], acc, r, line, _ => by rw [List.nil_append, List.append_nil]
  | c :: u, acc, r, line, h => by
    obtain ⟨h1, h2, h3⟩ := h c (.head _)
    have h10 : c ≠ 10 := fun e => by subst e; cases h1
    have e1 : nl1 line c = line := by unfold nl1; rw [if_neg h10]
    rw [List.cons_append, wTok_o acc line c _ h1 h3, e1, wTok_plain u _ r line fun x hx => h x (.tail _ hx), List.append_assoc]
    rfl
theorem sTok_word (w r : List Nat) (line : Int) (hw : w ≠ []) (hp : Plain w) : sTok line (w ++ r) = wTok w line r := by
  cases w with
  | nil => exact absurd rfl hw
  | cons c u =>
    obtain ⟨h1, h2, h3⟩ := hp c (.head _)
    have h10 : c ≠ 10 := fun e => by subst e; cases h1
    have e1 : nl1 line c = line := by unfold nl1; rw [if_neg h10]
    rw [List.cons_append, sTok, if_neg (by rw [h1]; exact Bool.false_ne_true), if_neg h2, if_neg h3, e1, wTok_plain u [c] r line fun x hx => hp x (.tail _ hx)]
    rfl
theorem wTok_nil (acc : List Nat) (line : Int) : wTok acc line [] = (acc, [], line) := by simp only [wTok]
theorem Lexes.go {tok t r cs cs' : List Nat} {line l line' : Int} {ts : List (List Nat)} (ht : tok ≠ []) (e : sTok line cs = (t, r, l)) (h : Lexes t l r ts line' cs') : Lexes tok line cs (t :: ts) line' cs' := by
  have x := Lexes.step (line := line) (cs := cs) (ts := ts) (line' := line') (cs' := cs') ht (by rw [e]; exact h)
  rw [e] at x
  exact x
theorem sTok_lay (w s r s0 : List Nat) (line : Int) (hw : w ≠ []) (hp : Plain w) (hs : ∀ x ∈ s, isWs x = true) (h0 : ∀ x ∈ s0, isWs x = true) (hsr : s = [] → r = []) : sTok line (s0 ++ (w ++ s ++ r)) = (w, s.tail ++ r, line + n10 s0 + n10 (s.take 1)) := by
  rw [sTok_skip s0 _ line h0, List.append_assoc, sTok_word w _ _ hw hp]
  cases s with
  | nil => rw [hsr rfl, List.nil_append, wTok_nil]; simp [n10]
  | cons c s =>
    rw [List.cons_append, wTok_q _ _ _ _ (hs c (.head _)), List.tail_cons, List.take_succ_cons, List.take_zero]
    have := n10_cons c [] (line + n10 s0)
    rw [n10_nil, Int.add_zero] at this
    rw [this]
theorem n10_take (s : List Nat) : n10 (s.take 1) + n10 s.tail = n10 s := by
  rw [← n10_append]
  cases s <;> rfl
theorem lex_lay : ∀ (items : List (List Nat × List Nat)) (s0 tok : List Nat) (line : Int), GoodL items → (∀ x ∈ s0, isWs x = true) → tok ≠ [] → Lexes tok line (s0 ++ lay items) (items.map (·.1) ++ [[]]) (line + n10 (s0 ++ lay items)) []
  | [], s0, tok, line, _, h0, ht => by
    have e : sTok line (s0 ++ lay []) = ([], [], line + n10 s0) := by
      rw [sTok_skip s0 _ line h0]; simp only [lay, sTok]
    have e2 : n10 (s0 ++ lay []) = n10 s0 := by rw [show lay [] = [] from rfl, List.append_nil]
    rw [e2]
    exact Lexes.go ht e .stop
  | (w, s) :: r, s0, tok, line, ⟨g1, g2, g3, g4, g5⟩, h0, ht => by
    have hr : s = [] → lay r = [] := fun e => by rw [g4 e]; rfl
    have e := sTok_lay w s (lay r) s0 line g1 g2 g3 h0 hr
    have ih := lex_lay r s.tail w (line + n10 s0 + n10 (s.take 1)) g5 (fun x hx => g3 x (List.mem_of_mem_tail hx)) g1
    have en : line + n10 s0 + n10 (s.take 1) + n10 (s.tail ++ lay r) = line + n10 (s0 ++ lay ((w, s) :: r)) := by
      have := n10_take s
      have hw := n10_plain w g2
      show _ = line + n10 (s0 ++ (w ++ s ++ lay r))
      rw [n10_append, n10_append, n10_append, n10_append]
      omega
    rw [en] at ih
    exact Lexes.go ht e ih
theorem first_lay (w s : List Nat) (r : List (List Nat × List Nat)) (line : Int) (hg : GoodL ((w, s) :: r)) : (sTok line (lay ((w, s) :: r))).1 = w ∧ Lexes w (sTok line (lay ((w, s) :: r))).2.2 (sTok line (lay ((w, s) :: r))).2.1 (r.map (·.1) ++ [[]]) (line + n10 (lay ((w, s) :: r))) [] := by
  obtain ⟨g1, g2, g3, g4, g5⟩ := hg
  have e := sTok_lay w s (lay r) [] line g1 g2 g3 (fun x h => nomatch h) fun e => by rw [g4 e]; rfl
  rw [List.nil_append, n10_nil, Int.add_zero] at e
  show (sTok line (w ++ s ++ lay r)).1 = w ∧ Lexes w (sTok line (w ++ s ++ lay r)).2.2 (sTok line (w ++ s ++ lay r)).2.1 _ (line + n10 (w ++ s ++ lay r)) []
  rw [e]
  refine ⟨rfl, ?_⟩
  have ih := lex_lay r s.tail w (line + n10 (s.take 1)) g5 (fun x hx => g3 x (List.mem_of_mem_tail hx)) g1
  have en : line + n10 (s.take 1) + n10 (s.tail ++ lay r) = line + n10 (w ++ s ++ lay r) := by
    have := n10_take s
    have hw := n10_plain w g2
    rw [n10_append, n10_append, n10_append]
    omega
  rw [en] at ih
  exact ih
/-- a text with neither quotes nor backslashes nor line ends, quoted; and with each sign escaped -/
theorem qTok_all : ∀ (u acc : List Nat) (line : Int), (∀ x ∈ u, x ≠ 34 ∧ x ≠ 92 ∧ x ≠ 10) → qTok acc line (u ++ [34]) = (acc ++ u, [], line)
  | [], acc, line, _ => by rw [List.nil_append, qTok_q _ _ _ _ rfl, List.append_nil]; rfl
  | c :: u, acc, line, h => by
    obtain ⟨h1, h2, h3⟩ := h c (.head _)
    have e1 : nl1 line c = line := by unfold nl1; rw [if_neg h3]
    rw [List.cons_append, qTok_o acc line c _ h1 h2, e1, qTok_all u _ line fun x hx => h x (.tail _ hx), List.append_assoc]; rfl
theorem quoted_lex (u : List Nat) (line : Int) (h : ∀ x ∈ u, x ≠ 34 ∧ x ≠ 92 ∧ x ≠ 10) : sTok line (34 :: (u ++ [34])) = (u, [], line) := by
  rw [sTok, if_neg (by decide), if_pos rfl]
  have e1 : nl1 line 34 = line := rfl
  rw [e1, qTok_all u [] line h, List.nil_append]
noncomputable def esc : List Nat → List Nat
  | [] => []
  | c :: r => 92 :: c :: esc r
theorem wTok_esc : ∀ (u acc : List Nat) (line : Int), (∀ x ∈ u, x ≠ 10) → wTok acc line (esc u) = (acc ++ u, [], line)
  | [], acc, line, _ => by rw [esc, wTok_nil, List.append_nil]
  | c :: u, acc, line, h => by
    have h3 := h c (.head _)
    have e1 : nl1 line c = line := by unfold nl1; rw [if_neg h3]
    have e2 : nl1 line 92 = line := rfl
    rw [esc, wTok_e acc line 92 _ rfl rfl, List.take_succ_cons, List.take_zero, nlOf_cons, List.tail_cons, e2, e1, wTok_esc u _ line fun x hx => h x (.tail _ hx), List.append_assoc]; rfl
theorem esc_lex (u : List Nat) (line : Int) (hu : u ≠ []) (h : ∀ x ∈ u, x ≠ 10) : sTok line (esc u) = (u, [], line) := by
  cases u with
  | nil => exact absurd rfl hu
  | cons c u =>
    have h3 := h c (.head _)
    have e1 : nl1 line c = line := by unfold nl1; rw [if_neg h3]
    have e2 : nl1 line 92 = line := rfl
    rw [esc, sTok, if_neg (by decide), if_neg (by decide), if_pos rfl, List.take_succ_cons, List.take_zero, nlOf_cons, List.tail_cons, e2, e1, wTok_esc u [c] line fun x hx => h x (.tail _ hx)]; rfl
theorem lex_one (u : List Nat) (line : Int) (hu : u ≠ []) : Lexes u line [] [[]] line [] := Lexes.go hu (by simp only [sTok]) .stop
end Mine
namespace Mine
open PySem PySem.W PyProof.Rows
theorem flush52 {M : Model} {A : Around} {Q : Flow → Shared → Prop} {E : Value → Shared → Prop} {s : Shared} {env : Env} (h : wpAny M A (execs [] env) Q E s) : wpAny M A (execs [] env) Q E s := by
  k_with_none
  (try (walk1; fail))
  w_top off
  exact h
end Mine
namespace Mine
open PySem PySem.W PyProof.Rows PySem.Calls
set_option maxHeartbeats 1000000
set_option linter.unusedVariables false
/-- a text's signs -/
noncomputable abbrev cp (x : Str) : List Nat := x.cps.toList
theorem txt_cp (x : Str) : txt (cp x) = x := rfl
theorem cp_txt (l : List Nat) : cp (txt l) = l := rfl
theorem cp_app (a b : Str) : cp (a ++ b) = cp a ++ cp b := Array.toList_append
theorem cp_inj {a b : Str} (h : cp a = cp b) : a = b := by
  cases a with | mk a => cases b with | mk b =>
    have : a = b := Array.toList_inj.mp h
    rw [this]
/-- the words between blanks -/
noncomputable def Dark (w : List Nat) : Prop := ∀ x ∈ w, Unicode.isSpace x = false
noncomputable def GoodU : List (List Nat × List Nat) → Prop
  | [] => True
  | (w, s) :: r => w ≠ [] ∧ Dark w ∧ (∀ x ∈ s, Unicode.isSpace x = true) ∧ (s = [] → r = []) ∧ GoodU r
theorem fold_blank : ∀ (s : List Nat) (ws : List Str), (∀ x ∈ s, Unicode.isSpace x = true) → s.foldl KWd.step (ws, Str.empty) = (ws, Str.empty)
  | [], _, _ => rfl
  | c :: s, ws, h => by
    have e : KWd.step (ws, Str.empty) c = (ws, Str.empty) := by unfold KWd.step; rw [if_pos (h c (.head _))]; rfl
    rw [List.foldl_cons, e, fold_blank s ws fun x hx => h x (.tail _ hx)]
theorem fold_lay : ∀ (items : List (List Nat × List Nat)) (ws : List Str), GoodU items → KWd.fin ((lay items).foldl KWd.step (ws, Str.empty)) = ws ++ items.map fun p => txt p.1
  | [], ws, _ => by show KWd.fin (ws, Str.empty) = _; simp [KWd.fin, Str.empty, Str.length]
  | (w, s) :: r, ws, ⟨g1, g2, g3, g4, g5⟩ => by
    have hw : w.all (fun c => !Unicode.isSpace c) = true := List.all_eq_true.mpr fun x hx => by rw [g2 x hx]; rfl
    have e0 : Str.empty ++ ⟨w.toArray⟩ = txt w := cp_inj (by rw [cp_app]; rfl)
    have hl : (txt w).length ≠ 0 := fun e => g1 (by
      have : w.toArray.size = 0 := e
      simpa using this)
    show KWd.fin ((w ++ s ++ lay r).foldl KWd.step (ws, Str.empty)) = _
    rw [List.foldl_append, List.foldl_append, KWk.fold_plain w Str.empty hw, e0]
    cases s with
    | nil =>
      rw [g4 rfl]
      show KWd.fin (ws, txt w) = _
      unfold KWd.fin
      rw [if_neg hl]; rfl
    | cons c s =>
      have e : KWd.step (ws, txt w) c = (ws ++ [txt w], Str.empty) := by
        unfold KWd.step
        rw [if_pos (g3 c (.head _)), if_neg hl]
      rw [List.foldl_cons, e, fold_blank s _ (fun x hx => g3 x (.tail _ hx)), fold_lay r _ g5, List.append_assoc]
      rfl
theorem words_lay (items : List (List Nat × List Nat)) (x : Str) (hx : cp x = lay items) (h : GoodU items) : Txt.words x = items.map fun p => txt p.1 := by
  rw [KWd.words_scan]
  unfold KWd.scan
  rw [show x.cps.toList = lay items from hx, fold_lay items [] h, List.nil_append]
/-- a sign replaced -/
noncomputable def repl (c : Nat) (z : List Nat) : List Nat → List Nat
  | [] => []
  | k :: r => (if k = c then z else [k]) ++ repl c z r
theorem repl_app (c : Nat) (z : List Nat) : ∀ a b : List Nat, repl c z (a ++ b) = repl c z a ++ repl c z b
  | [], _ => rfl
  | k :: r, b => by rw [List.cons_append, repl, repl, repl_app c z r b, List.append_assoc]
theorem repl_free (c : Nat) (z : List Nat) : ∀ l : List Nat, c ∉ l → repl c z l = l
  | [], _ => rfl
  | k :: r, h => by
    have hk : ¬ k = c := fun e => h (by rw [e]; exact List.mem_cons_self ..)
    rw [repl, if_neg hk, repl_free c z r fun m => h (List.mem_cons_of_mem _ m)]; rfl
theorem repl_join (c : Nat) (z : Str) : ∀ parts : List Str, (∀ p ∈ parts, c ∉ cp p) → repl c (cp z) (cp (Str.join ⟨#[c]⟩ parts)) = cp (Str.join z parts)
  | [], _ => rfl
  | [p], h => repl_free c _ _ (h p (List.mem_singleton.mpr rfl))
  | p :: q :: r, h => by
    have ih := repl_join c z (q :: r) fun a ha => h a (List.mem_cons_of_mem _ ha)
    show repl c (cp z) (cp (p ++ ⟨#[c]⟩ ++ Str.join ⟨#[c]⟩ (q :: r))) = cp (p ++ z ++ Str.join z (q :: r))
    rw [cp_app, cp_app, cp_app, cp_app, repl_app, repl_app, ih, repl_free c _ _ (h p (List.mem_cons_self ..))]
    show cp p ++ repl c (cp z) [c] ++ _ = _
    rw [repl, if_pos rfl]
    simp [repl]
theorem replace_cp (x z : Str) (c : Nat) : cp (Txt.replace x ⟨#[c]⟩ z) = repl c (cp z) (cp x) := by
  rw [StrLaws.replace_one, ← repl_join c z _ (StrLaws.split_free x c), StrLaws.join_split]
theorem count_cp (x : Str) : Txt.count x (Str.ofString "\n") = n10 (cp x) := by
  have e : Str.ofString "\n" = ⟨#[10]⟩ := by decide
  rw [e, count_cnt]
  have : ∀ l : List Nat, PyProof.Rows.cnt 10 l = n10 l := fun l => by
    induction l with
    | nil => rfl
    | cons c l ih =>
      have := n10_cons c l 0
      rw [cnt_cons, ih]
      unfold nl1 at this
      split at this <;> rename_i h
      · rw [if_pos h]; omega
      · rw [if_neg h]; omega
  exact this _
theorem join_tx (sep : Str) (l : List Str) : Txt.join sep l = Str.join sep l := eq_of_beq (join_plain_closes _ _)
theorem esc_cp : ∀ u : List Nat, cp (Str.join (Str.ofString "") ((u.map fun c => (⟨#[c]⟩ : Str)).map fun a => Str.ofString "\\" ++ a)) = esc u
  | [] => rfl
  | [c] => rfl
  | c :: d :: r => by
    have ih := esc_cp (d :: r)
    show cp ((Str.ofString "\\" ++ ⟨#[c]⟩) ++ Str.ofString "" ++ Str.join (Str.ofString "") (((d :: r).map fun c => (⟨#[c]⟩ : Str)).map fun a => Str.ofString "\\" ++ a)) = _
    rw [cp_app, cp_app, ih]
    rfl
end Mine
namespace Mine
open PySem PySem.W PyProof.Rows
theorem flush53 {M : Model} {A : Around} {Q : Flow → Shared → Prop} {E : Value → Shared → Prop} {s : Shared} {env : Env} (h : wpAny M A (execs [] env) Q E s) : wpAny M A (execs [] env) Q E s := by
  k_with_none
  (try (walk1; fail))
  w_top off
  exact h
end Mine
namespace Mine
open PySem PySem.W PyProof.Rows PySem.Calls
set_option maxHeartbeats 1000000
set_option linter.unusedVariables false
/-- a number's figures; the words of a report, laid with blanks -/
noncomputable def nC (n : Nat) : List Nat := cp (numT n)
theorem nC_ok : ∀ n < 24, nC n ≠ [] ∧ (nC n).all (fun c => decide (48 ≤ c) && decide (c ≤ 57)) = true := by decide +kernel
noncomputable def numIt (σ ε : List Nat) : List Nat → List (List Nat × List Nat)
  | [] => []
  | [n] => [(nC n, ε)]
  | n :: k :: r => (nC n ++ [44], σ) :: numIt σ ε (k :: r)
noncomputable def szC (ns : List Nat) : List Nat := if 1 < ns.length then cp (Str.ofString "sizes") else cp (Str.ofString "size")
noncomputable def repIt (σ ε : List Nat) (ns : List Nat) : List (List Nat × List Nat) := (cp (Str.ofString "at"), σ) :: (cp (Str.ofString "tab"), σ) :: (szC ns, if ns = [] then σ ++ ε else σ) :: numIt σ ε ns
theorem nums_cp (σ ε : List Nat) : ∀ ns : List Nat, (∀ n ∈ ns, n < 24) → ns ≠ [] → lay (numIt σ ε ns) = repl 32 σ (cp (Str.join (Str.ofString ", ") (ns.map numT))) ++ ε
  | [], _, h => absurd rfl h
  | [n], h, _ => by
    have hn := (nC_ok n (h n (.head _))).2
    show nC n ++ ε ++ [] = repl 32 σ (nC n) ++ ε
    rw [List.append_nil, repl_free]
    intro h32
    have := List.all_eq_true.mp hn 32 h32
    revert this; decide
  | n :: k :: r, h, _ => by
    have hn := (nC_ok n (h n (.head _))).2
    have ih := nums_cp σ ε (k :: r) (fun x hx => h x (.tail _ hx)) (List.cons_ne_nil _ _)
    show nC n ++ [44] ++ σ ++ lay (numIt σ ε (k :: r)) = repl 32 σ (cp (numT n ++ Str.ofString ", " ++ Str.join (Str.ofString ", ") ((k :: r).map numT))) ++ ε
    have e1 : cp (Str.ofString ", ") = [44, 32] := by decide
    rw [ih, cp_app, cp_app, e1, repl_app, repl_app, repl_free 32 σ (cp (numT n))]
    · simp [repl, nC]
    · intro h32
      have := List.all_eq_true.mp hn 32 h32
      revert this; decide
theorem rep_cp (σ ε ns : List Nat) (h : ∀ n ∈ ns, n < 24) : lay (repIt σ ε ns) = repl 32 σ (cp (repTxt ns)) ++ ε := by
  have e0 : cp (repTxt ns) = cp (Str.ofString "at") ++ [32] ++ cp (Str.ofString "tab") ++ [32] ++ szC ns ++ [32] ++ cp (Str.join (Str.ofString ", ") (ns.map numT)) := by
    unfold repTxt szC
    rw [join_tx, cp_app, cp_app]
    split
    · have : cp (Str.ofString "at tab sizes") = cp (Str.ofString "at") ++ [32] ++ cp (Str.ofString "tab") ++ [32] ++ cp (Str.ofString "sizes") := by decide
      rw [this]; rfl
    · have : cp (Str.ofString "at tab size") = cp (Str.ofString "at") ++ [32] ++ cp (Str.ofString "tab") ++ [32] ++ cp (Str.ofString "size") := by decide
      rw [this]; rfl
  have e1 : repl 32 σ (cp (Str.ofString "at")) = cp (Str.ofString "at") := repl_free _ _ _ (by decide)
  have e2 : repl 32 σ (cp (Str.ofString "tab")) = cp (Str.ofString "tab") := repl_free _ _ _ (by decide)
  have e3 : repl 32 σ (szC ns) = szC ns := repl_free _ _ _ (by unfold szC; split <;> decide)
  have e4 : repl 32 σ [32] = σ := by simp [repl]
  rw [e0]
  simp only [repl_app, e1, e2, e3, e4]
  by_cases hn : ns = []
  · subst hn
    simp [repIt, lay, numIt, repl, Str.join, cp, Str.empty]
  · have := nums_cp σ ε ns h hn
    simp only [repIt, lay, if_neg hn, this, List.append_assoc]
theorem fig {c : Nat} (h : decide (48 ≤ c) = true ∧ decide (c ≤ 57) = true) : isWs c = false ∧ c ≠ 34 ∧ c ≠ 92 ∧ c ≠ 10 ∧ c ≠ 32 ∧ c < 128 ∧ Unicode.isSpace c = false := by
  have h1 := of_decide_eq_true h.1
  have h2 := of_decide_eq_true h.2
  have key : ∀ c < 58, 48 ≤ c → isWs c = false ∧ c ≠ 34 ∧ c ≠ 92 ∧ c ≠ 10 ∧ c ≠ 32 ∧ c < 128 ∧ Unicode.isSpace c = false := by decide +kernel
  exact key c (by omega) h1
noncomputable def Letters (w : List Nat) : Prop := w ≠ [] ∧ ∀ c ∈ w, isWs c = false ∧ c ≠ 34 ∧ c ≠ 92 ∧ c ≠ 10 ∧ c ≠ 32 ∧ c < 128 ∧ Unicode.isSpace c = false
theorem letters_nC {n : Nat} (h : n < 24) : Letters (nC n) := ⟨(nC_ok n h).1, fun c hc => fig (by
  have := List.all_eq_true.mp (nC_ok n h).2 c hc
  simpa using this)⟩
theorem letters_44 {n : Nat} (h : n < 24) : Letters (nC n ++ [44]) := ⟨by simp, fun c hc => by
  rcases List.mem_append.mp hc with hc | hc
  · exact (letters_nC h).2 c hc
  · rw [List.mem_singleton.mp hc]; decide +kernel⟩
theorem letters_fix : Letters (cp (Str.ofString "at")) ∧ Letters (cp (Str.ofString "tab")) ∧ Letters (cp (Str.ofString "size")) ∧ Letters (cp (Str.ofString "sizes")) := by
  have key : ∀ w : List Nat, (w ≠ [] ∧ w.all (fun c => !isWs c && c != 34 && c != 92 && c != 10 && c != 32 && decide (c < 128) && !Unicode.isSpace c) = true) → Letters w := fun w h => ⟨h.1, fun c hc => by
    have := List.all_eq_true.mp h.2 c hc
    simpa [and_assoc] using this⟩
  exact ⟨key _ (by decide +kernel), key _ (by decide +kernel), key _ (by decide +kernel), key _ (by decide +kernel)⟩
theorem letters_sz (ns : List Nat) : Letters (szC ns) := by
  unfold szC; split
  · exact letters_fix.2.2.2
  · exact letters_fix.2.2.1
/-- all items' words are letters, their blanks blank, and only the last may lack a blank -/
noncomputable def Ok3 (B : Nat → Prop) : List (List Nat × List Nat) → Prop
  | [] => True
  | (w, s) :: r => Letters w ∧ (∀ x ∈ s, B x) ∧ (s = [] → r = []) ∧ Ok3 B r
theorem numIt_ok {B : Nat → Prop} {σ ε : List Nat} (hσ : σ ≠ []) (h1 : ∀ x ∈ σ, B x) (h2 : ∀ x ∈ ε, B x) : ∀ ns : List Nat, (∀ n ∈ ns, n < 24) → Ok3 B (numIt σ ε ns)
  | [], _ => trivial
  | [n], h => ⟨letters_nC (h n (.head _)), h2, fun _ => rfl, trivial⟩
  | n :: k :: r, h => ⟨letters_44 (h n (.head _)), h1, fun e => absurd e hσ, numIt_ok hσ h1 h2 (k :: r) fun x hx => h x (.tail _ hx)⟩
theorem repIt_ok {B : Nat → Prop} {σ ε : List Nat} (hσ : σ ≠ []) (h1 : ∀ x ∈ σ, B x) (h2 : ∀ x ∈ ε, B x) (ns : List Nat) (h : ∀ n ∈ ns, n < 24) : Ok3 B (repIt σ ε ns) := by
  refine ⟨letters_fix.1, h1, fun e => absurd e hσ, letters_fix.2.1, h1, fun e => absurd e hσ, letters_sz ns, ?_, ?_, numIt_ok hσ h1 h2 ns h⟩
  · intro x hx
    split at hx
    · exact (List.mem_append.mp hx).elim (h1 x) (h2 x)
    · exact h1 x hx
  · intro e
    split at e
    · rename_i hn; rw [hn]; rfl
    · exact absurd e hσ
theorem ok_L : ∀ {items : List (List Nat × List Nat)}, Ok3 (fun x => isWs x = true) items → GoodL items
  | [], _ => trivial
  | (w, s) :: r, ⟨g1, g2, g3, g4⟩ => ⟨g1.1, fun x hx => let q := g1.2 x hx; ⟨q.1, q.2.1, q.2.2.1⟩, g2, g3, ok_L g4⟩
theorem ok_U : ∀ {items : List (List Nat × List Nat)}, Ok3 (fun x => Unicode.isSpace x = true) items → GoodU items
  | [], _ => trivial
  | (w, s) :: r, ⟨g1, g2, g3, g4⟩ => ⟨g1.1, fun x hx => (g1.2 x hx).2.2.2.2.2.2, g2, g3, ok_U g4⟩
/-- the report's words -/
noncomputable def repW (ns : List Nat) : List (List Nat) := (repIt [] [] ns).map (·.1)
theorem numIt_map (σ ε : List Nat) : ∀ ns : List Nat, (numIt σ ε ns).map (·.1) = (numIt [] [] ns).map (·.1)
  | [] => rfl
  | [n] => rfl
  | n :: k :: r => congrArg (List.cons (nC n ++ [44])) (numIt_map σ ε (k :: r))
theorem repIt_map (σ ε ns : List Nat) : (repIt σ ε ns).map (·.1) = repW ns := by
  unfold repW repIt
  rw [List.map_cons, List.map_cons, List.map_cons, numIt_map]; rfl
theorem numW_txt : ∀ ns : List Nat, ((numIt [] [] ns).map (·.1)).map txt = numWords ns
  | [] => rfl
  | [n] => rfl
  | n :: k :: r => by
    have ih := numW_txt (k :: r)
    show txt (nC n ++ [44]) :: ((numIt [] [] (k :: r)).map (·.1)).map txt = commaT n :: numWords (k :: r)
    rw [ih]
    congr 1
    exact cp_inj (by unfold commaT; rw [cp_txt, cp_app]; rfl)
theorem repW_drop (ns : List Nat) : ((repW ns).map txt).drop 3 = numWords ns := by
  rw [← numW_txt]; rfl
theorem numIt_len (σ ε : List Nat) : ∀ ns : List Nat, (numIt σ ε ns).length = ns.length
  | [] => rfl
  | [n] => rfl
  | n :: k :: r => congrArg (· + 1) (numIt_len σ ε (k :: r))
theorem repW_len (ns : List Nat) : (repW ns).length = ns.length + 3 := by
  unfold repW repIt
  simp [numIt_len]
end Mine
namespace Mine
open PySem PySem.W PyProof.Rows
theorem flush54 {M : Model} {A : Around} {Q : Flow → Shared → Prop} {E : Value → Shared → Prop} {s : Shared} {env : Env} (h : wpAny M A (execs [] env) Q E s) : wpAny M A (execs [] env) Q E s := by
  k_with_none
  (try (walk1; fail))
  w_top off
  exact h
end Mine
namespace Mine
open PySem PySem.W PyProof.Rows PySem.Calls
set_option maxHeartbeats 1000000
set_option linter.unusedVariables false
theorem repl_id (c : Nat) : ∀ l : List Nat, repl c [c] l = l
  | [] => rfl
  | k :: r => by
    rw [repl, repl_id c r]
    by_cases h : k = c
    · rw [if_pos h, h]; rfl
    · rw [if_neg h]; rfl
theorem lay_all {B : Nat → Prop} {Q : Nat → Prop} (hB : ∀ x, B x → Q x) (hL : ∀ c, (isWs c = false ∧ c ≠ 34 ∧ c ≠ 92 ∧ c ≠ 10 ∧ c ≠ 32 ∧ c < 128 ∧ Unicode.isSpace c = false) → Q c) : ∀ {items : List (List Nat × List Nat)}, Ok3 B items → ∀ x ∈ lay items, Q x
  | [], _, x, h => nomatch h
  | (w, s) :: r, ⟨g1, g2, g3, g4⟩, x, h => by
    rcases List.mem_append.mp (show x ∈ w ++ s ++ lay r from h) with h | h
    · rcases List.mem_append.mp h with h | h
      · exact hL x (g1.2 x h)
      · exact hB x (g2 x h)
    · exact lay_all hB hL g4 x h
theorem rep_lay (ns : List Nat) (h : ∀ n ∈ ns, n < 24) : cp (repTxt ns) = lay (repIt [32] [] ns) := by rw [rep_cp _ _ _ h, repl_id, List.append_nil]
theorem rep_lay2 (ns : List Nat) (h : ∀ n ∈ ns, n < 24) : cp (repTxt ns) ++ [32] = lay (repIt [32] [32] ns) := by rw [rep_cp _ _ _ h, repl_id]
theorem nil_all {B : Nat → Prop} : ∀ x ∈ ([] : List Nat), B x := fun x h => by cases h
theorem b32 : ∀ x ∈ [32], x = 32 := fun x h => List.mem_singleton.mp h
theorem rep_sign (ns : List Nat) (h : ∀ n ∈ ns, n < 24) : ∀ x ∈ cp (repTxt ns), x ≠ 34 ∧ x ≠ 92 ∧ x ≠ 10 ∧ x < 128 := by
  rw [rep_lay ns h]
  exact lay_all (B := fun x => x = 32) (fun x e => by subst e; decide) (fun c q => ⟨q.2.1, q.2.2.1, q.2.2.2.1, q.2.2.2.2.2.1⟩) (repIt_ok (List.cons_ne_nil _ _) b32 nil_all ns h)
theorem rep_ne (ns : List Nat) (h : ∀ n ∈ ns, n < 24) : cp (repTxt ns) ≠ [] := by
  rw [rep_lay ns h]
  intro e
  have := congrArg List.head? e
  revert this
  show (cp (Str.ofString "at") ++ [32] ++ lay _).head? = _ → _
  intro q; cases q
noncomputable def wrC (ns : List Nat) : Nat → List Nat
  | 0 => lay (repIt [32] [] ns)
  | 1 => lay (repIt [10, 9] [32, 10] ns)
  | 2 => 34 :: (cp (repTxt ns) ++ [34])
  | _ + 3 => esc (cp (repTxt ns))
theorem wr_cp (ns : List Nat) (h : ∀ n ∈ ns, n < 24) (way : Nat) : cp (wrTxt (repTxt ns) way) = wrC ns way := by
  match way with
  | 0 => exact rep_lay ns h
  | 1 =>
    show cp (Txt.replace (repTxt ns) (Str.ofString " ") (Str.ofString "\n\t") ++ Str.ofString " \n") = lay (repIt [10, 9] [32, 10] ns)
    have e1 : Str.ofString " " = ⟨#[32]⟩ := by decide
    have e2 : cp (Str.ofString "\n\t") = [10, 9] := by decide
    have e3 : cp (Str.ofString " \n") = [32, 10] := by decide
    rw [cp_app, e1, replace_cp, e2, e3, rep_cp _ _ _ h]
  | 2 =>
    show cp (Str.ofString "\"" ++ repTxt ns ++ Str.ofString "\"") = _
    have e1 : cp (Str.ofString "\"") = [34] := by decide
    rw [cp_app, cp_app, e1]; rfl
  | n + 3 =>
    show cp (Txt.join (Str.ofString "") ((signs (repTxt ns)).map fun a => Str.ofString "\\" ++ a)) = esc (cp (repTxt ns))
    rw [join_tx, ← esc_cp]
    rfl
theorem words_rep (ns : List Nat) (h : ∀ n ∈ ns, n < 24) : Txt.words (repTxt ns) = (repW ns).map txt := by
  rw [words_lay _ _ (rep_lay ns h) (ok_U (repIt_ok (List.cons_ne_nil _ _) (by decide +kernel) nil_all ns h)), ← repIt_map [32] [] ns, List.map_map]; rfl
/-- words joined by blanks -/
noncomputable def spaced (ws : List (List Nat)) : List (List Nat × List Nat) := ws.map fun w => (w, [32])
theorem join_spaced : ∀ ws : List (List Nat), cp (Str.join (Str.ofString " ") (ws.map txt ++ [txt []])) = lay (spaced ws)
  | [] => rfl
  | w :: ws => by
    have ih := join_spaced ws
    have e1 : cp (Str.ofString " ") = [32] := by decide
    have : ∀ (x : Str) (l : List Str), l ≠ [] → Str.join (Str.ofString " ") (x :: l) = x ++ Str.ofString " " ++ Str.join (Str.ofString " ") l := fun x l hl => by
      cases l with
      | nil => exact absurd rfl hl
      | cons y l => rfl
    show cp (Str.join (Str.ofString " ") (txt w :: (ws.map txt ++ [txt []]))) = w ++ [32] ++ lay (spaced ws)
    rw [this _ _ (by simp), cp_app, cp_app, ih, e1]
    rfl
theorem spaced_ok : ∀ {items : List (List Nat × List Nat)} {B : Nat → Prop}, Ok3 B items → Ok3 (fun x => Unicode.isSpace x = true) (spaced (items.map (·.1)))
  | [], _, _ => trivial
  | (w, s) :: r, _, ⟨g1, g2, g3, g4⟩ => ⟨g1, (by decide +kernel), fun e => absurd e (List.cons_ne_nil _ _), spaced_ok g4⟩
theorem spaced_len : ∀ items : List (List Nat × List Nat), (lay (spaced (items.map (·.1)))).length ≤ (lay items).length + items.length
  | [] => Nat.le_refl _
  | (w, s) :: r => by
    have ih := spaced_len r
    show (w ++ [32] ++ lay (spaced (r.map fun (p : List Nat × List Nat) => p.1))).length ≤ (w ++ s ++ lay r).length + (r.length + 1)
    simp only [List.length_append, List.length_cons, List.length_nil]
    omega
theorem sum_len : ∀ (items : List (List Nat × List Nat)), ((items.map fun (p : List Nat × List Nat) => txt p.1).map Str.length).sum ≤ (lay items).length
  | [] => Nat.le_refl _
  | (w, s) :: r => by
    have ih := sum_len r
    have hw : (txt w).length = w.length := by show w.toArray.size = _; simp
    show (txt w).length + ((r.map fun (p : List Nat × List Nat) => txt p.1).map Str.length).sum ≤ (w ++ s ++ lay r).length
    simp only [List.length_append]
    omega
theorem foldl_len : ∀ (l : List Str) (a : Nat), l.foldl (fun n x => n + x.length + 1) a = a + (l.map Str.length).sum + l.length
  | [], a => rfl
  | x :: l, a => by
    rw [List.foldl_cons, foldl_len l, List.map_cons, List.sum_cons, List.length_cons]; omega
theorem joinOk_of (l : List Str) (h : (l.map Str.length).sum + l.length ≤ sizeLine) : JoinOk (Str.ofString " ") l = true := by
  unfold JoinOk
  have e : (l.toArray.foldl (fun n x => n + x.length + (Str.ofString " ").length) 0) = 0 + (l.map Str.length).sum + l.length := by
    rw [List.foldl_toArray]; exact foldl_len l 0
  rw [e]
  unfold Builtin.Str.tooLong
  simp only [Bool.not_eq_true', decide_eq_false_iff_not]
  omega
/-- what a turn's lexing and reading come to -/
structure TurnLaw (ns : List Nat) (way : Nat) (line : Int) (cs tok : List Nat) (ts : List (List Nat)) : Prop where
  first : (sTok line cs).1 = tok
  lex : Lexes tok (sTok line cs).2.2 (sTok line cs).2.1 ts (line + n10 cs) []
  hi : 1 < way → (tok :: ts).map txt = [repTxt ns] ++ [Str.ofString ""]
  lo : way ≤ 1 → (tok :: ts).map txt = Txt.words (repTxt ns) ++ [Str.ofString ""]
  len : (tok :: ts).length < 900
  wd : (Txt.words (Txt.join (Str.ofString " ") ((tok :: ts).map txt))).drop 3 = numWords ns
  wl : (Txt.words (Txt.join (Str.ofString " ") ((tok :: ts).map txt))).length < 1000
  jo : JoinOk (Str.ofString " ") ((tok :: ts).map txt) = true
  jl : (Txt.join (Str.ofString " ") ((tok :: ts).map txt)).length + 2 ≤ sizeLine
theorem len_cp (x : Str) : x.length = (cp x).length := by show x.cps.size = x.cps.toList.length; simp
theorem tl_lo {ns : List Nat} {σ ε : List Nat} {way : Nat} {line : Int} (h : ∀ n ∈ ns, n < 24) (hn : ns.length < 40) (hw : way ≤ 1) (hσ : σ ≠ []) (h1 : ∀ x ∈ σ, isWs x = true) (h2 : ∀ x ∈ ε, isWs x = true) : ∃ tok ts, TurnLaw ns way line (lay (repIt σ ε ns)) tok ts := by
  have hg := ok_L (repIt_ok hσ h1 h2 ns h)
  obtain ⟨f1, f2⟩ := first_lay _ _ _ line hg
  have hm : (cp (Str.ofString "at")) :: (((cp (Str.ofString "tab"), σ) :: (szC ns, if ns = [] then σ ++ ε else σ) :: numIt σ ε ns).map (·.1) ++ [[]]) = repW ns ++ [[]] := by
    rw [← repIt_map σ ε ns]; rfl
  have hx : ((cp (Str.ofString "at")) :: (((cp (Str.ofString "tab"), σ) :: (szC ns, if ns = [] then σ ++ ε else σ) :: numIt σ ε ns).map (·.1) ++ [[]])).map txt = (repW ns).map txt ++ [txt []] := by rw [hm, List.map_append]; rfl
  have hsp : repW ns = (repIt [32] [] ns).map (·.1) := (repIt_map [32] [] ns).symm
  have hok : Ok3 (fun x => x = 32) (repIt [32] [] ns) := repIt_ok (List.cons_ne_nil _ _) b32 nil_all ns h
  have ew : Txt.words (Txt.join (Str.ofString " ") ((repW ns).map txt ++ [txt []])) = (repW ns).map txt := by
    rw [join_tx, words_lay _ _ (join_spaced _) (by rw [hsp]; exact ok_U (spaced_ok hok))]
    unfold spaced
    rw [List.map_map]; rfl
  have hrl := repTxt_len hn fun n hn' => Nat.lt_trans (h n hn') (by decide)
  have hl : (lay (repIt [32] [] ns)).length ≤ 300 := by rw [← rep_lay ns h, ← len_cp]; exact hrl
  have hlen : (repIt [32] [] ns).length = ns.length + 3 := by rw [← repW_len ns, hsp, List.length_map]
  refine ⟨_, _, f1, f2, fun e => by omega, fun _ => ?_, ?_, ?_, ?_, ?_, ?_⟩
  · rw [hx, words_rep ns h]; rfl
  · rw [hm, List.length_append, repW_len]
    simp only [List.length_cons, List.length_nil]; omega
  · rw [hx, ew, repW_drop]
  · rw [hx, ew, List.length_map, repW_len]; omega
  · rw [hx]
    refine joinOk_of _ ?_
    have hs := sum_len (repIt [32] [] ns)
    have e1 : (repIt [32] [] ns).map (fun (p : List Nat × List Nat) => txt p.1) = (repW ns).map txt := by rw [hsp, List.map_map]; rfl
    rw [e1] at hs
    rw [List.map_append, List.sum_append, List.length_append, List.length_map, repW_len, sizeLine_eq]
    have e2 : (List.map Str.length [txt []]).sum = 0 := rfl
    rw [e2]
    simp only [List.length_cons, List.length_nil]
    omega
  · rw [hx, join_tx, len_cp, join_spaced, hsp, sizeLine_eq]
    have := spaced_len (repIt [32] [] ns)
    rw [hlen] at this
    omega
theorem tl_hi {ns : List Nat} {way : Nat} {line : Int} {cs : List Nat} (h : ∀ n ∈ ns, n < 24) (hn : ns.length < 40) (hw : 1 < way) (e : sTok line cs = (cp (repTxt ns), [], line)) (hc : n10 cs = 0) : ∃ tok ts, TurnLaw ns way line cs tok ts := by
  have hne := rep_ne ns h
  have hrl := repTxt_len hn fun n hn' => Nat.lt_trans (h n hn') (by decide)
  have hx : (cp (repTxt ns) :: [[]]).map txt = [repTxt ns] ++ [Str.ofString ""] := rfl
  have ej : cp (Txt.join (Str.ofString " ") ([repTxt ns] ++ [Str.ofString ""])) = lay (repIt [32] [32] ns) := by
    rw [← rep_lay2 ns h, join_tx]
    show cp (repTxt ns ++ Str.ofString " " ++ Str.ofString "") = _
    have e1 : cp (Str.ofString " ") = [32] := by decide
    rw [cp_app, cp_app, e1]
    show _ ++ [] = _
    rw [List.append_nil]
  have ew : Txt.words (Txt.join (Str.ofString " ") ([repTxt ns] ++ [Str.ofString ""])) = (repW ns).map txt := by
    rw [words_lay _ _ ej (ok_U (repIt_ok (List.cons_ne_nil _ _) (by decide +kernel) (by decide +kernel) ns h)), ← repIt_map [32] [32] ns, List.map_map]; rfl
  refine ⟨cp (repTxt ns), [[]], by rw [e], by rw [e, hc, Int.add_zero]; exact lex_one _ _ hne, fun _ => hx, fun e => by omega, (by show 2 < 900; decide), ?_, ?_, ?_, ?_⟩
  · rw [hx, ew, repW_drop]
  · rw [hx, ew, List.length_map, repW_len]; omega
  · rw [hx]
    refine joinOk_of _ ?_
    show (repTxt ns).length + (0 + 0) + 2 ≤ _
    rw [sizeLine_eq]; omega
  · rw [hx, len_cp, ej, ← rep_lay2 ns h, List.length_append, ← len_cp, sizeLine_eq]
    simp only [List.length_cons, List.length_nil]; omega
theorem n10_free : ∀ l : List Nat, (∀ x ∈ l, x ≠ 10) → n10 l = 0
  | [], _ => rfl
  | c :: l, h => by
    have := n10_cons c l 0
    have ih := n10_free l fun x hx => h x (.tail _ hx)
    unfold nl1 at this
    rw [if_neg (h c (.head _)), ih] at this
    omega
theorem esc_mem : ∀ {l : List Nat} {x : Nat}, x ∈ esc l → x = 92 ∨ x ∈ l
  | c :: r, x, h => by
    rcases List.mem_cons.mp (show x ∈ 92 :: c :: esc r from h) with h | h
    · exact .inl h
    · rcases List.mem_cons.mp h with h | h
      · exact .inr (h ▸ .head _)
      · exact (esc_mem h).imp_right fun q => .tail _ q
theorem turn_law (ns : List Nat) (way : Nat) (line : Int) (h : ∀ n ∈ ns, n < 24) (hn : ns.length < 40) (hw : way < 4) : ∃ tok ts, TurnLaw ns way line (cp (wrTxt (repTxt ns) way)) tok ts := by
  have hs := rep_sign ns h
  rw [wr_cp ns h way]
  match way, hw with
  | 0, _ => exact tl_lo h hn (by decide) (List.cons_ne_nil _ _) (by decide) nil_all
  | 1, _ => exact tl_lo h hn (by decide) (List.cons_ne_nil _ _) (by decide) (by decide)
  | 2, _ =>
    refine tl_hi h hn (by decide) (quoted_lex _ line fun x hx => ⟨(hs x hx).1, (hs x hx).2.1, (hs x hx).2.2.1⟩) (n10_free _ fun x hx => ?_)
    rcases List.mem_cons.mp hx with rfl | hx
    · decide
    · rcases List.mem_append.mp hx with hx | hx
      · exact (hs x hx).2.2.1
      · rw [List.mem_singleton.mp hx]; decide
  | 3, _ =>
    refine tl_hi h hn (by decide) (esc_lex _ line (rep_ne ns h) fun x hx => (hs x hx).2.2.1) (n10_free _ fun x hx => ?_)
    rcases esc_mem hx with rfl | hx
    · decide
    · exact (hs x hx).2.2.1
theorem wr_small (ns : List Nat) (way : Nat) (h : ∀ n ∈ ns, n < 24) : ∀ x ∈ cp (wrTxt (repTxt ns) way), x < 128 := by
  have hs := rep_sign ns h
  rw [wr_cp ns h way]
  have hb : ∀ (σ ε : List Nat), σ ≠ [] → (∀ x ∈ σ, x < 128) → (∀ x ∈ ε, x < 128) → ∀ x ∈ lay (repIt σ ε ns), x < 128 := fun σ ε h0 h1 h2 => lay_all (B := fun x => x < 128) (fun x q => q) (fun c q => q.2.2.2.2.2.1) (repIt_ok h0 h1 h2 ns h)
  match way with
  | 0 => exact hb _ _ (List.cons_ne_nil _ _) (by decide) nil_all
  | 1 => exact hb _ _ (List.cons_ne_nil _ _) (by decide) (by decide)
  | 2 =>
    intro x hx
    rcases List.mem_cons.mp hx with rfl | hx
    · decide
    · rcases List.mem_append.mp hx with hx | hx
      · exact (hs x hx).2.2.2
      · rw [List.mem_singleton.mp hx]; decide
  | n + 3 =>
    intro x hx
    rcases esc_mem hx with rfl | hx
    · decide
    · exact (hs x hx).2.2.2
theorem wr_pos (ns : List Nat) (way : Nat) (h : ∀ n ∈ ns, n < 24) : 0 < (wrTxt (repTxt ns) way).length := by
  rw [len_cp, wr_cp ns h way]
  have hp : ∀ σ ε : List Nat, 0 < (lay (repIt σ ε ns)).length := fun σ ε => by
    show 0 < (cp (Str.ofString "at") ++ σ ++ lay _).length
    have : (cp (Str.ofString "at")).length = 2 := by decide
    simp only [List.length_append]; omega
  match way with
  | 0 => exact hp _ _
  | 1 => exact hp _ _
  | 2 => exact Nat.succ_pos _
  | n + 3 =>
    show 0 < (esc (cp (repTxt ns))).length
    cases e : cp (repTxt ns) with
    | nil => exact absurd e (rep_ne ns h)
    | cons c r => exact Nat.succ_pos _
end Mine
namespace Mine
open PySem PySem.W PyProof.Rows
theorem flush55 {M : Model} {A : Around} {Q : Flow → Shared → Prop} {E : Value → Shared → Prop} {s : Shared} {env : Env} (h : wpAny M A (execs [] env) Q E s) : wpAny M A (execs [] env) Q E s := by
  k_with_none
  (try (walk1; fail))
  w_top off
  exact h
end Mine
namespace Mine
open PySem PySem.W PyProof.Rows PySem.Calls
set_option maxHeartbeats 1000000
set_option linter.unusedVariables false
theorem sizes_small {tabs run p behind equals : Nat} (h1 : run < 8) (h2 : p < 16) (h3 : behind < 4) : (∀ n ∈ sizesL tabs (run + p) run behind equals, n < 24) ∧ (sizesL tabs (run + p) run behind equals).length < 40 := by
  have hm : max (run + p) (max run behind) + 1 ≤ 23 := by omega
  unfold sizesL szs
  refine ⟨fun n hn => ?_, ?_⟩
  · obtain ⟨i, hi, e⟩ := List.mem_filterMap.mp hn
    have := List.mem_range.mp hi
    split at e
    · cases e; omega
    · cases e
  · refine Nat.lt_of_le_of_lt (List.length_filterMap_le _ _) ?_
    rw [List.length_range]; omega
theorem fold_adv : ∀ (ns : List Nat) (P : Nat → Nat) (k : Nat), P k < 16 → ns.foldl adv P k = (P k + (ns.filter fun n => n % 5 == k).sum) % 16
  | [], P, k, h => by simp [Nat.mod_eq_of_lt h]
  | n :: r, P, k, h => by
    rw [List.foldl_cons]
    by_cases e : k = n % 5
    · have e1 : adv P n k = (P k + n) % 16 := by unfold adv; rw [if_pos e]
      have h1 : adv P n k < 16 := by rw [e1]; exact Nat.mod_lt _ (by decide)
      rw [fold_adv r _ k h1, e1, List.filter_cons, if_pos (by rw [e]; simp), List.sum_cons]
      omega
    · have e1 : adv P n k = P k := by unfold adv; rw [if_neg e]
      have h1 : adv P n k < 16 := by rw [e1]; exact h
      have e2 : ¬ (n % 5 == k) = true := fun q => e (eq_of_beq q).symm
      rw [fold_adv r _ k h1, e1, List.filter_cons, if_neg e2]
theorem drawn_pl (l : List Int) (h : l.length = 5) : ∃ D : Nat → Nat, (l.map fun x : Int => x.fmod 1000000) = pl5 D ∧ ∀ k, D k < 1000000 := by
  match l, h with
  | [a, b, c, d, e], _ =>
    have key : ∀ x : Int, ((x.fmod 1000000).toNat : Int) = x.fmod 1000000 ∧ (x.fmod 1000000).toNat < 1000000 := fun x => by
      have h1 : 0 ≤ x.fmod 1000000 := Int.fmod_nonneg_of_pos _ (by decide)
      have h2 : x.fmod 1000000 < 1000000 := Int.fmod_lt_of_pos _ (by decide)
      omega
    refine ⟨fun k => match k with | 0 => (a.fmod 1000000).toNat | 1 => (b.fmod 1000000).toNat | 2 => (c.fmod 1000000).toNat | 3 => (d.fmod 1000000).toNat | _ => (e.fmod 1000000).toNat, ?_, fun k => ?_⟩
    · unfold pl5
      simp only [(key _).1, List.map_cons, List.map_nil]
    · match k with
      | 0 => exact (key _).2
      | 1 => exact (key _).2
      | 2 => exact (key _).2
      | 3 => exact (key _).2
      | n + 4 => exact (key _).2
theorem drawn_len (ns : List Int) : ((ns.take 5 ++ [4321, 777, 2990, 1530, 3333]).take 5).length = 5 := by
  simp only [List.length_take, List.length_append, List.length_cons, List.length_nil]; omega
theorem ints_take : ∀ {vs : List Value} {ns : List Int} (k : Nat), IntsAre vs ns → IntsAre (vs.take k) (ns.take k)
  | _, _, 0, _ => by rw [List.take_zero, List.take_zero]; exact .nil
  | _, _, k + 1, .nil => .nil
  | _, _, k + 1, .cons a t r => .cons a t (ints_take k r)
end Mine
namespace Mine
open PySem PySem.W PyProof.Rows
theorem flush56 {M : Model} {A : Around} {Q : Flow → Shared → Prop} {E : Value → Shared → Prop} {s : Shared} {env : Env} (h : wpAny M A (execs [] env) Q E s) : wpAny M A (execs [] env) Q E s := by
  k_with_none
  (try (walk1; fail))
  w_top off
  exact h
end Mine
namespace Mine
open PySem PySem.W PyProof.Rows PySem.Calls
set_option maxHeartbeats 1000000
set_option linter.unusedVariables false
theorem list14 {α : Type} : ∀ l : List α, l.length = 14 → ∃ a b c d e f g h i j k m n o, l = [a, b, c, d, e, f, g, h, i, j, k, m, n, o] :=
  fun l h => list_n 14 l (fun l => ∃ a b c d e f g h i j k m n o, l = [a, b, c, d, e, f, g, h, i, j, k, m, n, o]) h fun a b c d e f g h i j k m n o => ⟨a, b, c, d, e, f, g, h, i, j, k, m, n, o, rfl⟩
theorem len_use {K : Frag} {a : Addr} {o : Obj} (e : K.lookup a = some o) (h : (loopIn 7 (bodyIn (some o))).length = 14) : (loopIn 7 (bodyIn (K.lookup a))).length = 14 := by rw [e]; exact h
theorem body_len0 : ∀ (w : World) (_ : PySem.Challenge.rw_pg0244_01.row.prog = PySem.Challenge.rw_pg0244_01.row.prog), (loopIn 7 (bodyIn ((hd.heap_1 w.params).lookup 202))).length = 14 := by
  k_fill
  intro w _
  refine' len_use ?e ?_
  case e => k_dflt k_is
  rfl
theorem body_len (w : World) : (loopIn 7 (bodyIn ((hd.heap_1 w.params).lookup 202))).length = 14 := body_len0 w rfl
theorem News.sub {B h : Heap} {L : Addr} {a b : List (Addr × Obj)} (N : News B L h a) (hs : ∀ p ∈ b, p ∈ a) : News B L h b := fun p hp => N p (hs p hp)
/-- two parts of a ledger that share no address -/
noncomputable def Sep (a b : List (Addr × Obj)) : Prop := ∀ p ∈ a, ∀ q ∈ b, q.1 ≠ p.1
theorem Agree.get {xs : List Str} {m₁ m₀ : Str → Option Value} (h : Agree xs m₁ m₀) {x : Str} {v : Option Value} (hx : x ∉ xs) (e : m₀ x = v) : m₁ x = v := (h x hx).trans e
theorem seq {M : Model} {A : Around} {E : Value → Shared → Prop} {s : Shared} {env : Env} {st : Stmt} {rest : List Stmt} {Q : Flow → Shared → Prop} (h : wpAny M A (exec st env) (fun f s' => match f with | .next => wpAny M A (execs rest env) Q E s' | f => Q f s') E s) : wpAny M A (execs (st :: rest) env) Q E s := wpAny_execs_cons h
/-- a reader's objects but for the list -/
noncomputable def Lx.rest (w : World) (z : Lx) (line : Int) (t1 : Tok) : List (Addr × Obj) :=
  [(z.x2, instObj 73 z.dx2), (z.dx2, lexDict w z.k1 z.k2 z.k3 z.k4 t1 z.t2 line (.ref z.x1) z.pb2), (z.pb2, listOf #[] 0), (z.x1, instObj 73 z.dx1), (z.dx1, heldDict w z.j1 z.j2 z.j3 z.j4 z.j5 z.u1 z.u2 z.pb1 z.f),
   (z.f, fnMade z.nm z.ql z.pr z.bd z.sc [(Str.ofString "left", z.cell)] z.doc z.pm z.c' z.ctv), (z.c', z.occ), (z.cell, z.oc)]
theorem mem3 {α : Type} {p a b c : α} {r : List α} : p ∈ a :: b :: c :: r ↔ p = c ∨ p ∈ a :: b :: r := by
  simp only [List.mem_cons]
  exact ⟨fun h => h.elim (fun x => .inr (.inl x)) fun h => h.elim (fun x => .inr (.inr (.inl x))) fun h => h.elim .inl fun x => .inr (.inr (.inr x)),
    fun h => h.elim (fun x => .inr (.inr (.inl x))) fun h => h.elim .inl fun h => h.elim (fun x => .inr (.inl x)) fun x => .inr (.inr (.inr x))⟩
theorem Lx.mem_objs {w : World} {z : Lx} {line : Int} {t1 : Tok} {vs : List Value} {n : Nat} {p : Addr × Obj} : p ∈ z.objs w line t1 vs n ↔ p = (z.ll, listOf vs.toArray n) ∨ p ∈ z.rest w line t1 := mem3
theorem Lx.rest_ne {w : World} {z : Lx} (hz : z.Ok w) {line : Int} {t1 : Tok} : ∀ p ∈ z.rest w line t1, p.1 ≠ z.ll := by
  obtain ⟨o1, o2, o3, o4, o5, o6, o7, o8, o9, -, -, -⟩ := hz
  have o1 : @LT.lt Nat _ z.ll z.cell := o1
  have o2 : @LT.lt Nat _ z.cell z.c' := o2
  have o3 : @LT.lt Nat _ z.c' z.f := o3
  have o4 : @LT.lt Nat _ z.f z.dx1 := o4
  have o5 : @LT.lt Nat _ z.dx1 z.x1 := o5
  have o6 : @LT.lt Nat _ z.x1 z.pb1 := o6
  have o7 : @LT.lt Nat _ z.pb1 z.dx2 := o7
  have o8 : @LT.lt Nat _ z.dx2 z.x2 := o8
  have o9 : @LT.lt Nat _ z.x2 z.pb2 := o9
  intro p hp
  simp only [Lx.rest, List.mem_cons, List.not_mem_nil, or_false] at hp
  rcases hp with rfl | rfl | rfl | rfl | rfl | rfl | rfl | rfl
  · show @Ne Nat z.x2 z.ll; omega
  · show @Ne Nat z.dx2 z.ll; omega
  · show @Ne Nat z.pb2 z.ll; omega
  · show @Ne Nat z.x1 z.ll; omega
  · show @Ne Nat z.dx1 z.ll; omega
  · show @Ne Nat z.f z.ll; omega
  · show @Ne Nat z.c' z.ll; omega
  · show @Ne Nat z.cell z.ll; omega
theorem Lx.in_ads {w : World} {z : Lx} {line : Int} {t1 : Tok} {vs : List Value} {n : Nat} {p : Addr × Obj} (h : p ∈ z.objs w line t1 vs n) : p.1 ∈ z.ads := by
  rw [← Lx.ads_eq w z line t1 vs n]; exact List.mem_map.mpr ⟨p, h, rfl⟩
theorem LampIn.mono {a b : List (Addr × Obj)} {x : Addr} {k p : Nat} (h : LampIn a x k p) (hs : ∀ q ∈ a, q ∈ b) : LampIn b x k p := let ⟨t1, t2, t3, e⟩ := h; ⟨t1, t2, t3, hs _ e⟩
theorem KindsIn.mono {a b : List (Addr × Obj)} {kl : Addr} {ka : Nat → Addr} (h : KindsIn a kl ka) (hs : ∀ q ∈ a, q ∈ b) : KindsIn b kl ka := ⟨hs _ h.1, fun k hk => let ⟨v1, v2, v3, v4, q, e⟩ := h.2 k hk; ⟨v1, v2, v3, v4, q, hs _ e⟩⟩
theorem News.differ {B h : Heap} {L a b : Addr} {o o' : Obj} {news : List (Addr × Obj)} (N : News B L h news) (h1 : (a, o) ∈ news) (h2 : (b, o') ∈ news) (hne : o ≠ o') : a ≠ b := fun e => by
  have e1 := (N _ h1).1
  have e2 := (N _ h2).1
  rw [show (a, o).1 = (b, o').1 from e, e2] at e1
  exact hne (Option.some.inj e1).symm
/-- what holds between the turns of law's main loop; C: the four cells -/
structure TurnIn (w : World) (L : Addr) (m : Str → Option Value) (P : Nat → Nat) (z : Lx) (line : Int) (oS oP oK oD : Obj) (ps : Array Value) (tl fx : List (Addr × Obj)) : Prop where
  ok : z.Ok w
  dP : ∃ pl pvs np, oP.data = .cell (some (.ref pl)) ∧ (pl, listOf (List.toArray pvs) np) ∈ tl ∧ IntsAre pvs (pl5 P)
  dK : ∃ kl ka, oK.data = .cell (some (.ref kl)) ∧ KindsIn tl kl ka
  dS : ∃ v, oS.data = .cell v
  lm : ∃ lp nl as, m (Str.ofString "lamps") = some (.ref lp) ∧ (lp, listOf (refs5 as).toArray nl) ∈ tl ∧ ∀ k < 5, LampIn tl (as k) k (P k)
  hP : ∀ k < 5, P k < 16
  left : m (Str.ofString "left") = some (.ref z.ll)
  lexer : m (Str.ofString "lexer") = some (.ref z.x2)
  row : ∃ t, m (Str.ofString "row") = some (.int line t)
  tri : TriplesOk ps.toList
  cz : ∀ p ∈ ((L + 1 + 1 + 1 + 1, oS) :: (L + 1 + 1 + 1, oP) :: (L + 1 + 1, oK) :: (L + 1, oD) :: []), p.1 ∉ z.ads
  c5 : ∀ p ∈ ((L + 1 + 1 + 1 + 1, oS) :: (L + 1 + 1 + 1, oP) :: (L + 1 + 1, oK) :: (L + 1, oD) :: []), p.1 ≠ 145
  ct : ∀ p ∈ ((L + 1 + 1 + 1 + 1, oS) :: (L + 1 + 1 + 1, oP) :: (L + 1 + 1, oK) :: (L + 1, oD) :: []), ∀ q ∈ tl ++ fx, q.1 ≠ p.1
  z5 : (145 : Addr) ∉ z.ads
  zt : ∀ p ∈ tl ++ fx, p.1 ∉ z.ads
  t5 : ∀ p ∈ tl ++ fx, p.1 ≠ 145
end Mine
namespace Mine
open PySem PySem.W PyProof.Rows
theorem flush57 {M : Model} {A : Around} {Q : Flow → Shared → Prop} {E : Value → Shared → Prop} {s : Shared} {env : Env} (h : wpAny M A (execs [] env) Q E s) : wpAny M A (execs [] env) Q E s := by
  k_with_none
  (try (walk1; fail))
  w_top off
  exact h
end Mine
namespace Mine
open PySem PySem.W PyProof.Rows PySem.Calls
set_option maxHeartbeats 4000000
set_option linter.unusedVariables false
theorem cc4 {α : Type} {a b c d p : α} {r : List α} (h : p ∈ a :: b :: c :: d :: r) : p ∈ [a, b, c, d] ∨ p ∈ r := by
  simp only [List.mem_cons, List.not_mem_nil, or_false] at h ⊢
  rcases h with h | h | h | h | h <;> simp [h]
theorem cc_in {α : Type} {a b c d p : α} {r : List α} (h : p ∈ [a, b, c, d]) : p ∈ a :: b :: c :: d :: r := by
  simp only [List.mem_cons, List.not_mem_nil, or_false] at h ⊢
  rcases h with h | h | h | h <;> simp [h]
theorem cc_addr {R : Addr → Prop} {a b c d : Addr} {o1 o2 o3 o4 o1' o2' o3' o4' : Obj} (h : ∀ p ∈ [(a, o1), (b, o2), (c, o3), (d, o4)], R p.1) : ∀ p ∈ [(a, o1'), (b, o2'), (c, o3'), (d, o4')], R p.1 := by
  intro p hp
  simp only [List.mem_cons, List.not_mem_nil, or_false] at hp
  rcases hp with rfl | rfl | rfl | rfl
  · exact h (a, o1) (.head _)
  · exact h (b, o2) (.tail _ (.head _))
  · exact h (c, o3) (.tail _ (.tail _ (.head _)))
  · exact h (d, o4) (.tail _ (.tail _ (.tail _ (.head _))))
theorem turn_go : ∀ (w : World) (sc : Scope) (body : List Stmt) (B h : Heap) (g : Array GenState) (dd : Drawn) (tk : Nat) (os : OsState) (L : Addr) (m : Str → Option Value) (tl fx : List (Addr × Obj)) (Q : Flow → Shared → Prop)
    (ad au : Nat) (af : Option (List Env)) (ag : Option (List Code)) (mg mb : Str → Option Value) (loose : List Str) (P : Nat → Nat) (z : Lx) (line : Int) (oS oP oK oD : Obj) (ps : Array Value) (t1 : Tok) (n : Nat) (x : Nat) (tx : Tok)
    (X : (hd.heap_1 w.params).In B) (T : TopRead viewQ loose mg mb B) (hb : loopIn 7 (bodyIn ((hd.heap_1 w.params).lookup 202)) = body) (hsc : scopeIn ((hd.heap_1 w.params).lookup 202) = some sc) (hr : ad + 30 < recursionLimit) (hu : au + 200 < cLine) (hbm : B.BuiltinsAt mg 145)
    (F : Fr B L h m) (N : News B L h ((L + 1 + 1 + 1 + 1, oS) :: (L + 1 + 1 + 1, oP) :: (L + 1 + 1, oK) :: (L + 1, oD) :: (z.objs w line t1 [] n ++ ((145, tabObj ps) :: (tl ++ fx))))) (hx : m (Str.ofString "x") = some (.int (x : Int) tx)) (J : TurnIn w L m P z line oS oP oK oD ps tl fx)
    (hq : ∀ h' tk' g' m' P' line' oS' oP' ps' t1' n' ex, Fr B L h' m' → News B L h' ((L + 1 + 1 + 1 + 1, oS') :: (L + 1 + 1 + 1, oP') :: (L + 1 + 1, oK) :: (L + 1, oD) :: (z.objs w line' t1' [] n' ++ ((145, tabObj ps') :: ((ex ++ tl) ++ fx)))) → TurnIn w L m' P' z line' oS' oP' oK oD ps' (ex ++ tl) fx → (AllBare g → AllBare g') → (∀ p ∈ ex, ∀ q ∈ tl ++ fx, q.1 ≠ p.1) → Q .next ⟨h', g', dd, tk', os⟩),
    wpAny (model PySem.Challenge.rw_pg0244_01.row.prog w) (Around.deeper { depth := ad, frames := af, guards := ag, units := au } (lawEnv sc L)) (execs body (lawEnv sc L)) Q (fun _ _ => False) ⟨h, g, dd, tk, os⟩ := by
  intro w sc body B h g dd tk os L m tl fx Q ad au af ag mg mb loose P z line oS oP oK oD ps t1 n x tx X T hb hsc hr hu hbm F N hx J hq
  obtain ⟨s0, s1, s2, s3, s4, s5, s6, s7, s8, s9, s10, s11, s12, s13, rfl⟩ := list14 body (by rw [← hb]; exact body_len w)
  have st0 : stmtIn 0 (loopIn 7 (bodyIn ((hd.heap_1 w.params).lookup 202))) = some s0 := by rw [hb]; rfl
  have st1 : stmtIn 1 (loopIn 7 (bodyIn ((hd.heap_1 w.params).lookup 202))) = some s1 := by rw [hb]; rfl
  have st2 : stmtIn 2 (loopIn 7 (bodyIn ((hd.heap_1 w.params).lookup 202))) = some s2 := by rw [hb]; rfl
  have st3 : stmtIn 3 (loopIn 7 (bodyIn ((hd.heap_1 w.params).lookup 202))) = some s3 := by rw [hb]; rfl
  have st4 : stmtIn 4 (loopIn 7 (bodyIn ((hd.heap_1 w.params).lookup 202))) = some s4 := by rw [hb]; rfl
  have st5 : stmtIn 5 (loopIn 7 (bodyIn ((hd.heap_1 w.params).lookup 202))) = some s5 := by rw [hb]; rfl
  have st6 : stmtIn 6 (loopIn 7 (bodyIn ((hd.heap_1 w.params).lookup 202))) = some s6 := by rw [hb]; rfl
  have st7 : stmtIn 7 (loopIn 7 (bodyIn ((hd.heap_1 w.params).lookup 202))) = some s7 := by rw [hb]; rfl
  have st8 : stmtIn 8 (loopIn 7 (bodyIn ((hd.heap_1 w.params).lookup 202))) = some s8 := by rw [hb]; rfl
  have st9 : stmtIn 9 (loopIn 7 (bodyIn ((hd.heap_1 w.params).lookup 202))) = some s9 := by rw [hb]; rfl
  have st10 : stmtIn 10 (loopIn 7 (bodyIn ((hd.heap_1 w.params).lookup 202))) = some s10 := by rw [hb]; rfl
  have st11 : stmtIn 11 (loopIn 7 (bodyIn ((hd.heap_1 w.params).lookup 202))) = some s11 := by rw [hb]; rfl
  have st12 : stmtIn 12 (loopIn 7 (bodyIn ((hd.heap_1 w.params).lookup 202))) = some s12 := by rw [hb]; rfl
  have st13 : stmtIn 13 (loopIn 7 (bodyIn ((hd.heap_1 w.params).lookup 202))) = some s13 := by rw [hb]; rfl
  obtain ⟨jok, ⟨pl, pvs, np, jdP, jpl, jpv⟩, ⟨kl, ka, jdK, jkk⟩, ⟨vS, jdS⟩, ⟨lp, nl, as, jlm, jlp, jla⟩, jP, jle, jlx, ⟨tr, jro⟩, jtri, jcz, jc5, jct, jz5, jzt, jt5⟩ := J
  have c1 : (L + 1 + 1 + 1 + 1, oS) ∈ ((L + 1 + 1 + 1 + 1, oS) :: (L + 1 + 1 + 1, oP) :: (L + 1 + 1, oK) :: (L + 1, oD) :: []) := .head _
  have hk5 : x % 5 < 5 := Nat.mod_lt _ (by decide)
  have hp16 : P (x % 5) < 16 := jP _ hk5
  have b1 : x / 160 % 2 < 2 := Nat.mod_lt _ (by decide)
  have b3 : x / 5 % 8 < 8 := Nat.mod_lt _ (by decide)
  have b4 : x / 40 % 4 < 4 := Nat.mod_lt _ (by decide)
  have b5 : x / 320 % 2 < 2 := Nat.mod_lt _ (by decide)
  have b6 : x / 640 % 4 < 4 := Nat.mod_lt _ (by decide)
  obtain ⟨hns, hnl⟩ := sizes_small (tabs := x / 160 % 2) (equals := x / 320 % 2) b3 hp16 b4
  have hns100 : ∀ n ∈ sizesL (x / 160 % 2) (x / 5 % 8 + P (x % 5)) (x / 5 % 8) (x / 40 % 4) (x / 320 % 2), n < 100 := fun n h => Nat.lt_trans (hns n h) (by decide)
  have tlen := repTxt_len hnl hns100
  have wlen := wrTxt_len _ (x / 640 % 4) tlen
  have wpos := wr_pos _ (x / 640 % 4) hns
  have wsm := wr_small _ (x / 640 % 4) hns
  obtain ⟨tok, ts, law⟩ := turn_law _ (x / 640 % 4) line hns hnl b6
  obtain ⟨v1, v2, v3, v4, q3, hka⟩ := jkk.2 _ hk5
  have tla : ∀ p ∈ tl, p ∈ (L + 1 + 1 + 1 + 1, oS) :: (L + 1 + 1 + 1, oP) :: (L + 1 + 1, oK) :: (L + 1, oD) :: (z.objs w line t1 [] n ++ ((145, tabObj ps) :: (tl ++ fx))) := (by intro p hp; simp only [List.mem_cons, List.mem_append] at hp ⊢; grind)
  refine seq (T1 w sc s0 B h g dd tk os L m ((L + 1 + 1 + 1 + 1, oS) :: (L + 1 + 1 + 1, oP) :: (L + 1 + 1, oK) :: (L + 1, oD) :: (z.objs w line t1 [] n ++ ((145, tabObj ps) :: (tl ++ fx)))) _ ad au af ag mg mb loose x tx X T st0 hsc hr hu F N hx ?_)
  intro h1 tk1 m1 a1 a2 a3 F1 N1 A1 g1 g2 g3
  refine seq (T2 w sc s1 B h1 g dd tk1 os L m1 ((L + 1 + 1 + 1 + 1, oS) :: (L + 1 + 1 + 1, oP) :: (L + 1 + 1, oK) :: (L + 1, oD) :: (z.objs w line t1 [] n ++ ((145, tabObj ps) :: (tl ++ fx)))) _ ad au af ag mg mb loose x tx X T st1 hsc hr hu F1 N1 (Agree.get A1 (x := Str.ofString "x") (by decide) hx) ?_)
  intro h2 tk2 m2 a4 a5 a6 F2 N2 A2 g4 g5 g6
  generalize x / 640 % 4 = ww at *
  generalize x / 320 % 2 = ee at *
  generalize x / 160 % 2 = tt at *
  generalize x / 40 % 4 = bb at *
  generalize x / 5 % 8 = rr at *
  generalize x % 5 = kk at *
  refine seq (T3 w sc s2 B h2 g dd tk2 os L m2 ((L + 1 + 1 + 1 + 1, oS) :: (L + 1 + 1 + 1, oP) :: (L + 1 + 1, oK) :: (L + 1, oD) :: (z.objs w line t1 [] n ++ ((145, tabObj ps) :: (tl ++ fx)))) _ ad au af ag mg mb loose kk (P kk) lp nl as a1 X T st2 hsc hr hu F2 N2 (Agree.get A2 (x := Str.ofString "k") (by decide) g1) (Agree.get A2 (x := Str.ofString "lamps") (by decide) (Agree.get A1 (x := Str.ofString "lamps") (by decide) jlm)) (tla _ jlp) hk5 hp16 ((jla _ hk5).mono tla) ?_)
  intro h3 tk3 m3 ta u1 u2 u3 F3 N3 q1 q2 A3 g7
  have tl4 : ∀ p ∈ tl, p ∈ (ta, tupO [.float (hB (P kk)) u1, .float (lK kk) u2, .int (gK kk) u3]) :: (z.objs w line t1 [] n ++ ((145, tabObj ps) :: (tl ++ fx))) := (by intro p hp; simp only [List.mem_cons, List.mem_append] at hp ⊢; grind)
  have N3' : News B L h3 ((L + 1 + 1 + 1 + 1, oS) :: (L + 1 + 1 + 1, oP) :: (L + 1 + 1, oK) :: (L + 1, oD) :: ((ta, tupO [.float (hB (P kk)) u1, .float (lK kk) u2, .int (gK kk) u3]) :: (z.objs w line t1 [] n ++ ((145, tabObj ps) :: (tl ++ fx))))) := News.sub N3 (by intro p hp; simp only [List.mem_cons, List.mem_append] at hp ⊢; grind)
  refine seq (T4 w sc s3 B h3 g dd tk3 os L m3 ((ta, tupO [.float (hB (P kk)) u1, .float (lK kk) u2, .int (gK kk) u3]) :: (z.objs w line t1 [] n ++ ((145, tabObj ps) :: (tl ++ fx)))) _ ad au af ag mg mb loose kk a1 ta u1 u2 u3 oS oP oK oD pl pvs np P kl ka v1 v2 v3 v4 X T st3 hsc hr hu F3 N3' (Agree.get A3 (x := Str.ofString "k") (by decide) (Agree.get A2 (x := Str.ofString "k") (by decide) g1)) g7 (.head _) jdP jdK (tl4 _ jpl) jpv (tl4 _ jkk.1) (tl4 _ hka) hk5 hp16 q1 q2 q3 ?_)
  intro h4 tk4 F4 N4
  have N4' : News B L h4 ((145, tabObj ps) :: ((ta, tupO [.float (hB (P kk)) u1, .float (lK kk) u2, .int (gK kk) u3]) :: ((L + 1 + 1 + 1 + 1, oS) :: (L + 1 + 1 + 1, oP) :: (L + 1 + 1, oK) :: (L + 1, oD) :: (z.objs w line t1 [] n ++ (tl ++ fx))))) := News.sub N4 (by intro p hp; simp only [List.mem_cons, List.mem_append] at hp ⊢; grind)
  have ne5 : ∀ p ∈ (ta, tupO [.float (hB (P kk)) u1, .float (lK kk) u2, .int (gK kk) u3]) :: ((L + 1 + 1 + 1 + 1, oS) :: (L + 1 + 1 + 1, oP) :: (L + 1 + 1, oK) :: (L + 1, oD) :: (z.objs w line t1 [] n ++ (tl ++ fx))), p.1 ≠ 145 := by
    intro p hp
    rcases List.mem_cons.mp hp with rfl | hp
    · exact News.differ N4 (.tail _ (.tail _ (.tail _ (.tail _ (.head _))))) (.tail _ (.tail _ (.tail _ (.tail _ (.tail _ (List.mem_append_right _ (.head _))))))) (by intro e; cases e)
    · rcases cc4 hp with hp | hp
      · exact jc5 p hp
      · rcases List.mem_append.mp hp with hp | hp
        · exact fun e => jz5 (e ▸ Lx.in_ads hp)
        · exact jt5 p hp
  refine seq (T5 w sc s4 B h4 g dd tk4 os L m3 ((ta, tupO [.float (hB (P kk)) u1, .float (lK kk) u2, .int (gK kk) u3]) :: ((L + 1 + 1 + 1 + 1, oS) :: (L + 1 + 1 + 1, oP) :: (L + 1 + 1, oK) :: (L + 1, oD) :: (z.objs w line t1 [] n ++ (tl ++ fx)))) _ ad au af ag mg mb loose ta (.float (hB (P kk)) u1) (.float (lK kk) u2) (.int (gK kk) u3) ps (P kk) tt rr bb ee ww a4 a2 a3 a5 a6 X T st4 hsc hr hu F4 N4' g7 (Agree.get A3 (x := Str.ofString "tabs") (by decide) g4) (Agree.get A3 (x := Str.ofString "run") (by decide) (Agree.get A2 (x := Str.ofString "run") (by decide) g2)) (Agree.get A3 (x := Str.ofString "behind") (by decide) (Agree.get A2 (x := Str.ofString "behind") (by decide) g3)) (Agree.get A3 (x := Str.ofString "equals") (by decide) g5) (Agree.get A3 (x := Str.ofString "way") (by decide) g6) u1 (.head _) hbm jtri ne5 hp16 b1 b3 b4 b5 b6 ?_)
  intro h5 tk5 g5' m5 ps' ttx F5 N5 tri' bare A5 gtx
  have N5' : News B L h5 ((z.ll, listOf (List.toArray []) n) :: ((L + 1 + 1 + 1 + 1, oS) :: (L + 1 + 1 + 1, oP) :: (L + 1 + 1, oK) :: (L + 1, oD) :: (z.rest w line t1 ++ ((145, tabObj ps') :: (tl ++ fx))))) := News.sub N5 (by intro p hp; simp only [List.mem_cons, List.mem_append, Lx.mem_objs] at hp ⊢; grind)
  have llads : z.ll ∈ z.ads := .tail _ (.tail _ (.head _))
  have ne6 : ∀ p ∈ (L + 1 + 1 + 1 + 1, oS) :: (L + 1 + 1 + 1, oP) :: (L + 1 + 1, oK) :: (L + 1, oD) :: (z.rest w line t1 ++ ((145, tabObj ps') :: (tl ++ fx))), p.1 ≠ z.ll := by
    intro p hp
    rcases cc4 hp with hp | hp
    · exact fun e => jcz p hp (e ▸ llads)
    · rcases List.mem_append.mp hp with hp | hp
      · exact Lx.rest_ne jok p hp
      · rcases List.mem_cons.mp hp with rfl | hp
        · exact fun e => jz5 ((show (145 : Addr) = z.ll from e) ▸ llads)
        · exact fun e => jzt p hp (e ▸ llads)
  refine seq (T6 w sc s5 B h5 g5' dd tk5 os L m5 ((L + 1 + 1 + 1 + 1, oS) :: (L + 1 + 1 + 1, oP) :: (L + 1 + 1, oK) :: (L + 1, oD) :: (z.rest w line t1 ++ ((145, tabObj ps') :: (tl ++ fx)))) _ ad au af ag mg mb loose z.ll n (wrTxt (repTxt (sizesL tt (rr + P kk) rr bb ee)) ww) ttx X T st5 hsc hr hu F5 N5' (Agree.get A5 (x := Str.ofString "left") (by decide) (Agree.get A3 (x := Str.ofString "left") (by decide) (Agree.get A2 (x := Str.ofString "left") (by decide) (Agree.get A1 (x := Str.ofString "left") (by decide) jle)))) gtx ne6 wpos wlen ?_)
  intro h6 tk6 ys F6 N6 hys
  have N6' : News B L h6 ((L + 1 + 1 + 1 + 1, oS) :: (L + 1 + 1 + 1, oP) :: (L + 1 + 1, oK) :: (L + 1, oD) :: (z.objs w line t1 ys (n + 1) ++ ((145, tabObj ps') :: (tl ++ fx)))) := News.sub N6 (by intro p hp; simp only [List.mem_cons, List.mem_append, Lx.mem_objs] at hp ⊢; grind)
  refine seq (T7 w sc s6 B h6 g5' dd tk6 os L m5 ((L + 1 + 1 + 1 + 1, oS) :: (L + 1 + 1 + 1, oP) :: (L + 1 + 1, oK) :: (L + 1, oD) :: (z.objs w line t1 ys (n + 1) ++ ((145, tabObj ps') :: (tl ++ fx)))) _ ad au af ag mg mb loose line (wrTxt (repTxt (sizesL tt (rr + P kk) rr bb ee)) ww) tr ttx X T st6 hsc hr hu F6 N6' (Agree.get A5 (x := Str.ofString "row") (by decide) (Agree.get A3 (x := Str.ofString "row") (by decide) (Agree.get A2 (x := Str.ofString "row") (by decide) (Agree.get A1 (x := Str.ofString "row") (by decide) jro)))) gtx ?_)
  intro h7 tk7 m7 a7 F7 N7 A7 g8
  have N7' : News B L h7 (z.objs w line t1 ys (n + 1) ++ ((L + 1 + 1 + 1 + 1, oS) :: (L + 1 + 1 + 1, oP) :: (L + 1 + 1, oK) :: (L + 1, oD) :: ((145, tabObj ps') :: (tl ++ fx)))) := News.sub N7 (by intro p hp; simp only [List.mem_cons, List.mem_append] at hp ⊢; grind)
  have ne8 : ∀ p ∈ (L + 1 + 1 + 1 + 1, oS) :: (L + 1 + 1 + 1, oP) :: (L + 1 + 1, oK) :: (L + 1, oD) :: ((145, tabObj ps') :: (tl ++ fx)), p.1 ∉ z.ads := by
    intro p hp
    rcases cc4 hp with hp | hp
    · exact jcz p hp
    · rcases List.mem_cons.mp hp with rfl | hp
      · exact jz5
      · exact jzt p hp
  have hcl : (cp (wrTxt (repTxt (sizesL tt (rr + P kk) rr bb ee)) ww)).length < 10000 := by rw [← len_cp]; omega
  refine seq (T8 w sc s7 B h7 g5' dd tk7 os L m7 ((L + 1 + 1 + 1 + 1, oS) :: (L + 1 + 1 + 1, oP) :: (L + 1 + 1, oK) :: (L + 1, oD) :: ((145, tabObj ps') :: (tl ++ fx))) _ ad au af ag mg mb loose z line t1 ys (n + 1) (cp (wrTxt (repTxt (sizesL tt (rr + P kk) rr bb ee)) ww)) X T st7 hsc hr hu F7 N7' (Agree.get A7 (x := Str.ofString "lexer") (by decide) (Agree.get A5 (x := Str.ofString "lexer") (by decide) (Agree.get A3 (x := Str.ofString "lexer") (by decide) (Agree.get A2 (x := Str.ofString "lexer") (by decide) (Agree.get A1 (x := Str.ofString "lexer") (by decide) jlx))))) jok ne8 hys wsm hcl ?_)
  intro h8 tk8 m8 W tW kW t1b vs8 n8 F8 N8 hS8 ltW A8 g9
  rw [law.first] at N8
  have hS8' := hS8
  have hrs : ∀ y ∈ (sTok line (cp (wrTxt (repTxt (sizesL tt (rr + P kk) rr bb ee)) ww))).2.1, y < 128 := fun y hy => wsm y ((sTok_rest line (cp (wrTxt (repTxt (sizesL tt (rr + P kk) rr bb ee)) ww))).2 y hy)
  have hrl : (sTok line (cp (wrTxt (repTxt (sizesL tt (rr + P kk) rr bb ee)) ww))).2.1.length < 10000 := Nat.lt_of_le_of_lt (sTok_rest line (cp (wrTxt (repTxt (sizesL tt (rr + P kk) rr bb ee)) ww))).1 hcl
  have neW : W ∉ z.ads := fun hW => by
    rw [← Lx.ads_eq w z (sTok line (cp (wrTxt (repTxt (sizesL tt (rr + P kk) rr bb ee)) ww))).2.2 t1b vs8 n8] at hW
    obtain ⟨p, hp, e⟩ := List.mem_map.mp hW
    have := ltW p (List.mem_append_left _ hp)
    rw [e] at this
    exact Nat.lt_irrefl _ this
  have ltW' : ∀ p ∈ (L + 1 + 1 + 1 + 1, oS) :: (L + 1 + 1 + 1, oP) :: (L + 1 + 1, oK) :: (L + 1, oD) :: ((145, tabObj ps') :: (tl ++ fx)), p.1 ≠ W := fun p hp => Nat.ne_of_lt (ltW p (List.mem_append_right _ hp))
  refine seq (T9 w sc s8 B h8 g5' dd tk8 os L m8 ((L + 1 + 1 + 1 + 1, oS) :: (L + 1 + 1 + 1, oP) :: (L + 1 + 1, oK) :: (L + 1, oD) :: ((145, tabObj ps') :: (tl ++ fx))) _ ad au af ag mg mb loose z (sTok line (cp (wrTxt (repTxt (sizesL tt (rr + P kk) rr bb ee)) ww))).2.2 t1b vs8 n8 (sTok line (cp (wrTxt (repTxt (sizesL tt (rr + P kk) rr bb ee)) ww))).2.1 W [.str (txt tok) tW] kW [] tok ts (line + n10 (cp (wrTxt (repTxt (sizesL tt (rr + P kk) rr bb ee)) ww))) [] X T st8 hsc hr hu F8 N8 (Agree.get A8 (x := Str.ofString "lexer") (by decide) (Agree.get A7 (x := Str.ofString "lexer") (by decide) (Agree.get A5 (x := Str.ofString "lexer") (by decide) (Agree.get A3 (x := Str.ofString "lexer") (by decide) (Agree.get A2 (x := Str.ofString "lexer") (by decide) (Agree.get A1 (x := Str.ofString "lexer") (by decide) jlx)))))) g9 jok ne8 neW ltW' hS8 hrs hrl (.cons _ _ .nil) law.lex law.len ?_)
  intro h9 tk9 t1c vs9 n9 ws kw F9 N9 hS9 hws
  cases hS9
  have N9' : News B L h9 ((L + 1 + 1 + 1 + 1, oS) :: (L + 1 + 1 + 1, oP) :: (L + 1 + 1, oK) :: (L + 1, oD) :: ((W, listOf (List.toArray ws) kw) :: (z.objs w (line + n10 (cp (wrTxt (repTxt (sizesL tt (rr + P kk) rr bb ee)) ww))) t1c [] n9 ++ ((145, tabObj ps') :: (tl ++ fx))))) := News.sub N9 (by intro p hp; simp only [List.mem_cons, List.mem_append] at hp ⊢; grind)
  have tl10 : ∀ p ∈ tl, p ∈ (W, listOf (List.toArray ws) kw) :: (z.objs w (line + n10 (cp (wrTxt (repTxt (sizesL tt (rr + P kk) rr bb ee)) ww))) t1c [] n9 ++ ((145, tabObj ps') :: (tl ++ fx))) := (by intro p hp; simp only [List.mem_cons, List.mem_append] at hp ⊢; grind)
  have ne10 : ∀ c ∈ (L + 1 + 1 + 1 + 1, oS) :: (L + 1 + 1 + 1, oP) :: (L + 1 + 1, oK) :: (L + 1, oD) :: [], ∀ p ∈ (W, listOf (List.toArray ws) kw) :: (z.objs w (line + n10 (cp (wrTxt (repTxt (sizesL tt (rr + P kk) rr bb ee)) ww))) t1c [] n9 ++ ((145, tabObj ps') :: (tl ++ fx))), p.1 ≠ c.1 := by
    intro c hc p hp
    rcases List.mem_cons.mp hp with rfl | hp
    · exact fun e => ltW' c (cc_in hc) e.symm
    · rcases List.mem_append.mp hp with hp | hp
      · exact fun e => jcz c hc (e ▸ Lx.in_ads hp)
      · rcases List.mem_cons.mp hp with rfl | hp
        · exact fun e => jc5 c hc e.symm
        · exact jct c hc p hp
  refine seq (T10 w sc s9 B h9 g5' dd tk9 os L m8 ((W, listOf (List.toArray ws) kw) :: (z.objs w (line + n10 (cp (wrTxt (repTxt (sizesL tt (rr + P kk) rr bb ee)) ww))) t1c [] n9 ++ ((145, tabObj ps') :: (tl ++ fx)))) _ ad au af ag mg mb loose kk a1 oS oP oK oD pl pvs np P tt rr bb ee a4 a2 a3 a5 X T st9 hsc hr hu F9 N9' (Agree.get A8 (x := Str.ofString "k") (by decide) (Agree.get A7 (x := Str.ofString "k") (by decide) (Agree.get A5 (x := Str.ofString "k") (by decide) (Agree.get A3 (x := Str.ofString "k") (by decide) (Agree.get A2 (x := Str.ofString "k") (by decide) g1))))) (Agree.get A8 (x := Str.ofString "tabs") (by decide) (Agree.get A7 (x := Str.ofString "tabs") (by decide) (Agree.get A5 (x := Str.ofString "tabs") (by decide) (Agree.get A3 (x := Str.ofString "tabs") (by decide) g4)))) (Agree.get A8 (x := Str.ofString "run") (by decide) (Agree.get A7 (x := Str.ofString "run") (by decide) (Agree.get A5 (x := Str.ofString "run") (by decide) (Agree.get A3 (x := Str.ofString "run") (by decide) (Agree.get A2 (x := Str.ofString "run") (by decide) g2))))) (Agree.get A8 (x := Str.ofString "behind") (by decide) (Agree.get A7 (x := Str.ofString "behind") (by decide) (Agree.get A5 (x := Str.ofString "behind") (by decide) (Agree.get A3 (x := Str.ofString "behind") (by decide) (Agree.get A2 (x := Str.ofString "behind") (by decide) g3))))) (Agree.get A8 (x := Str.ofString "equals") (by decide) (Agree.get A7 (x := Str.ofString "equals") (by decide) (Agree.get A5 (x := Str.ofString "equals") (by decide) (Agree.get A3 (x := Str.ofString "equals") (by decide) g5)))) vS jdS jdP (tl10 _ jpl) jpv hk5 hp16 (ne10 _ (.head _)) b1 b3 b4 b5 ?_)
  intro h10 tk10 oS' sl svs nsl F10 N10 dS' hI10 fr10
  refine seq (T11 w sc s10 B h10 g5' dd tk10 os L m8 ((sl, listOf (List.toArray svs) nsl) :: ((W, listOf (List.toArray ws) kw) :: (z.objs w (line + n10 (cp (wrTxt (repTxt (sizesL tt (rr + P kk) rr bb ee)) ww))) t1c [] n9 ++ ((145, tabObj ps') :: (tl ++ fx))))) _ ad au af ag mg mb loose oS' oP oK oD sl svs nsl (sizesL tt (rr + P kk) rr bb ee) X T st10 hsc hr hu F10 N10 dS' (.head _) hI10 hnl hns100 ?_)
  intro h11 tk11 m11 td F11 N11 A11 g11
  have N11' : News B L h11 (z.objs w (line + n10 (cp (wrTxt (repTxt (sizesL tt (rr + P kk) rr bb ee)) ww))) t1c [] n9 ++ ((L + 1 + 1 + 1 + 1, oS') :: (L + 1 + 1 + 1, oP) :: (L + 1 + 1, oK) :: (L + 1, oD) :: ((sl, listOf (List.toArray svs) nsl) :: (W, listOf (List.toArray ws) kw) :: ((145, tabObj ps') :: (tl ++ fx))))) := News.sub N11 (by intro p hp; simp only [List.mem_cons, List.mem_append] at hp ⊢; grind)
  have hrow : line + Txt.count (wrTxt (repTxt (sizesL tt (rr + P kk) rr bb ee)) ww) (Str.ofString "\n") = (line + n10 (cp (wrTxt (repTxt (sizesL tt (rr + P kk) rr bb ee)) ww))) := by rw [count_cp]
  have hdl : (repTxt (sizesL tt (rr + P kk) rr bb ee)).length + 2 ≤ sizeLine := by rw [sizeLine_eq]; omega
  have hdw : (Txt.words (repTxt (sizesL tt (rr + P kk) rr bb ee))).length < 1000 := by rw [words_rep _ hns, List.length_map, repW_len]; omega
  have mW : (W, listOf (List.toArray ws) kw) ∈ (L + 1 + 1 + 1 + 1, oS') :: (L + 1 + 1 + 1, oP) :: (L + 1 + 1, oK) :: (L + 1, oD) :: ((sl, listOf (List.toArray svs) nsl) :: (W, listOf (List.toArray ws) kw) :: ((145, tabObj ps') :: (tl ++ fx))) := .tail _ (.tail _ (.tail _ (.tail _ (.tail _ (.head _)))))
  refine seq (T12 w sc s11 B h11 g5' dd tk11 os L m11 ((L + 1 + 1 + 1 + 1, oS') :: (L + 1 + 1 + 1, oP) :: (L + 1 + 1, oK) :: (L + 1, oD) :: ((sl, listOf (List.toArray svs) nsl) :: (W, listOf (List.toArray ws) kw) :: ((145, tabObj ps') :: (tl ++ fx)))) _ ad au af ag mg mb loose z (line + n10 (cp (wrTxt (repTxt (sizesL tt (rr + P kk) rr bb ee)) ww))) t1c [] n9 W ws kw ((tok :: ts).map txt) ww a6 (repTxt (sizesL tt (rr + P kk) rr bb ee)) td (line + Txt.count (wrTxt (repTxt (sizesL tt (rr + P kk) rr bb ee)) ww) (Str.ofString "\n")) a7 X T st11 hsc hr hu F11 N11' (Agree.get A11 (x := Str.ofString "lexer") (by decide) (Agree.get A8 (x := Str.ofString "lexer") (by decide) (Agree.get A7 (x := Str.ofString "lexer") (by decide) (Agree.get A5 (x := Str.ofString "lexer") (by decide) (Agree.get A3 (x := Str.ofString "lexer") (by decide) (Agree.get A2 (x := Str.ofString "lexer") (by decide) (Agree.get A1 (x := Str.ofString "lexer") (by decide) jlx))))))) (Agree.get A11 (x := Str.ofString "words") (by decide) g9) (Agree.get A11 (x := Str.ofString "way") (by decide) (Agree.get A8 (x := Str.ofString "way") (by decide) (Agree.get A7 (x := Str.ofString "way") (by decide) (Agree.get A5 (x := Str.ofString "way") (by decide) (Agree.get A3 (x := Str.ofString "way") (by decide) g6))))) g11 (Agree.get A11 (x := Str.ofString "row") (by decide) (Agree.get A8 (x := Str.ofString "row") (by decide) g8)) jok mW hws hrow law.hi law.lo hdl hdw ?_)
  intro h12 tk12 F12 N12
  have tl13 : ∀ p ∈ tl, p ∈ z.objs w (line + n10 (cp (wrTxt (repTxt (sizesL tt (rr + P kk) rr bb ee)) ww))) t1c [] n9 ++ ((L + 1 + 1 + 1 + 1, oS') :: (L + 1 + 1 + 1, oP) :: (L + 1 + 1, oK) :: (L + 1, oD) :: ((sl, listOf (List.toArray svs) nsl) :: (W, listOf (List.toArray ws) kw) :: ((145, tabObj ps') :: (tl ++ fx)))) := (by intro p hp; simp only [List.mem_cons, List.mem_append] at hp ⊢; grind)
  have mW3 : (W, listOf (List.toArray ws) kw) ∈ z.objs w (line + n10 (cp (wrTxt (repTxt (sizesL tt (rr + P kk) rr bb ee)) ww))) t1c [] n9 ++ ((L + 1 + 1 + 1 + 1, oS') :: (L + 1 + 1 + 1, oP) :: (L + 1 + 1, oK) :: (L + 1, oD) :: ((sl, listOf (List.toArray svs) nsl) :: (W, listOf (List.toArray ws) kw) :: ((145, tabObj ps') :: (tl ++ fx)))) := List.mem_append_right _ mW
  refine seq (T13 w sc s12 B h12 g5' dd tk12 os L m11 (z.objs w (line + n10 (cp (wrTxt (repTxt (sizesL tt (rr + P kk) rr bb ee)) ww))) t1c [] n9 ++ ((L + 1 + 1 + 1 + 1, oS') :: (L + 1 + 1 + 1, oP) :: (L + 1 + 1, oK) :: (L + 1, oD) :: ((sl, listOf (List.toArray svs) nsl) :: (W, listOf (List.toArray ws) kw) :: ((145, tabObj ps') :: (tl ++ fx))))) _ ad au af ag mg mb loose W ws kw ((tok :: ts).map txt) lp as P (sizesL tt (rr + P kk) rr bb ee) tl X T st12 hsc hr hu F12 N12 tl13 (Agree.get A11 (x := Str.ofString "words") (by decide) g9) (Agree.get A11 (x := Str.ofString "lamps") (by decide) (Agree.get A8 (x := Str.ofString "lamps") (by decide) (Agree.get A7 (x := Str.ofString "lamps") (by decide) (Agree.get A5 (x := Str.ofString "lamps") (by decide) (Agree.get A3 (x := Str.ofString "lamps") (by decide) (Agree.get A2 (x := Str.ofString "lamps") (by decide) (Agree.get A1 (x := Str.ofString "lamps") (by decide) jlm))))))) mW3 hws law.jo law.jl law.wl law.wd ⟨nl, jlp⟩ jla jP hns ?_)
  intro h13 tk13 m13 lp' as' ex F13 N13 sep13 hlp' hla' A13 g13
  have N13' : News B L h13 ((L + 1 + 1 + 1 + 1, oS') :: (L + 1 + 1 + 1, oP) :: (L + 1 + 1, oK) :: (L + 1, oD) :: (ex ++ ((sl, listOf (List.toArray svs) nsl) :: (W, listOf (List.toArray ws) kw) :: (z.objs w (line + n10 (cp (wrTxt (repTxt (sizesL tt (rr + P kk) rr bb ee)) ww))) t1c [] n9 ++ ((145, tabObj ps') :: (tl ++ fx)))))) := News.sub N13 (by intro p hp; simp only [List.mem_cons, List.mem_append] at hp ⊢; grind)
  have tl14 : ∀ p ∈ tl, p ∈ ex ++ ((sl, listOf (List.toArray svs) nsl) :: (W, listOf (List.toArray ws) kw) :: (z.objs w (line + n10 (cp (wrTxt (repTxt (sizesL tt (rr + P kk) rr bb ee)) ww))) t1c [] n9 ++ ((145, tabObj ps') :: (tl ++ fx)))) := (by intro p hp; simp only [List.mem_cons, List.mem_append] at hp ⊢; grind)
  have msl : (sl, listOf (List.toArray svs) nsl) ∈ ex ++ ((sl, listOf (List.toArray svs) nsl) :: (W, listOf (List.toArray ws) kw) :: (z.objs w (line + n10 (cp (wrTxt (repTxt (sizesL tt (rr + P kk) rr bb ee)) ww))) t1c [] n9 ++ ((145, tabObj ps') :: (tl ++ fx)))) := List.mem_append_right _ (.head _)
  have ne14 : ∀ p ∈ ex ++ ((sl, listOf (List.toArray svs) nsl) :: (W, listOf (List.toArray ws) kw) :: (z.objs w (line + n10 (cp (wrTxt (repTxt (sizesL tt (rr + P kk) rr bb ee)) ww))) t1c [] n9 ++ ((145, tabObj ps') :: (tl ++ fx)))), p.1 ≠ L + 1 + 1 + 1 := by
    intro p hp
    rcases List.mem_append.mp hp with hp | hp
    · exact fun e => sep13 p hp (L + 1 + 1 + 1, oP) (List.mem_append_right _ (.tail _ (.head _))) e.symm
    · rcases List.mem_cons.mp hp with rfl | hp
      · exact fun e => fr10 (L + 1 + 1 + 1, oP) (.tail _ (.head _)) e.symm
      · exact ne10 (L + 1 + 1 + 1, oP) (.tail _ (.head _)) p hp
  refine seq (T14 w sc s13 B h13 g5' dd tk13 os L m13 (ex ++ ((sl, listOf (List.toArray svs) nsl) :: (W, listOf (List.toArray ws) kw) :: (z.objs w (line + n10 (cp (wrTxt (repTxt (sizesL tt (rr + P kk) rr bb ee)) ww))) t1c [] n9 ++ ((145, tabObj ps') :: (tl ++ fx))))) _ ad au af ag mg mb loose oS' oP oK oD sl svs nsl pl pvs np P (sizesL tt (rr + P kk) rr bb ee) X T st13 hsc hr hu F13 N13' dS' jdP (tl14 _ jpl) jpv msl hI10 (Nat.lt_trans hnl (by decide)) hns jP ne14 ?_)
  intro h14 tk14 oP' pl' pvs' np' F14 N14 dP' hpv' fr14
  refine wpAny_execs_nil (hq h14 tk14 g5' m13 (fun k => (P k + ((sizesL tt (rr + P kk) rr bb ee).filter fun n => n % 5 == k).sum) % 16) (line + n10 (cp (wrTxt (repTxt (sizesL tt (rr + P kk) rr bb ee)) ww))) oS' oP' ps' t1c n9 ((pl', listOf (List.toArray pvs') np') :: ex) F14 (News.sub N14 (by intro p hp; simp only [List.mem_cons, List.mem_append] at hp ⊢; grind)) ?j9 bare ?s9)
  obtain ⟨nl', hlp'⟩ := hlp'
  have adZ : ∀ a ∈ z.ads, ∃ q ∈ z.objs w (line + n10 (cp (wrTxt (repTxt (sizesL tt (rr + P kk) rr bb ee)) ww))) t1c [] n9, q.1 = a := fun a ha => by
    rw [← Lx.ads_eq w z (line + n10 (cp (wrTxt (repTxt (sizesL tt (rr + P kk) rr bb ee)) ww))) t1c [] n9] at ha
    exact List.mem_map.mp ha
  have frC : ∀ p ∈ (L + 1 + 1 + 1 + 1, oS') :: (L + 1 + 1 + 1, oP') :: (L + 1 + 1, oK) :: (L + 1, oD) :: [], p.1 ≠ pl' := cc_addr (R := fun a => a ≠ pl') fun p hp => fr14 p (cc_in hp)
  have sepC : ∀ p ∈ (L + 1 + 1 + 1 + 1, oS') :: (L + 1 + 1 + 1, oP') :: (L + 1 + 1, oK) :: (L + 1, oD) :: [], ∀ q ∈ ex, q.1 ≠ p.1 := cc_addr (R := fun a => ∀ q ∈ ex, q.1 ≠ a) (o1 := oS') (o2 := oP) (o3 := oK) (o4 := oD) fun p hp q hq e => sep13 q hq p (List.mem_append_right _ (cc_in hp)) e.symm
  have jct' : ∀ p ∈ (L + 1 + 1 + 1 + 1, oS') :: (L + 1 + 1 + 1, oP') :: (L + 1 + 1, oK) :: (L + 1, oD) :: [], ∀ q ∈ tl ++ fx, q.1 ≠ p.1 := cc_addr (R := fun a => ∀ q ∈ tl ++ fx, q.1 ≠ a) jct
  have m145 : ((145 : Addr), tabObj ps') ∈ z.objs w (line + n10 (cp (wrTxt (repTxt (sizesL tt (rr + P kk) rr bb ee)) ww))) t1c [] n9 ++ ((L + 1 + 1 + 1 + 1, oS') :: (L + 1 + 1 + 1, oP) :: (L + 1 + 1, oK) :: (L + 1, oD) :: ((sl, listOf (List.toArray svs) nsl) :: (W, listOf (List.toArray ws) kw) :: ((145, tabObj ps') :: (tl ++ fx)))) := List.mem_append_right _ (.tail _ (.tail _ (.tail _ (.tail _ (.tail _ (.tail _ (.head _)))))))
  case s9 =>
    intro p hp q hq
    rcases List.mem_cons.mp hp with rfl | hp
    · exact fr14 q (.tail _ (.tail _ (.tail _ (.tail _ (List.mem_append_right _ (.tail _ (.tail _ (List.mem_append_right _ (.tail _ hq)))))))))
    · exact sep13 p hp q (List.mem_append_right _ (.tail _ (.tail _ (.tail _ (.tail _ (.tail _ (.tail _ (.tail _ hq))))))))
  refine ⟨jok, ⟨pl', pvs', np', dP', .head _, hpv'⟩, ⟨kl, ka, jdK, jkk.mono fun q hq => List.mem_append_right _ hq⟩, ⟨_, dS'⟩, ⟨lp', nl', as', g13, .tail _ hlp', fun k hk => ?_⟩, fun k hk => Nat.mod_lt _ (by decide), (Agree.get A13 (x := Str.ofString "left") (by decide) (Agree.get A11 (x := Str.ofString "left") (by decide) (Agree.get A8 (x := Str.ofString "left") (by decide) (Agree.get A7 (x := Str.ofString "left") (by decide) (Agree.get A5 (x := Str.ofString "left") (by decide) (Agree.get A3 (x := Str.ofString "left") (by decide) (Agree.get A2 (x := Str.ofString "left") (by decide) (Agree.get A1 (x := Str.ofString "left") (by decide) jle)))))))), (Agree.get A13 (x := Str.ofString "lexer") (by decide) (Agree.get A11 (x := Str.ofString "lexer") (by decide) (Agree.get A8 (x := Str.ofString "lexer") (by decide) (Agree.get A7 (x := Str.ofString "lexer") (by decide) (Agree.get A5 (x := Str.ofString "lexer") (by decide) (Agree.get A3 (x := Str.ofString "lexer") (by decide) (Agree.get A2 (x := Str.ofString "lexer") (by decide) (Agree.get A1 (x := Str.ofString "lexer") (by decide) jlx)))))))), ⟨a7, by rw [← hrow]; exact (Agree.get A13 (x := Str.ofString "row") (by decide) (Agree.get A11 (x := Str.ofString "row") (by decide) (Agree.get A8 (x := Str.ofString "row") (by decide) g8)))⟩, tri', cc_addr (R := fun a => a ∉ z.ads) jcz, cc_addr (R := fun a => a ≠ 145) jc5, ?_, jz5, ?_, ?_⟩
  · have := hla' k hk
    rw [fold_adv _ _ _ (jP k hk)] at this
    exact this.mono fun q hq => .tail _ hq
  · intro p hp q hq
    rcases List.mem_append.mp hq with hq | hq
    · rcases List.mem_append.mp hq with hq | hq
      · rcases List.mem_cons.mp hq with rfl | hq
        · exact fun e => frC p hp e.symm
        · exact sepC p hp q hq
      · exact jct' p hp q (List.mem_append_left _ hq)
    · exact jct' p hp q (List.mem_append_right _ hq)
  · intro p hp
    rcases List.mem_append.mp hp with hp | hp
    · rcases List.mem_append.mp hp with hp | hp
      · rcases List.mem_cons.mp hp with rfl | hp
        · intro ha
          obtain ⟨q, hq, e⟩ := adZ _ ha
          exact fr14 q (.tail _ (.tail _ (.tail _ (.tail _ (List.mem_append_right _ (.tail _ (.tail _ (List.mem_append_left _ hq)))))))) e
        · intro ha
          obtain ⟨q, hq, e⟩ := adZ _ ha
          exact sep13 p hp q (List.mem_append_left _ hq) e
      · exact jzt p (List.mem_append_left _ hp)
    · exact jzt p (List.mem_append_right _ hp)
  · intro p hp
    rcases List.mem_append.mp hp with hp | hp
    · rcases List.mem_append.mp hp with hp | hp
      · rcases List.mem_cons.mp hp with rfl | hp
        · exact fun e => fr14 (145, tabObj ps') (.tail _ (.tail _ (.tail _ (.tail _ (List.mem_append_right _ (.tail _ (.tail _ (List.mem_append_right _ (.head _))))))))) e.symm
        · exact fun e => sep13 p hp (145, tabObj ps') m145 e.symm
      · exact jt5 p (List.mem_append_left _ hp)
    · exact jt5 p (List.mem_append_right _ hp)
end Mine
namespace Mine
open PySem PySem.W PyProof.Rows
theorem flush58 {M : Model} {A : Around} {Q : Flow → Shared → Prop} {E : Value → Shared → Prop} {s : Shared} {env : Env} (h : wpAny M A (execs [] env) Q E s) : wpAny M A (execs [] env) Q E s := by
  k_with_none
  (try (walk1; fail))
  w_top off
  exact h
end Mine
namespace Mine
open PySem PySem.W PyProof.Rows PySem.Calls
set_option maxHeartbeats 1000000
set_option linter.unusedVariables false
theorem kset60 : True := by
  k_with_none
  k_with "mine agree" =>
    repeat (first
      | exact Agree.refl
      | (refine' Agree.set (by first | exact .head _ | exact .tail _ (.head _) | exact .tail _ (.tail _ (.head _))) ?_)
      | (refine' Agree.same (by assumption) ?_))
  trivial
theorem TurnIn.more {w : World} {L : Addr} {m : Str → Option Value} {P : Nat → Nat} {z : Lx} {line : Int} {oS oP oK oD : Obj} {ps : Array Value} {tl fx : List (Addr × Obj)} {I : Addr} {oI : Obj} (J : TurnIn w L m P z line oS oP oK oD ps tl fx)
    (h1 : ∀ p ∈ (L + 1 + 1 + 1 + 1, oS) :: (L + 1 + 1 + 1, oP) :: (L + 1 + 1, oK) :: (L + 1, oD) :: [], p.1 ≠ I) (h2 : I ∉ z.ads) (h3 : I ≠ 145) : TurnIn w L m P z line oS oP oK oD ps tl ((I, oI) :: fx) := by
  obtain ⟨a1, a2, a3, a4, a5, a6, a7, a8, a9, b1, b2, b3, b4, b5, b6, b7⟩ := J
  have key : ∀ {R : Addr → Prop}, R I → (∀ q ∈ tl ++ fx, R q.1) → ∀ q ∈ tl ++ ((I, oI) :: fx), R q.1 := fun r h q hq => by
    rcases List.mem_append.mp hq with hq | hq
    · exact h q (List.mem_append_left _ hq)
    · rcases List.mem_cons.mp hq with rfl | hq
      · exact r
      · exact h q (List.mem_append_right _ hq)
  exact ⟨a1, a2, a3, a4, a5, a6, a7, a8, a9, b1, b2, b3, fun p hp => key (R := fun a => a ≠ p.1) (fun e => h1 p hp e.symm) (b4 p hp), b5, key (R := fun a => a ∉ z.ads) h2 b6, key (R := fun a => a ≠ 145) h3 b7⟩
theorem TurnIn.less {w : World} {L : Addr} {m : Str → Option Value} {P : Nat → Nat} {z : Lx} {line : Int} {oS oP oK oD : Obj} {ps : Array Value} {tl fx : List (Addr × Obj)} {q : Addr × Obj} (J : TurnIn w L m P z line oS oP oK oD ps tl (q :: fx)) : TurnIn w L m P z line oS oP oK oD ps tl fx := by
  obtain ⟨a1, a2, a3, a4, a5, a6, a7, a8, a9, b1, b2, b3, b4, b5, b6, b7⟩ := J
  have sub : ∀ p ∈ tl ++ fx, p ∈ tl ++ (q :: fx) := fun p hp => (List.mem_append.mp hp).elim (fun h => List.mem_append_left _ h) fun h => List.mem_append_right _ (.tail _ h)
  exact ⟨a1, a2, a3, a4, a5, a6, a7, a8, a9, b1, b2, b3, fun p hp q hq => b4 p hp q (sub q hq), b5, fun p hp => b6 p (sub p hp), fun p hp => b7 p (sub p hp)⟩
end Mine
namespace Mine
open PySem PySem.W PyProof.Rows
theorem flush59 {M : Model} {A : Around} {Q : Flow → Shared → Prop} {E : Value → Shared → Prop} {s : Shared} {env : Env} (h : wpAny M A (execs [] env) Q E s) : wpAny M A (execs [] env) Q E s := by
  k_with_none
  (try (walk1; fail))
  w_top off
  exact h
end Mine
namespace Mine
open PySem PySem.W PyProof.Rows PySem.Calls
set_option maxHeartbeats 1000000
set_option linter.unusedVariables false
theorem kset61 : True := by
  k_with_none
  k_with "mine agree" =>
    repeat (first
      | exact Agree.refl
      | (refine' Agree.set (by first | exact .head _ | exact .tail _ (.head _) | exact .tail _ (.tail _ (.head _))) ?_)
      | (refine' Agree.same (by assumption) ?_))
  k_with "pyIter ref" =>
    refine halt ?_
  trivial
theorem law_use2 {K : Frag} {a : Addr} {o : Obj} {y : List Stmt} {g : List Stmt → List Stmt} {P : Prop} (e : K.lookup a = some o) (h : g (bodyIn (K.lookup a)) = y) (k : g (bodyIn (some o)) = y → P) : P := by
  rw [e] at h
  exact k h
theorem TurnIn.loc {w : World} {L : Addr} {m m' : Str → Option Value} {P : Nat → Nat} {z : Lx} {line : Int} {oS oP oK oD : Obj} {ps : Array Value} {tl fx : List (Addr × Obj)} (J : TurnIn w L m P z line oS oP oK oD ps tl fx)
    (h : ∀ a ∈ [Str.ofString "lamps", Str.ofString "left", Str.ofString "lexer", Str.ofString "row"], m' a = m a) : TurnIn w L m' P z line oS oP oK oD ps tl fx := by
  obtain ⟨a1, a2, a3, a4, ⟨lp, nl, as, q1, q2, q3⟩, a6, a7, a8, ⟨t, a9⟩, b1, b2, b3, b4, b5, b6, b7⟩ := J
  exact ⟨a1, a2, a3, a4, ⟨lp, nl, as, (h _ (.head _)).trans q1, q2, q3⟩, a6, (h _ (.tail _ (.head _))).trans a7, (h _ (.tail _ (.tail _ (.head _)))).trans a8, ⟨t, (h _ (.tail _ (.tail _ (.tail _ (.head _))))).trans a9⟩, b1, b2, b3, b4, b5, b6, b7⟩
theorem pick4 (l : List Value) (h : l.length = 5) : kms_pick l none (some 4) = l.take 4 :=
  list_n 5 l (fun l => kms_pick l none (some 4) = l.take 4) h fun _ _ _ _ _ => rfl
theorem slice4 {prog : Program} {w : World} {A : Around} {E : Value → Shared → Prop} {s : Shared} {h₀ : Heap} {L l : Addr} {m : Str → Option Value} {news : List (Addr × Obj)} {value slice : PySem.Expr} {vl vu : Value} {lo hi : Option Int} {items : List Value} {n : Nat} {Q : Value → Shared → Prop}
    (F : Fr h₀ L s.heap m) (N : News h₀ L s.heap news) (hm : (l, listOf items.toArray n) ∈ news) (hlen : items.length < 1000) (pl : IsPart vl lo) (pu : IsPart vu hi)
    (h : ∀ D h', Fr h₀ L h' m → News h₀ L h' ((D, listO (kms_pick items lo hi)) :: news) → (∀ p ∈ news, p.1 < D) → Q (.ref D) { s with heap := h' })
    (hs : subscripted slice false (.ref l) (.ref s.heap.objs.size) = operate [.ref s.heap.objs.size, .ref l] (getItem (.ref l) (.ref s.heap.objs.size))) (ht : ∀ r, letTemporaryGo value (.ref l) r = pure ()) :
    wpAny (model prog w) A (subscriptTail value slice (.ref l) (.ref s.heap.objs.size)) Q E { s with heap := s.heap.push { cls := .type "slice", data := .fields #[vl, vu, .none] } } := slice3 F N (News.isList N hm) hlen pl pu h hs ht
theorem kset62 : True := by
  k_with "subscriptTail Name Slice ref ref" =>
    (refine' slice4 (by k_asm) (by k_asm) (by assumption) (by assumption) (by kmk_part) (by kmk_part) ?_ (by with_unfolding_all rfl) (by kmk_pure); intro _ _ _ _ _; (try k_sweep))
  trivial
theorem S8 : ∀ (w : World) (sc : Scope) (st : Stmt) (B h : Heap) (g : Array GenState) (dd : Drawn) (tk : Nat) (os : OsState) (L : Addr) (m : Str → Option Value) (tl : List (Addr × Obj)) (Q : Flow → Shared → Prop)
    (ad au : Nat) (af : Option (List Env)) (ag : Option (List Code)) (mg mb : Str → Option Value) (loose : List Str) (body : List Stmt) (z : Lx) (P : Nat → Nat) (line : Int) (oS oP oK oD : Obj) (ps : Array Value) (t1 : Tok) (n : Nat) (t0 : List (Addr × Obj)) (fx : List (Addr × Obj)) (dl : Addr) (dvs : List Value) (nd : Nat) (Dn : Nat → Nat)
    (X : (hd.heap_1 w.params).In B) (T : TopRead viewQ loose mg mb B) (hst : stmtIn 7 (bodyIn ((hd.heap_1 w.params).lookup 202)) = some st) (hsc : scopeIn ((hd.heap_1 w.params).lookup 202) = some sc) (hr : ad + 30 < recursionLimit) (hu : au + 200 < cLine)
    (F : Fr B L h m) (N : News B L h ((L + 1 + 1 + 1 + 1, oS) :: (L + 1 + 1 + 1, oP) :: (L + 1 + 1, oK) :: (L + 1, oD) :: tl))
    (htl : tl = z.objs w line t1 [] n ++ ((145, tabObj ps) :: (t0 ++ fx))) (hb : loopIn 7 (bodyIn ((hd.heap_1 w.params).lookup 202)) = body) (hsc2 : scopeIn ((hd.heap_1 w.params).lookup 202) = some sc) (hbm : B.BuiltinsAt mg 145) (J : TurnIn w L m P z line oS oP oK oD ps t0 fx) (dD : oD.data = .cell (some (.ref dl))) (hdl : (dl, listOf (List.toArray dvs) nd) ∈ fx) (hdv : IntsAre dvs (pl5 Dn)) (hgb : AllBare g)
    (hq : ∀ h' tk' g' m' P' line' oS' oP' ps' t1' n' t0', Fr B L h' m' → News B L h' ((L + 1 + 1 + 1 + 1, oS') :: (L + 1 + 1 + 1, oP') :: (L + 1 + 1, oK) :: (L + 1, oD) :: (z.objs w line' t1' [] n' ++ ((145, tabObj ps') :: (t0' ++ fx)))) → TurnIn w L m' P' z line' oS' oP' oK oD ps' t0' fx → AllBare g' → Q .next ⟨h', g', dd, tk', os⟩),
    wpAny (model PySem.Challenge.rw_pg0244_01.row.prog w) (Around.deeper { depth := ad, frames := af, guards := ag, units := au } (lawEnv sc L)) (exec st (lawEnv sc L)) Q (fun _ _ => False) ⟨h, g, dd, tk, os⟩ := by
  k_fill
  intro w sc st B h g dd tk os L m tl Q ad au af ag mg mb loose body z P line oS oP oK oD ps t1 n t0 fx dl dvs nd Dn X T hst hsc hr hu F N htl hb hsc2 hbm J dD hdl hdv hgb hq
  refine' law_use (f := fun l => stmtIn 7 l) ?e hst hsc ?_
  case e => k_dflt k_is
  intro e1 e2
  cases e1
  cases e2
  clear hst hsc
  have F1 : Fr B L h (chainOf [] m m) := by rw [← agree_chain Agree.refl]; exact F
  simp only [chainOf] at F1
  clear F
  unfold lawEnv
  have hb0 := hb
  refine' law_use2 (g := loopIn 7) ?e2 hb ?_
  case e2 => k_dflt k_is
  intro e3
  cases e3
  have hlen5 : dvs.length = 5 := hdv.length
  have hlen : dvs.length < 1000 := by omega
  have hmd : (dl, listOf (List.toArray dvs) nd) ∈ (L + 1 + 1 + 1 + 1, oS) :: (L + 1 + 1 + 1, oP) :: (L + 1 + 1, oK) :: (L + 1, oD) :: tl := .tail _ (.tail _ (.tail _ (.tail _ (htl ▸ List.mem_append_right _ (.tail _ (List.mem_append_right _ hdl))))))
  refine wpAny_For ?_ (fun x => rfl)
  k_steps
  skip
  unfold Halt
  rename (Fr _ _ _ _) => F3
  rename (News _ _ _ _) => N3
  rename (∀ p ∈ _, _ < _) => lt3
  rename_i D4 h3
  rw [pick4 dvs hlen5] at N3
  subst htl
  have hI4 : IntsAre (dvs.take 4) ((pl5 Dn).take 4) := ints_take 4 hdv
  have hnat : ∀ a ∈ (pl5 Dn).take 4, ∃ x : Nat, a = (x : Int) := fun a ha => by
    simp only [pl5, List.take_succ_cons, List.take_zero, List.mem_cons, List.not_mem_nil, or_false] at ha
    rcases ha with rfl | rfl | rfl | rfl <;> exact ⟨_, rfl⟩
  have J3 : TurnIn w L m P z line oS oP oK oD ps t0 ((D4, listO (dvs.take 4)) :: fx) := J.more (fun p hp => Nat.ne_of_lt (lt3 p (cc_in hp))) (fun ha => by
    rw [← Lx.ads_eq w z line t1 [] n] at ha
    obtain ⟨q, hq', e⟩ := List.mem_map.mp ha
    have := lt3 q (.tail _ (.tail _ (.tail _ (.tail _ (List.mem_append_left _ hq')))))
    rw [e] at this
    exact Nat.lt_irrefl _ this) (Nat.ne_of_gt (lt3 (145, tabObj ps) (.tail _ (.tail _ (.tail _ (.tail _ (List.mem_append_right _ (.head _))))))))
  have N4 : News B L h3 ((L + 1 + 1 + 1 + 1, oS) :: (L + 1 + 1 + 1, oP) :: (L + 1 + 1, oK) :: (L + 1, oD) :: (z.objs w line t1 [] n ++ ((145, tabObj ps) :: (t0 ++ ((D4, listO (dvs.take 4)) :: fx))))) := News.sub N3 (by intro p hp; simp only [List.mem_cons, List.mem_append] at hp ⊢; grind)
  refine for_listNG (items := dvs.take 4) (kk := 0) (fun i m' news g' => ∃ P' line' oS' oP' ps' t1' n' t0', TurnIn w L m' P' z line' oS' oP' oK oD ps' t0' ((D4, listO (dvs.take 4)) :: fx) ∧ AllBare g' ∧ news = (L + 1 + 1 + 1 + 1, oS') :: (L + 1 + 1 + 1, oP') :: (L + 1 + 1, oK) :: (L + 1, oD) :: (z.objs w line' t1' [] n' ++ ((145, tabObj ps') :: (t0' ++ ((D4, listO (dvs.take 4)) :: fx))))) rfl rfl rfl rfl F3 N4 ?hl ?hJ ?turn ?done
  case hl =>
    rintro i m' news g' ⟨P', line', oS', oP', ps', t1', n', t0', J5, hg5, rfl⟩
    exact .tail _ (.tail _ (.tail _ (.tail _ (List.mem_append_right _ (.tail _ (List.mem_append_right _ (.head _)))))))
  case hJ => exact ⟨P, line, oS, oP, ps, t1, n, t0, J3, hgb, rfl⟩
  case turn =>
    rintro i v m' news h5 tk5 g5 I oI hi hv ⟨P', line', oS', oP', ps', t1', n', t0', J5, hg5, rfl⟩ hI hit F5 N5
    obtain ⟨a, t, ev, ea⟩ := hI4.at i v hv
    obtain ⟨x, ex⟩ := hnat a (List.mem_of_getElem? ea)
    subst ev ex
    have J6 : TurnIn w L (fun y => if y = Str.ofString "x" then some (.int (x : Int) t) else m' y) P' z line' oS' oP' oK oD ps' t0' ((I, oI) :: (D4, listO (dvs.take 4)) :: fx) := (J5.more (fun p hp => hI p (cc_in hp)) (fun ha => by
      rw [← Lx.ads_eq w z line' t1' [] n'] at ha
      obtain ⟨q, hq', e⟩ := List.mem_map.mp ha
      exact hI q (.tail _ (.tail _ (.tail _ (.tail _ (List.mem_append_left _ hq'))))) e) (fun e => hI (145, tabObj ps') (.tail _ (.tail _ (.tail _ (.tail _ (List.mem_append_right _ (.head _)))))) e.symm)).loc (fun a ha => if_neg (by
        simp only [List.mem_cons, List.not_mem_nil, or_false] at ha
        rcases ha with rfl | rfl | rfl | rfl <;> decide))
    refine turn_go w _ _ B h5 g5 dd tk5 os L _ t0' ((I, oI) :: (D4, listO (dvs.take 4)) :: fx) _ ad au af ag mg mb loose P' z line' oS' oP' oK oD ps' t1' n' x t X T hb0 hsc2 hr hu hbm F5 (News.sub N5 (by intro p hp; simp only [List.mem_cons, List.mem_append] at hp ⊢; grind)) (if_pos rfl) J6 ?_
    intro h' tk' g' m9 P9 line9 oS9 oP9 ps9 t9 n9 ex F9 N9 J9 bare sep9
    refine ⟨h', tk', g', m9, (L + 1 + 1 + 1 + 1, oS9) :: (L + 1 + 1 + 1, oP9) :: (L + 1 + 1, oK) :: (L + 1, oD) :: (z.objs w line9 t9 [] n9 ++ ((145, tabObj ps9) :: ((ex ++ t0') ++ ((D4, listO (dvs.take 4)) :: fx)))), rfl, F9, News.sub N9 (by intro p hp; simp only [List.mem_cons, List.mem_append] at hp ⊢; grind), ?_, P9, line9, oS9, oP9, ps9, t9, n9, ex ++ t0', J9.less, bare hg5, rfl⟩
    have mI : (I, oI) ∈ t0' ++ ((I, oI) :: (D4, listO (dvs.take 4)) :: fx) := List.mem_append_right _ (.head _)
    have mI2 : (I, oI) ∈ (ex ++ t0') ++ ((I, oI) :: (D4, listO (dvs.take 4)) :: fx) := List.mem_append_right _ (.head _)
    intro p hp
    rcases cc4 hp with hp | hp
    · exact fun e => J9.ct p hp _ mI2 e.symm
    · rcases List.mem_append.mp hp with hp | hp
      · intro e
        have g1 := J9.zt _ mI2
        have g2 := Lx.in_ads hp
        rw [show p.1 = I from e] at g2
        exact g1 g2
      · rcases List.mem_cons.mp hp with rfl | hp
        · exact fun e => J9.t5 _ mI2 e.symm
        · rcases List.mem_append.mp hp with hp | hp
          · rcases List.mem_append.mp hp with hp | hp
            · exact fun e => sep9 p hp _ mI e.symm
            · exact hI p (.tail _ (.tail _ (.tail _ (.tail _ (List.mem_append_right _ (.tail _ (List.mem_append_left _ hp)))))))
          · exact hI p (.tail _ (.tail _ (.tail _ (.tail _ (List.mem_append_right _ (.tail _ (List.mem_append_right _ hp)))))))
  case done =>
    rintro m' news h5 tk5 g5 ⟨P', line', oS', oP', ps', t1', n', t0', J5, hg5, rfl⟩ F5 N5
    exact hq h5 _ g5 m' P' line' oS' oP' ps' t1' n' t0' F5 (News.sub N5 (by intro p hp; simp only [List.mem_cons, List.mem_append] at hp ⊢; grind)) J5.less hg5
end Mine
namespace Mine
open PySem PySem.W PyProof.Rows
theorem flush60 {M : Model} {A : Around} {Q : Flow → Shared → Prop} {E : Value → Shared → Prop} {s : Shared} {env : Env} (h : wpAny M A (execs [] env) Q E s) : wpAny M A (execs [] env) Q E s := by
  k_with_none
  (try (walk1; fail))
  w_top off
  exact h
end Mine
namespace Mine
open PySem PySem.W PyProof.Rows PySem.Calls
set_option maxHeartbeats 1000000
set_option linter.unusedVariables false
theorem kset63 : True := by
  k_with_none
  k_with "mine agree" =>
    repeat (first
      | exact Agree.refl
      | (refine' Agree.set (by first | exact .head _ | exact .tail _ (.head _) | exact .tail _ (.tail _ (.head _))) ?_)
      | (refine' Agree.same (by assumption) ?_))
  trivial
theorem S10 : ∀ (w : World) (sc : Scope) (st : Stmt) (B h : Heap) (g : Array GenState) (dd : Drawn) (tk : Nat) (os : OsState) (L : Addr) (m : Str → Option Value) (tl : List (Addr × Obj)) (Q : Flow → Shared → Prop)
    (ad au : Nat) (af : Option (List Env)) (ag : Option (List Code)) (mg mb : Str → Option Value) (loose : List Str) (v : Nat)
    (X : (hd.heap_1 w.params).In B) (T : TopRead viewQ loose mg mb B) (hst : stmtIn 9 (bodyIn ((hd.heap_1 w.params).lookup 202)) = some st) (hsc : scopeIn ((hd.heap_1 w.params).lookup 202) = some sc) (hr : ad + 30 < recursionLimit) (hu : au + 200 < cLine)
    (F : Fr B L h m) (N : News B L h (tl))
    (hv : v = 0)
    (hq : ∀ tk', Q (.ret (.bool true)) ⟨h, g, dd, tk', os⟩),
    wpAny (model PySem.Challenge.rw_pg0244_01.row.prog w) (Around.deeper { depth := ad, frames := af, guards := ag, units := au } (lawEnv sc L)) (exec st (lawEnv sc L)) Q (fun _ _ => False) ⟨h, g, dd, tk, os⟩ := by
  k_fill
  intro w sc st B h g dd tk os L m tl Q ad au af ag mg mb loose v X T hst hsc hr hu F N hv hq
  refine' law_use (f := fun l => stmtIn 9 l) ?e hst hsc ?_
  case e => k_dflt k_is
  intro e1 e2
  cases e1
  cases e2
  clear hst hsc
  have F1 : Fr B L h (chainOf [] m m) := by rw [← agree_chain Agree.refl]; exact F
  simp only [chainOf] at F1
  clear F
  unfold lawEnv
  k_steps
  all_goals trace_state
  all_goals exact hq _
theorem list10 {α : Type} : ∀ l : List α, l.length = 10 → ∃ a b c d e f g h i j, l = [a, b, c, d, e, f, g, h, i, j] :=
  fun l h => list_n 10 l (fun l => ∃ a b c d e f g h i j, l = [a, b, c, d, e, f, g, h, i, j]) h fun a b c d e f g h i j => ⟨a, b, c, d, e, f, g, h, i, j, rfl⟩
theorem len_use2 {K : Frag} {a : Addr} {o : Obj} (e : K.lookup a = some o) (h : (bodyIn (some o)).length = 10) : (bodyIn (K.lookup a)).length = 10 := by rw [e]; exact h
theorem law_len0 : ∀ (w : World) (_ : PySem.Challenge.rw_pg0244_01.row.prog = PySem.Challenge.rw_pg0244_01.row.prog), (bodyIn ((hd.heap_1 w.params).lookup 202)).length = 10 := by
  k_fill
  intro w _
  refine' len_use2 ?e ?_
  case e => k_dflt k_is
  rfl
theorem size_use {K : Frag} {a : Addr} {o : Obj} {B : Heap} (e : K.lookup a = some o) (X : K.In B) : a < B.objs.size := Heap.lt_size (X _ _ e)
theorem big0 : ∀ (w : World) (B : Heap) (_ : PySem.Challenge.rw_pg0244_01.row.prog = PySem.Challenge.rw_pg0244_01.row.prog), (hd.heap_1 w.params).In B → 202 < B.objs.size := by
  k_fill
  intro w B _ X
  refine' size_use ?e X
  case e => k_dflt k_is
end Mine
namespace Mine
open PySem PySem.W PyProof.Rows
theorem flush61 {M : Model} {A : Around} {Q : Flow → Shared → Prop} {E : Value → Shared → Prop} {s : Shared} {env : Env} (h : wpAny M A (execs [] env) Q E s) : wpAny M A (execs [] env) Q E s := by
  k_with_none
  (try (walk1; fail))
  w_top off
  exact h
end Mine
namespace Mine
open PySem PySem.W PyProof.Rows PySem.Calls
set_option maxHeartbeats 4000000
set_option linter.unusedVariables false
theorem law_go : ∀ (w : World) (sc : Scope) (body : List Stmt) (B h : Heap) (g : Array GenState) (dd : Drawn) (tk : Nat) (os : OsState) (L : Addr) (m : Str → Option Value) (Q : Flow → Shared → Prop)
    (ad au : Nat) (af : Option (List Env)) (ag : Option (List Code)) (mg mb : Str → Option Value) (loose : List Str) (mean : ExcName → Option Value) (oS oP oK oD : Obj) (a : Addr) (vs : List Value) (ns : List Int)
    (X : (hd.heap_1 w.params).In B) (TT : Top topProg loose mean mg mb B) (T : TopRead viewQ loose mg mb B) (hb : bodyIn ((hd.heap_1 w.params).lookup 202) = body) (hsc : scopeIn ((hd.heap_1 w.params).lookup 202) = some sc) (hr : ad + 30 < recursionLimit) (hu : au + 200 < cLine) (hbm : B.BuiltinsAt mg 145)
    (F : Fr B L h m) (N : News B L h ((L + 1 + 1 + 1 + 1, oS) :: (L + 1 + 1 + 1, oP) :: (L + 1 + 1, oK) :: (L + 1, oD) :: [((152 : Addr), tabObj #[]), ((145 : Addr), tabObj #[])])) (dS : ∃ v, oS.data = .cell v) (dP : ∃ v, oP.data = .cell v) (dK : ∃ v, oK.data = .cell v) (dD : ∃ v, oD.data = .cell v)
    (hs : m (Str.ofString "script") = some (.ref a)) (hl : B.IsList a vs.toArray) (hI : IntsAre vs ns) (hlen : ns.length ≤ 1000) (hsz : vs.toArray.size ≤ sizeLine) (hgb : AllBare g) (hLB : 202 < L)
    (hq : ∀ h' tk' g' m' p1 p2, Fr B L h' m' → AllBare g' → h'.get? 152 = some (tabObj p1) → h'.get? 145 = some (tabObj p2) → Q (.ret (.bool true)) ⟨h', g', dd, tk', os⟩),
    wpAny (model PySem.Challenge.rw_pg0244_01.row.prog w) (Around.deeper { depth := ad, frames := af, guards := ag, units := au } (lawEnv sc L)) (execs body (lawEnv sc L)) Q (fun _ _ => False) ⟨h, g, dd, tk, os⟩ := by
  intro w sc body B h g dd tk os L m Q ad au af ag mg mb loose mean oS oP oK oD a vs ns X TT T hb hsc hr hu hbm F N dS dP dK dD hs hl hI hlen hsz hgb hLB hq
  obtain ⟨s0, s1, s2, s3, s4, s5, s6, s7, s8, s9, rfl⟩ := list10 body (by rw [← hb]; exact law_len0 w rfl)
  have st0 : stmtIn 0 (bodyIn ((hd.heap_1 w.params).lookup 202)) = some s0 := by rw [hb]; rfl
  have st1 : stmtIn 1 (bodyIn ((hd.heap_1 w.params).lookup 202)) = some s1 := by rw [hb]; rfl
  have st2 : stmtIn 2 (bodyIn ((hd.heap_1 w.params).lookup 202)) = some s2 := by rw [hb]; rfl
  have st3 : stmtIn 3 (bodyIn ((hd.heap_1 w.params).lookup 202)) = some s3 := by rw [hb]; rfl
  have st4 : stmtIn 4 (bodyIn ((hd.heap_1 w.params).lookup 202)) = some s4 := by rw [hb]; rfl
  have st5 : stmtIn 5 (bodyIn ((hd.heap_1 w.params).lookup 202)) = some s5 := by rw [hb]; rfl
  have st6 : stmtIn 6 (bodyIn ((hd.heap_1 w.params).lookup 202)) = some s6 := by rw [hb]; rfl
  have st7 : stmtIn 7 (bodyIn ((hd.heap_1 w.params).lookup 202)) = some s7 := by rw [hb]; rfl
  have st8 : stmtIn 8 (bodyIn ((hd.heap_1 w.params).lookup 202)) = some s8 := by rw [hb]; rfl
  have st9 : stmtIn 9 (bodyIn ((hd.heap_1 w.params).lookup 202)) = some s9 := by rw [hb]; rfl
  obtain ⟨vS, dS⟩ := dS
  obtain ⟨vP, dP⟩ := dP
  obtain ⟨vK, dK⟩ := dK
  obtain ⟨vD, dD⟩ := dD
  have e0 : ∀ k : Nat, ∀ p ∈ [((152 : Addr), tabObj #[]), ((145 : Addr), tabObj #[])], p.1 ≠ L + k := fun k p hp => by
    simp only [List.mem_cons, List.not_mem_nil, or_false] at hp
    have : @LT.lt Nat _ 202 L := hLB
    rcases hp with rfl | rfl
    · show @Ne Nat 152 (L + k); omega
    · show @Ne Nat 145 (L + k); omega
  refine seq (S1 w sc s0 B h g dd tk os L m [((152 : Addr), tabObj #[]), ((145 : Addr), tabObj #[])] _ ad au af ag mg mb loose a vs ns oD vD oS oP oK X T st0 hsc hr hu F N hs hl hI hlen hsz dD (e0 1) ?_)
  intro h1 tk1 oD' dl dvs nd F1 N1 dD' hI1 fr1
  obtain ⟨D, eD, hD⟩ := drawn_pl _ (drawn_len ns)
  rw [eD] at hI1
  have ne2 : ∀ c ∈ (L + 1 + 1 + 1 + 1, oS) :: (L + 1 + 1 + 1, oP) :: (L + 1 + 1, oK) :: (L + 1, oD) :: [], ∀ p ∈ ((dl, listOf (List.toArray dvs) nd) :: [((152 : Addr), tabObj #[]), ((145 : Addr), tabObj #[])]), p.1 ≠ c.1 := by
    intro c hc p hp
    rcases List.mem_cons.mp hp with rfl | hp
    · exact fun e => fr1 c (cc_in hc) e.symm
    · revert c
      exact cc_addr (R := fun a => p.1 ≠ a) (o1 := oS) (o2 := oP) (o3 := oK) (o4 := oD) (by
        intro c hc
        simp only [List.mem_cons, List.not_mem_nil, or_false] at hc
        rcases hc with rfl | rfl | rfl | rfl
        · exact e0 4 p hp
        · exact e0 3 p hp
        · exact e0 2 p hp
        · exact e0 1 p hp)
  refine seq (S2 w sc s1 B h1 g dd tk1 os L m ((dl, listOf (List.toArray dvs) nd) :: [((152 : Addr), tabObj #[]), ((145 : Addr), tabObj #[])]) _ ad au af ag mg mb loose oD' vK oS oP oK X T st1 hsc hr hu F1 N1 dK (ne2 (L + 1 + 1, oK) (.tail _ (.tail _ (.head _)))) ?_)
  intro h2 tk2 oK' kl ka exK F2 N2 dK' hki sep2
  have ne3 : ∀ c ∈ (L + 1 + 1 + 1 + 1, oS) :: (L + 1 + 1 + 1, oP) :: (L + 1 + 1, oK) :: (L + 1, oD) :: [], ∀ p ∈ (exK ++ ((dl, listOf (List.toArray dvs) nd) :: [((152 : Addr), tabObj #[]), ((145 : Addr), tabObj #[])])), p.1 ≠ c.1 := by
    intro c hc p hp
    rcases List.mem_append.mp hp with hp | hp
    · exact fun e => cc_addr (R := fun a => a ≠ p.1) (fun c hc => sep2 p hp c (cc_in hc)) c hc e.symm
    · exact ne2 c hc p hp
  refine seq (S3 w sc s2 B h2 g dd tk2 os L m (exK ++ ((dl, listOf (List.toArray dvs) nd) :: [((152 : Addr), tabObj #[]), ((145 : Addr), tabObj #[])])) _ ad au af ag mg mb loose oS oP oK' oD' dl dvs nd D vP X T st2 hsc hr hu F2 N2 dD' dP (List.mem_append_right _ (.head _)) hI1 (fun k _ => hD k) (ne3 (L + 1 + 1 + 1, oP) (.tail _ (.head _))) ?_)
  intro h3 tk3 oP' pl pvs np F3 N3 dP' hpv fr3
  have hkm : KindsIn ((pl, listOf (List.toArray pvs) np) :: (exK ++ ((dl, listOf (List.toArray dvs) nd) :: [((152 : Addr), tabObj #[]), ((145 : Addr), tabObj #[])]))) kl ka := hki.mono fun q hq => .tail _ (List.mem_append_left _ hq)
  refine seq (S4 w sc s3 B h3 g dd tk3 os L m ((pl, listOf (List.toArray pvs) np) :: (exK ++ ((dl, listOf (List.toArray dvs) nd) :: [((152 : Addr), tabObj #[]), ((145 : Addr), tabObj #[])]))) _ ad au af ag mg mb loose oS oP' oK' oD' pl pvs np (fun k => D k / 7 % 16) kl ka X T st3 hsc hr hu F3 N3 dP' dK' (.head _) hpv (fun k _ => Nat.mod_lt _ (by decide)) hkm ?_)
  intro h4 tk4 m4 lp as exL F4 N4 A4 g4 hlp hla sep4
  have lscript_1 := Agree.get A4 (x := Str.ofString "script") (by decide) hs
  refine seq (S5 w sc s4 B h4 g dd tk4 os L m4 (exL ++ ((L + 1 + 1 + 1 + 1, oS) :: (L + 1 + 1 + 1, oP') :: (L + 1 + 1, oK') :: (L + 1, oD') :: ((pl, listOf (List.toArray pvs) np) :: (exK ++ ((dl, listOf (List.toArray dvs) nd) :: [((152 : Addr), tabObj #[]), ((145 : Addr), tabObj #[])]))))) _ ad au af ag mg mb loose 0 X T st4 hsc hr hu F4 N4 rfl ?_)
  intro h5 tk5 m5 ll F5 N5 lt5 A5 g5
  have lscript_2 := Agree.get A5 (x := Str.ofString "script") (by decide) lscript_1
  have llamps_2 := Agree.get A5 (x := Str.ofString "lamps") (by decide) g4
  have N5' : News B L h5 ((ll, listOf #[] 0) :: (152, tabObj #[]) :: ((L + 1 + 1 + 1 + 1, oS) :: (L + 1 + 1 + 1, oP') :: (L + 1 + 1, oK') :: (L + 1, oD') :: (exL ++ ((pl, listOf (List.toArray pvs) np) :: (exK ++ ((dl, listOf (List.toArray dvs) nd) :: [((145 : Addr), tabObj #[])])))))) := News.sub N5 (by intro p hp; simp only [List.mem_cons, List.mem_append, List.not_mem_nil, or_false] at hp ⊢; grind)
  have d152 : ∀ q : Addr, q = 152 ∨ q = 145 → ∃ x, (q, x) ∈ [((152 : Addr), tabObj #[]), ((145 : Addr), tabObj #[])] := fun q hq => by
    rcases hq with rfl | rfl
    · exact ⟨_, .head _⟩
    · exact ⟨_, .tail _ (.head _)⟩
  -- apart from 152 and 145
  have apK : ∀ p ∈ exK, p.1 ≠ 152 ∧ p.1 ≠ 145 := fun p hp => ⟨fun e => sep2 p hp (152, tabObj #[]) (.tail _ (.tail _ (.tail _ (.tail _ (.tail _ (.head _)))))) e.symm, fun e => sep2 p hp (145, tabObj #[]) (.tail _ (.tail _ (.tail _ (.tail _ (.tail _ (.tail _ (.head _))))))) e.symm⟩
  have apD : dl ≠ 152 ∧ dl ≠ 145 := ⟨fun e => fr1 (152, tabObj #[]) (.tail _ (.tail _ (.tail _ (.tail _ (.head _))))) e.symm, fun e => fr1 (145, tabObj #[]) (.tail _ (.tail _ (.tail _ (.tail _ (.tail _ (.head _)))))) e.symm⟩
  have m3 : ∀ p ∈ [((152 : Addr), tabObj #[]), ((145 : Addr), tabObj #[])], p ∈ (L + 1 + 1 + 1 + 1, oS) :: (L + 1 + 1 + 1, oP) :: (L + 1 + 1, oK') :: (L + 1, oD') :: (exK ++ ((dl, listOf (List.toArray dvs) nd) :: [((152 : Addr), tabObj #[]), ((145 : Addr), tabObj #[])])) := fun p hp => .tail _ (.tail _ (.tail _ (.tail _ (List.mem_append_right _ (.tail _ hp)))))
  have m4' : ∀ p ∈ [((152 : Addr), tabObj #[]), ((145 : Addr), tabObj #[])], p ∈ (L + 1 + 1 + 1 + 1, oS) :: (L + 1 + 1 + 1, oP') :: (L + 1 + 1, oK') :: (L + 1, oD') :: ((pl, listOf (List.toArray pvs) np) :: (exK ++ ((dl, listOf (List.toArray dvs) nd) :: [((152 : Addr), tabObj #[]), ((145 : Addr), tabObj #[])]))) := fun p hp => .tail _ (.tail _ (.tail _ (.tail _ (.tail _ (List.mem_append_right _ (.tail _ hp))))))
  have apP : pl ≠ 152 ∧ pl ≠ 145 := ⟨fun e => fr3 (152, tabObj #[]) (m3 _ (.head _)) e.symm, fun e => fr3 (145, tabObj #[]) (m3 _ (.tail _ (.head _))) e.symm⟩
  have apL : ∀ p ∈ exL, p.1 ≠ 152 ∧ p.1 ≠ 145 := fun p hp => ⟨fun e => sep4 p hp (152, tabObj #[]) (m4' _ (.head _)) e.symm, fun e => sep4 p hp (145, tabObj #[]) (m4' _ (.tail _ (.head _))) e.symm⟩
  have apC : ∀ p ∈ (L + 1 + 1 + 1 + 1, oS) :: (L + 1 + 1 + 1, oP') :: (L + 1 + 1, oK') :: (L + 1, oD') :: [], p.1 ≠ 152 ∧ p.1 ≠ 145 := fun p hp => by
    simp only [List.mem_cons, List.not_mem_nil, or_false] at hp
    rcases hp with rfl | rfl | rfl | rfl
    · exact ⟨fun e => e0 4 _ (.head _) e.symm, fun e => e0 4 _ (.tail _ (.head _)) e.symm⟩
    · exact ⟨fun e => e0 3 _ (.head _) e.symm, fun e => e0 3 _ (.tail _ (.head _)) e.symm⟩
    · exact ⟨fun e => e0 2 _ (.head _) e.symm, fun e => e0 2 _ (.tail _ (.head _)) e.symm⟩
    · exact ⟨fun e => e0 1 _ (.head _) e.symm, fun e => e0 1 _ (.tail _ (.head _)) e.symm⟩
  have sub6 : ∀ p ∈ ((L + 1 + 1 + 1 + 1, oS) :: (L + 1 + 1 + 1, oP') :: (L + 1 + 1, oK') :: (L + 1, oD') :: (exL ++ ((pl, listOf (List.toArray pvs) np) :: (exK ++ ((dl, listOf (List.toArray dvs) nd) :: [((145 : Addr), tabObj #[])]))))), p ∈ (exL ++ ((L + 1 + 1 + 1 + 1, oS) :: (L + 1 + 1 + 1, oP') :: (L + 1 + 1, oK') :: (L + 1, oD') :: ((pl, listOf (List.toArray pvs) np) :: (exK ++ ((dl, listOf (List.toArray dvs) nd) :: [((152 : Addr), tabObj #[]), ((145 : Addr), tabObj #[])]))))) := (by intro p hp; simp only [List.mem_cons, List.mem_append, List.not_mem_nil, or_false] at hp ⊢; grind)
  have ne6 : ∀ p ∈ ((L + 1 + 1 + 1 + 1, oS) :: (L + 1 + 1 + 1, oP') :: (L + 1 + 1, oK') :: (L + 1, oD') :: (exL ++ ((pl, listOf (List.toArray pvs) np) :: (exK ++ ((dl, listOf (List.toArray dvs) nd) :: [((145 : Addr), tabObj #[])]))))), p.1 ≠ ll ∧ p.1 ≠ 152 := fun p hp => ⟨Nat.ne_of_lt (lt5 p (sub6 p hp)), by
    rcases cc4 hp with hp | hp
    · exact (apC p hp).1
    rcases List.mem_append.mp hp with hp | hp
    · exact (apL p hp).1
    rcases List.mem_cons.mp hp with rfl | hp
    · exact apP.1
    rcases List.mem_append.mp hp with hp | hp
    · exact (apK p hp).1
    rcases List.mem_cons.mp hp with rfl | hp
    · exact apD.1
    rw [List.mem_singleton.mp hp]; decide⟩
  have nl6 : ll ≠ 152 := Nat.ne_of_gt (lt5 (152, tabObj #[]) (List.mem_append_right _ (m4' _ (.head _))))
  refine seq (S6 w sc s5 B h5 g dd tk5 os L m5 ((L + 1 + 1 + 1 + 1, oS) :: (L + 1 + 1 + 1, oP') :: (L + 1 + 1, oK') :: (L + 1, oD') :: (exL ++ ((pl, listOf (List.toArray pvs) np) :: (exK ++ ((dl, listOf (List.toArray dvs) nd) :: [((145 : Addr), tabObj #[])]))))) _ ad au af ag mg mb loose ll mean X T st5 hsc hr hu F5 N5' TT g5 nl6 ne6 ?_)
  intro h6 tk6 m6 z t1z ps6 F6 N6 zok zll nz6 A6 g6
  have lscript_3 := Agree.get A6 (x := Str.ofString "script") (by decide) lscript_2
  have llamps_3 := Agree.get A6 (x := Str.ofString "lamps") (by decide) llamps_2
  have lleft_3 := Agree.get A6 (x := Str.ofString "left") (by decide) g5
  refine seq (S7 w sc s6 B h6 g dd tk6 os L m6 (z.objs w 1 t1z [] 0 ++ (152, tabObj ps6) :: ((L + 1 + 1 + 1 + 1, oS) :: (L + 1 + 1 + 1, oP') :: (L + 1 + 1, oK') :: (L + 1, oD') :: (exL ++ ((pl, listOf (List.toArray pvs) np) :: (exK ++ ((dl, listOf (List.toArray dvs) nd) :: [((145 : Addr), tabObj #[])])))))) _ ad au af ag mg mb loose 0 X T st6 hsc hr hu F6 N6 rfl ?_)
  intro h7 tk7 m7 t7 F7 N7 A7 g7
  have lscript_4 := Agree.get A7 (x := Str.ofString "script") (by decide) lscript_3
  have llamps_4 := Agree.get A7 (x := Str.ofString "lamps") (by decide) llamps_3
  have lleft_4 := Agree.get A7 (x := Str.ofString "left") (by decide) lleft_3
  have llexer_4 := Agree.get A7 (x := Str.ofString "lexer") (by decide) g6
  have N7' : News B L h7 ((L + 1 + 1 + 1 + 1, oS) :: (L + 1 + 1 + 1, oP') :: (L + 1 + 1, oK') :: (L + 1, oD') :: (z.objs w 1 t1z [] 0 ++ ((145, tabObj #[]) :: ((exL ++ ((pl, listOf (List.toArray pvs) np) :: exK)) ++ [(dl, listOf (List.toArray dvs) nd), ((152 : Addr), tabObj ps6)])))) := News.sub N7 (by intro p hp; simp only [List.mem_cons, List.mem_append, List.not_mem_nil, or_false] at hp ⊢; grind)
  have ct8 : ∀ p ∈ (L + 1 + 1 + 1 + 1, oS) :: (L + 1 + 1 + 1, oP') :: (L + 1 + 1, oK') :: (L + 1, oD') :: [], ∀ q ∈ (exL ++ ((pl, listOf (List.toArray pvs) np) :: exK)) ++ [(dl, listOf (List.toArray dvs) nd), ((152 : Addr), tabObj ps6)], q.1 ≠ p.1 := by
    intro p hp q hq
    rcases List.mem_append.mp hq with hq | hq
    · rcases List.mem_append.mp hq with hq | hq
      · exact fun e => sep4 q hq p (cc_in hp) e.symm
      · rcases List.mem_cons.mp hq with rfl | hq
        · exact fun e => cc_addr (R := fun a => a ≠ pl) (fun c hc => fr3 c (cc_in hc)) p hp e.symm
        · exact fun e => cc_addr (R := fun a => a ≠ q.1) (fun c hc => sep2 q hq c (cc_in hc)) p hp e.symm
    · rcases List.mem_cons.mp hq with rfl | hq
      · exact fun e => cc_addr (R := fun a => a ≠ dl) (fun c hc => fr1 c (cc_in hc)) p hp e.symm
      · rw [List.mem_singleton.mp hq]
        exact fun e => (apC p hp).1 e.symm
  have zt8 : ∀ p ∈ (exL ++ ((pl, listOf (List.toArray pvs) np) :: exK)) ++ [(dl, listOf (List.toArray dvs) nd), ((152 : Addr), tabObj ps6)], p ∈ (152, tabObj ps6) :: ((L + 1 + 1 + 1 + 1, oS) :: (L + 1 + 1 + 1, oP') :: (L + 1 + 1, oK') :: (L + 1, oD') :: (exL ++ ((pl, listOf (List.toArray pvs) np) :: (exK ++ ((dl, listOf (List.toArray dvs) nd) :: [((145 : Addr), tabObj #[])]))))) := (by intro p hp; simp only [List.mem_cons, List.mem_append, List.not_mem_nil, or_false] at hp ⊢; grind)
  have t58 : ∀ p ∈ (exL ++ ((pl, listOf (List.toArray pvs) np) :: exK)) ++ [(dl, listOf (List.toArray dvs) nd), ((152 : Addr), tabObj ps6)], p.1 ≠ 145 := by
    intro q hq
    rcases List.mem_append.mp hq with hq | hq
    · rcases List.mem_append.mp hq with hq | hq
      · exact (apL q hq).2
      · rcases List.mem_cons.mp hq with rfl | hq
        · exact apP.2
        · exact (apK q hq).2
    · rcases List.mem_cons.mp hq with rfl | hq
      · exact apD.2
      · rw [List.mem_singleton.mp hq]; show (152 : Nat) ≠ 145; decide
  have m6v : ((145 : Addr), tabObj #[]) ∈ ((L + 1 + 1 + 1 + 1, oS) :: (L + 1 + 1 + 1, oP') :: (L + 1 + 1, oK') :: (L + 1, oD') :: (exL ++ ((pl, listOf (List.toArray pvs) np) :: (exK ++ ((dl, listOf (List.toArray dvs) nd) :: [((145 : Addr), tabObj #[])]))))) := by
    simp only [List.mem_cons, List.mem_append, List.not_mem_nil, or_false, or_true, true_or]
  obtain ⟨nl, hlp⟩ := hlp
  have J8 : TurnIn w L m7 (fun k => D k / 7 % 16) z 1 oS oP' oK' oD' #[] (exL ++ ((pl, listOf (List.toArray pvs) np) :: exK)) [(dl, listOf (List.toArray dvs) nd), ((152 : Addr), tabObj ps6)] :=
    ⟨zok, ⟨pl, pvs, np, dP', List.mem_append_right _ (.head _), hpv⟩, ⟨kl, ka, dK', hki.mono fun q hq => List.mem_append_right _ (.tail _ hq)⟩, ⟨vS, dS⟩, ⟨lp, nl, as, llamps_4, List.mem_append_left _ hlp, fun k hk => (hla k hk).mono fun q hq => List.mem_append_left _ hq⟩, fun k _ => Nat.mod_lt _ (by decide), by rw [zll]; exact lleft_4, llexer_4, ⟨t7, g7⟩, (by simp [TriplesOk]), fun p hp => nz6 p (.tail _ (cc_in hp)), fun p hp => (apC p hp).2, ct8, nz6 _ (.tail _ m6v), fun p hp => nz6 p (zt8 p hp), t58⟩
  refine seq (S8 w sc s7 B h7 g dd tk7 os L m7 (z.objs w 1 t1z [] 0 ++ ((145, tabObj #[]) :: ((exL ++ ((pl, listOf (List.toArray pvs) np) :: exK)) ++ [(dl, listOf (List.toArray dvs) nd), ((152 : Addr), tabObj ps6)]))) _ ad au af ag mg mb loose _ z (fun k => D k / 7 % 16) 1 oS oP' oK' oD' #[] t1z 0 (exL ++ ((pl, listOf (List.toArray pvs) np) :: exK)) [(dl, listOf (List.toArray dvs) nd), ((152 : Addr), tabObj ps6)] dl dvs nd D X T st7 hsc hr hu F7 N7' rfl rfl hsc hbm J8 dD' (.head _) hI1 hgb ?_)
  intro h8 tk8 g8' m8 P8 line8 oS8 oP8 ps8 t8 n8 t08 F8 N8 J8' hgb8
  obtain ⟨-, ⟨pl8, pvs8, np8, dP8, hpl8, hpv8⟩, ⟨kl8, ka8, dK8, hk8⟩, -, ⟨lp8, nl8, as8, lm8, hlp8, hla8⟩, hP8, -⟩ := J8'
  have hs9 : ∀ p ∈ t08, p ∈ (z.objs w line8 t8 [] n8 ++ ((145, tabObj ps8) :: (t08 ++ [(dl, listOf (List.toArray dvs) nd), ((152 : Addr), tabObj ps6)]))) := fun p hp => List.mem_append_right _ (.tail _ (List.mem_append_left _ hp))
  refine seq (S9 w sc s8 B h8 g8' dd tk8 os L m8 (z.objs w line8 t8 [] n8 ++ ((145, tabObj ps8) :: (t08 ++ [(dl, listOf (List.toArray dvs) nd), ((152 : Addr), tabObj ps6)]))) _ ad au af ag mg mb loose lp8 nl8 as8 oS8 oP8 oK' oD' pl8 pvs8 np8 P8 kl8 ka8 X T st8 hsc hr hu F8 N8 lm8 (hs9 _ hlp8) (fun k hk => (hla8 k hk).mono hs9) dP8 dK8 (hs9 _ hpl8) hpv8 (hk8.mono hs9) hP8 ?_)
  intro h9 tk9 m9 F9 N9
  refine seq (S10 w sc s9 B h9 g8' dd tk9 os L m9 [] _ ad au af ag mg mb loose 0 X T st9 hsc hr hu F9 (fun p hp => by cases hp) rfl ?_)
  intro tk10
  exact hq h9 tk10 g8' m9 ps6 ps8 F9 hgb8 (N9 (152, tabObj ps6) (by simp only [List.mem_cons, List.mem_append, List.not_mem_nil, or_false, or_true])).1 (N9 (145, tabObj ps8) (by simp only [List.mem_cons, List.mem_append, List.not_mem_nil, or_false, or_true, true_or])).1
end Mine
namespace Mine
open PySem PySem.W PyProof.Rows
theorem flush62 {M : Model} {A : Around} {Q : Flow → Shared → Prop} {E : Value → Shared → Prop} {s : Shared} {env : Env} (h : wpAny M A (execs [] env) Q E s) : wpAny M A (execs [] env) Q E s := by
  k_with_none
  (try (walk1; fail))
  w_top off
  exact h
end Mine
namespace Mine
open PySem PySem.W PyProof.Rows PySem.Calls
set_option maxHeartbeats 1000000
set_option linter.unusedVariables false
theorem kset64 : True := by
  k_with_none
  k_with "mine agree" =>
    repeat (first
      | exact Agree.refl
      | (refine' Agree.set (by first | exact .head _ | exact .tail _ (.head _) | exact .tail _ (.tail _ (.head _))) ?_)
      | (refine' Agree.same (by assumption) ?_))
  trivial
theorem body_is {K : Frag} {a : Addr} {o : Obj} {y : List Stmt} (e : K.lookup a = some o) (h : bodyIn (some o) = y) : bodyIn (K.lookup a) = y := by rw [e]; exact h
theorem scope_is {K : Frag} {a : Addr} {o : Obj} {y : Option Scope} (e : K.lookup a = some o) (h : scopeIn (some o) = y) : scopeIn (K.lookup a) = y := by rw [e]; exact h
theorem law_ctr : ∀ (w : World) (A : Around) (s : Shared) (R : Result → Shared → Prop) (mg mb : Str → Option Value) (loose : List Str) (mean : ExcName → Option Value) (B : Heap) (a : Addr) (vs : List Value) (ns : List Int)
    (X : (hd.heap_1 w.params).In B) (TT : Top topProg loose mean mg mb B) (T : TopRead viewQ loose mg mb B) (kpB : Kp B s.heap) (hsz : B.objs.size ≤ s.heap.objs.size) (hid : ∀ p ∈ [((152 : Addr), tabObj #[]), ((145 : Addr), tabObj #[])], s.heap.get? p.1 = some p.2 ∧ B.get? p.1 = none)
    (hbm : B.BuiltinsAt mg 145) (hh : A.handled = none) (hr : A.depth + 40 < recursionLimit) (hu : A.units + 210 < cLine) (hl : B.IsList a vs.toArray) (hI : IntsAre vs ns) (hlen : ns.length ≤ 1000) (hvz : vs.toArray.size ≤ sizeLine) (hgb : AllBare s.gens)
    (hR : ∀ h tk g p1 p2, Kp B h → AllBare g → h.get? 152 = some (tabObj p1) → h.get? 145 = some (tabObj p2) → R (.ok (.ret (.bool true))) { s with heap := h, toks := tk, gens := g }),
    codeAny (model PySem.Challenge.rw_pg0244_01.row.prog w) A (.call (.ref 202) ⟨[.ref a], []⟩) R s := by
  k_fill
  intro w A s R mg mb loose mean B a vs ns X TT T kpB hsz hid hbm hh hr hu hl hI hlen hvz hgb hR
  obtain ⟨ah, ad, af, ag, au⟩ := A
  dsimp only at hh hr hu
  subst hh
  refine' enterKC (B := B) (hid := [((152 : Addr), tabObj #[]), ((145 : Addr), tabObj #[])]) (binds := [(Str.ofString "script", .ref a)]) X kpB hsz hid T.nolimit ?ho ?hcd (by show ad < _; omega) (BindsTo.of_eq ?hb) ?hl ?hnd ?h1 ?h2 ?h3 ?_
  case ho => k_dflt k_is
  case hcd => k_dflt k_is
  case hb => exact rfl
  case hl => rfl
  case hnd => decide
  case h1 => exact rfl
  case h2 => exact rfl
  case h3 => exact rfl
  intro h₁ tk cells F N Y kp1
  have hY := Y
  k_cells Y
  rename_i o1 o2 o3 o4 q1 q2 q3 q4
  refine' law_go w _ _ B h₁ s.gens s.drawn tk s.os s.heap.objs.size _ _ ad au af ag mg mb loose mean o1 o2 o3 o4 a vs ns X TT T ?hb9 ?hs9 (by omega) (by omega) hbm F (fun p hp => N p ?mm) ⟨_, q1⟩ ⟨_, q2⟩ ⟨_, q3⟩ ⟨_, q4⟩ rfl hl hI hlen hvz hgb (Nat.lt_of_lt_of_le (big0 w B rfl X) hsz) ?fin
  case hb9 =>
    refine' body_is ?e ?_
    case e => k_dflt k_is
    rfl
  case hs9 =>
    refine' scope_is ?e ?_
    case e => k_dflt k_is
    rfl
  case mm =>
    simp only [List.mem_cons, List.mem_append, List.not_mem_nil, or_false] at hp ⊢
    grind
  case fin =>
    intro h' tk' g' m' p1 p2 F' hg' z1 z2
    exact hR h' tk' g' p1 p2 F'.keep hg' z1 z2
end Mine
namespace Mine
open PySem PySem.W PyProof.Rows
theorem flush63 {M : Model} {A : Around} {Q : Flow → Shared → Prop} {E : Value → Shared → Prop} {s : Shared} {env : Env} (h : wpAny M A (execs [] env) Q E s) : wpAny M A (execs [] env) Q E s := by
  k_with_none
  (try (walk1; fail))
  w_top off
  exact h
end Mine
namespace Mine
open PySem PySem.W PyProof.Rows PySem.Calls
set_option maxHeartbeats 4000000
set_option linter.unusedVariables false
theorem good_fin {cw : ClaimW} {cl : Str → Option Addr} {mean : ExcName → Option Value} {args : List WData} {s₁ s' : Shared} {tabs : List (Addr × Addr)} (hT : TabsAt tabs s₁.heap) (hn : ∀ x, cw.raises args x = false) (hp : cw.post args (.bool true) args = true)
    (kp : Kp (ghostOf s₁.heap tabs) s'.heap) (hgr : ∀ q ∈ tabs, GrownAt q.2 s'.heap) (hos : s'.os = s₁.os) (hg : AllBare s'.gens) : GoodWG cw cl mean args s₁ (.ok (.ret (.bool true))) s' := by
  have grown : ∀ b o, b ∈ tabs.map (·.2) → s₁.heap.get? b = some o → isCodeTable s₁.heap b ∧ o = tabObj #[] ∧ ∃ ps, s'.heap.get? b = some (tabObj ps) := fun b o hb e => by
    obtain ⟨q, hq, rfl⟩ := List.mem_map.mp hb
    have e2 := (hT q hq).2
    rw [e] at e2
    exact ⟨((hT q hq).1.tab (hT q hq).2).isCodeTable, Option.some.inj e2, hgr q hq⟩
  refine ⟨.inl ⟨_, .bool true, [], rfl, hn, .bool true, hp, fun _ => ⟨List.nodup_nil, fun a ha => nomatch ha⟩⟩, ⟨fun b o e => ?_, fun b o e => ?_⟩, hos, hg⟩
  · by_cases hb : b ∈ tabs.map (·.2)
    · obtain ⟨ht, rfl, ps, hP⟩ := grown b o hb e
      exact .inr (.inl ⟨ht, rfl, #[], ps, rfl, by rw [Array.empty_append]; exact hP⟩)
    · exact .inl (kp b o (ghost_ne e hb))
  · by_cases hb : b ∈ tabs.map (·.2)
    · obtain ⟨_, _, ps, hP⟩ := grown b o hb e
      exact ⟨_, hP⟩
    · exact ⟨o, kp b o (ghost_ne e hb)⟩
theorem ghost_bm {p : Program} {loose : List Str} {mean : ExcName → Option Value} {mg mb : Str → Option Value} {B : Heap} {P : Addr} (T : Top p loose mean mg mb B) (hP : B.get? P = none) : B.BuiltinsAt mg P := by
  obtain ⟨bm, ob, b1, b2, b3, b4, b5, b6⟩ := T.bmain
  refine ⟨bm, ob, b1, b2, fun q => ?_, fun q => ?_, b3, b4, b5, b6⟩
  · obtain ⟨o, es, ep, e, hd, _⟩ := T.g
    rw [q, e] at b3; cases b3; rw [hd] at b6; cases b6
  · rw [q, hP] at b3; cases b3
theorem law_holds : PySem.Challenge.rw_pg0244_01.Holds := hd1 hd (by
  k_fill
  intro w s₀ s₁ mg mb G Y fa o pm cd doc dV kV ho hd hcd hD hmg hg args vals as hpre hlay hrd hwl hlo
  have KX := km_in_of Y
  have TB := km_tabs_of Y
  refine Ground.open G ?_
  intro T B D TE TW
  have h202 := mg_of (n := Str.ofString "law") (v := .ref 202) KX T.g (by kernel_rfl)
  have efa : fa = 202 := by
    have e := hmg.symm.trans h202
    cases e; rfl
  subst efa
  have hT2 := tab_of (x := Str.ofString "format_witnesses") (c := 149) (P := 145) T KX (by with_unfolding_all exact rfl) (by kernel_rfl)
  have hT1 : CodeHd s₁.heap 156 152 := codeHd_of_K KX (by kernel_rfl)
  have hT : TabsAt [(156, 152), (149, 145)] s₁.heap := List.forall_mem_cons.mpr ⟨⟨hT1, TB 152 (.head _)⟩, List.forall_mem_cons.mpr ⟨hT2, List.forall_mem_nil _⟩⟩
  have X' := ghost_K hT KX (by kernel_rfl)
  have T' := ghost_top hT T
  clear hmg ho hd hcd hD
  wrow_args hpre hlay hrd hwl hlo
  rename_i ns _ _ _ _ _ _ _ a vs _ hL _ _ _ hI _ hlen _
  refine enter_call ?_
  have hL' := ghost_list hT hL
  have hlv := hI.length
  refine law_ctr w callerA s₁ _ mg mb _ _ (ghostOf s₁.heap [(156, 152), (149, 145)]) a vs ns X' T' (topRead_law (loose' := []) T') (fun b o e => of_hideAll _ e) (Nat.le_of_eq (hideAll_size _ _)) (fun p hp => ?hid) (ghost_bm T' (hideAll_none _ (.tail _ (.head _)))) rfl (by decide +kernel) (by decide +kernel) hL' hI (by omega) ?hvz (.of_eq hg) ?hR
  case hid =>
    rcases List.mem_cons.mp hp with rfl | hp
    · exact ⟨(hT _ (.head _)).2, hideAll_none _ (.head _)⟩
    · rcases List.mem_cons.mp hp with rfl | hp
      · exact ⟨hT2.2, hideAll_none _ (.tail _ (.head _))⟩
      · exact nomatch hp
  case hvz =>
    rw [List.size_toArray, hlv]
    have : (1000 : Nat) ≤ sizeLine := by decide +kernel
    omega
  case hR =>
    intro h tk g p1 p2 kp hgb z1 z2
    refine good_fin hT (fun _ => rfl) ?hp kp (fun q hq => ?hgr) rfl hgb
    case hp => first | rfl | wrow_post
    case hgr =>
      rcases List.mem_cons.mp hq with rfl | hq
      · exact ⟨_, z1⟩
      · rcases List.mem_cons.mp hq with rfl | hq
        · exact ⟨_, z2⟩
        · exact nomatch hq)
end Mine
end
end
set_option maxRecDepth 100000 in
theorem PySem.Challenge.cw_pg0244_01_holds : PySem.Challenge.rw_pg0244_01.Holds :=
  Mine.law_holds
