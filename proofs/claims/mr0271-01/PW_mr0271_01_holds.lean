import PyProof.Rows.All
import Wide.All
import OpenK.AllK
import Wide.FinOn
import PySem.Challenge.RW_mr0271_01
set_option Elab.async false
set_option maxRecDepth 100000
set_option maxHeartbeats 8000000
namespace Mine
open PySem PySem.W PyProof.Rows
open_top hd for PySem.Challenge.rw_mr0271_01
end Mine
/- MBase -/
namespace Mine
open PySem PySem.W PyProof.Rows PySem.Calls
/-- every object of `h` stands in `h'` as it stood -/
def Keeps (h h' : Heap) : Prop := ∀ a o, h.get? a = some o → h'.get? a = some o
theorem Keeps.refl (h : Heap) : Keeps h h := fun _ _ e => e
theorem Keeps.trans {h₁ h₂ h₃ : Heap} (a : Keeps h₁ h₂) (b : Keeps h₂ h₃) : Keeps h₁ h₃ := fun x o e => b x o (a x o e)
/-- but those at `hs` -/
def KeepsBut (hs : List Addr) (h h' : Heap) : Prop := ∀ a o, a ∉ hs → h.get? a = some o → h'.get? a = some o

/-- a state: its heap and its count; the rest stands -/
def sh (s : Shared) (h : Heap) (tk : Nat) : Shared := ⟨h, s.gens, s.drawn, tk, s.os⟩
theorem sh_self (s : Shared) : s = sh s s.heap s.toks := rfl

/-- what stands at the base -/
structure Ba (w : World) (b : Heap) : Prop where
  X : (hd.heap_39 w.params).In b
  T : ∃ p loose mg mb, TopRead p loose mg mb b

theorem Ba.keeps {w : World} {b b' : Heap} (B : Ba w b) (hk : Keeps b b') : Ba w b' := by
  obtain ⟨X, p, l, mg, mb, T⟩ := B
  exact ⟨X.keeps hk, p, l, mg, mb, T.keeps hk⟩

/-- the frame at hand: its locals as far as told, the objects as far as told -/
structure St (b : Heap) (L : Addr) (h : Heap) (al : List (Str × Value)) (news : List (Addr × Obj)) : Prop where
  fr : ∃ m, Fr b L h m ∧ ∀ x v, al.lookup x = some v → m x = some v
  N : News b L h news

theorem mem_of_lookup {x : Str} {v : Value} : ∀ {al : List (Str × Value)}, al.lookup x = some v → (x, v) ∈ al
  | [], h => by cases h
  | (y, u) :: r, h => by
    rw [List.lookup_cons] at h
    by_cases e : (x == y) = true
    · simp only [e] at h
      cases h
      rw [eq_of_beq e]; exact .head _
    · simp only [e] at h
      exact .tail _ (mem_of_lookup h)

theorem St.keep {b : Heap} {L : Addr} {h : Heap} {al : List (Str × Value)} {news : List (Addr × Obj)} (S : St b L h al news) : Keeps b h := by
  obtain ⟨⟨m, F, _⟩, _⟩ := S; exact F.keep
theorem St.lt {b : Heap} {L : Addr} {h : Heap} {al : List (Str × Value)} {news : List (Addr × Obj)} (S : St b L h al news) : L < h.objs.size := by
  obtain ⟨⟨m, F, _⟩, _⟩ := S; exact F.ns.lt

theorem St.weaken {b : Heap} {L : Addr} {h : Heap} {al al' : List (Str × Value)} {news news' : List (Addr × Obj)} (S : St b L h al news)
    (ha : ∀ p ∈ al', al.lookup p.1 = some p.2) (hn : ∀ p ∈ news', p ∈ news) : St b L h al' news' := by
  obtain ⟨⟨m, F, hm⟩, N⟩ := S
  exact ⟨⟨m, F, fun x v e => hm x v (ha (x, v) (mem_of_lookup e))⟩, fun p hp => N p (hn p hp)⟩

theorem St.sub {b : Heap} {L : Addr} {h : Heap} {al : List (Str × Value)} {news news' : List (Addr × Obj)} (S : St b L h al news) (hn : ∀ p ∈ news', p ∈ news) : St b L h al news' :=
  ⟨S.fr, fun p hp => S.N p (hn p hp)⟩

/-- the heap changes outside the frame and outside the base; the ledger is told anew -/
theorem St.but {b : Heap} {L : Addr} {h h' : Heap} {al : List (Str × Value)} {news news' : List (Addr × Obj)} {hs : List Addr} (S : St b L h al news)
    (hk : KeepsBut hs h h') (hb : ∀ a ∈ hs, b.get? a = none) (hL : L ∉ hs) (N' : News b L h' news') : St b L h' al news' := by
  obtain ⟨⟨m, F, hm⟩, N⟩ := S
  refine ⟨⟨m, ⟨?_, fun a o e => hk a o (fun q => ?_) (F.keep a o e), F.above⟩, hm⟩, N'⟩
  · obtain ⟨oL, a1, a2, hL', a3⟩ := F.ns
    exact ⟨oL, a1, a2, hk L oL hL hL', a3⟩
  · rw [hb a q] at e; cases e

theorem St.grow {b : Heap} {L : Addr} {h h' : Heap} {al : List (Str × Value)} {news : List (Addr × Obj)} (S : St b L h al news) (hk : Keeps h h') : St b L h' al news := by
  obtain ⟨⟨m, F, hm⟩, N⟩ := S
  refine ⟨⟨m, ⟨?_, fun a o e => hk a o (F.keep a o e), F.above⟩, hm⟩, fun p hp => ⟨hk _ _ (N p hp).1, (N p hp).2⟩⟩
  obtain ⟨oL, a1, a2, hL', a3⟩ := F.ns
  exact ⟨oL, a1, a2, hk L oL hL', a3⟩

section
variable {prog : Program} {w : World} {A : Around} {s : Shared} {b h : Heap} {tk : Nat}
  {Q E : Value → Shared → Prop} {name qual : Str} {params : Arguments} {body : List Stmt} {scope : Scope} {dV kV doc pm cdv ct oc : Value} {an od : Option Addr} {osl : Array (Option Value)} {f : Addr} {args : List Value} {kw : List (Str × Value)} {binds : List (Str × Value)}

/-- entering a def of the text: the callee may change `hide` alone -/
theorem enter (B : Ba w b) (hb : Keeps b h) (hide : List (Addr × Obj)) (N : ∀ p ∈ hide, h.get? p.1 = some p.2 ∧ b.get? p.1 = none)
    (ho : (hd.heap_39 w.params).lookup f = some ⟨oc, od, .func (fnOf name qual params body scope dV kV doc pm an cdv ct), osl⟩) (hcd : codeIn (hd.heap_39 w.params) cdv qual = true) (hroom : A.depth < recursionLimit)
    (hbind : BindsTo (sh s h tk) (fnOf name qual params body scope dV kV doc pm an cdv ct) ⟨args, kw⟩ binds) (hloc : ∀ y ∈ binds, scope.names.lookup y.1 = some .local)
    (hcell : ∀ x ∈ scope.names, x.2 ≠ .cell)
    (hnd : ∀ p ∈ binds, binds.reverse.lookup p.1 = some p.2)
    (hw : ∀ g L' h₁ tk, St g L' h₁ binds hide → Ba w g → L' = h.objs.size → KeepsBut (hide.map (·.1)) h g → (∀ a ∈ hide.map (·.1), g.get? a = none) → Keeps g h →
      wpAny (model prog w) (A.deeper (envX qual scope L' f cdv [])) (execs body (envX qual scope L' f cdv []))
        (fun fl s' => Q (match fl with | .ret v => v | _ => .none) s') (fun _ _ => False) (sh s h₁ tk))
    (hco : scope.isCoroutine = false := by rfl) (hgen : scope.isGenerator = false := by rfl) (hk : scope.kind = .function := by rfl) :
    wpAny (model prog w) A (call (.ref f) args kw) Q E (sh s h tk) := by
  have Bs := B.keeps hb
  obtain ⟨Xs, _, _, _, _, Ts⟩ := Bs
  refine wpAny_call (codeAny_call_def (fd := fnOf name qual params body scope dV kV doc pm an cdv ct) (body := body) (binds := binds) hroom (Xs _ _ ho) rfl Ts.nolimit (codeRec_of Xs hcd) rfl hbind hcell hloc (fun h₁ hns hk₁ => ?_) hco hgen hk)
  have nm : ∀ a o, b.get? a = some o → a ∉ hide.map (·.1) := fun a o e q => by
    obtain ⟨q', hq, rfl⟩ := List.mem_map.mp q
    rw [(N q' hq).2] at e; cases e
  have st : Keeps b (hideAll h (hide.map (·.1))) := fun a o e => hideAll_get _ (hb a o e) (nm a o e)
  refine wpAny_mono (hw (hideAll h (hide.map (·.1))) h.objs.size h₁ _ ⟨⟨_, ⟨hns, fun a o e => hk₁ a o (of_hideAll _ e), Nat.le_of_eq (hideAll_size _ _)⟩, fun x v e => hnd (x, v) (mem_of_lookup e)⟩,
    fun q hq => ⟨hk₁ _ _ (N q hq).1, Nat.ne_of_lt (Heap.lt_size (N q hq).1), hideAll_none _ (List.mem_map_of_mem hq)⟩⟩ (B.keeps st) rfl (fun a o n e => hideAll_get _ e n) (fun a ha => hideAll_none _ ha) (fun a o e => of_hideAll _ e)) (fun fl s' hl => hl) fun _ _ y => y.elim
end

section
variable {M : Model} {A : Around} {E : Value → Shared → Prop} {s : Shared} {b h : Heap} {tk : Nat} {L a : Addr} {cn : Str} {cs : Scope} {ccd : Value} {cl : List (Str × Addr)}
  {x : Str} {pos : Pos} {v : Value} {al : List (Str × Value)} {news : List (Addr × Obj)} {w : World} {env : Env} {k : Nat}

theorem nameL {Q : Value → Shared → Prop} (S : St b L h al news) (hv : al.lookup x = some v) (hq : Q v (sh s h tk))
    (hk : cs.kind = .function := by rfl) (hx : (envX cn cs L a ccd cl).kindOf x = some .local := by rfl) (hd : (x == ("__debug__" : Str)) = false := by decide) :
    wpAny M A (eval (.Name x pos) (envX cn cs L a ccd cl)) Q E (sh s h tk) := by
  obtain ⟨⟨m, F, hm⟩, N⟩ := S
  exact nameX_L (s := sh s h tk) F (hm x v hv) hq hk hx hd
theorem nameK {Q : Value → Shared → Prop} (B : Ba w b) (S : St b L h al news) (e : nsIn (hd.heap_39 w.params) mainGlobals x = some (some v)) (hq : Q v (sh s h tk))
    (hk : cs.kind = .function := by rfl) (hx : (envX cn cs L a ccd cl).kindOf x = some .globalImplicit := by rfl) (hd : (x == ("__debug__" : Str)) = false := by decide) :
    wpAny M A (eval (.Name x pos) (envX cn cs L a ccd cl)) Q E (sh s h tk) := by
  obtain ⟨⟨m, F, hm⟩, N⟩ := S
  obtain ⟨X, _, _, _, _, T⟩ := B
  exact nameX_K (s := sh s h tk) F X T e hq hk hx hd
theorem nameB {Q : Value → Shared → Prop} (B : Ba w b) (S : St b L h al news) (e : nsIn (hd.heap_39 w.params) mainGlobals x = some none) (hv : bootBuiltins x = some v) (hn : x ≠ "__name__") (hq : Q v (sh s h tk))
    (hk : cs.kind = .function := by rfl) (hx : (envX cn cs L a ccd cl).kindOf x = some .globalImplicit := by rfl) (hd : (x == ("__debug__" : Str)) = false := by decide) :
    wpAny M A (eval (.Name x pos) (envX cn cs L a ccd cl)) Q E (sh s h tk) := by
  obtain ⟨⟨m, F, hm⟩, N⟩ := S
  obtain ⟨X, _, _, _, _, T⟩ := B
  exact nameX_B (s := sh s h tk) F X T e hv hn hq hk hx hd
theorem loadL {Q : Value → Shared → Prop} (S : St b L h al news) (hv : al.lookup x = some v) (hq : Q v (sh s h tk))
    (hk : cs.kind = .function := by rfl) (hx : (envX cn cs L a ccd cl).kindOf x = some .local := by rfl) :
    wpAny M A (loadName (envX cn cs L a ccd cl) x) Q E (sh s h tk) := by
  obtain ⟨⟨m, F, hm⟩, N⟩ := S
  exact wpAny_loadName_local (s := sh s h tk) hk hx F.ns (hm x v hv) hq
theorem storeL {Q : Unit → Shared → Prop} (S : St b L h al news)
    (hq : ∀ h' tk, St b L h' ((x, v) :: al) news → Q () (sh s h' tk))
    (hk : cs.kind = .function := by rfl) (hx : (envX cn cs L a ccd cl).kindOf x = some .local := by rfl) : wpAny M A (storeName (envX cn cs L a ccd cl) x v) Q E (sh s h tk) := by
  obtain ⟨⟨m, F, hm⟩, N⟩ := S
  refine storeX_L (s := sh s h tk) F N (fun h' F' N' => hq h' _ ⟨⟨_, F', fun y u e => ?_⟩, N'⟩) hk hx
  rw [List.lookup_cons] at e
  by_cases q : y = x
  · subst q; simp only [beq_self_eq_true] at e; rw [if_pos rfl]; exact e
  · have : (y == x) = false := by simpa using q
    simp only [this] at e
    rw [if_neg q]; exact hm y u e

theorem exN {P : Flow → Shared → Prop} {st : Stmt} {rest : List Stmt} {env : Env} (h : wpAny M A (exec st env) (fun f s' => match f with | .next => wpAny M A (execs rest env) P E s' | f => P f s') E s) :
    wpAny M A (execs (st :: rest) env) P E s := wpAny_execs_cons h

theorem cInt {i : Int} {Q : Value → Shared → Prop} (hq : Q (.int i tk) (sh s h (tk + 1))) : wpAny M A (eval (.Constant (.int i) k pos) env) Q E (sh s h tk) := wpAny_Constant_int (s := sh s h tk) hq
theorem cStr {i : Str} {Q : Value → Shared → Prop} (hq : Q (.str i tk) (sh s h (tk + 1))) : wpAny M A (eval (.Constant (.str i) k pos) env) Q E (sh s h tk) := Constant_str (s := sh s h tk) hq
theorem cBytes {i : List UInt8} {Q : Value → Shared → Prop} (hq : Q (.bytes i.toArray tk) (sh s h (tk + 1))) : wpAny M A (eval (.Constant (.bytes i) k pos) env) Q E (sh s h tk) := Constant_bytes (s := sh s h tk) hq
end

section
variable {prog : Program} {w : World} {A : Around} {E : Value → Shared → Prop} {s : Shared} {h : Heap} {tk : Nat} {env : Env} {a b : Int} {t u : Tok} {Q : Value → Shared → Prop}
theorem addI (hq : Q (.int (a + b) tk) (sh s h (tk + 1))) : wpAny (model prog w) A (binaryOp .Add (.int a t) (.int b u)) Q E (sh s h tk) := add_int (s := sh s h tk) hq
theorem subI (hq : Q (.int (a - b) tk) (sh s h (tk + 1))) : wpAny (model prog w) A (binaryOp .Sub (.int a t) (.int b u)) Q E (sh s h tk) := sub_int (s := sh s h tk) hq
theorem mulI (hq : Q (.int (a * b) tk) (sh s h (tk + 1))) (hm : IntMulOk a b := by mul_fits) : wpAny (model prog w) A (binaryOp .Mult (.int a t) (.int b u)) Q E (sh s h tk) := mul_int (s := sh s h tk) hq hm
theorem rshI (hn : 0 ≤ b) (hq : Q (.int (a.fdiv (2 ^ b.toNat)) tk) (sh s h (tk + 1))) : wpAny (model prog w) A (binaryOp .RShift (.int a t) (.int b u)) Q E (sh s h tk) := rshift_int (s := sh s h tk) hn hq
theorem modI (hb : b ≠ 0) (hq : Q (.int (a.fmod b) tk) (sh s h (tk + 1))) : wpAny (model prog w) A (binaryOp .Mod (.int a t) (.int b u)) Q E (sh s h tk) := mod_int' (s := sh s h tk) hb hq
theorem iaddI (hq : Q (.int (a + b) tk) (sh s h (tk + 1))) : wpAny (model prog w) A (inplaceOp .Add (.int a t) (.int b u)) Q E (sh s h tk) := iadd_int (s := sh s h tk) hq
theorem isubI (hq : Q (.int (a - b) tk) (sh s h (tk + 1))) : wpAny (model prog w) A (inplaceOp .Sub (.int a t) (.int b u)) Q E (sh s h tk) := isub_int (s := sh s h tk) hq
theorem negI (hq : Q (.int (-a) tk) (sh s h (tk + 1))) : wpAny (model prog w) A (unaryOp .USub (.int a t)) Q E (sh s h tk) := neg_int (s := sh s h tk) hq

/-- a while that never raises -/
theorem while_ {test : Expr} {body : List Stmt} {pos : Pos} {Q : Flow → Shared → Prop} (I : Nat → Heap → Prop) (n₀ : Nat) (h₀ : I n₀ h)
    (turn : ∀ n h tk, I n h → wpAny (model prog w) A (isTrue test env (eval test env)) (fun c s₂ =>
        if c = true then wpAny (model prog w) A (execs body env) (fun f s₃ => match f with
            | .next | .cont => ∃ m h' tk', s₃ = sh s h' tk' ∧ m < n ∧ I m h'
            | .brk => Q .next s₃
            | .ret v => Q (.ret v) s₃) (fun _ _ => False) s₂ else Q .next s₂) (fun _ _ => False) (sh s h tk)) :
    wpAny (model prog w) A (exec (.While test body [] pos) env) Q E (sh s h tk) := by
  refine wpAny_While (codeAny_whileLoop (fun n s' => ∃ h' tk', s' = sh s h' tk' ∧ I n h') ?_ n₀ ⟨h, tk, rfl, h₀⟩)
  rintro n _ ⟨h, tk, rfl, hI⟩
  refine wpAny_mono (turn n h tk hI) (fun c s₂ h₂ => ?_) fun _ _ x => x.elim
  cases c with
  | false =>
    simp only [Bool.false_eq_true, if_false] at h₂ ⊢
    exact wpAny_execs_nil h₂
  | true =>
    simp only [if_true] at h₂ ⊢
    refine wpAny_mono h₂ (fun f s₃ h₃ => ?_) fun _ _ x => x.elim
    cases f with
    | next => obtain ⟨m, h', tk', e, hm, hi⟩ := h₃; exact ⟨m, hm, h', tk', e, hi⟩
    | cont => obtain ⟨m, h', tk', e, hm, hi⟩ := h₃; exact ⟨m, hm, h', tk', e, hi⟩
    | brk => exact h₃
    | ret v => exact h₃

theorem getL {l : Addr} {its : Array Value} {ep : Nat} {k : Int} {t : Tok} {x : Value} {value slice : Expr} {Q : Value → Shared → Prop} (hl : h.get? l = some (listOf its ep))
    (h0 : 0 ≤ k) (hfit : k < 2 ^ 63) (hx : its[k.toNat]? = some x) (hq : Q x (sh s h tk))
    (hs : subscripted slice false (.ref l) (.int k t) = operate [.ref l, .int k t] (getItem (.ref l) (.int k t)) := by with_unfolding_all rfl) :
    wpAny (model prog w) A (subscriptTail value slice (.ref l) (.int k t)) Q E (sh s h tk) :=
  tail_any (s := sh s h tk) (ops := [.ref l, .int k t]) (Heap.IsList.typeIs ⟨_, hl, rfl, _, rfl⟩) slot_list_getitem.lookup (wpAny_getItem_list (s := sh s h tk) ⟨_, hl, rfl, _, rfl⟩ h0 hfit hx hq) hs

theorem setL {b : Heap} {L : Addr} {al : List (Str × Value)} {news news' : List (Addr × Obj)} {l : Addr} {its : Array Value} {ep : Nat} {k : Int} {t : Tok} {v : Value} {Q : Unit → Shared → Prop} (S : St b L h al news)
    (U : Upd l (listOf its ep) (listOf (its.setIfInBounds k.toNat v) ep) news news') (h0 : 0 ≤ k) (hfit : k < 2 ^ 63) (hn : k < its.size)
    (hq : ∀ h', St b L h' al news' → Q () (sh s h' tk)) : wpAny (model prog w) A (setItem (.ref l) (.int k t) v) Q E (sh s h tk) := by
  obtain ⟨⟨m, F, hm⟩, N⟩ := S
  obtain ⟨pre, post, rfl, rfl, x1, x2⟩ := U.split
  have z := N (l, listOf its ep) (List.mem_append.mpr (.inr (.head _)))
  exact ki_setAt (s := sh s h tk) z.1 h0 hfit hn (hq _ (St.mk ⟨m, kas_fr F (Heap.SameBut.update ..) z.2.1 z.2.2, hm⟩ (ki_turn _ N x1 x2 rfl (by simp))))
end
end Mine
local macro_rules | `(tactic| walk_at "al") => `(tactic| (first | exact List.forall_mem_nil _ | (refine List.forall_mem_cons.mpr ⟨rfl, ?_⟩; walk_at "al")))
local macro_rules | `(tactic| walk_at "nw") => `(tactic| (first | exact List.forall_mem_nil _ | (refine List.forall_mem_cons.mpr ⟨by k_mem, ?_⟩; walk_at "nw")))
local macro_rules | `(tactic| walk_at "st") => `(tactic| (refine Mine.St.weaken (by assumption) ?_ ?_; walk_at "al"; walk_at "nw"))
namespace Mine
open PySem PySem.W PyProof.Rows PySem.Calls
theorem fill : hd.heap_39 = hd.heap_39 ∧ PySem.Challenge.rw_mr0271_01 = PySem.Challenge.rw_mr0271_01 := by
  k_fill
  exact ⟨rfl, rfl⟩
end Mine
/- MSre -/
namespace Mine
open PySem
open PySem.Sre
theorem runFor_add (a b : Nat) : ∀ m : M, m.runFor (a + b) = (m.runFor a).runFor b := by
  induction a with
  | zero => intro m; rw [Nat.zero_add]; rfl
  | succ a ih =>
    intro m
    rw [Nat.succ_add]
    show (if m.outcome.isSome then m else M.runFor (a + b) m.step) = (if m.outcome.isSome then m else M.runFor a m.step).runFor b
    by_cases h : m.outcome.isSome = true
    · rw [if_pos h, if_pos h]
      cases b with
      | zero => rfl
      | succ b => show m = (if m.outcome.isSome then m else _); rw [if_pos h]
    · rw [if_neg h, if_neg h]; exact ih _
theorem runFor_done {m : M} (h : m.outcome.isSome = true) (k : Nat) : m.runFor k = m := by
  cases k with
  | zero => rfl
  | succ b => show (if m.outcome.isSome then m else _) = m; rw [if_pos h]

theorem runFor_succ {m : M} (h : m.outcome = none) (k : Nat) : m.runFor (k + 1) = m.step.runFor k := by
  show (if m.outcome.isSome then m else M.runFor k m.step) = _
  rw [h]; rfl

/-- a machine that searches, in no loop and without groups -/
def MS (code text : Array Nat) (st pc pos hd : Nat) (o : Bool) (fr : List Sre.Frame) (wt : Nat) (ans : Option Bool) (seen : Seen) : M :=
  { code, text, lim := text.size, start := st, lastStart := text.size, wholeText := false, mustAdvance := false, pc, pos, handed := hd, outermost := o, marks := #[], lastmark := -1, lastindex := -1,
    loops := #[], inner := none, frames := fr, weight := wt, answer := ans, seen, outcome := none }

section
variable {code text : Array Nat} {st pc pos hd : Nat} {o : Bool} {fr : List Sre.Frame} {wt : Nat} {seen : Seen} {k : Nat}
theorem ms_lit {x : Nat} (hpc : pc < code.size) (hop : code.getD pc 0 = 16) (hx : code.getD (pc + 1) 0 = x) :
    (MS code text st pc pos hd o fr wt none seen).runFor (k + 1) = (if pos < text.size ∧ text.getD pos 0 = x then MS code text st (pc + 2) (pos + 1) hd o fr wt none (seen.add 16) else MS code text st pc pos hd o fr wt (some false) (seen.add 16)).runFor k := by
  rw [runFor_succ rfl]
  congr 1
  subst hx
  have hop' : ops[16]? = some .LITERAL := rfl
  have hacc : ∀ c seen', accepts code pc c seen' = .ok (c == code.getD (pc + 1) 0, seen') := fun c seen' => by
    unfold accepts; rw [hop]; rfl
  have hw : itemWidth code pc = 2 := by unfold itemWidth; rw [hop]; rfl
  simp only [MS, M.step, Option.isSome_none, Bool.false_eq_true, if_false, hpc, if_true, M.exec, M.word, Nat.add_zero, hop, hop', hacc, hw]
  by_cases h1 : pos ≥ text.size
  · rw [if_pos h1, if_neg (by first | lia | omega)]; rfl
  · rw [if_neg h1]
    by_cases h2 : text.getD pos 0 = code.getD (pc + 1) 0
    · rw [if_pos ⟨by first | lia | omega, h2⟩, show (text.getD pos 0 == code.getD (pc + 1) 0) = true by simpa using h2]
    · rw [if_neg (fun q => h2 q.2), show (text.getD pos 0 == code.getD (pc + 1) 0) = false by simpa using h2]
      rfl
theorem ms_at (hpc : pc < code.size) (hop : code.getD pc 0 = 6) (hx : code.getD (pc + 1) 0 = 1) :
    (MS code text st pc pos hd o fr wt none seen).runFor (k + 1) = (if pos = 0 ∨ text.getD (pos - 1) 0 = 10 then MS code text st (pc + 2) pos hd o fr wt none ((seen.add 6).add 44) else MS code text st pc pos hd o fr wt (some false) ((seen.add 6).add 44)).runFor k := by
  rw [runFor_succ rfl]
  congr 1
  have hop' : ops[6]? = some .AT := rfl
  simp only [MS, M.step, Option.isSome_none, Bool.false_eq_true, if_false, hpc, if_true, M.exec, M.word, Nat.add_zero, hop, hop', hx, M.isAt]
  by_cases h : pos = 0 ∨ text.getD (pos - 1) 0 = 10
  · rw [if_pos h, show (pos == 0 || text.getD (pos - 1) 0 == 10) = true by simpa using h]; rfl
  · rw [if_neg h, show (pos == 0 || text.getD (pos - 1) 0 == 10) = false by simpa using h]; rfl
theorem ms_succ (hpc : pc < code.size) (hop : code.getD pc 0 = 1) :
    (MS code text st pc pos hd o fr wt none seen).runFor (k + 1) = (MS code text st pc pos pos o fr wt (some true) (seen.add 1)).runFor k := by
  rw [runFor_succ rfl]
  congr 1
  have hop' : ops[1]? = some .SUCCESS := rfl
  simp only [MS, M.step, Option.isSome_none, Bool.false_eq_true, if_false, hpc, if_true, M.exec, M.word, Nat.add_zero, hop, hop', Bool.false_and, Bool.or_self, Bool.and_false]
  rfl
theorem ms_jump {j : Nat} (hpc : pc < code.size) (hop : code.getD pc 0 = 15) (hj : code.getD (pc + 1) 0 = j) :
    (MS code text st pc pos hd o fr wt none seen).runFor (k + 1) = (MS code text st (pc + 1 + j) pos hd o fr wt none (seen.add 15)).runFor k := by
  rw [runFor_succ rfl]
  congr 1
  have hop' : ops[15]? = some .JUMP := rfl
  simp only [MS, M.step, Option.isSome_none, Bool.false_eq_true, if_false, hpc, if_true, M.exec, M.word, Nat.add_zero, hop, hop', hj]
theorem ms_branch (hpc : pc < code.size) (hop : code.getD pc 0 = 7) (hj : (code.getD (pc + 1) 0 == 0) = false) (hw : wt + 1 ≤ 16777216) :
    (MS code text st pc pos hd o fr wt none seen).runFor (k + 1) = (MS code text st (pc + 1 + 1) pos pos o ({ wait := .nextBranch, pc := pc + 1, pos, outermost := o, kept := { lastmark := -1, lastindex := -1, whole := false, marks := #[] } } :: fr) (wt + 1) none (seen.add 7)).runFor k := by
  rw [runFor_succ rfl]
  congr 1
  have hop' : ops[7]? = some .BRANCH := rfl
  simp only [MS, M.step, Option.isSome_none, Bool.false_eq_true, if_false, hpc, if_true, M.exec, M.word, Nat.add_zero, hop, hop', M.alternative, hj, M.attempt, M.keep, M.frame]
  rw [if_neg (by show ¬ wt + 1 + 0 > 16777216; first | lia | omega)]
  rfl
theorem ms_yes {f : Sre.Frame} (hf : f.wait = .nextStart ∨ f.wait = .nextBranch) (hm : f.kept.marks = #[]) :
    (MS code text st pc pos hd o (f :: fr) (wt + 1) (some true) seen).runFor (k + 1) = (MS code text st f.pc f.pos hd f.outermost fr wt (some true) seen).runFor k := by
  rw [runFor_succ rfl]
  congr 1
  obtain ⟨fw, fpc, fpos, fo, fc, fk, fl, fb⟩ := f
  simp only at hf hm
  rcases hf with rfl | rfl
  · simp only [MS, M.step, Option.isSome_none, Bool.false_eq_true, if_false, M.resume, if_true, M.say, hm]
    rfl
  · simp only [MS, M.step, Option.isSome_none, Bool.false_eq_true, if_false, M.resume, if_true, M.say, hm]
    rfl
theorem ms_end {a : Bool} : (MS code text st pc pos hd o [] wt (some a) seen).runFor (k + 1) = { MS code text st pc pos hd o [] wt (some a) seen with outcome := some (if a then .matched else .failed) } := by
  rw [runFor_succ rfl]
  exact runFor_done rfl k
abbrev kept0 : Sre.Kept := { lastmark := -1, lastindex := -1, whole := false, marks := #[] }
theorem ms_branch_no (a j : Nat) {o' : Bool} {p : Nat} (ha : code.getD a 0 = j) (hj : (code.getD (a + j) 0 == 0) = false) (hw : wt + 1 ≤ 16777216) :
    (MS code text st pc pos hd o ({ wait := .nextBranch, pc := a, pos := p, outermost := o', kept := kept0 } :: fr) (wt + 1) (some false) seen).runFor (k + 1) =
      (MS code text st (a + j + 1) p p o' ({ wait := .nextBranch, pc := a + j, pos := p, outermost := o', kept := kept0 } :: fr) (wt + 1) none seen).runFor k := by
  rw [runFor_succ rfl]
  congr 1
  simp only [MS, M.step, Option.isSome_none, Bool.false_eq_true, if_false, M.resume, M.alternative, M.putBack, ha, hj, M.attempt, M.frame]
  rw [if_neg (by show ¬ wt + 1 - (1 + 0) + 1 + 0 > 16777216; first | lia | omega)]
  rw [show wt + 1 - (1 + (#[] : Array (Option Nat)).size) + 1 + (#[] : Array (Option Nat)).size = wt + 1 by show wt + 1 - (1 + 0) + 1 + 0 = wt + 1; first | lia | omega]
theorem ms_assertnot (hpc : pc < code.size) (hop : code.getD pc 0 = 5) (h2 : code.getD (pc + 2) 0 = 0) (hw : wt + 1 ≤ 16777216) :
    (MS code text st pc pos hd o fr wt none seen).runFor (k + 1) = (MS code text st (pc + 3) pos pos false ({ wait := .lookNot, pc, pos, outermost := o, kept := kept0 } :: fr) (wt + 1) none (seen.add 5)).runFor k := by
  rw [runFor_succ rfl]
  congr 1
  have hop' : ops[5]? = some .ASSERT_NOT := rfl
  simp only [MS, M.step, Option.isSome_none, Bool.false_eq_true, if_false, hpc, if_true, M.exec, M.word, Nat.add_zero, hop, hop', h2, Nat.not_lt_zero, Nat.sub_zero, M.attempt, M.keep, M.frame]
  rw [if_neg (by show ¬ wt + 1 + 0 > 16777216; first | lia | omega)]
  rfl
theorem ms_look_no {a : Nat} {o' : Bool} {p j : Nat} (hj : code.getD (a + 1) 0 = j) :
    (MS code text st pc pos hd o ({ wait := .lookNot, pc := a, pos := p, outermost := o', kept := kept0 } :: fr) (wt + 1) (some false) seen).runFor (k + 1) = (MS code text st (a + 1 + j) p hd o' fr wt none seen).runFor k := by
  rw [runFor_succ rfl]
  congr 1
  simp only [MS, M.step, Option.isSome_none, Bool.false_eq_true, if_false, M.resume, M.putBack, M.word, hj]
  rfl
end

def c1 : Array Nat := #[14, 4, 0, 1, 1, 6, 1, 16, 46, 1]
/-- the dots' machine at a start -/
def M1 (text : Array Nat) (s : Nat) (o : Bool) (seen : Seen) : M := MS c1 text s 5 s s o [{ wait := .nextStart, pc := 5, pos := s, outermost := o }] 1 none seen

theorem start1 (text : Array Nat) (p : Nat) (hp : p < text.size) : forSearch c1 text 0 p text.size false = M1 text p true (({} : Seen).add 14) := by
  unfold forSearch
  have : ¬ (p > text.size ∨ text.size - p < (header c1).1) := by show ¬ (p > text.size ∨ text.size - p < 1); first | lia | omega
  simp only [this, decide_eq_true_eq, Bool.or_eq_true, if_false]
  rfl
theorem start1_none (text : Array Nat) (p : Nat) (hp : text.size ≤ p) : ((forSearch c1 text 0 p text.size false).runFor 2).outcome = some .failed := by
  unfold forSearch
  have : (p > text.size ∨ text.size - p < (header c1).1) := by show (p > text.size ∨ text.size - p < 1); first | lia | omega
  simp only [this, decide_eq_true_eq, Bool.or_eq_true, if_true]
  rfl
theorem m1_no (text : Array Nat) (s pc pos hd : Nat) (o o' : Bool) (seen : Seen) (k : Nat) (hs : s < text.size) :
    (MS c1 text s pc pos hd o [{ wait := .nextStart, pc := 5, pos := s, outermost := o' }] 1 (some false) seen).runFor (k + 1) = (M1 text (s + 1) false seen).runFor k := by
  rw [runFor_succ rfl]
  congr 1
  show (if s < text.size then _ else _) = _
  rw [if_pos hs]; rfl
theorem m1_last (text : Array Nat) (s pc pos hd : Nat) (o o' : Bool) (seen : Seen) (k : Nat) (hs : ¬ s < text.size) :
    (MS c1 text s pc pos hd o [{ wait := .nextStart, pc := 5, pos := s, outermost := o' }] 1 (some false) seen).runFor (k + 1) = (MS c1 text s 5 s hd o' [] 0 (some false) seen).runFor k := by
  rw [runFor_succ rfl]
  congr 1
  show (if s < text.size then _ else _) = _
  rw [if_neg hs]; rfl

/-- a dot in first place or behind a feed -/
def hit1 (text : Array Nat) (q : Nat) : Prop := (q = 0 ∨ text.getD (q - 1) 0 = 10) ∧ text.getD q 0 = 46

theorem miss1 (text : Array Nat) (s : Nat) (o : Bool) (seen : Seen) (hs : s < text.size) (h : ¬ hit1 text s) : ∃ j seen', j ≤ 3 ∧ ∀ k, (M1 text s o seen).runFor (k + j) = (M1 text (s + 1) false seen').runFor k := by
  by_cases h1 : s = 0 ∨ text.getD (s - 1) 0 = 10
  · refine ⟨3, ((seen.add 6).add 44).add 16, Nat.le_refl _, fun k => ?_⟩
    unfold M1
    rw [ms_at (by decide) rfl rfl, if_pos h1, ms_lit (x := 46) (by decide) rfl rfl, if_neg (fun q => h ⟨h1, q.2⟩), m1_no text s _ _ _ _ _ _ _ hs]
    rfl
  · refine ⟨2, (seen.add 6).add 44, by decide, fun k => ?_⟩
    unfold M1
    rw [ms_at (by decide) rfl rfl, if_neg h1, m1_no text s _ _ _ _ _ _ _ hs]
    rfl
theorem end1 (text : Array Nat) (s : Nat) (o : Bool) (seen : Seen) (hs : ¬ s < text.size) : ∃ j, j ≤ 4 ∧ ((M1 text s o seen).runFor j).outcome = some .failed := by
  by_cases h1 : s = 0 ∨ text.getD (s - 1) 0 = 10
  · refine ⟨4, Nat.le_refl _, ?_⟩
    unfold M1
    rw [ms_at (by decide) rfl rfl, if_pos h1, ms_lit (x := 46) (by decide) rfl rfl, if_neg (fun q => hs q.1), m1_last text s _ _ _ _ _ _ _ hs, ms_end]
    rfl
  · refine ⟨3, by decide, ?_⟩
    unfold M1
    rw [ms_at (by decide) rfl rfl, if_neg h1, m1_last text s _ _ _ _ _ _ _ hs, ms_end]
    rfl
theorem found1 (text : Array Nat) (s : Nat) (o : Bool) (seen : Seen) (hs : s < text.size) (h : hit1 text s) :
    ∃ m, (M1 text s o seen).runFor 5 = m ∧ m.outcome = some .matched ∧ m.start = s ∧ m.handed = s + 1 := by
  refine ⟨_, rfl, ?_⟩
  unfold M1
  rw [ms_at (by decide) rfl rfl, if_pos h.1, ms_lit (x := 46) (by decide) rfl rfl, if_pos ⟨hs, h.2⟩, ms_succ (by decide) rfl, ms_yes (.inl rfl) rfl, ms_end]
  exact ⟨rfl, rfl, rfl⟩

/-- the search for the next dot: it is found at s -/
theorem search1 (text : Array Nat) (s : Nat) (hs : s < text.size) (h : hit1 text s) : ∀ (n p : Nat) (o : Bool) (seen : Seen), p + n = s → (∀ q, p ≤ q → q < s → ¬ hit1 text q) →
    ∃ k m, k ≤ 3 * n + 5 ∧ (M1 text p o seen).runFor k = m ∧ m.outcome = some .matched ∧ m.start = s ∧ m.handed = s + 1
  | 0, p, o, seen, hp, _ => by
    obtain rfl : p = s := by first | lia | omega
    obtain ⟨m, h1, h2⟩ := found1 text p o seen hs h
    exact ⟨5, m, by first | lia | omega, h1, h2⟩
  | n + 1, p, o, seen, hp, hno => by
    obtain ⟨j, seen', hj, hr⟩ := miss1 text p o seen (by first | lia | omega) (hno p (Nat.le_refl _) (by first | lia | omega))
    obtain ⟨k, m, hk, h1, h2⟩ := search1 text s hs h n (p + 1) false seen' (by first | lia | omega) fun q hq => hno q (by first | lia | omega)
    exact ⟨k + j, m, by first | lia | omega, by rw [hr]; exact h1, h2⟩
/-- there is none -/
theorem search1_none (text : Array Nat) : ∀ (n p : Nat) (o : Bool) (seen : Seen), p + n = text.size → (∀ q, p ≤ q → q < text.size → ¬ hit1 text q) →
    ∃ k, k ≤ 3 * n + 4 ∧ ((M1 text p o seen).runFor k).outcome = some .failed
  | 0, p, o, seen, hp, _ => by
    obtain ⟨j, hj, h⟩ := end1 text p o seen (by first | lia | omega)
    exact ⟨j, by first | lia | omega, h⟩
  | n + 1, p, o, seen, hp, hno => by
    obtain ⟨j, seen', hj, hr⟩ := miss1 text p o seen (by first | lia | omega) (hno p (Nat.le_refl _) (by first | lia | omega))
    obtain ⟨k, hk, h⟩ := search1_none text n (p + 1) false seen' (by first | lia | omega) fun q hq => hno q (by first | lia | omega)
    exact ⟨k + j, by first | lia | omega, by rw [hr]; exact h⟩

def c3 : Array Nat := #[14, 9, 4, 1, 2, 16, 10, 16, 13, 0, 7, 7, 16, 13, 16, 10, 15, 18, 5, 16, 10, 15, 13, 11, 16, 13, 5, 5, 0, 16, 10, 1, 15, 2, 0, 1]
def M3 (text : Array Nat) (s : Nat) (o : Bool) (seen : Seen) : M := MS c3 text s 10 s s o [{ wait := .nextStart, pc := 10, pos := s, outermost := o }] 1 none seen
def hit3 (text : Array Nat) (q : Nat) : Prop := text.getD q 0 = 10 ∨ text.getD q 0 = 13
def len3 (text : Array Nat) (q : Nat) : Nat := if text.getD q 0 = 13 ∧ q + 1 < text.size ∧ text.getD (q + 1) 0 = 10 then 2 else 1

theorem found3 (text : Array Nat) (s : Nat) (seen : Seen) (hs : s < text.size) (h : hit3 text s) :
    ∃ k m, k ≤ 16 ∧ (M3 text s true seen).runFor k = m ∧ m.outcome = some .matched ∧ m.start = s ∧ m.handed = s + len3 text s := by
  unfold len3
  by_cases a1 : text.getD s 0 = 13
  · by_cases a2 : s + 1 < text.size ∧ text.getD (s + 1) 0 = 10
    · rw [if_pos ⟨a1, a2⟩]
      refine ⟨8, _, by decide, rfl, ?_⟩
      unfold M3
      rw [ms_branch (by decide) rfl rfl (by decide), ms_lit (x := 13) (by decide) rfl rfl, if_pos ⟨hs, a1⟩, ms_lit (x := 10) (by decide) rfl rfl, if_pos a2, ms_jump (j := 18) (by decide) rfl rfl, ms_succ (by decide) rfl, ms_yes (.inr rfl) rfl, ms_yes (.inl rfl) rfl, ms_end]
      exact ⟨rfl, rfl, rfl⟩
    · rw [if_neg (fun q => a2 q.2)]
      refine ⟨15, _, by decide, rfl, ?_⟩
      unfold M3
      rw [ms_branch (by decide) rfl rfl (by decide), ms_lit (x := 13) (by decide) rfl rfl, if_pos ⟨hs, a1⟩, ms_lit (x := 10) (by decide) rfl rfl, if_neg a2, ms_branch_no 11 7 (wt := 1) rfl rfl (by decide),
        ms_lit (x := 10) (by decide) rfl rfl, if_neg (fun q => by rw [a1] at q; exact absurd q.2 (by decide)), ms_branch_no 18 5 (wt := 1) rfl rfl (by decide),
        ms_lit (x := 13) (by decide) rfl rfl, if_pos ⟨hs, a1⟩, ms_assertnot (by decide) rfl rfl (by decide), ms_lit (x := 10) (by decide) rfl rfl, if_neg a2, ms_look_no (j := 5) rfl,
        ms_jump (j := 2) (by decide) rfl rfl, ms_succ (by decide) rfl, ms_yes (.inr rfl) rfl, ms_yes (.inl rfl) rfl, ms_end]
      exact ⟨rfl, rfl, rfl⟩
  · have a3 : text.getD s 0 = 10 := h.resolve_right a1
    rw [if_neg (fun q => a1 q.1)]
    refine ⟨9, _, by decide, rfl, ?_⟩
    unfold M3
    rw [ms_branch (by decide) rfl rfl (by decide), ms_lit (x := 13) (by decide) rfl rfl, if_neg (fun q => a1 q.2), ms_branch_no 11 7 (wt := 1) rfl rfl (by decide),
      ms_lit (x := 10) (by decide) rfl rfl, if_pos ⟨hs, a3⟩, ms_jump (j := 13) (by decide) rfl rfl, ms_succ (by decide) rfl, ms_yes (.inr rfl) rfl, ms_yes (.inl rfl) rfl, ms_end]
    exact ⟨rfl, rfl, rfl⟩

theorem inSet3 (c : Nat) (seen : Seen) : ∃ seen', inSet c3 c 36 5 true seen = .ok (decide (c = 10 ∨ c = 13), seen') := by
  by_cases h1 : c = 10
  · subst h1; exact ⟨_, rfl⟩
  · by_cases h2 : c = 13
    · subst h2; exact ⟨_, rfl⟩
    · refine ⟨((seen.add 16).add 16).add 0, ?_⟩
      have e1 : (c == 10) = false := by simpa using h1
      have e2 : (c == 13) = false := by simpa using h2
      show (if (c == 10) = true then _ else if (c == 13) = true then _ else _) = _
      rw [e1, e2, show decide (c = 10 ∨ c = 13) = false by simp [h1, h2]]
      rfl

theorem admitted3 (m : M) (hc : m.code = c3) (s : Nat) (hs : s < m.lim) (h : hit3 m.text s) : ∀ (n p fuel : Nat) (seen : Seen), p + n = s → n < fuel → (∀ q, p ≤ q → q < s → ¬ hit3 m.text q) → ∃ seen', M.admitted m fuel p seen = .ok (some s, seen')
  | n, p, 0, seen, _, hf, _ => by first | lia | omega
  | 0, p, fuel + 1, seen, hp, _, _ => by
    obtain rfl : p = s := by first | lia | omega
    obtain ⟨seen', e⟩ := inSet3 (m.text.getD p 0) seen
    refine ⟨seen', ?_⟩
    unfold M.admitted
    rw [if_neg (by first | lia | omega), hc, show c3.size = 36 from rfl, e, show decide (m.text.getD p 0 = 10 ∨ m.text.getD p 0 = 13) = true from decide_eq_true h]
  | n + 1, p, fuel + 1, seen, hp, hf, hno => by
    obtain ⟨seen', e⟩ := inSet3 (m.text.getD p 0) seen
    unfold M.admitted
    rw [if_neg (by first | lia | omega), hc, show c3.size = 36 from rfl, e, show decide (m.text.getD p 0 = 10 ∨ m.text.getD p 0 = 13) = false from decide_eq_false (hno p (Nat.le_refl _) (by first | lia | omega))]
    exact admitted3 m hc s hs h n (p + 1) fuel seen' (by first | lia | omega) (by first | lia | omega) fun q hq => hno q (by first | lia | omega)
theorem admitted3_none (m : M) (hc : m.code = c3) : ∀ (fuel p : Nat) (seen : Seen), (∀ q, p ≤ q → q < m.lim → ¬ hit3 m.text q) → ∃ seen', M.admitted m fuel p seen = .ok (none, seen')
  | 0, p, seen, _ => ⟨_, rfl⟩
  | fuel + 1, p, seen, hno => by
    unfold M.admitted
    by_cases hp : p ≥ m.lim
    · rw [if_pos hp]; exact ⟨_, rfl⟩
    · obtain ⟨seen', e⟩ := inSet3 (m.text.getD p 0) seen
      rw [if_neg hp, hc, show c3.size = 36 from rfl, e, show decide (m.text.getD p 0 = 10 ∨ m.text.getD p 0 = 13) = false from decide_eq_false (hno p (Nat.le_refl _) (by first | lia | omega))]
      exact admitted3_none m hc fuel (p + 1) seen' fun q hq => hno q (by first | lia | omega)

theorem search3 (text : Array Nat) (p s : Nat) (hps : p ≤ s) (hs : s < text.size) (h : hit3 text s) (hno : ∀ q, p ≤ q → q < s → ¬ hit3 text q) :
    ∃ k m, k ≤ 16 ∧ (forSearch c3 text 0 p text.size false).runFor k = m ∧ m.outcome = some .matched ∧ m.start = s ∧ m.handed = s + len3 text s := by
  unfold forSearch
  have : ¬ (p > text.size ∨ text.size - p < (header c3).1) := by show ¬ (p > text.size ∨ text.size - p < 1); first | lia | omega
  simp only [this, decide_eq_true_eq, Bool.or_eq_true, if_false]
  let m0 : M := { code := c3, text, lim := text.size, start := p, lastStart := text.size, pc := 10, pos := p, handed := p, marks := #[], mustAdvance := false, seen := ({} : Seen).add 14 }
  obtain ⟨seen', e⟩ := admitted3 m0 rfl s hs h (s - p) p (text.size + 1 - p) (({} : Seen).add 14) (by first | lia | omega) (by first | lia | omega) hno
  obtain ⟨k, m, hk, hr, hm⟩ := found3 text s seen' hs h
  refine ⟨k, m, hk, ?_, hm⟩
  rw [← hr]
  congr 1
  show (match M.admitted m0 (text.size + 1 - p) p (({} : Seen).add 14) with | .ok (some s, seen) => M.attemptAt { m0 with mustAdvance := false, seen } s true | .ok (none, seen) => ({ m0 with seen } : M).say false | .error why => m0.stick why) = _
  rw [e]
  rfl
theorem search3_none (text : Array Nat) (p : Nat) (hno : ∀ q, p ≤ q → q < text.size → ¬ hit3 text q) : ∃ k, k ≤ 16 ∧ ((forSearch c3 text 0 p text.size false).runFor k).outcome = some .failed := by
  unfold forSearch
  by_cases hp : p > text.size ∨ text.size - p < (header c3).1
  · simp only [hp, decide_eq_true_eq, Bool.or_eq_true, if_true]
    exact ⟨2, by decide, rfl⟩
  · simp only [hp, decide_eq_true_eq, Bool.or_eq_true, if_false]
    let m0 : M := { code := c3, text, lim := text.size, start := p, lastStart := text.size, pc := 10, pos := p, handed := p, marks := #[], mustAdvance := false, seen := ({} : Seen).add 14 }
    obtain ⟨seen', e⟩ := admitted3_none m0 rfl (text.size + 1 - p) p (({} : Seen).add 14) hno
    refine ⟨2, by decide, ?_⟩
    have : M.attemptFrom m0 p true = ({ m0 with seen := seen' } : M).say false := by
      show (match M.admitted m0 (text.size + 1 - p) p (({} : Seen).add 14) with | .ok (some s, seen) => M.attemptAt { m0 with mustAdvance := false, seen } s true | .ok (none, seen) => ({ m0 with seen } : M).say false | .error why => m0.stick why) = _
      rw [e]
    show (M.runFor 2 (M.attemptFrom m0 p true)).outcome = _
    rw [this]
    rfl
end Mine
/- MBase2 -/
namespace Mine
open PySem PySem.W PyProof.Rows PySem.Calls
section
variable {b : Heap} {L : Addr} {h h' : Heap} {al : List (Str × Value)} {news news' : List (Addr × Obj)} {d : Addr} {o o' : Obj}
theorem St.upd (S : St b L h al news) (U : Upd d o o' news news') (hs : Heap.SameBut d h h') (ho : h'.get? d = some o') : St b L h' al news' := by
  obtain ⟨⟨m, F, hm⟩, N⟩ := S
  obtain ⟨pre, post, rfl, rfl, x1, x2⟩ := U.split
  have z := N (d, o) (List.mem_append.mpr (.inr (.head _)))
  exact ⟨⟨m, kas_fr F hs z.2.1 z.2.2, hm⟩, news_set N x1 x2 hs ho⟩
theorem St.ext (S : St b L h al news) (hd : b.get? d = none) (hL : d ≠ L) (he : Heap.ExtBut d h h') (hn : ∀ p ∈ news', p ∈ news ∧ p.1 ≠ d) : St b L h' al news' := by
  refine S.but (hs := [d]) (fun a o n e => he a o (fun q => n (by rw [q]; exact .head _)) e) (fun a ha => by rcases List.mem_singleton.mp ha with rfl; exact hd) (fun q => hL (List.mem_singleton.mp q).symm) fun p hp => ?_
  have z := S.N p (hn p hp).1
  exact ⟨he _ _ (hn p hp).2 z.1, z.2⟩
theorem St.drop (S : St b L h al news) (hd : (d, o) ∈ news) (he : Heap.ExtBut d h h') (hn : ∀ p ∈ news', p ∈ news ∧ p.1 ≠ d) : St b L h' al news' :=
  S.ext (S.N _ hd).2.2 (S.N _ hd).2.1 he hn
theorem St.push (S : St b L h al news) (o : Obj) (hf : o.isFreed = false := by rfl) : St b L (h.push o) al ((h.objs.size, o) :: news) := by
  obtain ⟨⟨m, F, hm⟩, N⟩ := S
  exact ⟨⟨m, F.push o, hm⟩, N.push F o hf⟩
theorem St.below (S : St b L h al news) : ∀ p ∈ news, p.1 < h.objs.size := fun p hp => Heap.lt_size (S.N p hp).1
/-- a fresh object of the heap that has grown -/
theorem St.fresh (S : St b L h al news) (hk : Keeps h h') (ha : h.objs.size ≤ d) (ho : h'.get? d = some o) : St b L h' al ((d, o) :: news) := by
  have S' := S.grow hk
  refine ⟨S'.fr, fun p hp => ?_⟩
  rcases List.mem_cons.mp hp with rfl | hp
  · refine ⟨ho, Nat.ne_of_gt (Nat.lt_of_lt_of_le S.lt ha), ?_⟩
    cases q : b.get? d with
    | none => rfl
    | some o' => exact absurd (Nat.lt_of_lt_of_le (Heap.lt_size (S.keep _ _ q)) ha) (Nat.lt_irrefl _)
  · exact S'.N p hp
end

section
variable {prog : Program} {w : World} {A : Around} {E : Value → Shared → Prop} {s : Shared} {b h : Heap} {tk : Nat} {L : Addr} {env : Env} {al : List (Str × Value)} {news news' : List (Addr × Obj)}

/-- a for that never raises -/
theorem for_ {target iter : Expr} {body : List Stmt} {pos : Pos} {Q : Flow → Shared → Prop}
    (hi : wpAny (model prog w) A (eval iter env) (fun x s₁ => wpAny (model prog w) A (pyIter x) (fun it s₂ =>
      codeAny (model prog w) A (.forLoop target it body [] env) (fun r s' => match r with | .ok f => Q f s' | .error _ => False) s₂) E s₁) E s)
    (hs : ∀ x, foldedSetIterable iter env x = pure x := by intro _; rfl) : wpAny (model prog w) A (exec (.For target iter body [] pos) env) Q E s :=
  wpAny_For (wpAny_mono hi (fun x s₁ h₁ => wpAny_mono h₁ (fun it s₂ h₂ => codeAny_mono h₂ fun r s' hr => by cases r with | ok f => exact hr | error e => exact hr.elim) fun _ _ x => x) fun _ _ x => x) hs

theorem forL {target : Expr} {it : Value} {body : List Stmt} {Q : Flow → Shared → Prop} (I : Nat → Heap → Prop) (n₀ : Nat) (h₀ : I n₀ h)
    (turn : ∀ n h tk, I n h → wpAny (model prog w) A (pyNext it) (fun r s₁ => match r with
      | none => Q .next s₁
      | some v => wpAny (model prog w) A (assign target env v) (fun _ s₂ => wpAny (model prog w) A (execs body env) (fun f s₃ => match f with
          | .next | .cont => ∃ m h' tk', s₃ = sh s h' tk' ∧ m < n ∧ I m h'
          | .brk => Q .next s₃
          | .ret v => Q (.ret v) s₃) (fun _ _ => False) s₂) (fun _ _ => False) s₁) (fun _ _ => False) (sh s h tk))
    (ht : ∀ v, letOwnedTupleGo target it v = pure () := by intro _; rfl) :
    codeAny (model prog w) A (.forLoop target it body [] env) (fun r s' => match r with | .ok f => Q f s' | .error _ => False) (sh s h tk) := by
  refine codeAny_forLoop (fun n s' => ∃ h' tk', s' = sh s h' tk' ∧ I n h') ?_ n₀ ⟨h, tk, rfl, h₀⟩ ht
  rintro n _ ⟨h, tk, rfl, hI⟩
  refine wpAny_mono (turn n h tk hI) (fun r s₁ h₁ => ?_) fun _ _ x => x.elim
  cases r with
  | none => exact wpAny_execs_nil h₁
  | some v =>
    refine wpAny_mono h₁ (fun _ s₂ h₂ => wpAny_mono h₂ (fun f s₃ h₃ => ?_) fun _ _ x => x.elim) fun _ _ x => x.elim
    cases f with
    | next => obtain ⟨m, h', tk', e, hm, hi⟩ := h₃; exact ⟨m, hm, h', tk', e, hi⟩
    | cont => obtain ⟨m, h', tk', e, hm, hi⟩ := h₃; exact ⟨m, hm, h', tk', e, hi⟩
    | brk => exact h₃
    | ret v => exact h₃

abbrev rangeIt (x left step : Int) : Obj := { cls := .type "range_iterator", dict := none, data := .fields #[rawInt x, rawInt left, rawInt step], slots := #[] }
theorem nextR {it : Addr} {x left step : Int} {Q : Option Value → Shared → Prop} (S : St b L h al news) (U : Upd it (rangeIt x left step) (rangeIt (x + step) (left - 1) step) news news') (hl : 0 < left)
    (hq : ∀ h', St b L h' al news' → Q (some (.int x tk)) (sh s h' (tk + 1))) : wpAny (model prog w) A (pyNext (.ref it)) Q E (sh s h tk) := by
  have hm : (it, rangeIt x left step) ∈ news := by
    obtain ⟨pre, post, rfl, _⟩ := U.split
    exact List.mem_append.mpr (.inr (.head _))
  exact wpAny_pyNext_range_item (s := sh s h tk) (S.N.get hm) hl fun h' hi hs => hq h' (S.upd U hs hi)
theorem nextR_end {it : Addr} {x left step : Int} {Q : Option Value → Shared → Prop} (hh : A.handled = none) (S : St b L h al news) (hm : (it, rangeIt x left step) ∈ news) (hl : left ≤ 0) (hn : ∀ p ∈ news', p ∈ news ∧ p.1 ≠ it)
    (hq : ∀ h', St b L h' al news' → Q none (sh s h' tk)) : wpAny (model prog w) A (pyNext (.ref it)) Q E (sh s h tk) :=
  wpAny_pyNext_range_end (s := sh s h tk) hh (S.N.get hm) hl fun h' he => hq h' (S.drop hm he hn)

theorem callRange {n : Int} {t : Tok} {Q : Value → Shared → Prop} (S : St b L h al news)
    (hq : ∀ r t1 t2 h' tk, St b L h' al ((r, { cls := .type "range", data := .fields #[.int 0 t1, .int n t, .int 1 t2] }) :: news) → (∀ p ∈ news, p.1 < r) → Q (.ref r) (sh s h' tk)) : wpAny (model prog w) A (call (.type "range") [.int n t]) Q E (sh s h tk) :=
  call_range_1 (s := sh s h tk) (hq _ _ _ _ _ (S.push _) S.below)

theorem sub_ri_reversed : isSubtype (.type "range_iterator") (.type "reversed") = pure false := by rw [isSubtype_type]; kernel_rfl

theorem rangeRev (r : Addr) (n : Int) (t u v : Tok) {Q : PySem.Fin → Shared → Prop} (hr : s.heap.get? r = some { cls := .type "range", data := .fields #[.int 0 t, .int n u, .int 1 v] }) (h0 : 0 ≤ n) (h1 : n < 2 ^ 62)
    (hq : Q (.done (.ret (.ref s.heap.objs.size))) { s with heap := s.heap.push (rangeIt (n - 1) n (-1)) }) : wpAny (model prog w) A (Builtin.«range.__reversed__» ⟨[.ref r], []⟩) Q E s := by
  have hsz : Builtin.Range.rangeSize 0 n 1 = n := by rw [rangeSize_one]; split <;> first | lia | omega
  obtain ⟨h, g, d, tk, os⟩ := s
  unfold Builtin.«range.__reversed__»
  refine wpAny_bind (m := selfOnly "range.__reversed__" ⟨[.ref r], []⟩) (wpAny_of_eq (a := Value.ref r) rfl ?_)
  refine wpAny_bind (m := Builtin.Range.rangeFields (.ref r)) ?_
  wp_walk
  have hb : (Builtin.Range.rangeFitsLong 0 && Builtin.Range.rangeFitsLong n && Builtin.Range.rangeFitsLong 1 && Builtin.Range.rangeFitsLong (-1) && Builtin.Range.rangeFitsLong (0 - 1) && Builtin.Range.rangeFitsLong (Builtin.Range.rangeSize 0 n 1)) = true := by
    rw [hsz]
    simp only [Builtin.Range.rangeFitsLong, Bool.and_eq_true, decide_eq_true_eq]
    first | lia | omega
  rw [hb, hsz]
  simp only [Bool.not_true, Bool.false_eq_true, if_false, if_true]
  refine wpAny_bind (wpAny_newObj_type (wpAny_pure ?_))
  rw [show (0 + (n - 1) * 1 : Int) = n - 1 by first | lia | omega]
  exact hq

theorem callReversed {r : Addr} {n : Int} {t u v : Tok} {Q : Value → Shared → Prop} (S : St b L h al news) (hr : h.get? r = some { cls := .type "range", data := .fields #[.int 0 t, .int n u, .int 1 v] }) (h0 : 0 ≤ n) (h1 : n < 2 ^ 62)
    (hq : ∀ it h', St b L h' al ((it, rangeIt (n - 1) n (-1)) :: news) → (∀ p ∈ news, p.1 < it) → Q (.ref it) (sh s h' tk)) : wpAny (model prog w) A (call (.type "reversed") [.ref r]) Q E (sh s h tk) := by
  refine callType_other (U := "range_iterator") (Q₁ := fun obj s₁ => obj = .ref h.objs.size ∧ s₁ = sh s (h.push (rangeIt (n - 1) n (-1))) tk) (by decide +kernel) F.create_reversed ⟨_, _, F.mro_reversed⟩ F.made_reversed sub_ri_reversed (F.typeCall_reversed_1 _) ?_ ?_
  · refine codeAny_of_tree ?_
    show wpAny _ A.in1.in1 (do checkBuiltinCall "reversed.__new__" ⟨[.type "reversed", .ref r], []⟩; again (.builtin "reversed.__new__" ⟨[.type "reversed", .ref r], []⟩)) _ _ _
    refine wpAny_bind (wpAny_of_eq (F.newCall_reversed_1 _) (wpAny_pure ⟨plainId_quiet F.plain_reversed_new _, codeAny_builtin F.entry_reversed_new ?_⟩))
    rw [Around.under_plainId F.plain_reversed_new _]
    have hT : Shared.TypeIs (sh s h tk) (.ref r) "range" := ⟨_, hr, rfl⟩
    unfold Builtin.«reversed.__new__»
    refine wpAny_bind (wpAny_of_eq (newClass_reversed _) ?_)
    try dsimp only
    refine wpAny_bind (wpAny_of_eq (a := ()) (by first | rfl | kernel_rfl) ?_)
    refine wpAny_bind (wpAny_of_eq (a := ()) (by first | rfl | kernel_rfl) ?_)
    try dsimp only
    refine wpAny_bind (wpAny_specialOf hT F.slot_range_reversed.lookup ?_)
    try dsimp only
    refine wpAny_bind (wpAny_of_eq (F.slot_range_reversed.bind _) ?_)
    try dsimp only
    rw [if_neg (show ¬ ((Value.builtin "range.__reversed__" == Value.none) = true) from Bool.false_ne_true)]
    refine wpAny_bind (wpAny_rule ?_)
    refine wpAny_bind (m := runValue (.call (.builtin "range.__reversed__") ⟨[.ref r], []⟩)) (show wpAny _ _ (call (.builtin "range.__reversed__") [.ref r]) _ _ _ from
      wpAny_call_entry F.slot_range_reversed hT F.entry_range_reversed (rangeRev (s := sh s h tk) r n t u v hr h0 h1 ⟨_, rfl, ?_⟩) (F.args_range_reversed_1 _))
    exact wpAny_pure ⟨rfl, rfl⟩
  · rintro obj s₁ ⟨rfl, rfl⟩
    exact ⟨⟨_, Heap.get?_push_size _ rfl, rfl⟩, hq _ _ (S.push _) S.below⟩
theorem iterR {it : Addr} {x left step : Int} {Q : Value → Shared → Prop} (hi : h.get? it = some (rangeIt x left step)) (hq : Q (.ref it) (sh s h tk)) : wpAny (model prog w) A (pyIter (.ref it)) Q E (sh s h tk) :=
  wpAny_pyIter_rangeiter (s := sh s h tk) hi hq
theorem fdivI {a b : Int} {t u : Tok} {Q : Value → Shared → Prop} (hb : b ≠ 0) (hq : Q (.int (a.fdiv b) tk) (sh s h (tk + 1))) (hp : Builtin.divisionGoesByPylong a b = false := by first | exact PyProof.noPylong_of_log2 (by decide +kernel) | exact PyProof.noPylong_small (by first | lia | omega)) :
    wpAny (model prog w) A (binaryOp .FloorDiv (.int a t) (.int b u)) Q E (sh s h tk) := floordiv_int (s := sh s h tk) hb hq (.inl hp)
theorem ifdivI {a b : Int} {t u : Tok} {Q : Value → Shared → Prop} (hb : b ≠ 0) (hq : Q (.int (a.fdiv b) tk) (sh s h (tk + 1))) (hp : Builtin.divisionGoesByPylong a b = false := by first | exact PyProof.noPylong_of_log2 (by decide +kernel) | exact PyProof.noPylong_small (by first | lia | omega)) :
    wpAny (model prog w) A (inplaceOp .FloorDiv (.int a t) (.int b u)) Q E (sh s h tk) := ifloordiv_int (s := sh s h tk) hb hq (.inl hp)
theorem fdiv2 (n : Nat) : ((n : Nat) : Int).fdiv 2 = ((n / 2 : Nat) : Int) := by
  rw [Int.fdiv_eq_ediv_of_nonneg _ (by decide)]; first | lia | omega
end
end Mine
/- MSub -/
namespace Mine
open PySem PySem.W PyProof.Rows PySem.Calls
open PySem.Builtin PySem.Builtin.Re
theorem re_plain : PlainAttrs "re.Pattern" :=
  ⟨⟨"object.__getattribute__", by rw [typeLookup_type, builtinLookup_eq_fast]; kernel_rfl, by decide +kernel⟩, by rw [typeLookup_type, builtinLookup_eq_fast]; kernel_rfl⟩
theorem re_slot : Slot "re.Pattern" "sub" "re.Pattern.sub" :=
  .of (owner := "re.Pattern") (n := "sub") (by rw [typeLookup_type, builtinLookup_eq_fast]; kernel_rfl) (by decide +kernel) (by decide +kernel) (by decide +kernel)
    (by first | exact .inl (by decide +kernel) | exact .inr (by decide +kernel)) (by rw [isSubtype_type]; kernel_rfl)
theorem re_type : typeOf (.builtin "re.Pattern.sub") = pure (.type "method_descriptor") := by show builtinType _ = _; rw [builtinType_eq_fast]; kernel_rfl
theorem re_entry : entryFor table "re.Pattern.sub" = some Builtin.«re.Pattern.sub» := entryFor_of_tree (by kernel_rfl)
theorem re_entry_loop : entryFor table "re.Pattern.sub.loop" = some Builtin.«re.Pattern.sub.loop» := entryFor_of_tree (by kernel_rfl)
theorem re_args (a b c : Value) : argsOk "re.Pattern.sub" ⟨[a, b, c], []⟩ := by unfold argsOk; kernel_rfl
theorem re_plainId : plainId "re.Pattern.sub" = true := by decide +kernel
theorem re_plainId_loop : plainId "re.Pattern.sub.loop" = true := by decide +kernel
theorem str_nocall : typeLookup (.type "str") "__call__" = pure none := by rw [typeLookup_type, builtinLookup_eq_fast]; kernel_rfl
theorem bytes_nocall : typeLookup (.type "bytes") "__call__" = pure none := by rw [typeLookup_type, builtinLookup_eq_fast]; kernel_rfl

section
variable {prog : Program} {w : World} {A : Around} {E : Value → Shared → Prop} {s : Shared}
theorem call_again {T : String} {name : Str} {id : String} {B : Builtin} {self : Value} {rest : List Value} {Q : Value → Shared → Prop} (slot : Slot T name id) (hT : s.TypeIs self T) (entry : entryFor table id = some B)
    (h : wpAny (model prog w) A.in1 (B ⟨self :: rest, []⟩) (fun fin s' => match fin with
        | .done f => wants Q E (.ok f) s'
        | .again c' => c'.quiet = true ∧ codeAny (model prog w) A c' (wants Q E) s') E s) (ok : argsOk id ⟨self :: rest, []⟩) : wpAny (model prog w) A (call (.builtin id) (self :: rest)) Q E s :=
  wpAny_call (codeAny_call_builtin slot.plain entry (slot.check _ _ _ _ _ _ _ _ hT ok h))

theorem reDrive_ {m' : Sre.M} {Q : Sre.M → Shared → Prop} : ∀ (turns k : Nat) (m : Sre.M), k ≤ 4 * turns → m.runFor k = m' → m'.outcome.isSome = true → 0 < turns → Q m' s → wpAny (model prog w) A (reDrive turns m) Q E s
  | 0, _, _, _, _, _, h0, _ => by first | lia | omega
  | turns + 1, k, m, hk, hr, ho, _, hq => by
    unfold reDrive
    dsimp only
    by_cases h4 : k ≤ 4
    · have e : m.runFor reTurnSteps = m' := by
        show m.runFor 4 = m'
        rw [show 4 = k + (4 - k) by first | lia | omega, runFor_add, hr]
        exact runFor_done ho _
      rw [e, if_pos ho]
      exact wpAny_pure hq
    · have e : (m.runFor reTurnSteps).runFor (k - 4) = m' := by
        show (m.runFor 4).runFor (k - 4) = m'
        rw [← runFor_add, show 4 + (k - 4) = k by first | lia | omega, hr]
      by_cases h5 : (m.runFor reTurnSteps).outcome.isSome = true
      · rw [if_pos h5]
        rw [runFor_done h5] at e
        rw [e]; exact wpAny_pure hq
      · rw [if_neg h5]
        exact wpAny_bind (wpAny_rule (reDrive_ turns (k - 4) _ (by first | lia | omega) e ho (by first | lia | omega) hq))

theorem reRun_ {m m' : Sre.M} {k : Nat} {Q : Option Sre.M → Shared → Prop} (hk : k ≤ 2 ^ 20) (hr : m.runFor k = m')
    (hq : (m'.outcome = some .matched ∧ Q (some m') s) ∨ (m'.outcome = some .failed ∧ Q none s)) : wpAny (model prog w) A (reRunToEnd m) Q E s := by
  have ho : m'.outcome.isSome = true := by rcases hq with h | h <;> rw [h.1] <;> rfl
  unfold reRunToEnd
  refine wpAny_bind (reDrive_ (m' := m') (2 ^ 64) k m (by first | lia | omega) hr ho (by decide) ?_)
  refine wpAny_bind (wpAny_forIn_list _ (fun _ _ s' => s' = s) _ (fun x rest u s' hs => ?_) (fun u s' hs => ?_) _ _ rfl)
  · subst hs
    try dsimp only
    split
    · exact wpAny_bind (wpAny_rule (wpAny_pure rfl))
    · exact wpAny_pure rfl
  · subst hs
    rcases hq with ⟨e, q⟩ | ⟨e, q⟩ <;> rw [e]
    · exact wpAny_pure q
    · exact wpAny_pure q

/-- a pattern of the text -/
structure Pat (h : Heap) (pa ct : Addr) (code : Array Nat) (kind : Nat) : Prop where
  obj : ∃ v f, h.get? pa = some { cls := .type "re.Pattern", data := .fields #[v, f, .int 0 0, .none, .none, .ref ct, .int kind 0] }
  code : ∃ items, h.get? ct = some { cls := .type "tuple", data := .seq items } ∧ (items.map reRawOf).map (·.toNat) = code

/-- a text (0) or octets (1) -/
def kv (kind : Nat) (l : List Nat) (t : Tok) : Value := if kind = 0 then .str ⟨l.toArray⟩ t else .bytes (l.map Nat.toUInt8).toArray t

theorem target_ {pa ct : Addr} {code : Array Nat} {kind : Nat} {l : List Nat} {t : Tok} {Q : ReTarget → Shared → Prop} (P : Pat s.heap pa ct code kind) (hk : kind = 0 ∨ (kind = 1 ∧ ∀ x ∈ l, x < 256))
    (hq : Q { pattern := .ref pa, string := kv kind l t, code, text := l.toArray, kind, groups := 0, pos := 0, lim := l.length } s) : wpAny (model prog w) A (reWholeTarget (.ref pa) (kv kind l t)) Q E s := by
  obtain ⟨⟨v, f, ho⟩, items, hc, rfl⟩ := P
  unfold reWholeTarget
  refine wpAny_bind (wpAny_fieldsOf ho rfl ?_)
  rcases hk with rfl | ⟨rfl, hl⟩
  · refine wpAny_bind (m := reTextOf (kv 0 l t)) (wpAny_pure ?_)
    obtain ⟨h, g, d, tk, os⟩ := s
    wp_walk
    exact hq
  · have hb : (l.map Nat.toUInt8).toArray.map (·.toNat) = l.toArray := by
      apply Array.toList_inj.mp
      simp only [Array.toList_map, List.map_map]
      conv => rhs; rw [← List.map_id l]
      exact List.map_congr_left fun x hx => by
        have := hl x hx
        show (Nat.toUInt8 x).toNat = x
        simp [Nat.toUInt8, Nat.mod_eq_of_lt this]
    refine wpAny_bind (m := reTextOf (kv 1 l t)) ?_
    unfold reTextOf
    refine wpAny_bind (m := asStr? (kv 1 l t)) (wpAny_pure ?_)
    dsimp only
    refine wpAny_bind (wpAny_of_eq KBy.quiet_eq (wpAny_pure ?_))
    rw [hb]
    have hins := F.sub_bytes_bytes
    obtain ⟨h, g, d, tk, os⟩ := s
    wp_walk
    exact hq
end
end Mine
/- MJoin -/
namespace Mine
open PySem PySem.W PyProof.Rows PySem.Calls
open PySem.Builtin
/-- lists put together by another -/
def joinL (sep : List Nat) : List (List Nat) → List Nat
  | [] => []
  | [x] => x
  | x :: y :: r => x ++ sep ++ joinL sep (y :: r)
theorem joinL_nil_sep : ∀ l : List (List Nat), joinL [] l = l.flatten
  | [] => rfl
  | [x] => by simp [joinL]
  | x :: y :: r => by rw [joinL, joinL_nil_sep (y :: r)]; simp
theorem joinL_cons (sep : List Nat) (x : List Nat) (r : List (List Nat)) : joinL sep (x :: r) = x ++ (r.map (sep ++ ·)).flatten := by
  induction r generalizing x with
  | nil => simp [joinL]
  | cons y r ih => rw [joinL, ih]; simp [List.append_assoc]

theorem take_eq {id : String} {b : Array UInt8} {t : Tok} : Bytes.takeBufferQuiet? id (.bytes b t) 0 = pure (some (b, none)) := by
  unfold Bytes.takeBufferQuiet? Bytes.takeBuffer?
  rw [KBy.special_eq KBy.look_buffer, KBy.own_buffer]
  have : Bytes.buffer? id (.bytes b t) ((0 : Int) == Bytes.fullReadOnly) = pure (some b) := by
    rw [show ((0 : Int) == Bytes.fullReadOnly) = false by decide]; exact KBy.buffer_eq
  simp only [pure_bind, this]
  kernel_rfl

section
variable {prog : Program} {w : World} {A : Around} {E : Value → Shared → Prop} {s : Shared}
theorem joinLetGo_ {Q : Unit → Shared → Prop} : ∀ (taken : List (Value × Option Value)) (keep : List Value), (∀ p ∈ taken, p.2 = none) → Q () s → wpAny (model prog w) A (Bytes.joinLetGo taken keep) Q E s
  | [], _, _, h => wpAny_pure h
  | (x, u) :: r, keep, hn, h => by
    have : u = none := hn _ (.head _)
    subst this
    unfold Bytes.joinLetGo
    dsimp only
    exact wpAny_bind (wpAny_letGo (joinLetGo_ r keep (fun p hp => hn p (.tail _ hp)) h))

def bVals (l : List (Array UInt8 × Tok)) : List Value := l.map fun p => .bytes p.1 p.2

theorem joinSize {l : List (Array UInt8 × Tok)} {sep : Array UInt8} (hz : (l.map (·.1.size)).sum + sep.size * l.length ≤ 16777216) :
    ((l.map (·.1)).toArray.foldl (fun n (a : Array UInt8) => n + a.size) (sep.size * ((l.map (·.1)).toArray.size - 1))) ≤ 16777216 := by
  have hfold : ∀ (l : List (Array UInt8 × Tok)) (a : Nat), (l.map (·.1)).foldl (fun n (a : Array UInt8) => n + a.size) a = a + (l.map (·.1.size)).sum := by
    intro l
    induction l with
    | nil => intro a; simp
    | cons p l ih => intro a; rw [List.map_cons, List.foldl_cons, ih]; simp; first | lia | omega
  rw [List.foldl_toArray, hfold]
  have : sep.size * ((l.map (·.1)).toArray.size - 1) ≤ sep.size * l.length := Nat.mul_le_mul_left _ (by simp)
  first | lia | omega
theorem joined_toList (sep : Array UInt8) (l : List (Array UInt8 × Tok)) : (Bytes.joined sep (l.map (·.1))).toList = (match l with | [] => [] | p :: r => p.1.toList ++ (r.map fun q => sep.toList ++ q.1.toList).flatten) := by
  have key : ∀ (r : List (Array UInt8 × Tok)) (k : Nat) (acc : Array UInt8), 0 < k → (((r.map (·.1)).zipIdx k).foldl (fun out (p : Array UInt8 × Nat) => (if p.2 > 0 then out ++ sep else out) ++ p.1) acc).toList = acc.toList ++ (r.map fun q => sep.toList ++ q.1.toList).flatten := by
    intro r
    induction r with
    | nil => intro k acc _; simp
    | cons q r ih =>
      intro k acc hk
      rw [List.map_cons, List.zipIdx_cons, List.foldl_cons, ih _ _ (by first | lia | omega), if_pos hk]
      simp [List.append_assoc]
  cases l with
  | nil => simp [Bytes.joined]
  | cons p r =>
    unfold Bytes.joined
    rw [List.map_cons, List.zipIdx_cons, List.foldl_cons]
    have := key r 1 ((if 0 > 0 then (#[] : Array UInt8) ++ sep else #[]) ++ p.1) (by decide)
    rw [this]
    simp
theorem joinedSize {l : List (Array UInt8 × Tok)} {sep : Array UInt8} (hz : (l.map (·.1.size)).sum + sep.size * l.length ≤ 16777216) : (Bytes.joined sep (l.map (·.1))).size ≤ 16777216 := by
  rw [← Array.length_toList, joined_toList]
  cases l with
  | nil => simp
  | cons p r =>
    simp only [List.map_cons, List.sum_cons, List.length_cons] at hz
    have : ∀ r : List (Array UInt8 × Tok), (r.map fun q => sep.toList ++ q.1.toList).flatten.length = (r.map (·.1.size)).sum + sep.size * r.length := by
      intro r
      induction r with
      | nil => simp
      | cons q r ih => simp only [List.map_cons, List.flatten_cons, List.length_append, ih, List.sum_cons, List.length_cons, Array.length_toList, Nat.mul_add, Nat.mul_one]; first | lia | omega
    rw [List.length_append, this, Array.length_toList]
    rw [Nat.mul_add] at hz
    first | lia | omega

theorem joinLoop (l : List (Array UInt8 × Tok)) (f : Nat → Array (Array UInt8) × List (Value × Option Value) → Sem (ForInStep (Array (Array UInt8) × List (Value × Option Value)))) {Q : Array (Array UInt8) × List (Value × Option Value) → Shared → Prop}
    (hf : ∀ i (hi : i < l.length) parts taken (R : ForInStep (Array (Array UInt8) × List (Value × Option Value)) → Shared → Prop), (List.any taken fun x : Value × Option Value => x.1.onHeap) = false →
      R (.yield (parts.push l[i].1, taken ++ [(.bytes l[i].1 l[i].2, none)])) s → wpAny (model prog w) A (f i (parts, taken)) R E s)
    (hq : Q ((l.map (·.1)).toArray, l.map fun p => (Value.bytes p.1 p.2, none)) s) {n : Nat} (hn : n = l.length) : wpAny (model prog w) A (forIn [:n] (#[], []) f) Q E s := by
  subst hn
  rw [Std.Legacy.Range.forIn_eq_forIn_range']
  refine wpAny_forIn_list (s := s) _ (fun rest st s' => s' = s ∧ ∃ i, rest = List.range' i (l.length - i) ∧ i ≤ l.length ∧ st = (((l.take i).map (·.1)).toArray, (l.take i).map fun p => (Value.bytes p.1 p.2, none))) _ ?turn ?fin _ _ ?start
  case start =>
    refine ⟨rfl, 0, ?_, Nat.zero_le _, rfl⟩
    simp [Std.Legacy.Range.size]
  case turn =>
    rintro j rest st s' ⟨rfl, i, hr, hi, rfl⟩
    have hlt : i < l.length := by
      rcases Nat.lt_or_ge i l.length with h | h
      · exact h
      · rw [show l.length - i = 0 by first | lia | omega] at hr; cases hr
    rw [show l.length - i = (l.length - (i + 1)) + 1 by first | lia | omega, List.range'_succ] at hr
    obtain ⟨hj, hrest⟩ := List.cons.inj hr
    subst hj
    subst hrest
    refine hf j hlt _ _ _ ?_ ⟨rfl, j + 1, rfl, hlt, ?_⟩
    · rw [List.any_eq_false]
      intro p hp
      obtain ⟨q, _, rfl⟩ := List.mem_map.mp hp
      exact Bool.false_ne_true
    · rw [List.take_succ_eq_append_getElem hlt, List.map_append, List.map_append, List.push_toArray]
      rfl
  case fin =>
    rintro st s' ⟨rfl, i, hr, hi, rfl⟩
    have : i = l.length := by
      rcases Nat.lt_or_ge i l.length with h | h
      · rw [show l.length - i = (l.length - (i + 1)) + 1 by first | lia | omega, List.range'_succ] at hr; cases hr
      · first | lia | omega
    subst this
    rw [List.take_length]
    exact hq

theorem joinB_ {D : Addr} {l : List (Array UInt8 × Tok)} {sep : Array UInt8} {t : Tok} {ep : Nat} {Q : Value → Shared → Prop} (hl : s.heap.get? D = some (listOf (bVals l).toArray ep))
    (hz : (l.map (·.1.size)).sum + sep.size * l.length ≤ 16777216)
    (hq : ∀ t' k, Q (.bytes (Bytes.joined sep (l.map (·.1))) t') { s with toks := k }) :
    wpAny (model prog w) A (Builtin.«bytes.join» ⟨[.bytes sep t, .ref D], []⟩) (fun fin s' => ∃ v, fin = .done (.ret v) ∧ Q v s') E s := by
  unfold Builtin.«bytes.join» Bytes.joinM
  dsimp only
  refine wpAny_bind (m := selfAndOne _ _) (wpAny_pure ?_)
  dsimp only
  refine wpAny_bind (m := Bytes.joinItems (.ref D)) ?_
  unfold Bytes.joinItems
  have hT : s.TypeIs (.ref D) "list" := ⟨_, hl, rfl⟩
  refine wpAny_bind (wpAny_typeOf hT ?_)
  refine wpAny_pure ?_
  refine wpAny_bind (wpAny_seqItems hl rfl ?_)
  dsimp only
  rw [if_pos (show (Bytes.Kind.bytes == Bytes.Kind.bytes) = true by decide)]
  match l, hl, hz, hq with
  | [(b, u)], hl, hz, hq =>
    show wpAny _ _ (typeOf (.bytes b u) >>= _) _ _ _
    refine wpAny_bind (wpAny_typeOf (T := "bytes") rfl ?_)
    have e : Bytes.joined sep ([(b, u)].map (·.1)) = b := by simp [Bytes.joined, List.zipIdx]
    rw [e] at hq
    exact wpAny_bind (wpAny_rule (wpAny_pure ⟨_, rfl, hq u s.toks⟩))
  | [], hl, hz, hq =>
    show wpAny _ _ (forIn [:(bVals ([])).toArray.size] _ _ >>= _) _ _ _
    refine wpAny_bind (joinLoop [] _ (fun i hi => absurd hi (Nat.not_lt_zero _)) ?_ (by simp [bVals]))
    · try dsimp only
      refine wpAny_bind (m := Bytes.payload (.bytes sep t)) (wpAny_pure ?_)
      rw [if_neg (show ¬ Bytes.tooLong _ = true by rw [KBy.tooLong_not (joinSize hz)]; exact Bool.false_ne_true)]
      refine wpAny_bind (wpAny_mkBytes (wpAny_bind (wpAny_holding (wpAny_point ?_))) ?_)
      · exact wpAny_bind (joinLetGo_ _ _ (fun p hp => by obtain ⟨q, _, rfl⟩ := List.mem_map.mp hp; rfl) (wpAny_pure ⟨_, rfl, hq _ _⟩))
      · rw [sizeLine_eq]; exact joinedSize hz
  | p :: q :: r, hl, hz, hq =>
    show wpAny _ _ (forIn [:(bVals (p :: q :: r)).toArray.size] _ _ >>= _) _ _ _
    refine wpAny_bind (joinLoop (p :: q :: r) _ (fun i hi parts taken R hany hR => ?_) ?_ (by simp [bVals]))
    · refine wpAny_bind (wpAny_seqItems hl rfl ?_)
      try dsimp only
      rw [show (Bytes.Kind.bytes == Bytes.Kind.bytearray) = false by decide, hany]
      try simp only [Bool.or_self, Bool.false_eq_true, if_false]
      have hget : (bVals (p :: q :: r)).toArray.getD i Value.none = .bytes (p :: q :: r)[i].1 (p :: q :: r)[i].2 := by
        rw [Array.getD_eq_getD_getElem?, List.getElem?_toArray, bVals, List.getElem?_map, List.getElem?_eq_getElem hi]; rfl
      rw [hget]
      refine wpAny_bind (wpAny_holding (wpAny_of_eq take_eq ?_))
      try dsimp only
      refine wpAny_bind (wpAny_seqItems hl rfl ?_)
      try dsimp only
      rw [show ((bVals (p :: q :: r)).toArray.size != (bVals (p :: q :: r)).toArray.size) = false by simp]
      try simp only [Bool.false_eq_true, if_false]
      exact wpAny_pure hR
    · try dsimp only
      refine wpAny_bind (m := Bytes.payload (.bytes sep t)) (wpAny_pure ?_)
      rw [if_neg (show ¬ Bytes.tooLong _ = true by rw [KBy.tooLong_not (joinSize hz)]; exact Bool.false_ne_true)]
      refine wpAny_bind (wpAny_mkBytes (wpAny_bind (wpAny_holding (wpAny_point ?_))) ?_)
      · exact wpAny_bind (joinLetGo_ _ _ (fun p hp => by obtain ⟨q, _, rfl⟩ := List.mem_map.mp hp; rfl) (wpAny_pure ⟨_, rfl, hq _ _⟩))
      · rw [sizeLine_eq]; exact joinedSize hz

theorem bj_slot : Slot "bytes" "join" "bytes.join" :=
  .of (owner := "bytes") (n := "join") (by rw [typeLookup_type, builtinLookup_eq_fast]; kernel_rfl) (by decide +kernel) (by decide +kernel) (by decide +kernel)
    (by first | exact .inl (by decide +kernel) | exact .inr (by decide +kernel)) (by rw [isSubtype_type]; kernel_rfl)
theorem bj_type : typeOf (.builtin "bytes.join") = pure (.type "method_descriptor") := by show builtinType _ = _; rw [builtinType_eq_fast]; kernel_rfl
theorem bj_entry : entryFor table "bytes.join" = some Builtin.«bytes.join» := entryFor_of_tree (by kernel_rfl)
theorem bj_args (a b : Value) : argsOk "bytes.join" ⟨[a, b], []⟩ := by unfold argsOk; kernel_rfl

/-- values of one kind -/
def kvs (kind : Nat) (l : List (List Nat × Tok)) : List Value := l.map fun p => kv kind p.1 p.2

theorem bytes_joined (sep : List Nat) (l : List (List Nat × Tok)) :
    Bytes.joined (sep.map Nat.toUInt8).toArray ((l.map fun p : List Nat × Tok => ((p.1.map Nat.toUInt8).toArray, p.2)).map (·.1)) = ((joinL sep (l.map (·.1))).map Nat.toUInt8).toArray := by
  apply Array.toList_inj.mp
  rw [joined_toList]
  cases l with
  | nil => rfl
  | cons p r =>
    rw [List.map_cons, List.map_cons, joinL_cons]
    simp only [List.map_append, List.map_flatten, List.map_map]
    congr 2
    apply List.map_congr_left
    intro q _
    simp
theorem str_joined (sep : List Nat) (l : List (List Nat × Tok)) : Txt.join ⟨sep.toArray⟩ (l.map fun p => (⟨p.1.toArray⟩ : Str)) = ⟨(joinL sep (l.map (·.1))).toArray⟩ := by
  show Str.glued _ _ = _
  rw [StrLaws.glued_eq_join]
  induction l with
  | nil => rfl
  | cons p r ih =>
    cases r with
    | nil => rfl
    | cons q r =>
      show (⟨p.1.toArray⟩ : PySem.Str) ++ ⟨sep.toArray⟩ ++ PySem.Str.join ⟨sep.toArray⟩ _ = _
      rw [ih]
      show (⟨p.1.toArray ++ sep.toArray ++ (joinL sep ((q :: r).map (·.1))).toArray⟩ : PySem.Str) = ⟨(p.1 ++ sep ++ joinL sep ((q :: r).map (·.1))).toArray⟩
      simp

theorem strsAre_kvs : ∀ l : List (List Nat × Tok), StrsAre (kvs 0 l) (l.map fun p => (⟨p.1.toArray⟩ : PySem.Str))
  | [] => .nil
  | p :: r => .cons _ _ (strsAre_kvs r)

theorem joinK {h : Heap} {tk : Nat} {D : Addr} (kind : Nat) (hk : kind = 0 ∨ kind = 1) {l : List (List Nat × Tok)} {sep : List Nat} {t : Tok} {ep : Nat} {Q : Value → Shared → Prop} (hl : h.get? D = some (listOf (kvs kind l).toArray ep))
    (hz : (l.map (·.1.length)).sum + sep.length * l.length ≤ 16777216)
    (hq : ∀ t' k, Q (kv kind (joinL sep (l.map (·.1))) t') (sh s h k)) :
    wpAny (model prog w) A (call (.builtin (if kind = 0 then "str.join" else "bytes.join")) [kv kind sep t, .ref D]) Q E (sh s h tk) := by
  rcases hk with rfl | rfl
  · refine join_list (s := sh s h tk) (x := ⟨sep.toArray⟩) ⟨_, hl, rfl, _, rfl⟩ (by simpa using strsAre_kvs l) ?_ fun t' k => ?_
    · rw [List.map_map, List.length_map]
      have : ((fun x : PySem.Str => x.length) ∘ fun p : List Nat × Tok => (⟨p.1.toArray⟩ : PySem.Str)) = fun p => p.1.length := by funext p; simp [PySem.Str.length]
      rw [this, show (⟨sep.toArray⟩ : PySem.Str).length = sep.length by simp [PySem.Str.length], Nat.mul_comm]
      exact hz
    · rw [str_joined]; exact hq t' k
  · have hl' : h.get? D = some (listOf (bVals (l.map fun p : List Nat × Tok => ((p.1.map Nat.toUInt8).toArray, p.2))).toArray ep) := by
      rw [hl, bVals, List.map_map]; rfl
    refine wpAny_call_entry bj_slot (typeIs_bytes _ _ _) bj_entry (joinB_ (s := sh s h tk) hl' ?_ fun t' k => ?_) (bj_args _ _)
    · rw [List.map_map, List.length_map]
      have : ((fun x : Array UInt8 × Tok => x.1.size) ∘ fun p : List Nat × Tok => ((p.1.map Nat.toUInt8).toArray, p.2)) = fun p => p.1.length := by funext p; simp
      rw [this]
      simpa using hz
    · rw [bytes_joined]; exact hq t' k
end
end Mine
/- MSub2 -/
namespace Mine
open PySem PySem.W PyProof.Rows PySem.Calls
open PySem.Builtin PySem.Builtin.Re
/-- what a search for the next place gives, and what is put there -/
structure Finds (code : Array Nat) (l : List Nat) (rl : List Nat) (hit : Nat → Prop) (len : Nat → Nat) (out : Nat → List Nat) : Prop where
  search : ∀ p, p ≤ l.length → (∃ s, p ≤ s ∧ s < l.length ∧ hit s ∧ (∀ q, p ≤ q → q < s → ¬ hit q) ∧ ∃ k m, k ≤ 2 ^ 20 ∧ (Sre.forSearch code l.toArray 0 p l.length false).runFor k = m ∧ m.outcome = some .matched ∧ m.start = s ∧ m.handed = s + len s) ∨
    ((∀ q, p ≤ q → q < l.length → ¬ hit q) ∧ ∃ k, k ≤ 2 ^ 20 ∧ ((Sre.forSearch code l.toArray 0 p l.length false).runFor k).outcome = some .failed)
  wide : ∀ s, s < l.length → hit s → 1 ≤ len s ∧ s + len s ≤ l.length
  skip : ∀ p (hp : p < l.length), ¬ hit p → out p = l[p] :: out (p + 1)
  put : ∀ p, p < l.length → hit p → out p = rl ++ out (p + len p)
  fin : out l.length = []

theorem Finds.run {code : Array Nat} {l rl : List Nat} {hit : Nat → Prop} {len : Nat → Nat} {out : Nat → List Nat} (F : Finds code l rl hit len out) :
    ∀ (n p : Nat), p + n ≤ l.length → (∀ q, p ≤ q → q < p + n → ¬ hit q) → out p = (l.drop p).take n ++ out (p + n)
  | 0, p, _, _ => by simp
  | n + 1, p, hp, hno => by
    rw [F.skip p (by first | lia | omega) (hno p (Nat.le_refl _) (by first | lia | omega)), F.run n (p + 1) (by first | lia | omega) (fun q h1 h2 => hno q (by first | lia | omega) (by first | lia | omega))]
    rw [List.drop_eq_getElem_cons (show p < l.length by first | lia | omega), List.take_succ_cons, List.cons_append, show p + 1 + n = p + (n + 1) by first | lia | omega]

section
variable {prog : Program} {w : World} {A : Around} {E : Value → Shared → Prop} {s : Shared}

theorem slice_ {kind : Nat} (hk : kind = 0 ∨ kind = 1) {h : Heap} {tk : Nat} {l : List Nat} {b e : Nat} {Q : Value → Shared → Prop} (hz : l.length ≤ 2 ^ 20) (hq : ∀ t k, Q (kv kind ((l.drop b).take (e - b)) t) (sh s h k)) :
    wpAny (model prog w) A (reSlice l.toArray kind b e) Q E (sh s h tk) := by
  have hsz : ((l.drop b).take (e - b)).length ≤ 16777216 := by
    rw [List.length_take, List.length_drop]; first | lia | omega
  have ex : l.toArray.extract b e = ((l.drop b).take (e - b)).toArray := by simp [List.extract_toArray]
  rcases hk with rfl | rfl
  · show wpAny _ _ (mkStr ⟨l.toArray.extract b e⟩) _ _ _
    rw [ex]
    exact wpAny_mkStr (s := sh s h tk) (hq _ _) (by rw [sizeLine_eq]; simpa [PySem.Str.length] using hsz)
  · show wpAny _ _ (mkBytes ((l.toArray.extract b e).map (·.toUInt8))) _ _ _
    rw [ex, show ((l.drop b).take (e - b)).toArray.map (·.toUInt8) = (((l.drop b).take (e - b)).map Nat.toUInt8).toArray by simp]
    exact wpAny_mkBytes (s := sh s h tk) (hq _ _) (by rw [sizeLine_eq]; simpa using hsz)

theorem pushL {h : Heap} {tk : Nat} {pl : Addr} {ps : List Value} {ep : Nat} {v : Value} {Q : Unit → Shared → Prop} (hl : h.get? pl = some (listOf ps.toArray ep)) (hz : ps.length ≤ 2 ^ 22)
    (hq : ∀ h' ep', Heap.SameBut pl h h' → h'.get? pl = some (listOf (ps ++ [v]).toArray ep') → Q () (sh s h' tk)) : wpAny (model prog w) A (updateSeq pl (·.push v)) Q E (sh s h tk) := by
  have e := get?_update_seq hl (·.push v)
  have ea : ps.toArray.push v = (ps ++ [v]).toArray := by simp
  rw [ea] at e
  exact wpAny_updateSeq (s := sh s h tk) hl rfl (hq _ _ (Heap.SameBut.update ..) e) (by rw [sizeLine_eq, List.size_toArray]; first | lia | omega) (by rw [sizeLine_eq, ea, List.size_toArray, List.length_append]; simp; first | lia | omega)

theorem Pat.keeps {h h' : Heap} {pa ct : Addr} {code : Array Nat} {kind : Nat} {hs : List Addr} (P : Pat h pa ct code kind) (hk : KeepsBut hs h h') (h1 : pa ∉ hs) (h2 : ct ∉ hs) : Pat h' pa ct code kind := by
  obtain ⟨⟨v, f, ho⟩, items, hc, e⟩ := P
  exact ⟨⟨v, f, hk _ _ h1 ho⟩, items, hk _ _ h2 hc, e⟩
theorem SameBut.kb {a : Addr} {h h' : Heap} (hs : Heap.SameBut a h h') : KeepsBut [a] h h' := fun b o n e => hs.extBut b o (fun q => n (by rw [q]; exact .head _)) e
theorem KeepsBut.trans {hs : List Addr} {h₁ h₂ h₃ : Heap} (a : KeepsBut hs h₁ h₂) (b : KeepsBut hs h₂ h₃) : KeepsBut hs h₁ h₃ := fun x o n e => b x o n (a x o n e)
theorem KeepsBut.refl (hs : List Addr) (h : Heap) : KeepsBut hs h h := fun _ _ _ e => e

theorem literal_ {kind : Nat} (hk : kind = 0 ∨ kind = 1) {l : List Nat} {t : Tok} {Q : Unit → Shared → Prop} (hq : Q () s) : wpAny (model prog w) A (reLiteralCannotBeTurned (kv kind l t)) Q E s := by
  unfold reLiteralCannotBeTurned
  have hins := F.sub_bytes_bytes
  rcases hk with rfl | rfl
  · refine wpAny_bind (m := asStr? (kv 0 l t)) (wpAny_pure ?_)
    exact wpAny_pure hq
  · refine wpAny_bind (m := asStr? (kv 1 l t)) (wpAny_pure ?_)
    refine wpAny_bind (m := isInstance (kv 1 l t) (.type "bytes")) (wpAny_of_eq (KBy.isInstance_eq) ?_)
    exact wpAny_pure hq

theorem subLoop {pa ct pl : Addr} {code : Array Nat} {kind : Nat} {l rl : List Nat} {t rt : Tok} {hit : Nat → Prop} {len : Nat → Nat} {out : Nat → List Nat} {Q : Value → Shared → Prop}
    (F : Finds code l rl hit len out) (hk : kind = 0 ∨ (kind = 1 ∧ ∀ x ∈ l, x < 256)) (hl : l.length ≤ 2 ^ 16) (hrl : rl.length ≤ 2) (h1 : pa ≠ pl) (h2 : ct ≠ pl) :
    ∀ (N p n : Nat) (h : Heap) (tk : Nat) (ps : List (List Nat × Tok)) (ep : Nat), N = l.length - p → p ≤ l.length → Pat h pa ct code kind → h.get? pl = some (listOf (kvs kind ps).toArray ep) →
      ps.length ≤ 2 * p → (ps.map (·.1.length)).sum ≤ 4 * p →
      (∀ h' tk t', KeepsBut [pl] h h' → Q (kv kind ((ps.map (·.1)).flatten ++ out p) t') (sh s h' tk)) →
      codeAny (model prog w) A (.builtin "re.Pattern.sub.loop" ⟨[.ref pa, kv kind l t, kv kind rl rt, rawInt 0, rawInt 0, rawInt n, rawInt p, rawInt p, .bool false, .ref pl, .bool false], []⟩) (wants Q E) (sh s h tk) := by
  have hk' : kind = 0 ∨ kind = 1 := hk.imp id And.left
  intro N
  induction N using Nat.strongRecOn with
  | ind N ih =>
    intro p n h tk ps ep hN hp P hpl hps hsum hq
    refine codeAny_builtin re_entry_loop ?_
    rw [Around.under_plainId re_plainId_loop]
    unfold Builtin.«re.Pattern.sub.loop»
    dsimp only
    refine wpAny_bind (target_ (s := sh s h tk) P hk ?_)
    refine wpAny_bind (literal_ hk' ?_)
    dsimp only
    show wpAny _ _ ((if ((0 : Int) != 0 && decide ((n : Int) ≥ 0)) = true then pure none else reNextFound _ p false) >>= _) _ _ _
    rw [if_neg (by simp)]
    unfold reNextFound
    dsimp only
    rcases F.search p hp with ⟨st, hps1, hst, hhit, hno, k, m, hkk, hrun, hout, hms, hmh⟩ | ⟨hno, k, hkk, hout⟩
    · obtain ⟨hw1, hw2⟩ := F.wide st hst hhit
      have hne : (kv kind rl rt != Value.none) = true := by rcases hk' with rfl | rfl <;> rfl
      refine wpAny_bind (reRun_ hkk hrun (.inl ⟨hout, ?_⟩))
      dsimp only
      rw [hms, hmh]
      have cont : ∀ (h₁ : Heap) (tk₁ : Nat) (ps₁ : List (List Nat × Tok)) (ep₁ : Nat), KeepsBut [pl] h h₁ → h₁.get? pl = some (listOf (kvs kind ps₁).toArray ep₁) → ps₁.length ≤ ps.length + 1 → (ps₁.map (·.1.length)).sum ≤ (ps.map (·.1.length)).sum + (st - p) →
          (ps₁.map (·.1)).flatten = (ps.map (·.1)).flatten ++ (l.drop p).take (st - p) →
          wpAny (model prog w) A.in1 (do
            let item ← (pure (kv kind rl rt) : Sem Value)
            if (item != Value.none) = true then do
              updateSeq pl fun x => x.push item
              again (.builtin "re.Pattern.sub.loop" ⟨[.ref pa, kv kind l t, kv kind rl rt, rawInt 0, rawInt 0, rawInt ((n : Int) + 1), rawInt ((st + len st : Nat) : Int), rawInt ((st + len st : Nat) : Int), .bool (st + len st == st), .ref pl, .bool false], []⟩)
            else again (.builtin "re.Pattern.sub.loop" ⟨[.ref pa, kv kind l t, kv kind rl rt, rawInt 0, rawInt 0, rawInt ((n : Int) + 1), rawInt ((st + len st : Nat) : Int), rawInt ((st + len st : Nat) : Int), .bool (st + len st == st), .ref pl, .bool false], []⟩))
          (fun fin s' => match fin with
            | .done f => wants Q E (.ok f) s'
            | .again c' => c'.quiet = true ∧ codeAny (model prog w) A c' (wants Q E) s') (fun e s' => wants Q E (.error e) s') (sh s h₁ tk₁) := by
        intro h₁ tk₁ ps₁ ep₁ hkb hpl₁ hlen₁ hsum₁ hflat
        refine wpAny_bind (wpAny_pure ?_)
        rw [if_pos hne]
        refine wpAny_bind (pushL hpl₁ ?_ fun h₂ ep₂ hs₂ hpl₂ => wpAny_pure ⟨plainId_quiet re_plainId_loop _, ?_⟩)
        · show (kvs kind ps₁).length ≤ _
          rw [kvs, List.length_map]; first | lia | omega
        · rw [show (st + len st == st) = false by simp; first | lia | omega, show ((n : Int) + 1) = ((n + 1 : Nat) : Int) by first | lia | omega]
          have hkb₂ := hkb.trans (SameBut.kb hs₂)
          refine ih (l.length - (st + len st)) (by first | lia | omega) (st + len st) (n + 1) h₂ tk₁ (ps₁ ++ [(rl, rt)]) ep₂ rfl hw2 (P.keeps hkb₂ (fun q => h1 (List.mem_singleton.mp q)) (fun q => h2 (List.mem_singleton.mp q))) ?_ ?_ ?_ fun h' tk' t' hk'' => ?_
          · rw [hpl₂, kvs, kvs, List.map_append]; rfl
          · rw [List.length_append]; simp; first | lia | omega
          · rw [List.map_append, List.sum_append]; simp; first | lia | omega
          · have := hq h' tk' t' (hkb₂.trans hk'')
            rw [List.map_append, List.flatten_append, hflat, List.append_assoc, List.append_assoc]
            rw [F.run (st - p) p (by first | lia | omega) (fun q a b => hno q a (by first | lia | omega)), show p + (st - p) = st by first | lia | omega, F.put st hst hhit] at this
            simpa using this
      by_cases hlt : p < st
      · rw [if_pos (show (p : Int).toNat < st by first | lia | omega)]
        refine wpAny_bind (slice_ hk' (by first | lia | omega) fun t₁ k₁ => ?_)
        refine wpAny_bind (pushL hpl (by show (kvs kind ps).length ≤ _; rw [kvs, List.length_map]; first | lia | omega) fun h₂ ep₂ hs₂ hpl₂ => ?_)
        refine cont h₂ k₁ (ps ++ [((l.drop p).take (st - p), t₁)]) ep₂ (SameBut.kb hs₂) ?_ ?_ ?_ ?_
        · rw [hpl₂, kvs, kvs, List.map_append]; rfl
        · rw [List.length_append]; simp
        · rw [List.map_append, List.sum_append]; simp; first | lia | omega
        · simp
      · rw [if_neg (show ¬ (p : Int).toNat < st by first | lia | omega)]
        have : st = p := by first | lia | omega
        exact cont h tk ps ep (.refl _ _) hpl (by first | lia | omega) (by first | lia | omega) (by rw [this]; simp)
    · refine wpAny_bind (reRun_ hkk rfl (.inr ⟨hout, ?_⟩))
      dsimp only
      have cont : ∀ (X : Value → Sem PySem.Fin) (h₁ : Heap) (tk₁ : Nat) (ps₁ : List (List Nat × Tok)) (ep₁ : Nat), KeepsBut [pl] h h₁ → h₁.get? pl = some (listOf (kvs kind ps₁).toArray ep₁) → ps₁.length ≤ ps.length + 1 → (ps₁.map (·.1.length)).sum ≤ (ps.map (·.1.length)).sum + l.length →
          (ps₁.map (·.1)).flatten = (ps.map (·.1)).flatten ++ l.drop p →
          wpAny (model prog w) A.in1 (do
            let joiner ← reSlice l.toArray kind 0 0
            let __do_lift ← seqItems? (Value.ref pl)
            if (__do_lift.getD #[]).isEmpty = true then (do
              let text ← (pure joiner : Sem Value)
              if false = true then X text else ret text)
            else (do
              let text ← call (.builtin (if (kind == 0) = true then "str.join" else "bytes.join")) [joiner, .ref pl]
              if false = true then X text else ret text))
          (fun fin s' => match fin with
            | .done f => wants Q E (.ok f) s'
            | .again c' => c'.quiet = true ∧ codeAny (model prog w) A c' (wants Q E) s') (fun e s' => wants Q E (.error e) s') (sh s h₁ tk₁) := by
        intro X h₁ tk₁ ps₁ ep₁ hkb hpl₁ hlen₁ hsum₁ hflat
        have hsep : (l.drop 0).take (0 - 0) = [] := by simp
        have hres : out p = l.drop p := by
          rw [F.run (l.length - p) p (by first | lia | omega) (fun q a b => hno q a (by first | lia | omega)), show p + (l.length - p) = l.length by first | lia | omega, F.fin, List.append_nil, List.take_of_length_le (by simp)]
        rw [hres, ← hflat] at hq
        refine wpAny_bind (slice_ hk' (by first | lia | omega) fun t₁ k₁ => ?_)
        rw [hsep]
        refine wpAny_bind (wpAny_seqItems (s := sh s h₁ k₁) hpl₁ rfl ?_)
        dsimp only [Option.getD_some]
        cases ps₁ with
        | nil =>
          refine wpAny_bind (wpAny_pure (wpAny_pure ?_))
          exact hq h₁ k₁ t₁ hkb
        | cons a r =>
          refine wpAny_bind (m := call _ _) ?_
          have hb : (if (kind == 0) = true then "str.join" else "bytes.join") = (if kind = 0 then "str.join" else "bytes.join") := by rcases hk' with rfl | rfl <;> rfl
          rw [hb]
          refine joinK kind hk' hpl₁ (by rw [List.length_nil, Nat.zero_mul]; first | lia | omega) fun t' k' => wpAny_pure ?_
          have := hq h₁ k' t' hkb
          rw [joinL_nil_sep]
          exact this
      by_cases hlt : p < l.length
      · rw [if_pos (show (p : Int).toNat < l.length by first | lia | omega)]
        refine wpAny_bind (slice_ hk' (by first | lia | omega) fun t₁ k₁ => ?_)
        refine wpAny_bind (pushL hpl (by show (kvs kind ps).length ≤ _; rw [kvs, List.length_map]; first | lia | omega) fun h₂ ep₂ hs₂ hpl₂ => ?_)
        refine cont _ h₂ k₁ (ps ++ [((l.drop p).take (l.length - p), t₁)]) ep₂ (SameBut.kb hs₂) ?_ ?_ ?_ ?_
        · rw [hpl₂, kvs, kvs, List.map_append]; rfl
        · rw [List.length_append]; simp
        · rw [List.map_append, List.sum_append]
          simp only [List.map_cons, List.map_nil, List.sum_cons, List.sum_nil, List.length_take, List.length_drop]
          first | lia | omega
        · rw [List.map_append, List.flatten_append, List.map_cons, List.map_nil, List.flatten_cons, List.flatten_nil, List.append_nil, List.take_of_length_le (by simp)]
      · rw [if_neg (show ¬ (p : Int).toNat < l.length by first | lia | omega)]
        exact cont _ h tk ps ep (.refl _ _) hpl (by first | lia | omega) (by first | lia | omega) (by rw [List.drop_of_length_le (by first | lia | omega)]; simp)

theorem named_ (a b : Value) : reNamed "re.Pattern.sub" "sub" ["repl", "string", "count"] 2 [a, b] [] = pure [some a, some b, none] := by kernel_rfl

theorem subCall {h : Heap} {tk : Nat} {pa ct : Addr} {code : Array Nat} {kind : Nat} {l rl : List Nat} {t rt : Tok} {hit : Nat → Prop} {len : Nat → Nat} {out : Nat → List Nat} {Q : Value → Shared → Prop}
    (F : Finds code l rl hit len out) (hk : kind = 0 ∨ (kind = 1 ∧ ∀ x ∈ l, x < 256)) (hl : l.length ≤ 2 ^ 16) (hrl : rl.length ≤ 2) (h92 : ∀ x ∈ rl, x < 92) (P : Pat h pa ct code kind)
    (hq : ∀ h' tk t', Keeps h h' → Q (kv kind (out 0) t') (sh s h' tk)) :
    wpAny (model prog w) A (call (.builtin "re.Pattern.sub") [.ref pa, kv kind rl rt, kv kind l t]) Q E (sh s h tk) := by
  have hk' : kind = 0 ∨ kind = 1 := hk.imp id And.left
  obtain ⟨⟨v, f, ho⟩, items, hc, e⟩ := id P
  have hT : Shared.TypeIs (sh s h tk) (.ref pa) "re.Pattern" := ⟨_, ho, rfl⟩
  refine call_again re_slot hT re_entry ?_ (re_args _ _ _)
  unfold Builtin.«re.Pattern.sub» reSubstitute
  dsimp only
  refine wpAny_bind (wpAny_of_eq (named_ _ _) ?_)
  dsimp only
  refine wpAny_bind (wpAny_pure ?_)
  have hcall : ∀ (R : Option Value → Shared → Prop) (s' : Shared), R none s' → wpAny (model prog w) A.in1 (specialOf (kv kind rl rt) "__call__") R E s' := by
    intro R s' hR
    rcases hk' with rfl | rfl
    · exact wpAny_specialOf (T := "str") rfl str_nocall hR
    · exact wpAny_specialOf (T := "bytes") rfl bytes_nocall hR
  refine wpAny_bind (hcall _ _ ?_)
  have fin_ : ∀ (Y : Value × Int → Sem PySem.Fin), wpAny (model prog w) A.in1 (do
      let __x ← (pure (kv kind rl rt, (0 : Int)) : Sem (Value × Int))
      let _ ← holding [__x.fst] (reWholeTarget (Value.ref pa) (kv kind l t))
      if (__x.snd == 1) = true then Y __x
      else do
        let __do_lift ← newList []
        again (Code.builtin "re.Pattern.sub.loop" { pos := [Value.ref pa, kv kind l t, __x.fst, rawInt __x.snd, rawInt 0, rawInt 0, rawInt 0, rawInt 0, Value.bool false, __do_lift, Value.bool false] }))
      (fun fin s' => match fin with
        | .done f => wants Q E (.ok f) s'
        | .again c' => c'.quiet = true ∧ codeAny (model prog w) A c' (wants Q E) s') E (sh s h tk) := by
    intro Y
    refine wpAny_bind (wpAny_pure ?_)
    dsimp only
    refine wpAny_bind (wpAny_holding (target_ (s := sh s h tk) P hk ?_))
    rw [if_neg (by decide)]
    refine wpAny_bind (wpAny_newObj_type (s := sh s h tk) (wpAny_pure ⟨plainId_quiet re_plainId_loop _, ?_⟩))
    have hpl : (h.push { cls := .type "list", data := .seq ([] : List Value).toArray }).get? h.objs.size = some (listOf (kvs kind []).toArray 0) := Heap.get?_push_size _ rfl
    have kp : Keeps h (h.push { cls := .type "list", data := .seq ([] : List Value).toArray }) := fun a o e => Heap.get?_push_of_some _ e
    refine subLoop F hk hl hrl (Nat.ne_of_lt (Heap.lt_size ho)) (Nat.ne_of_lt (Heap.lt_size hc)) _ 0 0 _ _ [] 0 rfl (Nat.zero_le _) (P.keeps (hs := []) (fun a o _ e => kp a o e) (fun q => nomatch q) (fun q => nomatch q)) hpl (Nat.le_refl _) (Nat.le_refl _) fun h' tk' t' hkb => ?_
    refine hq h' tk' t' fun a o ea => hkb a o (fun q => ?_) (kp a o ea)
    rw [List.mem_singleton.mp q] at ea
    exact absurd (Heap.lt_size ea) (Nat.lt_irrefl _)
  rw [if_neg (by decide)]
  rcases hk' with rfl | rfl
  · refine wpAny_bind (m := asStr? (kv 0 rl rt)) (wpAny_pure ?_)
    dsimp only
    refine wpAny_bind (wpAny_pure ?_)
    rw [if_neg (by decide), if_pos (show (!(⟨rl.toArray⟩ : PySem.Str).cps.contains 92) = true by
        simp only [Bool.not_eq_true', ← Bool.not_eq_true]
        intro q
        have : 92 ∈ rl := by simpa using q
        exact absurd (h92 _ this) (by decide))]
    exact fin_ _
  · refine wpAny_bind (m := asStr? (kv 1 rl rt)) (wpAny_pure ?_)
    dsimp only
    refine wpAny_bind (wpAny_of_eq KBy.quiet_eq ?_)
    dsimp only
    refine wpAny_bind (wpAny_pure ?_)
    rw [if_neg (by decide), if_pos (show (!(rl.map Nat.toUInt8).toArray.contains 92) = true by
        simp only [Bool.not_eq_true', ← Bool.not_eq_true]
        intro q
        have q' : (92 : UInt8) ∈ rl.map Nat.toUInt8 := by simpa using q
        obtain ⟨x, hx, hxe⟩ := List.mem_map.mp q'
        have := h92 x hx
        have h2 := congrArg UInt8.toNat hxe
        simp [Nat.toUInt8, Nat.mod_eq_of_lt (show x < 256 by first | lia | omega)] at h2
        first | lia | omega)]
    exact fin_ _
end
end Mine
/- MQuote -/
namespace Mine
open PySem PySem.W PyProof.Rows PySem.Calls
open PySem.Builtin PySem.Builtin.Re
/-- a dot more ahead of a dot in first place or behind a feed -/
def qF (b : Bool) : List Nat → List Nat
  | [] => []
  | c :: r => if (b && c == 46) = true then 46 :: 46 :: qF false r else c :: qF (c == 10) r
/-- each line end made a return and a feed -/
def eF : List Nat → List Nat
  | [] => []
  | [c] => if c = 13 ∨ c = 10 then [13, 10] else [c]
  | c :: d :: r => if c = 13 ∧ d = 10 then 13 :: 10 :: eF r else if c = 13 ∨ c = 10 then 13 :: 10 :: eF (d :: r) else c :: eF (d :: r)
theorem eF_plain {c : Nat} (r : List Nat) (h1 : c ≠ 13) (h2 : c ≠ 10) : eF (c :: r) = c :: eF r := by
  cases r with
  | nil => simp [eF, h1, h2]
  | cons d r => simp [eF, h1, h2]
theorem eF_feed (r : List Nat) : eF (10 :: r) = 13 :: 10 :: eF r := by
  cases r with
  | nil => simp [eF]
  | cons d r => simp [eF]
theorem eF_both (r : List Nat) : eF (13 :: 10 :: r) = 13 :: 10 :: eF r := by simp [eF]
theorem eF_ret (r : List Nat) (h : r.head? ≠ some 10) : eF (13 :: r) = 13 :: 10 :: eF r := by
  cases r with
  | nil => simp [eF]
  | cons d r =>
    have : d ≠ 10 := fun e => h (by rw [e]; rfl)
    simp [eF, this]
theorem qF_len (l : List Nat) : ∀ b, (qF b l).length ≤ 2 * l.length := by
  induction l with
  | nil => intro b; simp [qF]
  | cons c r ih =>
    intro b
    unfold qF
    split
    · have := ih false; simp only [List.length_cons]; first | lia | omega
    · have := ih (c == 10); simp only [List.length_cons]; first | lia | omega
theorem eF_len (l : List Nat) : (eF l).length ≤ 2 * l.length := by
  have key : ∀ (n : Nat) (l : List Nat), l.length ≤ n → (eF l).length ≤ 2 * l.length := by
    intro n
    induction n with
    | zero => intro l hl; have := List.length_eq_zero_iff.mp (Nat.le_zero.mp hl); subst this; simp [eF]
    | succ n ih =>
      intro l hl
      match l, hl with
      | [], _ => simp [eF]
      | [c], _ => unfold eF; split <;> simp
      | c :: d :: r, hl =>
        have h1 := ih r (by simp at hl; first | lia | omega)
        have h2 := ih (d :: r) (by simp at hl ⊢; first | lia | omega)
        unfold eF
        simp only [List.length_cons] at h2 ⊢
        split
        · simp only [List.length_cons]; first | lia | omega
        · split
          · simp only [List.length_cons]; first | lia | omega
          · simp only [List.length_cons]; first | lia | omega
  exact key l.length l (Nat.le_refl _)

theorem getD_arr (l : List Nat) (q : Nat) : l.toArray.getD q 0 = l.getD q 0 := by simp [List.getD, Array.getD_eq_getD_getElem?]

theorem finds1 (l : List Nat) (hl : l.length ≤ 2 ^ 16) : Finds c1 l [46, 46] (hit1 l.toArray) (fun _ => 1) (fun p => qF (decide (p = 0 ∨ l.toArray.getD (p - 1) 0 = 10)) (l.drop p)) where
  search := by
    intro p hp
    by_cases hex : ∃ s, p ≤ s ∧ s < l.length ∧ hit1 l.toArray s
    · have hdec : DecidablePred fun s => p ≤ s ∧ s < l.length ∧ hit1 l.toArray s := fun s => by unfold hit1; infer_instance
      obtain ⟨s, ⟨h1, h2, h3⟩, hmin⟩ : ∃ s, (p ≤ s ∧ s < l.length ∧ hit1 l.toArray s) ∧ ∀ q, q < s → ¬ (p ≤ q ∧ q < l.length ∧ hit1 l.toArray q) := by
        obtain ⟨s0, hs0⟩ := hex
        induction s0 using Nat.strongRecOn with
        | ind s0 ih =>
          by_cases hq : ∃ q, q < s0 ∧ (p ≤ q ∧ q < l.length ∧ hit1 l.toArray q)
          · obtain ⟨q, hq1, hq2⟩ := hq
            exact ih q hq1 hq2
          · exact ⟨s0, hs0, fun q hq1 hq2 => hq ⟨q, hq1, hq2⟩⟩
      refine .inl ⟨s, h1, h2, h3, fun q a b c => hmin q b ⟨a, by first | lia | omega, c⟩, ?_⟩
      obtain ⟨k, m, hk, hr, hm⟩ := search1 l.toArray s (by simpa using h2) h3 (s - p) p true (({} : Sre.Seen).add 14) (by first | lia | omega) fun q a b c => hmin q b ⟨a, by first | lia | omega, c⟩
      refine ⟨k, m, by first | lia | omega, ?_, hm⟩
      rw [← hr]
      congr 1
      have := start1 l.toArray p (by simp; first | lia | omega)
      simpa using this
    · refine .inr ⟨fun q a b c => hex ⟨q, a, b, c⟩, ?_⟩
      by_cases hp' : p < l.length
      · obtain ⟨k, hk, hr⟩ := search1_none l.toArray (l.length - p) p true (({} : Sre.Seen).add 14) (by simp; first | lia | omega) fun q a b c => hex ⟨q, a, by simpa using b, c⟩
        refine ⟨k, by first | lia | omega, ?_⟩
        rw [← hr]
        have := start1 l.toArray p (by simp; first | lia | omega)
        simp only [List.size_toArray] at this
        rw [this]
      · refine ⟨2, by first | lia | omega, ?_⟩
        have := start1_none l.toArray p (by simp; first | lia | omega)
        simpa using this
  wide := fun s hs _ => ⟨Nat.le_refl _, hs⟩
  skip := by
    intro p hp h
    have e : l.toArray.getD p 0 = l[p] := by simp [hp]
    unfold hit1 at h
    rw [List.drop_eq_getElem_cons hp, qF, if_neg]
    · congr 2
      rw [show p + 1 - 1 = p by first | lia | omega, e, Bool.eq_iff_iff]
      simp
    · simp only [Bool.and_eq_true, decide_eq_true_eq, beq_iff_eq]
      rw [e] at h
      exact h
  put := by
    intro p hp h
    have e : l.toArray.getD p 0 = l[p] := by simp [hp]
    unfold hit1 at h
    rw [e] at h
    rw [List.drop_eq_getElem_cons hp, qF, if_pos]
    · show 46 :: 46 :: _ = 46 :: 46 :: _
      congr 3
      rw [show p + 1 - 1 = p by first | lia | omega, e, h.2]
      simp
    · simp only [Bool.and_eq_true, decide_eq_true_eq, beq_iff_eq]
      exact h
  fin := by simp [qF]

theorem finds3 (l : List Nat) : Finds c3 l [13, 10] (hit3 l.toArray) (len3 l.toArray) (fun p => eF (l.drop p)) where
  search := by
    intro p hp
    by_cases hex : ∃ s, p ≤ s ∧ s < l.length ∧ hit3 l.toArray s
    · obtain ⟨s, ⟨h1, h2, h3⟩, hmin⟩ : ∃ s, (p ≤ s ∧ s < l.length ∧ hit3 l.toArray s) ∧ ∀ q, q < s → ¬ (p ≤ q ∧ q < l.length ∧ hit3 l.toArray q) := by
        obtain ⟨s0, hs0⟩ := hex
        induction s0 using Nat.strongRecOn with
        | ind s0 ih =>
          by_cases hq : ∃ q, q < s0 ∧ (p ≤ q ∧ q < l.length ∧ hit3 l.toArray q)
          · obtain ⟨q, hq1, hq2⟩ := hq
            exact ih q hq1 hq2
          · exact ⟨s0, hs0, fun q hq1 hq2 => hq ⟨q, hq1, hq2⟩⟩
      refine .inl ⟨s, h1, h2, h3, fun q a b c => hmin q b ⟨a, by first | lia | omega, c⟩, ?_⟩
      obtain ⟨k, m, hk, hr, hm⟩ := search3 l.toArray p s h1 (by simpa using h2) h3 fun q a b c => hmin q b ⟨a, by first | lia | omega, c⟩
      simp only [List.size_toArray] at hr
      exact ⟨k, m, by first | lia | omega, hr, hm⟩
    · refine .inr ⟨fun q a b c => hex ⟨q, a, b, c⟩, ?_⟩
      obtain ⟨k, hk, hr⟩ := search3_none l.toArray p fun q a b c => hex ⟨q, a, by simpa using b, c⟩
      simp only [List.size_toArray] at hr
      exact ⟨k, by first | lia | omega, hr⟩
  wide := by
    intro s hs h
    unfold len3
    split
    · rename_i q
      simp only [List.size_toArray] at q
      first | lia | omega
    · first | lia | omega
  skip := by
    intro p hp h
    have e : l.toArray.getD p 0 = l[p] := by simp [hp]
    unfold hit3 at h
    rw [e] at h
    rw [List.drop_eq_getElem_cons hp, eF_plain _ (fun q => h (.inr q)) (fun q => h (.inl q))]
  put := by
    intro p hp h
    have e : l.toArray.getD p 0 = l[p] := by simp [hp]
    unfold hit3 at h
    unfold len3
    rw [e] at h ⊢
    rw [List.drop_eq_getElem_cons hp]
    by_cases h13 : l[p] = 13
    · by_cases hn : p + 1 < l.length ∧ l.toArray.getD (p + 1) 0 = 10
      · rw [if_pos ⟨h13, by simpa using hn.1, hn.2⟩]
        have e2 : l.toArray.getD (p + 1) 0 = l[p + 1]'hn.1 := by simp [hn.1]
        rw [h13, List.drop_eq_getElem_cons hn.1, ← e2, hn.2, eF_both]
        rfl
      · rw [if_neg (fun q => hn ⟨by simpa using q.2.1, q.2.2⟩), h13, eF_ret]
        · rfl
        · intro q
          rw [List.head?_drop] at q
          obtain ⟨a, b⟩ := List.getElem?_eq_some_iff.mp q
          exact hn ⟨a, by simp [a, b]⟩
    · have h10 : l[p] = 10 := h.resolve_right h13
      rw [if_neg (fun q => h13 q.1), h10, eF_feed]
      rfl
  fin := by simp [eF]
end Mine
/- MRepl -/
namespace Mine
open PySem
open PySem.Builtin PySem.Builtin.Str
def repL (y z : List Nat) : Nat → List Nat → List Nat
  | _, [] => []
  | k + 1, _ :: r => repL y z k r
  | 0, c :: r => if y.isPrefixOf (c :: r) = true then z ++ repL y z (y.length - 1) r else c :: repL y z 0 r
def cutsL (y : List Nat) : Nat → Nat → List Nat → List Nat
  | _, _, [] => []
  | i, k + 1, _ :: r => cutsL y (i + 1) k r
  | i, 0, c :: r => if y.isPrefixOf (c :: r) = true then i :: cutsL y (i + 1) (y.length - 1) r else cutsL y (i + 1) 0 r

theorem repL_one (c : Nat) (z : List Nat) (l : List Nat) : repL [c] z 0 l = l.flatMap fun d => if d = c then z else [d] := by
  induction l with
  | nil => rfl
  | cons d r ih =>
    rw [repL, List.flatMap_cons]
    by_cases h : d = c
    · subst h; rw [if_pos (by simp [List.isPrefixOf]), if_pos rfl, show [d].length - 1 = 0 by rfl, ih]
    · rw [if_neg (by simp [List.isPrefixOf]; exact fun e => h e.symm), if_neg h, ih]; rfl

theorem ends_pure (l : List Nat) : repL [10] [13, 10] 0 (repL [13] [10] 0 (repL [13, 10] [10] 0 l)) = eF l := by
  have key : ∀ (n : Nat) (l : List Nat), l.length ≤ n → repL [10] [13, 10] 0 (repL [13] [10] 0 (repL [13, 10] [10] 0 l)) = eF l := by
    intro n
    induction n with
    | zero => intro l hl; have := List.length_eq_zero_iff.mp (Nat.le_zero.mp hl); subst this; rfl
    | succ n ih =>
      intro l hl
      cases l with
      | nil => rfl
      | cons c r =>
        have hr : r.length ≤ n := by simpa using hl
        by_cases h13 : c = 13
        · subst h13
          cases r with
          | nil => rfl
          | cons d r =>
            by_cases hd : d = 10
            · subst hd
              have e : repL [13, 10] [10] 0 (13 :: 10 :: r) = 10 :: repL [13, 10] [10] 0 r := by rw [repL, if_pos (by simp [List.isPrefixOf])]; rfl
              rw [e, eF_both, ← ih r (by simp at hr; first | lia | omega)]
              simp only [repL_one, List.flatMap_cons]
              rfl
            · have e : repL [13, 10] [10] 0 (13 :: d :: r) = 13 :: repL [13, 10] [10] 0 (d :: r) := by rw [repL, if_neg (by simp [List.isPrefixOf]; exact fun q => hd q.symm)]
              rw [e, eF_ret _ (by simpa using hd), ← ih (d :: r) hr]
              simp only [repL_one, List.flatMap_cons]
              rfl
        · have e : repL [13, 10] [10] 0 (c :: r) = c :: repL [13, 10] [10] 0 r := by rw [repL, if_neg (by simp [List.isPrefixOf]; exact fun q => absurd q.symm h13)]
          by_cases h10 : c = 10
          · subst h10
            rw [e, eF_feed, ← ih r hr]
            simp only [repL_one, List.flatMap_cons]
            rfl
          · rw [e, eF_plain _ h13 h10, ← ih r hr]
            simp only [repL_one, List.flatMap_cons, if_neg h13, if_neg h10, List.flatMap_nil, List.append_nil, List.cons_append, List.nil_append]
  exact key l.length l (Nat.le_refl _)


theorem prefix_at (x y : List Nat) (i : Nat) : y.isPrefixOf (x.drop i) = ((x.drop i).take y.length == y) := by
  rw [Bool.eq_iff_iff, List.isPrefixOf_iff_prefix, beq_iff_eq, List.prefix_iff_eq_take]
  exact ⟨fun h => h.symm, fun h => h.symm⟩

theorem occ_cuts (x y : List Nat) (hy : 0 < y.length) : ∀ (n i : Nat) (found : Array Nat) (free : Nat), i + n = x.length + 1 → found.size ≤ i → 
    (forIn (List.range' i n) (found, free) (StrLaws.occBody ⟨x.toArray⟩ ⟨y.toArray⟩ x.length (x.length + 1))).run.fst.toList = found.toList ++ cutsL y i (free - i) (x.drop i)
  | 0, i, found, free, hi, _ => by
    rw [List.drop_of_length_le (by first | lia | omega)]
    simp [cutsL, Id.run]
    rfl
  | n + 1, i, found, free, hi, hf => by
    rw [List.range'_succ, List.forIn_cons]
    have hsub : subAt ⟨x.toArray⟩ ⟨y.toArray⟩ i = y.isPrefixOf (x.drop i) := by
      rw [StrLaws.subAt_eq, prefix_at]; simp [Str.length]
    have hly : (⟨y.toArray⟩ : Str).length = y.length := by simp [Str.length]
    by_cases hlt : i < x.length
    · rw [List.drop_eq_getElem_cons hlt] at hsub ⊢
      by_cases hfree : free ≤ i
      · rw [show free - i = 0 by first | lia | omega, cutsL]
        by_cases hp : y.isPrefixOf (x[i] :: x.drop (i + 1)) = true
        · rw [if_pos hp]
          have hle : i + y.length ≤ x.length := by
            have := List.IsPrefix.length_le (List.isPrefixOf_iff_prefix.mp hp)
            simp at this; first | lia | omega
          have hb : StrLaws.occBody ⟨x.toArray⟩ ⟨y.toArray⟩ x.length (x.length + 1) i (found, free) = pure (ForInStep.yield (found.push i, i + y.length)) := by
            unfold StrLaws.occBody
            rw [hly, if_pos ⟨⟨⟨by show found.size < _; first | lia | omega, hfree⟩, hle⟩, by rw [hsub]; exact hp⟩]
          rw [hb]
          have := occ_cuts x y hy n (i + 1) (found.push i) (i + y.length) (by first | lia | omega) (by rw [Array.size_push]; first | lia | omega)
          rw [show i + y.length - (i + 1) = y.length - 1 by first | lia | omega] at this
          refine Eq.trans this ?_
          simp
        · rw [if_neg hp]
          have hb : StrLaws.occBody ⟨x.toArray⟩ ⟨y.toArray⟩ x.length (x.length + 1) i (found, free) = pure (ForInStep.yield (found, free)) := by
            unfold StrLaws.occBody
            rw [if_neg (fun q => hp (by rw [← hsub]; exact q.2))]
          rw [hb]
          have := occ_cuts x y hy n (i + 1) found free (by first | lia | omega) (by first | lia | omega)
          rw [show free - (i + 1) = 0 by first | lia | omega] at this
          exact this
      · rw [show free - i = (free - (i + 1)) + 1 by first | lia | omega, cutsL]
        have hb : StrLaws.occBody ⟨x.toArray⟩ ⟨y.toArray⟩ x.length (x.length + 1) i (found, free) = pure (ForInStep.yield (found, free)) := by
          unfold StrLaws.occBody
          rw [if_neg (fun q => hfree q.1.1.2)]
        rw [hb]
        exact occ_cuts x y hy n (i + 1) found free (by first | lia | omega) (by first | lia | omega)
    · have hb : StrLaws.occBody ⟨x.toArray⟩ ⟨y.toArray⟩ x.length (x.length + 1) i (found, free) = pure (ForInStep.yield (found, free)) := by
        unfold StrLaws.occBody
        rw [hly, if_neg (fun q => by have := q.1.2; first | lia | omega)]
      rw [hb]
      have := occ_cuts x y hy n (i + 1) found free (by first | lia | omega) (by first | lia | omega)
      refine Eq.trans this ?_
      rw [List.drop_of_length_le (by first | lia | omega), List.drop_of_length_le (by first | lia | omega)]
      simp [cutsL]

theorem join_cons (z p : Str) (ps : List Str) (h : ps ≠ []) : (Str.join z (p :: ps)).cps.toList = p.cps.toList ++ z.cps.toList ++ (Str.join z ps).cps.toList := by
  cases ps with
  | nil => exact absurd rfl h
  | cons q r =>
    show (p ++ z ++ Str.join z (q :: r)).cps.toList = _
    rw [Str.cps_append, Str.cps_append]
    simp

theorem parts_rep (x y z : List Nat) (hy : 0 < y.length) : ∀ (n i a : Nat), i + n = x.length → a ≤ x.length →
    (Str.join ⟨z.toArray⟩ (((a :: (cutsL y i (a - i) (x.drop i)).map (· + y.length)).zip (cutsL y i (a - i) (x.drop i) ++ [x.length])).map fun p => strSub ⟨x.toArray⟩ p.1 p.2)).cps.toList =
      (x.drop a).take (i - a) ++ repL y z (a - i) (x.drop i)
  | 0, i, a, hi, ha => by
    rw [List.drop_of_length_le (show x.length ≤ i by first | lia | omega)]
    simp only [cutsL, List.map_nil, List.nil_append, List.zip_cons_cons, List.zip_nil_left, List.map_cons, repL, List.append_nil]
    show (strSub ⟨x.toArray⟩ a x.length).cps.toList = _
    rw [StrLaws.strSub_toList, show x.length = i by first | lia | omega]
  | n + 1, i, a, hi, ha => by
    have hlt : i < x.length := by first | lia | omega
    rw [List.drop_eq_getElem_cons hlt]
    by_cases hai : a ≤ i
    · rw [show a - i = 0 by first | lia | omega, cutsL, repL]
      by_cases hp : y.isPrefixOf (x[i] :: x.drop (i + 1)) = true
      · rw [if_pos hp, if_pos hp]
        have hle : i + y.length ≤ x.length := by
          have := List.IsPrefix.length_le (List.isPrefixOf_iff_prefix.mp hp)
          simp at this; first | lia | omega
        have ih := parts_rep x y z hy n (i + 1) (i + y.length) (by first | lia | omega) hle
        rw [show i + y.length - (i + 1) = y.length - 1 by first | lia | omega] at ih
        rw [List.map_cons, List.cons_append, List.zip_cons_cons, List.map_cons, join_cons _ _ _ (by simp), ih, StrLaws.strSub_toList, show i + 1 - (i + y.length) = 0 by first | lia | omega]
        simp
      · rw [if_neg hp, if_neg hp]
        have ih := parts_rep x y z hy n (i + 1) a (by first | lia | omega) ha
        rw [show a - (i + 1) = 0 by first | lia | omega] at ih
        rw [ih, show i + 1 - a = (i - a) + 1 by first | lia | omega]
        have : (x.drop a).take (i - a + 1) = (x.drop a).take (i - a) ++ [x[i]] := by
          rw [List.take_succ_eq_append_getElem (by simp; first | lia | omega)]
          simp only [List.getElem_drop, show a + (i - a) = i by first | lia | omega]
        rw [this]; simp
    · rw [show a - i = (a - (i + 1)) + 1 by first | lia | omega, cutsL, repL]
      have ih := parts_rep x y z hy n (i + 1) a (by first | lia | omega) ha
      rw [ih, show i + 1 - a = 0 by first | lia | omega, show i - a = 0 by first | lia | omega]

theorem replace_rep (x y z : List Nat) (hy : 0 < y.length) : Txt.replace ⟨x.toArray⟩ ⟨y.toArray⟩ ⟨z.toArray⟩ = ⟨(repL y z 0 x).toArray⟩ := by
  have hlx : (⟨x.toArray⟩ : Str).length = x.length := by simp [Str.length]
  have hly : (⟨y.toArray⟩ : Str).length = y.length := by simp [Str.length]
  have hocc : occurrences ⟨x.toArray⟩ ⟨y.toArray⟩ 0 x.length (x.length + 1) = cutsL y 0 0 x := by
    rw [StrLaws.occ_eq]
    have := occ_cuts x y hy (x.length + 1) 0 #[] 0 (by first | lia | omega) (Nat.le_refl _)
    simpa using this
  have hp := parts_rep x y z hy x.length 0 0 (by first | lia | omega) (by first | lia | omega)
  simp only [Nat.sub_self, List.drop_zero, List.take_zero, List.nil_append] at hp
  apply Str.ext'
  apply Array.toList_inj.mp
  unfold Txt.replace
  have hy0 : (y.length == 0) = false := by
    cases h : (y.length == 0) with
    | false => rfl
    | true => have := of_decide_eq_true (p := y.length = 0) (by simpa using h); first | lia | omega
  rw [hlx, hly, hocc, hy0, Bool.false_and, Bool.or_false]
  by_cases he : (cutsL y 0 0 x).isEmpty = true
  · rw [if_pos he]
    rw [List.isEmpty_iff.mp he] at hp
    simp only [List.map_nil, List.nil_append, List.zip_cons_cons, List.zip_nil_left, List.map_cons] at hp
    rw [← hp]
    show x = (strSub ⟨x.toArray⟩ 0 x.length).cps.toList
    rw [StrLaws.strSub_toList]; simp
  · rw [if_neg he, StrLaws.glued_eq_join, partsBetween, hlx]
    exact hp
end Mine
/- MQuote2 -/
namespace Mine
open PySem PySem.W PyProof.Rows PySem.Calls
theorem pat1 {w : World} {h : Heap} (B : Ba w h) : Pat h 36 35 c1 0 := ⟨⟨_, _, B.X 36 _ (by k_is)⟩, _, B.X 35 _ (by k_is), by decide +kernel⟩
theorem pat2 {w : World} {h : Heap} (B : Ba w h) : Pat h 41 40 c1 1 := ⟨⟨_, _, B.X 41 _ (by k_is)⟩, _, B.X 40 _ (by k_is), by decide +kernel⟩
theorem pat3 {w : World} {h : Heap} (B : Ba w h) : Pat h 46 45 c3 0 := ⟨⟨_, _, B.X 46 _ (by k_is)⟩, _, B.X 45 _ (by k_is), by decide +kernel⟩

theorem methSub {prog : Program} {w : World} {A : Around} {E : Value → Shared → Prop} {s : Shared} {pa ct : Addr} {code : Array Nat} {kind : Nat} {pos : Pos} {args : List (Bool × Sem Value)} {Q : Value → Shared → Prop} (P : Pat s.heap pa ct code kind)
    (h : wpAny (model prog w) A (callWith pos (.builtin "re.Pattern.sub") [.ref pa] args []) Q E s) : MethodOnS prog w A E "sub" (.ref pa) pos args Q s := by
  obtain ⟨⟨v, f, ho⟩, _⟩ := P
  exact ⟨"re.Pattern", "re.Pattern.sub", re_plain, re_slot, re_type, ⟨_, ho, rfl⟩, fun a e => by cases e; exact ⟨_, ho, rfl⟩, h⟩

theorem quote_periods {w : World} {A : Around} {s : Shared} {b h : Heap} {tk : Nat} {Q E : Value → Shared → Prop} {l : List Nat} {t : Tok}
  (B : Ba w b) (hb : Keeps b h) (hroom : A.depth < recursionLimit) (hl : l.length ≤ 2 ^ 16) (h256 : ∀ x ∈ l, x < 256)
  (hQ : ∀ h' tk t', Keeps h h' → Q (kv 1 (qF true l) t') (sh s h' tk)) :
  wpAny (model PySem.Challenge.rw_mr0271_01.row.prog w) A (call (.ref 60) [kv 1 l t] []) Q E (sh s h tk) := by
  refine enter B hb [] (fun p hp => nomatch hp) (by k_is) (by k_is) hroom (binds := [("bindata", kv 1 l t)]) (BindsTo.of_eq rfl) (locs rfl) (by decide) (by walk_at "al") ?_
  intro g L h₁ tk S B hL hg1 hg2 hg3
  have kh : ∀ {h' al ns}, St g L h' al ns → Keeps h h' := fun S' x o e => S'.keep x o (hg1 x o (fun q => nomatch q) e)
  refine exN (wpAny_Return_some (Call_method2 rfl rfl rfl (nameK B S (by k_is) (methSub (s := sh s h₁ tk) (pat2 (B.keeps S.keep)) (callWith_builtin rfl (evalArgs_plain (spliced_cons (cBytes (spliced_cons (nameL S rfl (spliced_nil ?_)))))))))))
  refine subCall (rl := [46, 46]) (finds1 l hl) (.inr ⟨rfl, h256⟩) hl (by decide) (by decide) (pat2 (B.keeps S.keep)) fun h' tk' t' hk => ?_
  exact hQ h' tk' t' ((kh S).trans hk)

theorem quotedata {w : World} {A : Around} {s : Shared} {b h : Heap} {tk : Nat} {Q E : Value → Shared → Prop} {l : List Nat} {t : Tok}
  (B : Ba w b) (hb : Keeps b h) (hroom : A.depth < recursionLimit) (hl : l.length ≤ 2 ^ 15)
  (hQ : ∀ h' tk t', Keeps h h' → Q (kv 0 (qF true (eF l)) t') (sh s h' tk)) :
  wpAny (model PySem.Challenge.rw_mr0271_01.row.prog w) A (call (.ref 53) [kv 0 l t] []) Q E (sh s h tk) := by
  have hel := eF_len l
  refine enter B hb [] (fun p hp => nomatch hp) (by k_is) (by k_is) hroom (binds := [("data", kv 0 l t)]) (BindsTo.of_eq rfl) (locs rfl) (by decide) (by walk_at "al") ?_
  intro g L h₁ tk S B hL hg1 hg2 hg3
  have kh : ∀ {h' al ns}, St g L h' al ns → Keeps h h' := fun S' x o e => S'.keep x o (hg1 x o (fun q => nomatch q) e)
  refine exN (wpAny_Return_some (Call_method2 rfl rfl rfl (nameK B S (by k_is) (methSub (s := sh s h₁ tk) (pat1 (B.keeps S.keep)) (callWith_builtin rfl (evalArgs_plain (spliced_cons (cStr (spliced_cons (Call_method2 rfl rfl rfl (nameK B S (by k_is) (methSub (s := sh s h₁ (tk + 1)) (pat3 (B.keeps S.keep)) (callWith_builtin rfl (evalArgs_plain (spliced_cons (nameK B S (by k_is) (spliced_cons (nameL S rfl (spliced_nil ?_)))))))))))))))))))
  refine subCall (rl := [13, 10]) (l := l) (finds3 l) (.inl rfl) (by first | lia | omega) (by decide) (by decide) (pat3 (B.keeps S.keep)) fun h' tk' t' hk => ?_
  have S' := S.grow hk
  refine spliced_nil ?_
  refine subCall (rl := [46, 46]) (finds1 (eF l) (by first | lia | omega)) (.inl rfl) (by first | lia | omega) (by decide) (by decide) (pat1 (B.keeps S'.keep)) fun h' tk' t' hk => ?_
  exact hQ h' tk' t' ((kh S').trans hk)
end Mine
/- MEnds -/
namespace Mine
open PySem PySem.W PyProof.Rows PySem.Calls
section
variable {prog : Program} {w : World} {A : Around} {s : Shared} {b h : Heap} {tk : Nat}
  {Q E : Value → Shared → Prop} {name qual : Str} {params : Arguments} {body : List Stmt} {scope : Scope} {dV kV doc pm cdv ct oc : Value} {an od : Option Addr} {osl : Array (Option Value)} {f : Addr} {args : List Value} {kw : List (Str × Value)} {binds : List (Str × Value)}

/-- as `enter`, the count told -/
theorem enterT (B : Ba w b) (hb : Keeps b h) (hide : List (Addr × Obj)) (N : ∀ p ∈ hide, h.get? p.1 = some p.2 ∧ b.get? p.1 = none)
    (ho : (hd.heap_39 w.params).lookup f = some ⟨oc, od, .func (fnOf name qual params body scope dV kV doc pm an cdv ct), osl⟩) (hcd : codeIn (hd.heap_39 w.params) cdv qual = true) (hroom : A.depth < recursionLimit)
    (hbind : BindsTo (sh s h tk) (fnOf name qual params body scope dV kV doc pm an cdv ct) ⟨args, kw⟩ binds) (hloc : ∀ y ∈ binds, scope.names.lookup y.1 = some .local)
    (hcell : ∀ x ∈ scope.names, x.2 ≠ .cell)
    (hnd : ∀ p ∈ binds, binds.reverse.lookup p.1 = some p.2)
    (hw : ∀ g L' h₁, St g L' h₁ binds hide → Ba w g → L' = h.objs.size → KeepsBut (hide.map (·.1)) h g → (∀ a ∈ hide.map (·.1), g.get? a = none) → Keeps g h →
      wpAny (model prog w) (A.deeper (envX qual scope L' f cdv [])) (execs body (envX qual scope L' f cdv []))
        (fun fl s' => Q (match fl with | .ret v => v | _ => .none) s') (fun _ _ => False) (sh s h₁ (tk + binds.length)))
    (hco : scope.isCoroutine = false := by rfl) (hgen : scope.isGenerator = false := by rfl) (hk : scope.kind = .function := by rfl) :
    wpAny (model prog w) A (call (.ref f) args kw) Q E (sh s h tk) := by
  have Bs := B.keeps hb
  obtain ⟨Xs, _, _, _, _, Ts⟩ := Bs
  refine wpAny_call (codeAny_call_def (fd := fnOf name qual params body scope dV kV doc pm an cdv ct) (body := body) (binds := binds) hroom (Xs _ _ ho) rfl Ts.nolimit (codeRec_of Xs hcd) rfl hbind hcell hloc (fun h₁ hns hk₁ => ?_) hco hgen hk)
  have nm : ∀ a o, b.get? a = some o → a ∉ hide.map (·.1) := fun a o e q => by
    obtain ⟨q', hq, rfl⟩ := List.mem_map.mp q
    rw [(N q' hq).2] at e; cases e
  have st : Keeps b (hideAll h (hide.map (·.1))) := fun a o e => hideAll_get _ (hb a o e) (nm a o e)
  refine wpAny_mono (hw (hideAll h (hide.map (·.1))) h.objs.size h₁ ⟨⟨_, ⟨hns, fun a o e => hk₁ a o (of_hideAll _ e), Nat.le_of_eq (hideAll_size _ _)⟩, fun x v e => hnd (x, v) (mem_of_lookup e)⟩,
    fun q hq => ⟨hk₁ _ _ (N q hq).1, Nat.ne_of_lt (Heap.lt_size (N q hq).1), hideAll_none _ (List.mem_map_of_mem hq)⟩⟩ (B.keeps st) rfl (fun a o n e => hideAll_get _ e n) (fun a ha => hideAll_none _ ha) (fun a o e => of_hideAll _ e)) (fun fl s' hl => hl) fun _ _ y => y.elim
end

theorem repL_len (y z : List Nat) (hz : z.length ≤ 2) : ∀ (l : List Nat) (k : Nat), (repL y z k l).length ≤ 2 * l.length
  | [], k => by simp [repL]
  | x :: r, k => by
    cases k with
    | zero =>
      rw [repL]
      split
      · have := repL_len y z hz r (y.length - 1); simp only [List.length_append, List.length_cons]; first | lia | omega
      · have := repL_len y z hz r 0; simp only [List.length_cons]; first | lia | omega
    | succ k => rw [repL]; have := repL_len y z hz r k; simp only [List.length_cons]; first | lia | omega

theorem methRep {prog : Program} {w : World} {A : Around} {E : Value → Shared → Prop} {s : Shared} {h : Heap} {tk : Nat} {env : Env} {l y z : List Nat} {t : Tok} {k k' : Nat} {p p' pos : Pos} {Q : Value → Shared → Prop}
    (hy : 0 < y.length) (hz : z.length ≤ 2) (hyz : ((⟨y.toArray⟩ : Str) == ⟨z.toArray⟩) = false) (hl : l.length ≤ 2 ^ 20) (ht : 1 ≤ tk)
    (hq : ∀ t' tk', Q (kv 0 (repL y z 0 l) t') (sh s h tk')) :
    MethodOnS prog w A E "replace" (kv 0 l t) pos [(false, eval (.Constant (.str ⟨y.toArray⟩) k p) env), (false, eval (.Constant (.str ⟨z.toArray⟩) k' p') env)] Q (sh s h tk) := by
  refine ⟨"str", "str.replace", F.plainAttrs_str, F.slot_str_replace, F.type_str_replace, typeIs_str _ _ _, (fun a (e : Value.str _ _ = .ref a) => by cases e), ?_⟩
  refine callWith_builtin rfl (evalArgs_plain (spliced_cons (cStr (spliced_cons (cStr (spliced_nil ?_))))))
  have hlx : (⟨l.toArray⟩ : Str).length = l.length := by simp [Str.length]
  have hlz : (⟨z.toArray⟩ : Str).length = z.length := by simp [Str.length]
  refine SC.replace (x := ⟨l.toArray⟩) (t := t) (s := sh s h (tk + 1 + 1)) (Nat.ne_of_gt ht) (Nat.succ_ne_zero _) (Nat.ne_of_lt (Nat.lt_succ_self _)) hyz ?_ fun t' k => ?_
  · rw [hlx, hlz]
    have : (l.length + 1) * z.length ≤ (l.length + 1) * 2 := Nat.mul_le_mul_left _ hz
    first | lia | omega
  · rw [replace_rep l y z hy]; exact hq t' k

theorem law_ends {w : World} {A : Around} {s : Shared} {b h : Heap} {tk : Nat} {Q E : Value → Shared → Prop} {l : List Nat} {t : Tok}
  (B : Ba w b) (hb : Keeps b h) (hroom : A.depth < recursionLimit) (hl : l.length ≤ 2 ^ 15)
  (hQ : ∀ h' tk t', Keeps h h' → Q (kv 0 (eF l) t') (sh s h' tk)) :
  wpAny (model PySem.Challenge.rw_mr0271_01.row.prog w) A (call (.ref 147) [kv 0 l t] []) Q E (sh s h tk) := by
  refine enterT B hb [] (fun p hp => nomatch hp) (by k_is) (by k_is) hroom (binds := [("text", kv 0 l t)]) (BindsTo.of_eq rfl) (locs rfl) (by decide) (by walk_at "al") ?_
  intro g L h₁ S B hL hg1 hg2 hg3
  have kh : ∀ {h' al ns}, St g L h' al ns → Keeps h h' := fun S' x o e => S'.keep x o (hg1 x o (fun q => nomatch q) e)
  have n1 := repL_len [13, 10] [10] (by decide) l 0
  have n2 := repL_len [13] [10] (by decide) (repL [13, 10] [10] 0 l) 0
  refine exN (wpAny_Return_some (Call_method2 rfl rfl rfl ?_))
  refine wpAny_with_toks (n := 1) (Nat.le_add_left 1 tk) (Call_method2 rfl rfl rfl ?_)
  refine wpAny_with_toks (n := 1) (Nat.le_add_left 1 tk) (Call_method2 rfl rfl rfl (nameL S rfl ?_))
  refine methRep (y := [13, 10]) (z := [10]) (by decide) (by decide) (by decide) (by first | lia | omega) (Nat.le_add_left 1 tk) fun t1 k1 hk1 => ?_
  refine methRep (y := [13]) (z := [10]) (by decide) (by decide) (by decide) (by first | lia | omega) hk1 fun t2 k2 hk2 => ?_
  refine methRep (y := [10]) (z := [13, 10]) (by decide) (by decide) (by decide) (by first | lia | omega) hk2 fun t3 k3 => ?_
  rw [ends_pure]
  exact hQ _ _ _ (kh S)
end Mine
/- MBase3 -/
namespace Mine
open PySem PySem.W PyProof.Rows PySem.Calls
section
variable {prog : Program} {w : World} {A : Around} {E : Value → Shared → Prop} {s : Shared} {b h : Heap} {tk : Nat} {L : Addr} {env : Env} {al : List (Str × Value)} {news news' : List (Addr × Obj)}

/-- a list display -/
theorem listE {elts : List Expr} {pos : Pos} {Q : Value → Shared → Prop}
    (hv : wpAny (model prog w) A (spliced (elts.map fun e => (false, eval e env))) (fun vs s₁ => ∃ h' tk', s₁ = sh s h' tk' ∧ vs.length ≤ sizeLine ∧ Q (.ref h'.objs.size) (sh s (h'.push (listOf vs.toArray 0)) tk')) E (sh s h tk))
    (hs : backTo pos (starEach elts env) = elts.map fun e => (false, eval e env) := by rfl) : wpAny (model prog w) A (eval (.List elts pos) env) Q E (sh s h tk) := by
  refine wpAny_List_spliced ?_
  rw [hs]
  refine wpAny_mono hv (fun vs s₁ h₁ => ?_) fun _ _ x => x
  obtain ⟨h', tk', rfl, hl, hq⟩ := h₁
  exact ⟨hl, hq⟩

/-- x.append(e) -/
theorem appM {l : Addr} {its : Array Value} {ep : Nat} {pos : Pos} {ex : Sem Value} {Q : Value → Shared → Prop} (hl : h.get? l = some (listOf its ep))
    (he : wpAny (model prog w) A ex (fun x s₁ => ∃ al' news₁ news' h₁ tk₁ ep', s₁ = sh s h₁ tk₁ ∧ St b L h₁ al' news₁ ∧ Upd l (listOf its ep') (listOf (its.push x) (ep' + 1)) news₁ news' ∧ its.size ≤ sizeLine ∧ ∀ h', St b L h' al' news' → Q .none (sh s h' tk₁)) E (sh s h tk)) :
    MethodOnS prog w A E "append" (.ref l) pos [(false, ex)] Q (sh s h tk) := by
  refine ⟨"list", "list.append", F.plainAttrs_list, F.slot_list_append, F.type_list_append, ⟨_, hl, rfl⟩, (fun a e => by cases e; exact ⟨_, hl, rfl⟩), ?_⟩
  refine callWith_builtin rfl (evalArgs_plain (spliced_cons (wpAny_mono he (fun x s₁ h₁ => ?_) fun _ _ x => x)))
  obtain ⟨al', news₁, news', h₁, tk₁, ep', rfl, S, U, hsz, hq⟩ := h₁
  refine spliced_nil ?_
  obtain ⟨⟨m, F, hm⟩, N⟩ := S
  exact append_K (s := sh s h₁ tk₁) F N U (fun h' F' N' => hq h' ⟨⟨m, F', hm⟩, N'⟩) hsz
end

theorem intsAre_snoc {vs : List Value} {ns : List Int} (h : IntsAre vs ns) (n : Int) (t : Tok) : IntsAre (vs ++ [.int n t]) (ns ++ [n]) := by
  induction h with
  | nil => exact .cons n t .nil
  | cons m u _ ih => exact .cons m u ih

theorem byteArr_kv (l : List Nat) (t : Tok) : Value.bytes (byteArr (l.map Int.ofNat)) t = kv 1 l t := by
  show Value.bytes _ t = Value.bytes _ t
  congr 1
  simp only [byteArr, List.map_map]
  congr 1
end Mine
/- MOct -/
namespace Mine
open PySem PySem.W PyProof.Rows PySem.Calls
theorem tab8 (c : Int) (h0 : 0 ≤ c) (h1 : c < 256) (t0 t1 t2 t3 t4 t5 t6 t7 : Tok) : ∀ k : Nat, k < 8 → ∃ (v : Nat) (t : Tok), (#[.int 45 t0, .int 46 t1, .int 10 t2, .int 13 t3, .int 47 t4, .int 46 t5, .int 10 t6, .int c t7] : Array Value)[k]? = some (.int (Int.ofNat v) t) ∧ v < 256
  | 0, _ => ⟨45, t0, rfl, by decide⟩
  | 1, _ => ⟨46, t1, rfl, by decide⟩
  | 2, _ => ⟨10, t2, rfl, by decide⟩
  | 3, _ => ⟨13, t3, rfl, by decide⟩
  | 4, _ => ⟨47, t4, rfl, by decide⟩
  | 5, _ => ⟨46, t5, rfl, by decide⟩
  | 6, _ => ⟨10, t6, rfl, by decide⟩
  | 7, _ => ⟨c.toNat, t7, by rw [show (Int.ofNat c.toNat) = c from Int.toNat_of_nonneg h0]; rfl, by first | lia | omega⟩
  | k + 8, h => absurd h (by first | lia | omega)

theorem law_octets {w : World} {A : Around} {s : Shared} {b h : Heap} {tk : Nat} {Q E : Value → Shared → Prop} {n : Int} {t : Tok}
  (B : Ba w b) (hb : Keeps b h) (hroom : A.depth < recursionLimit) (hh : A.handled = none)
  (hQ : ∀ l h' tk t', l.length ≤ 3 → (∀ x ∈ l, x < 256) → Keeps h h' → Q (kv 1 l t') (sh s h' tk)) :
  wpAny (model PySem.Challenge.rw_mr0271_01.row.prog w) A (call (.ref 135) [.int n t] []) Q E (sh s h tk) := by
  refine enter B hb [] (fun p hp => nomatch hp) (by k_is) (by k_is) hroom (binds := [("number", .int n t)]) (BindsTo.of_eq rfl) (locs rfl) (by decide) (by walk_at "al") ?_
  intro g L h₁ tk S B hL hg1 hg2 hg3
  have kh : ∀ {h' al ns}, St g L h' al ns → Keeps h h' := fun S' x o e => S'.keep x o (hg1 x o (fun q => nomatch q) e)
  have c0 : 0 ≤ (n.fdiv 512).fmod 256 := Int.fmod_nonneg_of_pos _ (by decide)
  have c1 : (n.fdiv 512).fmod 256 < 256 := Int.fmod_lt_of_pos _ (by decide)
  have d0 : 0 ≤ n.fmod 512 := Int.fmod_nonneg_of_pos _ (by decide)
  have d1 : n.fmod 512 < 512 := Int.fmod_lt_of_pos _ (by decide)
  refine exN ?_
  refine wpAny_Assign_Name ?_
  refine listE ?_
  simp only [List.map_cons, List.map_nil]
  refine spliced_cons (cInt ?_)
  refine spliced_cons (cInt ?_)
  refine spliced_cons (cInt ?_)
  refine spliced_cons (cInt ?_)
  refine spliced_cons (cInt ?_)
  refine spliced_cons (cInt ?_)
  refine spliced_cons (cInt ?_)
  refine spliced_cons (wpAny_BinOp (wpAny_BinOp (nameL S rfl (cInt (fdivI (by decide) ?_)))))
  refine cInt (modI (by decide) ?_)
  refine spliced_nil ⟨_, _, rfl, by rw [sizeLine_eq]; exact (by decide : (8 : Nat) ≤ 16777216), ?_⟩
  have S := S.push (listOf #[.int 45 tk, .int 46 (tk + 1), .int 10 (tk + 1 + 1), .int 13 (tk + 1 + 1 + 1), .int 47 (tk + 1 + 1 + 1 + 1), .int 46 (tk + 1 + 1 + 1 + 1 + 1), .int 10 (tk + 1 + 1 + 1 + 1 + 1 + 1), .int ((n.fdiv 512).fmod 256) (tk + 1 + 1 + 1 + 1 + 1 + 1 + 1 + 1 + 1 + 1)] 0)
  have tb := tab8 _ c0 c1 tk (tk + 1) (tk + 1 + 1) (tk + 1 + 1 + 1) (tk + 1 + 1 + 1 + 1) (tk + 1 + 1 + 1 + 1 + 1) (tk + 1 + 1 + 1 + 1 + 1 + 1) (tk + 1 + 1 + 1 + 1 + 1 + 1 + 1 + 1 + 1 + 1)
  refine storeL S fun h' tk' S => ?_
  generalize (#[Value.int 45 tk, .int 46 (tk + 1), .int 10 (tk + 1 + 1), .int 13 (tk + 1 + 1 + 1), .int 47 (tk + 1 + 1 + 1 + 1), .int 46 (tk + 1 + 1 + 1 + 1 + 1), .int 10 (tk + 1 + 1 + 1 + 1 + 1 + 1), .int ((n.fdiv 512).fmod 256) (tk + 1 + 1 + 1 + 1 + 1 + 1 + 1 + 1 + 1 + 1)] : Array Value) = tab at S tb
  refine exN (wpAny_Assign_Name (wpAny_BinOp (nameL S rfl (cInt (modI (by decide) (storeL S fun h' tk' S => ?_))))))
  refine exN (wpAny_Assign_Name (listE (spliced_nil ⟨_, _, rfl, by rw [sizeLine_eq]; decide, ?_⟩)))
  have hlt := S.below _ (.head _)
  have S := S.push (listOf #[] 0)
  refine storeL S fun h2 tk' S => ?_
  generalize h'.objs.size = lo at *
  generalize h₁.objs.size = lt at *
  replace hlt : lt < lo := hlt
  refine exN (while_ (fun k hp => ∃ (left : Int) (its : List Value) (l : List Nat) (tt : Tok) (ep : Nat), St g L hp [("left", .int left tt), ("octets", .ref lo), ("table", .ref lt)] [(lo, listOf its.toArray ep), (lt, listOf tab 0)] ∧ 0 ≤ left ∧ left < 8 ^ k ∧ IntsAre its (l.map Int.ofNat) ∧ (∀ x ∈ l, x < 256) ∧ l.length + k ≤ 3)
    3 ⟨n.fmod 512, [], [], _, 0, S.weaken (by walk_at "al") (by walk_at "nw"), d0, d1, .nil, (fun _ hx => nomatch hx), Nat.le_refl _⟩ ?_)
  rintro k hp tk ⟨left, its, l, tt, ep, S, e0, e1, hi, hl, hk⟩
  refine isTrue_plain (nameL S rfl (P.truthy_int (s := sh s hp tk) ?_))
  have hil : its.length = l.length := by rw [hi.length, List.length_map]
  by_cases hz : left = 0
  · subst hz
    rw [if_neg (by decide)]
    refine exN (wpAny_Return_some (Call_ (nameB B S (by k_is) (by boot_fast) (by decide) (callWith_type1 (args_cons (nameL S rfl (args_nil ?_)))))))
    refine call_bytes_ints (s := sh s hp tk) ⟨_, S.N.get (.head _), rfl, _, rfl⟩ hi (fun n hn => ?_) (by rw [sizeLine_eq]; first | lia | omega) hh fun h' t' k' hk' => ?_
    · obtain ⟨x, hx, rfl⟩ := List.mem_map.mp hn
      have := hl x hx
      constructor
      · exact Int.natCast_nonneg x
      · show (x : Int) < 256; first | lia | omega
    · rw [byteArr_kv]
      exact hQ l h' k' t' (by first | lia | omega) hl ((kh S).trans hk')
  · rw [if_pos (by simpa using hz)]
    cases k with
    | zero => exact absurd e1 (by simp; first | lia | omega)
    | succ k =>
    have m0 : 0 ≤ left.fmod 8 := Int.fmod_nonneg_of_pos _ (by decide)
    have m1 : left.fmod 8 < 8 := Int.fmod_lt_of_pos _ (by decide)
    obtain ⟨v, u, hv, hv'⟩ := tb (left.fmod 8).toNat (by first | lia | omega)
    refine exN (wpAny_Expr (Call_method1 rfl rfl rfl (nameL S rfl (appM (S.N.get (.head _)) (Subscript_ (nameL S rfl (wpAny_BinOp (nameL S rfl (cInt (modI (by decide) (getL (S.N.get (.tail _ (.head _))) m0 (by first | lia | omega) hv ⟨_, _, _, _, _, _, rfl, S, .head (fun p hp => ?_), by rw [sizeLine_eq, List.size_toArray]; first | lia | omega, fun h' S => ?_⟩)))))))))))
    · rcases List.mem_singleton.mp hp with rfl; exact Nat.ne_of_lt hlt
    · refine exN (wpAny_AugAssign_Name (loadL S rfl (cInt (ifdivI (by decide) (storeL S fun h' tk' S => wpAny_execs_nil ?_)))))
      have hd : left.fdiv 8 = left / 8 := Int.fdiv_eq_ediv_of_nonneg _ (by decide)
      rw [hd, List.push_toArray] at S
      have hpow : (8 : Int) ^ (k + 1) = 8 ^ k * 8 := by rw [Int.pow_succ]
      refine ⟨k, _, _, rfl, Nat.lt_succ_self _, left / 8, its ++ [.int (Int.ofNat v) u], l ++ [v], _, ep + 1, by walk_at "st", by first | lia | omega, ?_, ?_, ?_, ?_⟩
      · rw [hpow] at e1; first | lia | omega
      · rw [List.map_append]; exact intsAre_snoc hi _ _
      · intro x hx
        rcases List.mem_append.mp hx with hx | hx
        · exact hl x hx
        · rcases List.mem_singleton.mp hx with rfl; exact hv'
      · simp; first | lia | omega
end Mine
/- MComp -/
namespace Mine
open PySem PySem.W PyProof.Rows PySem.Calls
section
variable {prog : Program} {w : World} {A : Around} {E : Value → Shared → Prop} {s s₀ : Shared} {b g gi h h' : Heap} {tk : Nat} {L C D : Addr} {env : Env} {al al' : List (Str × Value)} {news nw rest hide : List (Addr × Obj)}

/-- a comprehension from its head to its loop -/
theorem compBase {elt target iter : Expr} {ifs : List Expr} {scope : Scope} {cl : List (Str × Addr)} {pos pos' : Pos} {use : Option (Value → Sem Unit)} {Q : Value → Shared → Prop}
    (hi : wpAny (model prog w) A (eval iter env) (fun x s₁ => wpAny (model prog w) A (pyIter x) (fun it s₂ => ∃ h tk hide, s₂ = sh s h tk ∧ (∀ p ∈ hide, h.get? p.1 = some p.2) ∧
      (∀ h₁ tk₁ Q' E', (∀ p ∈ hide, h₁.get? p.1 = some p.2) → Q' it (sh s h₁ tk₁) → wpAny (model prog w) A (pyIter it) Q' E' (sh s h₁ tk₁)) ∧
      ∀ gi C h₁ tk₁, St gi C h₁ [] ((h.objs.size, listOf #[] 0) :: hide) → C = h.objs.size + 1 → KeepsBut (hide.map (·.1)) h gi → Keeps gi h → (∀ a ∈ hide.map (·.1), gi.get? a = none) →
        codeAny (model prog w) A (.compLoop (.ListComp elt [⟨target, iter, ifs, 0⟩] scope pos) 0 it (.ref h.objs.size) (compEnvC scope cl C env))
          (compPost (model prog w) A E use Q (.ref h.objs.size) C) (sh s h₁ tk₁)) E s₁) E s₀)
    (hclos : closureFor scope env = pure cl) (hkind : scope.kind = .function) (hnames : ∀ x ∈ scope.names, x.2 = .local → scope.names.lookup x.1 = some .local) (hcell : ∀ y ∈ scope.names, y.2 ≠ .cell)
    (hs : ∀ x, foldedSetIterable iter env x = pure x) :
    wpAny (model prog w) A (comprehension (.ListComp elt [⟨target, iter, ifs, 0⟩] scope pos) scope env pos' (newList []) false (eval iter env) use) Q E s₀ := by
  refine wpAny_comprehension_free (g := ⟨target, iter, ifs, 0⟩) (gs := []) rfl hs hclos hkind hnames (wpAny_mono hi (fun x s₁ h₁ => wpAny_mono h₁ (fun it s₂ h₂ => ?_) fun _ _ e => e) fun _ _ e => e)
  obtain ⟨h, tk, hide, rfl, hh, hself, hgo⟩ := h₂
  refine wpAny_newObj_type (wpAny_newFunctionEnv hcell (by intro y hy; simp at hy) (fun h₁ hns₁ hsb₁ => ?_) hkind)
  dsimp only at hns₁ hsb₁ ⊢
  have e0 : (sh s h tk).heap = h := rfl
  have e1 : (sh s h tk).toks = tk := rfl
  rw [e0] at hns₁ hsb₁ ⊢
  have hsz : (h.push { cls := Value.type "list", data := Data.seq ([] : List Value).toArray }).objs.size = h.objs.size + 1 := Heap.size_push ..
  rw [hsz] at hns₁ hsb₁ ⊢
  have old : Keeps h h₁ := fun b o e => hsb₁.extBut b o (Nat.ne_of_lt (Nat.lt_succ_of_lt (Heap.lt_size e))) (Heap.get?_push_of_some _ (Heap.get?_push_of_some _ e))
  have hD : h₁.get? h.objs.size = some (listOf #[] 0) := hsb₁.extBut _ _ (Nat.ne_of_lt (Nat.lt_succ_self _)) (Heap.get?_push_of_some _ (Heap.get?_push_size _ rfl))
  have S1 : St (hideAll h (hide.map (·.1))) (h.objs.size + 1) h₁ [] ((h.objs.size, listOf #[] 0) :: hide) := by
    refine ⟨⟨_, ⟨hns₁, fun a o e => old a o (of_hideAll _ e), by rw [hideAll_size]; exact Nat.le_succ _⟩, fun x v e => by cases e⟩, fun p hp => ?_⟩
    rcases List.mem_cons.mp hp with rfl | hp
    · refine ⟨hD, Nat.ne_of_lt (Nat.lt_succ_self _), ?_⟩
      cases q : (hideAll h (hide.map (·.1))).get? h.objs.size with
      | none => rfl
      | some o => exact absurd (Heap.lt_size (of_hideAll _ q)) (Nat.lt_irrefl _)
    · exact ⟨old _ _ (hh p hp), Nat.ne_of_lt (Nat.lt_succ_of_lt (Heap.lt_size (hh p hp))), hideAll_none _ (List.mem_map_of_mem hp)⟩
  have loop := hgo _ _ h₁ tk S1 rfl (fun a o n e => hideAll_get _ e n) (fun a o e => of_hideAll _ e) (fun a ha => hideAll_none _ ha)
  exact codeAny_compStart_list loop (hself h₁ tk _ _ (fun p hp => old _ _ (hh p hp)) loop)

theorem compL {elt target iter : Expr} {itv : Value} {scope : Scope} {pos : Pos} {R : Result → Shared → Prop} (I : Nat → Heap → Prop) (n₀ : Nat) (h₀ : I n₀ h)
    (turn : ∀ n h tk, I n h → wpAny (model prog w) A (pyNext itv) (fun r s₁ => match r with
      | none => R (.ok .next) s₁
      | some v => wpAny (model prog w) A (assign target env v) (fun _ s₂ => wpAny (model prog w) A (eval elt env) (fun x s₃ => ∃ h3 tk3 its ep b C al news news', s₃ = sh s h3 tk3 ∧ St b C h3 al news ∧
          Upd D (listOf its ep) (listOf (its.push x) (ep + 1)) news news' ∧ its.size ≤ sizeLine ∧ ∀ h4, St b C h4 al news' → ∃ m, m < n ∧ I m h4) (fun _ _ => False) s₂) (fun _ _ => False) s₁) (fun _ _ => False) (sh s h tk))
    (ht : ∀ v, letOwnedTupleGo target itv v = pure () := by intro _; rfl) :
    codeAny (model prog w) A (.compLoop (.ListComp elt [⟨target, iter, [], 0⟩] scope pos) 0 itv (.ref D) env) R (sh s h tk) := by
  refine codeAny_compLoop_tests (fun n s' => ∃ h' tk', s' = sh s h' tk' ∧ I n h') ?_ n₀ ⟨h, tk, rfl, h₀⟩ ht
  rintro n _ ⟨h, tk, rfl, hI⟩
  refine wpAny_mono (turn n h tk hI) (fun r s₁ h₁ => ?_) fun _ _ x => x.elim
  cases r with
  | none => exact h₁
  | some v =>
    refine wpAny_mono h₁ (fun _ s₂ h₂ => ?_) fun _ _ x => x.elim
    show wpAny _ _ (pure true) _ _ _
    refine wpAny_pure ?_
    simp only [if_true]
    refine wpAny_mono h₂ (fun x s₃ h₃ => ?_) fun _ _ x => x.elim
    obtain ⟨h3, tk3, its, ep, b, C, al, news, news', rfl, S, U, hsz, hk⟩ := h₃
    obtain ⟨⟨m, F, hm⟩, N⟩ := S
    refine append_K (s := sh s h3 tk3) F N U (fun h' F' N' => ?_) hsz
    obtain ⟨m', hlt, hi⟩ := hk h' ⟨⟨m, F', hm⟩, N'⟩
    exact ⟨m', hlt, h', tk3, rfl, hi⟩

/-- back in the outer frame, the variables let go -/
theorem St.back (S : St g L h al news) (hhide : ∀ p ∈ hide, p ∈ news) (hrest : ∀ p ∈ rest, p ∈ news ∧ p.1 ∉ hide.map (·.1)) (hgi : KeepsBut (hide.map (·.1)) h gi) (Si : St gi C h' al' nw) (hC : C = h.objs.size + 1)
    (hnw : ∀ p ∈ nw, p.1 ∈ hide.map (·.1) ∨ h.objs.size ≤ p.1) : ∃ oC, h'.get? C = some oC ∧ (∃ m, h'.Ns C m) ∧ St g L h' al ((C, oC) :: (nw ++ rest)) ∧ ∀ p ∈ nw ++ rest, p.1 ≠ C := by
  obtain ⟨⟨m, F, hm⟩, N⟩ := Si
  obtain ⟨oC, a1, a2, hoC, a3⟩ := id F.ns
  have kb : KeepsBut (hide.map (·.1)) h h' := fun a o n e => F.keep a o (hgi a o n e)
  have gone : ∀ d, h.objs.size ≤ d → g.get? d = none := fun d hd => by
    cases q : g.get? d with
    | none => rfl
    | some o' => exact absurd (Nat.lt_of_lt_of_le (Heap.lt_size (S.keep _ _ q)) hd) (Nat.lt_irrefl _)
  have hid : ∀ a ∈ hide.map (·.1), g.get? a = none ∧ a ≠ L := fun a ha => by
    obtain ⟨p, hp, rfl⟩ := List.mem_map.mp ha
    have := S.N p (hhide p hp)
    exact ⟨this.2.2, this.2.1⟩
  have hLlt := S.lt
  refine ⟨oC, hoC, ⟨m, F.ns⟩, S.but kb (fun a ha => (hid a ha).1) (fun q => (hid L q).2 rfl) (fun p hp => ?_), fun p hp => ?_⟩
  · rcases List.mem_cons.mp hp with rfl | hp
    · exact ⟨hoC, by rw [hC]; exact Nat.ne_of_gt (Nat.lt_succ_of_lt hLlt), gone _ (by rw [hC]; exact Nat.le_succ _)⟩
    · rcases List.mem_append.mp hp with hp | hp
      · have z := N p hp
        rcases hnw p hp with q | q
        · exact ⟨z.1, (hid _ q).2, (hid _ q).1⟩
        · exact ⟨z.1, Nat.ne_of_gt (Nat.lt_of_lt_of_le hLlt q), gone _ q⟩
      · have z := S.N p (hrest p hp).1
        exact ⟨kb _ _ (hrest p hp).2 z.1, z.2⟩
  · rcases List.mem_append.mp hp with hp | hp
    · exact (N p hp).2.1
    · have z := S.N p (hrest p hp).1
      rw [hC]; exact Nat.ne_of_lt (Nat.lt_succ_of_lt (Heap.lt_size z.1))

theorem St.letgo {oC : Obj} (S : St g L h al ((C, oC) :: news)) (hne : ∀ p ∈ news, p.1 ≠ C) (hs : Heap.SameBut C h h') : St g L h' al news :=
  S.drop (.head _) hs.extBut fun p hp => ⟨.tail _ hp, hne p hp⟩

theorem compEnd {Q : Value → Shared → Prop} {f : Flow} (S : St g L h al news) (hhide : ∀ p ∈ hide, p ∈ news) (hrest : ∀ p ∈ rest, p ∈ news ∧ p.1 ∉ hide.map (·.1)) (hgi : KeepsBut (hide.map (·.1)) h gi) (Si : St gi C h' al' nw) (hC : C = h.objs.size + 1)
    (hnw : ∀ p ∈ nw, p.1 ∈ hide.map (·.1) ∨ h.objs.size ≤ p.1) (hq : ∀ h'', St g L h'' al (nw ++ rest) → Q (.ref D) (sh s h'' tk)) :
    compPost (model prog w) A E none Q (.ref D) C (.ok f) (sh s h' tk) := by
  obtain ⟨oC, hoC, ⟨m, hm⟩, So, hne⟩ := S.back hhide hrest hgi Si hC hnw
  exact ⟨m, hm, fun h'' hs => hq h'' (So.letgo hne hs)⟩

theorem compEndU {Q : Value → Shared → Prop} {f : Flow} {u : Value → Sem Unit} (S : St g L h al news) (hhide : ∀ p ∈ hide, p ∈ news) (hrest : ∀ p ∈ rest, p ∈ news ∧ p.1 ∉ hide.map (·.1)) (hgi : KeepsBut (hide.map (·.1)) h gi) (Si : St gi C h' al' nw) (hC : C = h.objs.size + 1)
    (hnw : ∀ p ∈ nw, p.1 ∈ hide.map (·.1) ∨ h.objs.size ≤ p.1)
    (hu : ∀ oC, St g L h' al ((C, oC) :: (nw ++ rest)) → (∀ p ∈ nw ++ rest, p.1 ≠ C) → wpAny (model prog w) A (u (.ref D)) (fun _ s'' => ∃ h2 tk2 al2 news2, s'' = sh s h2 tk2 ∧ St g L h2 al2 ((C, oC) :: news2) ∧ (∀ p ∈ news2, p.1 ≠ C) ∧ ∀ h'', St g L h'' al2 news2 → Q .none (sh s h'' tk2)) E (sh s h' tk)) :
    compPost (model prog w) A E (some u) Q (.ref D) C (.ok f) (sh s h' tk) := by
  obtain ⟨oC, hoC, ⟨m, hm⟩, So, hne⟩ := S.back hhide hrest hgi Si hC hnw
  refine wpAny_mono (hu oC So hne) (fun _ s'' h₂ => ?_) fun _ _ e => e
  obtain ⟨h2, tk2, al2, news2, rfl, S2, hne2, hq⟩ := h₂
  have hC2 := S2.N.get (.head _)
  obtain ⟨o', a1, a2, ho', a3⟩ := id hm
  have : o' = oC := by rw [hoC] at ho'; exact (Option.some.inj ho').symm
  subst this
  exact ⟨m, ⟨o', a1, a2, hC2, a3⟩, fun h'' hs => hq h'' (S2.letgo hne2 hs)⟩

/-- [… for …] as a value -/
theorem compV {elt target iter : Expr} {ifs : List Expr} {scope : Scope} {cl : List (Str × Addr)} {pos : Pos} {Q : Value → Shared → Prop}
    (hi : wpAny (model prog w) A (eval iter env) (fun x s₁ => wpAny (model prog w) A (pyIter x) (fun it s₂ => ∃ h tk hide, s₂ = sh s h tk ∧ (∀ p ∈ hide, h.get? p.1 = some p.2) ∧
      (∀ h₁ tk₁ Q' E', (∀ p ∈ hide, h₁.get? p.1 = some p.2) → Q' it (sh s h₁ tk₁) → wpAny (model prog w) A (pyIter it) Q' E' (sh s h₁ tk₁)) ∧
      ∀ gi C h₁ tk₁, St gi C h₁ [] ((h.objs.size, listOf #[] 0) :: hide) → C = h.objs.size + 1 → KeepsBut (hide.map (·.1)) h gi → Keeps gi h → (∀ a ∈ hide.map (·.1), gi.get? a = none) →
        codeAny (model prog w) A (.compLoop (.ListComp elt [⟨target, iter, ifs, 0⟩] scope pos) 0 it (.ref h.objs.size) (compEnvC scope cl C env))
          (compPost (model prog w) A E none Q (.ref h.objs.size) C) (sh s h₁ tk₁)) E s₁) E s₀)
    (hclos : closureFor scope env = pure cl := by rfl) (hkind : scope.kind = .function := by rfl) (hnames : ∀ x ∈ scope.names, x.2 = .local → scope.names.lookup x.1 = some .local := by decide) (hcell : ∀ y ∈ scope.names, y.2 ≠ .cell := by decide)
    (hs : ∀ x, foldedSetIterable iter env x = pure x := by intro _; rfl) :
    wpAny (model prog w) A (eval (.ListComp elt [⟨target, iter, ifs, 0⟩] scope pos) env) Q E s₀ := by
  rw [eval_ListComp]; exact compBase hi hclos hkind hnames hcell hs

/-- y = [… for …] -/
theorem compA {elt target iter : Expr} {ifs : List Expr} {scope : Scope} {cl : List (Str × Addr)} {pos spos py : Pos} {y : Str} {Q : Flow → Shared → Prop}
    (hi : wpAny (model prog w) A (eval iter env) (fun x s₁ => wpAny (model prog w) A (pyIter x) (fun it s₂ => ∃ h tk hide, s₂ = sh s h tk ∧ (∀ p ∈ hide, h.get? p.1 = some p.2) ∧
      (∀ h₁ tk₁ Q' E', (∀ p ∈ hide, h₁.get? p.1 = some p.2) → Q' it (sh s h₁ tk₁) → wpAny (model prog w) A (pyIter it) Q' E' (sh s h₁ tk₁)) ∧
      ∀ gi C h₁ tk₁, St gi C h₁ [] ((h.objs.size, listOf #[] 0) :: hide) → C = h.objs.size + 1 → KeepsBut (hide.map (·.1)) h gi → Keeps gi h → (∀ a ∈ hide.map (·.1), gi.get? a = none) →
        codeAny (model prog w) A (.compLoop (.ListComp elt [⟨target, iter, ifs, 0⟩] scope pos) 0 it (.ref h.objs.size) (compEnvC scope cl C env))
          (compPost (model prog w) A E (some (assign (.Name y py) env)) (fun _ s' => Q .next s') (.ref h.objs.size) C) (sh s h₁ tk₁)) E s₁) E s₀)
    (hsw : swapsWith (.ListComp elt [⟨target, iter, ifs, 0⟩] scope pos) (some (.Name y py)) spos.line env = pure true := by rfl)
    (hclos : closureFor scope env = pure cl := by rfl) (hkind : scope.kind = .function := by rfl) (hnames : ∀ x ∈ scope.names, x.2 = .local → scope.names.lookup x.1 = some .local := by decide) (hcell : ∀ y ∈ scope.names, y.2 ≠ .cell := by decide)
    (hs : ∀ x, foldedSetIterable iter env x = pure x := by intro _; rfl) :
    wpAny (model prog w) A (exec (.Assign [.Name y py] (.ListComp elt [⟨target, iter, ifs, 0⟩] scope pos) spos) env) Q E s₀ := by
  rw [exec_Assign_Name_used _ _ _ _ hsw]
  refine wpAny_bind (wpAny_standAt (wpAny_bind ?_))
  show wpAny _ A (do let _ ← comprehension (.ListComp elt [⟨target, iter, ifs, 0⟩] scope pos) scope env _ (newList []) false (eval iter env) (some (assign (.Name y py) env))) _ _ s₀
  exact wpAny_bind (wpAny_mono (compBase hi hclos hkind hnames hcell hs) (fun _ s' hq => wpAny_pure (wpAny_pure hq)) fun _ _ e => e)
end

section
variable {M : Model} {A : Around} {E : Value → Shared → Prop} {s : Shared} {b h : Heap} {tk : Nat} {L C a : Addr} {cn : Str} {cs sc : Scope} {ccd : Value} {cl cl' : List (Str × Addr)}
  {x : Str} {pos : Pos} {v : Value} {al : List (Str × Value)} {news : List (Addr × Obj)} {w : World}

theorem nameCL {Q : Value → Shared → Prop} (S : St b C h al news) (hv : al.lookup x = some v) (hq : Q v (sh s h tk))
    (hk : sc.kind = .function := by rfl) (hx : (compEnvC sc cl C (envX cn cs L a ccd cl')).kindOf x = some .local := by rfl) (hd : (x == ("__debug__" : Str)) = false := by decide) :
    wpAny M A (eval (.Name x pos) (compEnvC sc cl C (envX cn cs L a ccd cl'))) Q E (sh s h tk) := by
  obtain ⟨⟨m, F, hm⟩, N⟩ := S
  exact wpAny_Name (wpAny_loadName_local (s := sh s h tk) (env := compEnvC sc cl C (envX cn cs L a ccd cl')) hk hx F.ns (hm x v hv) hq) hd
theorem nameCK {Q : Value → Shared → Prop} (B : Ba w b) (S : St b C h al news) (e : nsIn (hd.heap_39 w.params) mainGlobals x = some (some v)) (hq : Q v (sh s h tk))
    (hk : sc.kind = .function := by rfl) (hx : (compEnvC sc cl C (envX cn cs L a ccd cl')).kindOf x = some .globalImplicit := by rfl) (hd : (x == ("__debug__" : Str)) = false := by decide) :
    wpAny M A (eval (.Name x pos) (compEnvC sc cl C (envX cn cs L a ccd cl'))) Q E (sh s h tk) := by
  obtain ⟨⟨m, F, hm⟩, N⟩ := S
  obtain ⟨X, _, _, _, _, T⟩ := B
  exact Name_function_global hk hx (loadGlobal_global (s := sh s h tk) (env := compEnvC sc cl C (envX cn cs L a ccd cl')) (T.g.keeps F.keep) (mg_of X T.g e) hq) hd
theorem nameCB {Q : Value → Shared → Prop} (B : Ba w b) (S : St b C h al news) (e : nsIn (hd.heap_39 w.params) mainGlobals x = some none) (hv : bootBuiltins x = some v) (hn : x ≠ "__name__") (hq : Q v (sh s h tk))
    (hk : sc.kind = .function := by rfl) (hx : (compEnvC sc cl C (envX cn cs L a ccd cl')).kindOf x = some .globalImplicit := by rfl) (hd : (x == ("__debug__" : Str)) = false := by decide) :
    wpAny M A (eval (.Name x pos) (compEnvC sc cl C (envX cn cs L a ccd cl'))) Q E (sh s h tk) := by
  obtain ⟨⟨m, F, hm⟩, N⟩ := S
  obtain ⟨X, _, _, _, _, T⟩ := B
  exact Name_function_global hk hx (loadGlobal_builtin (s := sh s h tk) (env := compEnvC sc cl C (envX cn cs L a ccd cl')) (T.g.keeps F.keep) (mg_none_of X T.g e) (T.b.keeps F.keep) ((T.builtins x hn).trans hv) hq) hd
theorem storeCL {Q : Unit → Shared → Prop} (S : St b C h al news)
    (hq : ∀ h' tk, St b C h' ((x, v) :: al) news → Q () (sh s h' tk))
    (hk : sc.kind = .function := by rfl) (hx : (compEnvC sc cl C (envX cn cs L a ccd cl')).kindOf x = some .local := by rfl) : wpAny M A (storeName (compEnvC sc cl C (envX cn cs L a ccd cl')) x v) Q E (sh s h tk) := by
  obtain ⟨⟨m, F, hm⟩, N⟩ := S
  refine wpAny_storeName_local (s := sh s h tk) hx F.ns (fun h' hn hs => hq h' _ ⟨⟨_, F.set hn hs, fun y u e => ?_⟩, N.set hs⟩) (by simp [compEnvC, relabel, hk])
  rw [List.lookup_cons] at e
  by_cases q : y = x
  · subst q; simp only [beq_self_eq_true] at e; simpa using e
  · have : (y == x) = false := by simpa using q
    simp only [this] at e
    simpa [q] using hm y u e
end
end Mine
/- MTxt -/
namespace Mine
open PySem PySem.W PyProof.Rows PySem.Calls
section
variable {prog : Program} {w : World} {A : Around} {E : Value → Shared → Prop} {s : Shared} {b g gi h : Heap} {tk : Nat} {L : Addr} {env : Env} {al : List (Str × Value)} {news news' hide : List (Addr × Obj)}

theorem Ba.inner (B : Ba w g) (S : St g L h al news) (hhide : ∀ p ∈ hide, p ∈ news) (hgi : KeepsBut (hide.map (·.1)) h gi) : Ba w gi :=
  B.keeps fun a o e => hgi a o (fun q => by
    obtain ⟨p, hp, rfl⟩ := List.mem_map.mp q
    rw [(S.N p (hhide p hp)).2.2] at e; cases e) (S.keep a o e)

def BIt (bs : Array UInt8) (t : Tok) (i : Nat) (o : Obj) : Prop := o.cls = .type "bytes_iterator" ∧ o.data = .fields #[.bytes bs t, .int i 0]

theorem nextB {bs : Array UInt8} {t : Tok} {i : Nat} {it : Addr} {o : Obj} {c : UInt8} {f : Obj → List (Addr × Obj)} {Q : Option Value → Shared → Prop} (S : St b L h al news) (U : ∀ o', Upd it o o' news (f o')) (ho : BIt bs t i o) (hx : bs[i]? = some c)
    (hq : ∀ o' h', BIt bs t (i + 1) o' → St b L h' al (f o') → Q (some (.int (c.toNat : Int) tk)) (sh s h' (tk + 1))) : wpAny (model prog w) A (pyNext (.ref it)) Q E (sh s h tk) := by
  have hm : (it, o) ∈ news := by
    obtain ⟨pre, post, rfl, _⟩ := (U o).split
    exact List.mem_append.mpr (.inr (.head _))
  refine KBw.next_item (s := sh s h tk) (t := t) ⟨o, S.N.get hm, ho⟩ hx fun h' hit hs => ?_
  obtain ⟨o', ho', hb⟩ := hit
  exact hq o' h' hb (S.upd (U o') hs ho')
theorem nextB_end {bs : Array UInt8} {t : Tok} {i : Nat} {it : Addr} {o : Obj} {Q : Option Value → Shared → Prop} (hh : A.handled = none) (S : St b L h al news) (hm : (it, o) ∈ news) (ho : BIt bs t i o) (hx : bs[i]? = none) (hn : ∀ p ∈ news', p ∈ news ∧ p.1 ≠ it)
    (hq : ∀ h', St b L h' al news' → Q none (sh s h' tk)) : wpAny (model prog w) A (pyNext (.ref it)) Q E (sh s h tk) :=
  KBw.next_end (s := sh s h tk) (t := t) hh ⟨o, S.N.get hm, ho⟩ hx fun h' he => hq h' (S.drop hm he hn)

theorem iterB {bs : Array UInt8} {t : Tok} {Q : Value → Shared → Prop} (S : St b L h al news) (hq : ∀ it o h', BIt bs t 0 o → St b L h' al ((it, o) :: news) → (∀ p ∈ news, p.1 < it) → h'.objs.size = it + 1 → Q (.ref it) (sh s h' tk)) :
    wpAny (model prog w) A (pyIter (.bytes bs t)) Q E (sh s h tk) :=
  KBw.pyIter_bytes (s := sh s h tk) (hq _ _ _ ⟨rfl, rfl⟩ (S.push _) S.below (Heap.size_push ..))
theorem selfB {bs : Array UInt8} {t : Tok} {i : Nat} {it : Addr} {o : Obj} {Q : Value → Shared → Prop} (ho : BIt bs t i o) (hi : h.get? it = some o) (hq : Q (.ref it) (sh s h tk)) : wpAny (model prog w) A (pyIter (.ref it)) Q E (sh s h tk) :=
  KBw.pyIter_self (s := sh s h tk) (b := bs) (t := t) (i := i) ⟨_, hi, ho⟩ hq

theorem methJoin {kind : Nat} (hk : kind = 0 ∨ kind = 1) {sep : List Nat} {t : Tok} {pos : Pos} {ex : Sem Value} {Q : Value → Shared → Prop}
    (he : wpAny (model prog w) A ex (fun v s₁ => ∃ D h₁ tk₁ l ep, v = .ref D ∧ s₁ = sh s h₁ tk₁ ∧ h₁.get? D = some (listOf (kvs kind l).toArray ep) ∧ (l.map (·.1.length)).sum + sep.length * l.length ≤ 16777216 ∧
      ∀ t' k, Q (kv kind (joinL sep (l.map (·.1))) t') (sh s h₁ k)) E (sh s h tk)) :
    MethodOnS prog w A E "join" (kv kind sep t) pos [(false, ex)] Q (sh s h tk) := by
  rcases hk with rfl | rfl
  · refine ⟨"str", "str.join", F.plainAttrs_str, F.slot_str_join, F.type_str_join, typeIs_str _ _ _, (fun a (e : Value.str _ _ = .ref a) => by cases e), ?_⟩
    refine callWith_builtin rfl (evalArgs_plain (spliced_cons (wpAny_mono he (fun v s₁ h₁ => ?_) fun _ _ x => x)))
    obtain ⟨D, h₁, tk₁, l, ep, rfl, rfl, hl, hz, hq⟩ := h₁
    exact spliced_nil (joinK 0 (.inl rfl) hl hz hq)
  · refine ⟨"bytes", "bytes.join", FB.plainAttrs_bytes, bj_slot, bj_type, typeIs_bytes _ _ _, (fun a (e : Value.bytes _ _ = .ref a) => by cases e), ?_⟩
    refine callWith_builtin rfl (evalArgs_plain (spliced_cons (wpAny_mono he (fun v s₁ h₁ => ?_) fun _ _ x => x)))
    obtain ⟨D, h₁, tk₁, l, ep, rfl, rfl, hl, hz, hq⟩ := h₁
    exact spliced_nil (joinK 1 (.inr rfl) hl hz hq)
end

theorem kv1_get {l : List Nat} {i : Nat} (h : i < l.length) : (l.map Nat.toUInt8).toArray[i]? = some (l[i].toUInt8) := by simp [h]
theorem toUInt8_toNat {n : Nat} (h : n < 256) : n.toUInt8.toNat = n := by
  show n % 256 = n; exact Nat.mod_eq_of_lt h

theorem law_text {w : World} {A : Around} {s : Shared} {b h : Heap} {tk : Nat} {Q E : Value → Shared → Prop} {l : List Nat} {t : Tok}
  (B : Ba w b) (hb : Keeps b h) (hroom : A.depth < recursionLimit) (hh : A.handled = none) (hl : l.length ≤ 2 ^ 15) (h256 : ∀ x ∈ l, x < 256)
  (hQ : ∀ h' tk t', Keeps h h' → Q (kv 0 l t') (sh s h' tk)) :
  wpAny (model PySem.Challenge.rw_mr0271_01.row.prog w) A (call (.ref 140) [kv 1 l t] []) Q E (sh s h tk) := by
  refine enter B hb [] (fun p hp => nomatch hp) (by k_is) (by k_is) hroom (binds := [("octets", kv 1 l t)]) (BindsTo.of_eq rfl) (locs rfl) (by decide) (by walk_at "al") ?_
  intro g L h₁ tk S B hL hg1 hg2 hg3
  have kh : ∀ {h' al ns}, St g L h' al ns → Keeps h h' := fun S' x o e => S'.keep x o (hg1 x o (fun q => nomatch q) e)
  refine exN (wpAny_Return_some (Call_method1 rfl rfl rfl (cStr ?_)))
  refine methJoin (kind := 0) (sep := []) (.inl rfl) ?_
  refine compV (s := s) (cl := []) (nameL S rfl (iterB S fun it o₀ H hbit S _ hsz => ?_))
  refine ⟨H, _, [(it, o₀)], rfl, fun p hp => (S.N p hp).1, fun h₂ tk₂ Q' E' hp hq => selfB hbit (hp _ (.head _)) hq, fun gi C h₂ tk₂ Si hC hgi1 hgi2 hgi3 => ?_⟩
  have Bi := B.inner S (hide := [(it, o₀)]) (fun p hp => hp) hgi1
  have hne : H.objs.size ≠ it := by first | lia | omega
  refine compL (fun n h => ∃ i o' ys ep al', St gi C h al' [(H.objs.size, listOf (kvs 0 ys).toArray ep), (it, o')] ∧ BIt (l.map Nat.toUInt8).toArray t i o' ∧ ys.map (·.1) = (l.take i).map (fun x => [x]) ∧ n = l.length - i ∧ i ≤ l.length)
    l.length ⟨0, o₀, [], 0, [], Si, hbit, rfl, rfl, Nat.zero_le _⟩ ?_
  rintro n h3 tk3 ⟨i, o', ys, ep, al', Si, hb', hys, hn, hi⟩
  have hyl : ys.length = i := by
    have := congrArg List.length hys
    simp at this; first | lia | omega
  by_cases hlt : i < l.length
  · have hx := h256 l[i] (List.getElem_mem hlt)
    refine nextB Si (f := fun o => [(H.objs.size, listOf (kvs 0 ys).toArray ep), (it, o)]) (fun o => .tail hne (.head fun _ hx => nomatch hx)) hb' (kv1_get hlt) fun o2 h4 hb2 Si => ?_
    rw [toUInt8_toNat hx]
    refine wpAny_assign_Name (storeCL Si fun h5 tk5 Si => ?_)
    refine Call_ (nameCB Bi Si (by k_is) (by boot_fast) (by decide) (callWith_builtin1 (args_cons (nameCL Si rfl (args_nil (chr_of_range (s := sh s h5 tk5) (by first | lia | omega) (by first | lia | omega) ?_))))))
    refine ⟨_, _, _, _, _, _, _, _, [(H.objs.size, listOf ((kvs 0 ys).toArray.push (kv 0 [l[i]] tk5)) (ep + 1)), (it, o2)], rfl, Si, .head (fun p hp => ?_), ?_, fun h6 Si => ?_⟩
    · rcases List.mem_singleton.mp hp with rfl; exact hne.symm
    · rw [sizeLine_eq, List.size_toArray]; simp [kvs, hyl]; first | lia | omega
    · rw [List.push_toArray, show kvs 0 ys ++ [kv 0 [l[i]] tk5] = kvs 0 (ys ++ [([l[i]], tk5)]) by simp [kvs]] at Si
      refine ⟨n - 1, by first | lia | omega, i + 1, o2, ys ++ [([l[i]], tk5)], ep + 1, _, Si, hb2, ?_, by first | lia | omega, by first | lia | omega⟩
      · rw [List.map_append, hys, List.take_succ_eq_append_getElem hlt, List.map_append]; rfl
  · have hil : i = l.length := by first | lia | omega
    refine nextB_end (news' := [(H.objs.size, listOf (kvs 0 ys).toArray ep)]) hh Si (.tail _ (.head _)) hb' (by simp; first | lia | omega) (fun p hp => ?_) fun h4 Si => ?_
    · rcases List.mem_singleton.mp hp with rfl; exact ⟨.head _, hne⟩
    refine compEnd (rest := []) S (fun p hp => hp) (fun _ hx => nomatch hx) hgi1 Si hC (fun p hp => ?_) fun h5 S5 => ?_
    · rcases List.mem_singleton.mp hp with rfl; exact .inr (Nat.le_refl _)
    refine ⟨_, _, _, ys, ep, rfl, rfl, S5.N.get (.head _), ?_, fun t' k => ?_⟩
    · have : (ys.map (·.1.length)).sum = ys.length := by
        rw [show (fun (p : List Nat × Tok) => p.1.length) = List.length ∘ Prod.fst from rfl, ← List.map_map, hys, List.map_map, show (List.length ∘ fun x : Nat => [x]) = fun _ => 1 from rfl, List.map_const', List.sum_replicate_nat, List.length_take]
        first | lia | omega
      rw [this]; simp; first | lia | omega
    · rw [joinL_nil_sep, hys, hil, List.take_length]
      rw [show (l.map fun x => [x]).flatten = l by simp [← List.flatMap_def]]
      exact hQ _ _ _ (kh S5)
end Mine
/- MDots -/
namespace Mine
open PySem PySem.W PyProof.Rows PySem.Calls
/-- a thing that yields the numbers of l -/
structure Src (w : World) (s : Shared) (h : Heap) (arg : Value) (l : List Nat) (IT : Nat → Obj → Prop) : Prop where
  iter : ∀ {A : Around} {E : Value → Shared → Prop} {b L h' al news tk} {Q : Value → Shared → Prop}, Keeps h b → St b L h' al news →
    (∀ it o h'', IT 0 o → St b L h'' al ((it, o) :: news) → (∀ p ∈ news, p.1 < it) → Q (.ref it) (sh s h'' tk)) → wpAny (model PySem.Challenge.rw_mr0271_01.row.prog w) A (pyIter arg) Q E (sh s h' tk)
  next : ∀ {A : Around} {E : Value → Shared → Prop} {b L h' al news tk} {it o i} {f : Obj → List (Addr × Obj)} {Q : Option Value → Shared → Prop} (hi : i < l.length), Keeps h b → St b L h' al news → (∀ o', Upd it o o' news (f o')) → IT i o →
    (∀ o' h'' t tk', IT (i + 1) o' → St b L h'' al (f o') → Q (some (.int (l[i] : Int) t)) (sh s h'' tk')) → wpAny (model PySem.Challenge.rw_mr0271_01.row.prog w) A (pyNext (.ref it)) Q E (sh s h' tk)
  done : ∀ {A : Around} {E : Value → Shared → Prop} {b L h' al news news' tk} {it o i} {Q : Option Value → Shared → Prop}, A.handled = none → i = l.length → Keeps h b → St b L h' al news → (it, o) ∈ news → IT i o → (∀ p ∈ news', p ∈ news ∧ p.1 ≠ it) →
    (∀ h'' tk', St b L h'' al news' → Q none (sh s h'' tk')) → wpAny (model PySem.Challenge.rw_mr0271_01.row.prog w) A (pyNext (.ref it)) Q E (sh s h' tk)

theorem srcBytes (w : World) (s : Shared) (h : Heap) {l : List Nat} (t : Tok) (h256 : ∀ x ∈ l, x < 256) : Src w s h (kv 1 l t) l (BIt (l.map Nat.toUInt8).toArray t) where
  iter := fun _ S hq => iterB S fun it o h'' ho S' hlt _ => hq it o h'' ho S' hlt
  next := fun {A E b L h' al news tk it o i f Q} hi _ S U ho hq => nextB S U ho (kv1_get hi) fun o' h'' hb S' => by
    rw [toUInt8_toNat (h256 l[i] (List.getElem_mem hi))]
    exact hq o' h'' _ _ hb S'
  done := fun hh hi _ S hm ho hn hq => nextB_end hh S hm ho (by simp [hi]) hn fun h'' S' => hq h'' _ S'

section
variable {prog : Program} {w : World} {A : Around} {E : Value → Shared → Prop} {s : Shared} {b h : Heap} {tk : Nat} {L : Addr} {al : List (Str × Value)} {news news' : List (Addr × Obj)}
def LIt (ax : Addr) (i : Nat) (o : Obj) : Prop := o.cls = .type "list_iterator" ∧ o.data = .fields #[.ref ax, .int i 0]
theorem iterLs {ax : Addr} {items : Array Value} {ep : Nat} {Q : Value → Shared → Prop} (S : St b L h al news) (hl : h.get? ax = some (listOf items ep))
    (hq : ∀ it o h', LIt ax 0 o → St b L h' al ((it, o) :: news) → (∀ p ∈ news, p.1 < it) → h'.objs.size = it + 1 → ax < it → Q (.ref it) (sh s h' tk)) :
    wpAny (model prog w) A (pyIter (.ref ax)) Q E (sh s h tk) :=
  wpAny_pyIter_list (s := sh s h tk) ⟨_, hl, rfl, _, rfl⟩ (hq _ _ _ ⟨rfl, rfl⟩ (S.push _) S.below (Heap.size_push ..) (Heap.lt_size hl))
theorem nextLs {ax : Addr} {items : Array Value} {ep : Nat} {i : Nat} {it : Addr} {o : Obj} {x : Value} {f : Obj → List (Addr × Obj)} {Q : Option Value → Shared → Prop} (S : St b L h al news) (U : ∀ o', Upd it o o' news (f o')) (ho : LIt ax i o)
    (hl : h.get? ax = some (listOf items ep)) (hx : items[i]? = some x)
    (hq : ∀ o' h', LIt ax (i + 1) o' → St b L h' al (f o') → Heap.SameBut it h h' → Q (some x) (sh s h' tk)) : wpAny (model prog w) A (pyNext (.ref it)) Q E (sh s h tk) := by
  have hm : (it, o) ∈ news := by
    obtain ⟨pre, post, rfl, _⟩ := (U o).split
    exact List.mem_append.mpr (.inr (.head _))
  refine wpAny_pyNext_list_item (s := sh s h tk) ⟨o, S.N.get hm, ho⟩ ⟨_, hl, rfl, _, rfl⟩ hx fun h' hit hs => ?_
  obtain ⟨o', ho', hb⟩ := hit
  exact hq o' h' hb (S.upd (U o') hs ho') hs
theorem nextLs_end {ax : Addr} {items : Array Value} {ep : Nat} {i : Nat} {it : Addr} {o : Obj} {Q : Option Value → Shared → Prop} (hh : A.handled = none) (S : St b L h al news) (hm : (it, o) ∈ news) (ho : LIt ax i o)
    (hl : h.get? ax = some (listOf items ep)) (hx : items[i]? = none) (hn : ∀ p ∈ news', p ∈ news ∧ p.1 ≠ it)
    (hq : ∀ h', St b L h' al news' → Q none (sh s h' tk)) : wpAny (model prog w) A (pyNext (.ref it)) Q E (sh s h tk) :=
  wpAny_pyNext_list_end (s := sh s h tk) hh ⟨o, S.N.get hm, ho⟩ ⟨_, hl, rfl, _, rfl⟩ hx fun h' he => hq h' (S.drop hm he hn)
end

theorem intsAre_get {vs : List Value} {l : List Nat} (h : IntsAre vs (l.map Int.ofNat)) {i : Nat} (hi : i < l.length) : ∃ t, vs[i]? = some (.int (l[i] : Int) t) := by
  induction l generalizing vs i with
  | nil => exact absurd hi (Nat.not_lt_zero _)
  | cons x r ih =>
    cases h with
    | cons _ t h' =>
      cases i with
      | zero => exact ⟨t, rfl⟩
      | succ i => exact ih h' (Nat.lt_of_succ_lt_succ hi)

theorem srcList (w : World) (s : Shared) {h : Heap} {l : List Nat} {vs : List Value} {ax : Addr} {ep : Nat} (hl : h.get? ax = some (listOf vs.toArray ep)) (hi : IntsAre vs (l.map Int.ofNat)) : Src w s h (.ref ax) l (LIt ax) where
  iter := fun hk S hq => iterLs S (S.keep _ _ (hk _ _ hl)) fun it o h'' ho S' hlt _ _ => hq it o h'' ho S' hlt
  next := fun hlt hk S U ho hq => by
    obtain ⟨t, ht⟩ := intsAre_get hi hlt
    exact nextLs S U ho (S.keep _ _ (hk _ _ hl)) (by simpa using ht) fun o' h'' hb S' _ => hq o' h'' _ _ hb S'
  done := fun hh he hk S hm ho hn hq => nextLs_end hh S hm ho (S.keep _ _ (hk _ _ hl)) (by
    have := hi.length
    simp at this
    simp; first | lia | omega) hn fun h'' S' => hq h'' _ S'

theorem qF_mem {x : Nat} : ∀ {l : List Nat} {b : Bool}, x ∈ qF b l → x ∈ l ∨ x = 46
  | [], _, h => nomatch h
  | c :: r, b, h => by
    rw [qF] at h
    split at h
    · rcases List.mem_cons.mp h with h | h
      · exact .inr h
      · rcases List.mem_cons.mp h with h | h
        · exact .inr h
        · rcases qF_mem h with h | h
          · exact .inl (.tail _ h)
          · exact .inr h
    · rcases List.mem_cons.mp h with h | h
      · exact .inl (by rw [h]; exact .head _)
      · rcases qF_mem h with h | h
        · exact .inl (.tail _ h)
        · exact .inr h

theorem law_dots {w : World} {A : Around} {s : Shared} {b h : Heap} {tk : Nat} {Q E : Value → Shared → Prop} {l : List Nat} {arg : Value} {IT : Nat → Obj → Prop}
  (B : Ba w b) (hb : Keeps b h) (hroom : A.depth < recursionLimit) (hh : A.handled = none) (hl : l.length ≤ 2 ^ 15) (h256 : ∀ x ∈ l, x < 256) (Sr : Src w s h arg l IT)
  (hQ : ∀ h' tk t', Keeps h h' → Q (kv 1 (qF true l) t') (sh s h' tk)) :
  wpAny (model PySem.Challenge.rw_mr0271_01.row.prog w) A (call (.ref 154) [arg] []) Q E (sh s h tk) := by
  refine enter B hb [] (fun p hp => nomatch hp) (by k_is) (by k_is) hroom (binds := [("octets", arg)]) (BindsTo.of_eq rfl) (locs rfl) (by decide) (by walk_at "al") ?_
  intro g L h₁ tk S B hL hg1 hg2 hg3
  have kg : Keeps h g := fun x o e => hg1 x o (fun q => nomatch q) e
  have kh : ∀ {h' al ns}, St g L h' al ns → Keeps h h' := fun S' x o e => S'.keep x o (kg x o e)
  have hql := qF_len l true
  refine exN ?_
  refine wpAny_Assign_Name ?_
  refine listE (spliced_nil ⟨_, _, rfl, by rw [sizeLine_eq]; decide, ?_⟩)
  have S := S.push (listOf #[] 0)
  generalize h₁.objs.size = lo at *
  refine storeL S fun h' tk' S => ?_
  refine exN (wpAny_Assign_Name (cInt (storeL S fun h' tk' S => ?_)))
  refine exN (for_ (nameL S rfl ?_))
  refine Sr.iter kg S fun it o₀ h2 hit S hlt => ?_
  have hne : lo ≠ it := Nat.ne_of_lt (hlt _ (.head _))
  refine forL (fun n h => ∃ (i : Nat) (o' : Obj) (ys : List Nat) (its : List Value) (ep : Nat) (bf : Nat) (tb : Tok), St g L h [("before", .int (bf : Int) tb), ("out", .ref lo)] [(it, o'), (lo, listOf its.toArray ep)] ∧ IT i o' ∧ IntsAre its (ys.map Int.ofNat) ∧
    ys ++ qF (bf == 10) (l.drop i) = qF true l ∧ n = l.length - i ∧ i ≤ l.length) l.length ⟨0, o₀, [], [], 0, 10, _, S.weaken (by walk_at "al") (by walk_at "nw"), hit, .nil, rfl, rfl, Nat.zero_le _⟩ ?_
  rintro n hp tk ⟨i, o', ys, its, ep, bf, tb, S, ho, hys, he, hn, hi⟩
  have hil : its.length = ys.length := by rw [hys.length, List.length_map]
  have hyl : ys.length ≤ 2 * l.length := by
    have := congrArg List.length he
    rw [List.length_append] at this; first | lia | omega
  by_cases hlt : i < l.length
  · refine Sr.next hlt kg S (f := fun o => [(it, o), (lo, listOf its.toArray ep)]) (fun o => .head fun p hp => by rcases List.mem_singleton.mp hp with rfl; exact hne) ho fun o2 h3 t3 tk3 ho2 S => ?_
    rw [List.drop_eq_getElem_cons hlt, qF] at he
    refine wpAny_assign_Name (storeL S fun h' tk' S => ?_)
    by_cases hl46 : l[i] = 46
    · by_cases hb10 : bf = 10
      · subst hb10
        rw [hl46, if_pos (by decide)] at he
        rw [hl46] at S
        refine exN (wpAny_If (isTrue_and (wpAny_isTrue_Compare1 (nameL S rfl (cInt (P.eq_int (wpAny_truthy_bool ?_)))))))
        rw [if_pos (by decide)]
        refine isTrue_and (wpAny_isTrue_Compare1 (nameL S rfl (cInt (P.eq_int (wpAny_truthy_bool ?_)))))
        rw [if_pos (by decide)]
        refine isTrue_and_nil ?_
        rw [if_pos rfl]
        refine exN (wpAny_Expr (Call_method1 rfl rfl rfl (nameL S rfl (appM (S.N.get (.tail _ (.head _))) (cInt ⟨_, _, _, _, _, _, rfl, S, .tail (Ne.symm hne) (.head fun _ hx => nomatch hx), by rw [sizeLine_eq, List.size_toArray]; first | lia | omega, fun h' S => wpAny_execs_nil ?_⟩)))))
        rw [List.push_toArray] at S
        refine exN (wpAny_Expr (Call_method1 rfl rfl rfl (nameL S rfl (appM (S.N.get (.tail _ (.head _))) (nameL S rfl ⟨_, _, _, _, _, _, rfl, S, .tail (Ne.symm hne) (.head fun _ hx => nomatch hx), by rw [sizeLine_eq, List.size_toArray]; (try simp); first | lia | omega, fun h' S => ?_⟩)))))
        rw [List.push_toArray] at S
        refine exN (wpAny_Assign_Name (nameL S rfl (storeL S fun h' tk' S => wpAny_execs_nil ?_)))
        exact ⟨n - 1, _, _, rfl, by first | lia | omega, i + 1, o2, ys ++ [46] ++ [46], its ++ [_] ++ [_], ep + 1 + 1, 46, _, by walk_at "st", ho2, by rw [List.map_append, List.map_append]; exact intsAre_snoc (intsAre_snoc hys 46 _) 46 _, by rw [← he]; simp, by first | lia | omega, by first | lia | omega⟩
      · have hc : ¬ ((bf == 10 && l[i] == 46) = true) := by simp [hb10]
        rw [if_neg hc] at he
        refine exN (wpAny_If (isTrue_and (wpAny_isTrue_Compare1 (nameL S rfl (cInt (P.eq_int (wpAny_truthy_bool ?_)))))))
        rw [if_pos (by rw [hl46]; decide)]
        refine isTrue_and (wpAny_isTrue_Compare1 (nameL S rfl (cInt (P.eq_int (wpAny_truthy_bool ?_)))))
        rw [if_neg (by simp; first | lia | omega)]
        rw [if_neg (by decide)]
        refine wpAny_execs_nil ?_
        refine exN (wpAny_Expr (Call_method1 rfl rfl rfl (nameL S rfl (appM (S.N.get (.tail _ (.head _))) (nameL S rfl ⟨_, _, _, _, _, _, rfl, S, .tail (Ne.symm hne) (.head fun _ hx => nomatch hx), by rw [sizeLine_eq, List.size_toArray]; (try simp); first | lia | omega, fun h' S => ?_⟩)))))
        rw [List.push_toArray] at S
        refine exN (wpAny_Assign_Name (nameL S rfl (storeL S fun h' tk' S => wpAny_execs_nil ?_)))
        exact ⟨n - 1, _, _, rfl, by first | lia | omega, i + 1, o2, ys ++ [l[i]], its ++ [_], ep + 1, l[i], _, by walk_at "st", ho2, by rw [List.map_append]; exact intsAre_snoc hys _ _, by rw [← he]; simp, by first | lia | omega, by first | lia | omega⟩
    · have hc : ¬ ((bf == 10 && l[i] == 46) = true) := by simp [hl46]
      rw [if_neg hc] at he
      refine exN (wpAny_If (isTrue_and (wpAny_isTrue_Compare1 (nameL S rfl (cInt (P.eq_int (wpAny_truthy_bool ?_)))))))
      rw [if_neg (by simp; first | lia | omega)]
      rw [if_neg (by decide)]
      refine wpAny_execs_nil ?_
      refine exN (wpAny_Expr (Call_method1 rfl rfl rfl (nameL S rfl (appM (S.N.get (.tail _ (.head _))) (nameL S rfl ⟨_, _, _, _, _, _, rfl, S, .tail (Ne.symm hne) (.head fun _ hx => nomatch hx), by rw [sizeLine_eq, List.size_toArray]; (try simp); first | lia | omega, fun h' S => ?_⟩)))))
      rw [List.push_toArray] at S
      refine exN (wpAny_Assign_Name (nameL S rfl (storeL S fun h' tk' S => wpAny_execs_nil ?_)))
      exact ⟨n - 1, _, _, rfl, by first | lia | omega, i + 1, o2, ys ++ [l[i]], its ++ [_], ep + 1, l[i], _, by walk_at "st", ho2, by rw [List.map_append]; exact intsAre_snoc hys _ _, by rw [← he]; simp, by first | lia | omega, by first | lia | omega⟩
  · have hil' : i = l.length := by first | lia | omega
    rw [hil', List.drop_length] at he
    have he : ys = qF true l := by simpa [qF] using he
    refine Sr.done (news' := [(lo, listOf its.toArray ep)]) hh hil' kg S (.head _) ho (fun p hp => ?_) fun h3 tk3 S => ?_
    · rcases List.mem_singleton.mp hp with rfl; exact ⟨.tail _ (.head _), hne⟩
    refine exN (wpAny_Return_some (Call_ (nameB B S (by k_is) (by boot_fast) (by decide) (callWith_type1 (args_cons (nameL S rfl (args_nil ?_)))))))
    refine call_bytes_ints (s := sh s h3 tk3) ⟨_, S.N.get (.head _), rfl, _, rfl⟩ hys (fun n hn => ?_) (by rw [sizeLine_eq]; first | lia | omega) hh fun h' t' k' hk' => ?_
    · obtain ⟨x, hx, rfl⟩ := List.mem_map.mp hn
      have : x < 256 := by
        rw [he] at hx
        rcases qF_mem hx with hx | hx
        · exact h256 x hx
        · first | lia | omega
      constructor
      · exact Int.natCast_nonneg x
      · show (x : Int) < 256; first | lia | omega
    · rw [byteArr_kv, he]
      exact hQ h' k' t' ((kh S).trans hk')
end Mine
/- MKey -/
namespace Mine
open PySem PySem.W PyProof.Rows PySem.Calls
/-- the order of texts: sign by sign, the shorter first -/
def ltL : List Nat → List Nat → Bool
  | [], [] => false
  | [], _ :: _ => true
  | _ :: _, [] => false
  | x :: a, y :: b => decide (x < y) || (x == y && ltL a b)

theorem ltL_iff : ∀ a b : List Nat, decide (a < b) = ltL a b
  | [], [] => by simp [ltL]
  | [], y :: b => by simp [ltL]
  | x :: a, [] => by simp [ltL]
  | x :: a, y :: b => by
    rw [ltL, ← ltL_iff a b, Bool.eq_iff_iff]
    simp [List.cons_lt_cons_iff]
theorem ltL_irrefl : ∀ a : List Nat, ltL a a = false
  | [] => rfl
  | x :: a => by rw [ltL, ltL_irrefl a]; simp
theorem ltL_trans : ∀ {a b c : List Nat}, ltL a b = true → ltL b c = true → ltL a c = true
  | [], [], _, h, _ => by cases h
  | [], y :: b, [], _, h => by cases h
  | [], y :: b, z :: c, _, _ => rfl
  | x :: a, [], _, h, _ => by cases h
  | x :: a, y :: b, [], _, h => by cases h
  | x :: a, y :: b, z :: c, h, k => by
    simp only [ltL, Bool.or_eq_true, decide_eq_true_eq, Bool.and_eq_true, beq_iff_eq] at h k ⊢
    rcases h with h | ⟨rfl, h⟩
    · rcases k with k | ⟨rfl, k⟩
      · exact .inl (by first | lia | omega)
      · exact .inl h
    · rcases k with k | ⟨rfl, k⟩
      · exact .inl k
      · exact .inr ⟨rfl, ltL_trans h k⟩
theorem ltL_tri : ∀ a b : List Nat, ltL a b = true ∨ a = b ∨ ltL b a = true
  | [], [] => .inr (.inl rfl)
  | [], _ :: _ => .inl rfl
  | _ :: _, [] => .inr (.inr rfl)
  | x :: a, y :: b => by
    simp only [ltL, Bool.or_eq_true, decide_eq_true_eq, Bool.and_eq_true, beq_iff_eq, List.cons.injEq]
    rcases Nat.lt_trichotomy x y with h | rfl | h
    · exact .inl (.inl h)
    · rcases ltL_tri a b with h | rfl | h
      · exact .inl (.inr ⟨rfl, h⟩)
      · exact .inr (.inl ⟨rfl, rfl⟩)
      · exact .inr (.inr (.inr ⟨rfl, h⟩))
    · exact .inr (.inr (.inl h))
theorem ltL_asymm {a b : List Nat} (h : ltL a b = true) : ltL b a = false := by
  cases q : ltL b a with
  | false => rfl
  | true => rw [← ltL_irrefl a, ltL_trans h q]

theorem u8_lt {x y : Nat} (hx : x < 256) (hy : y < 256) : (x.toUInt8 < y.toUInt8) ↔ x < y := by
  rw [UInt8.lt_iff_toNat_lt, toUInt8_toNat hx, toUInt8_toNat hy]

theorem order_kv : ∀ {a b : List Nat}, (∀ x ∈ a, x < 256) → (∀ x ∈ b, x < 256) → Builtin.Bytes.order (a.map Nat.toUInt8) (b.map Nat.toUInt8) = if ltL a b = true then .lt else if ltL b a = true then .gt else .eq
  | [], [], _, _ => rfl
  | [], _ :: _, _, _ => rfl
  | _ :: _, [], _, _ => rfl
  | x :: a, y :: b, ha, hb => by
    have hx := ha x (.head _)
    have hy := hb y (.head _)
    have ih := order_kv (fun z hz => ha z (.tail _ hz)) (fun z hz => hb z (.tail _ hz))
    simp only [List.map_cons, Builtin.Bytes.order, u8_lt hx hy, u8_lt hy hx, GT.gt, ih, ltL]
    by_cases h1 : x < y
    · simp [h1]
    · by_cases h2 : y < x
      · simp [h1, h2, Nat.ne_of_gt h2]
      · have : x = y := by first | lia | omega
        subst this; simp

theorem beq_kv {a b : List Nat} (ha : ∀ x ∈ a, x < 256) (hb : ∀ x ∈ b, x < 256) : (a.map Nat.toUInt8 == b.map Nat.toUInt8) = (a == b) := by
  rw [← order_eq, order_kv ha hb]
  rcases ltL_tri a b with h | rfl | h
  · rw [if_pos h]
    have : a ≠ b := fun e => by subst e; rw [ltL_irrefl] at h; cases h
    simp [this]
  · simp [ltL_irrefl]
  · rw [if_neg (by rw [ltL_asymm h]; decide), if_pos h]
    have : a ≠ b := fun e => by subst e; rw [ltL_irrefl] at h; cases h
    simp [this]

theorem slot_bytes_lt : Slot "bytes" (cmpInfo .Lt).2.1 "bytes.__lt__" :=
  .of (owner := "bytes") (n := "__lt__") (by rw [typeLookup_type, builtinLookup_eq_fast]; kernel_rfl) (by decide +kernel) (by decide +kernel) (by decide +kernel)
    (by first | exact .inl (by decide +kernel) | exact .inr (by decide +kernel)) (by rw [isSubtype_type]; kernel_rfl)
theorem entry_bytes_lt : entryFor table "bytes.__lt__" = some Builtin.«bytes.__lt__» := entryFor_of_tree (by kernel_rfl)
theorem args_bytes_lt (a b : Value) : argsOk "bytes.__lt__" ⟨[a, b], []⟩ := by unfold argsOk; kernel_rfl
theorem slot_bytes_gt : Slot "bytes" (cmpInfo .Gt).2.1 "bytes.__gt__" :=
  .of (owner := "bytes") (n := "__gt__") (by rw [typeLookup_type, builtinLookup_eq_fast]; kernel_rfl) (by decide +kernel) (by decide +kernel) (by decide +kernel)
    (by first | exact .inl (by decide +kernel) | exact .inr (by decide +kernel)) (by rw [isSubtype_type]; kernel_rfl)
theorem entry_bytes_gt : entryFor table "bytes.__gt__" = some Builtin.«bytes.__gt__» := entryFor_of_tree (by kernel_rfl)
theorem args_bytes_gt (a b : Value) : argsOk "bytes.__gt__" ⟨[a, b], []⟩ := by unfold argsOk; kernel_rfl

theorem gives_bytes_lt (b c : Array UInt8) (t u : Tok) : Gives (Builtin.«bytes.__lt__» ⟨[.bytes b t, .bytes c u], []⟩) (.val (.bool (Builtin.Bytes.order b.toList c.toList == .lt))) := by
  refine .of_wp fun M A E s Q hq => ?_
  show wpAny M A (isInstance (.bytes c u) (.type "bytes") >>= fun r => _) _ E s
  refine wpAny_bind (wpAny_isInstance (typeIs_bytes s c u) F.sub_bytes_bytes ?_)
  exact wpAny_pure ⟨_, rfl, hq⟩
theorem gives_bytes_gt (b c : Array UInt8) (t u : Tok) : Gives (Builtin.«bytes.__gt__» ⟨[.bytes b t, .bytes c u], []⟩) (.val (.bool (Builtin.Bytes.order b.toList c.toList == .gt))) := by
  refine .of_wp fun M A E s Q hq => ?_
  show wpAny M A (isInstance (.bytes c u) (.type "bytes") >>= fun r => _) _ E s
  refine wpAny_bind (wpAny_isInstance (typeIs_bytes s c u) F.sub_bytes_bytes ?_)
  exact wpAny_pure ⟨_, rfl, hq⟩

/-- a key of a kind -/
def KOk (kind : Nat) (a : List Nat) : Prop := kind = 0 ∨ (kind = 1 ∧ ∀ x ∈ a, x < 256)

section
variable {prog : Program} {w : World} {A : Around} {E : Value → Shared → Prop} {s : Shared} {kind : Nat} {a b : List Nat} {t u : Tok} {Q : Value → Shared → Prop}
theorem kvEq (ha : KOk kind a) (hb : KOk kind b) (hq : Q (.bool (a == b)) s) : wpAny (model prog w) A (compareOp .Eq (kv kind a t) (kv kind b u)) Q E s := by
  rcases ha with rfl | ⟨rfl, ha⟩
  · refine P.eq_str (x := ⟨a.toArray⟩) (y := ⟨b.toArray⟩) ?_
    exact hq
  · rcases hb with h | ⟨_, hb⟩
    · cases h
    refine eq_bytes (b := (a.map Nat.toUInt8).toArray) (c := (b.map Nat.toUInt8).toArray) ?_
    show Q (.bool (a.map Nat.toUInt8 == b.map Nat.toUInt8)) s
    rw [beq_kv ha hb]; exact hq
theorem kvLt (ha : KOk kind a) (hb : KOk kind b) (hq : Q (.bool (ltL a b)) s) : wpAny (model prog w) A (compareOp .Lt (kv kind a t) (kv kind b u)) Q E s := by
  rcases ha with rfl | ⟨rfl, ha⟩
  · refine P.lt_str (x := ⟨a.toArray⟩) (y := ⟨b.toArray⟩) ?_
    show Q (.bool (decide (a < b))) s
    rw [ltL_iff]; exact hq
  · rcases hb with h | ⟨_, hb⟩
    · cases h
    refine compareOp_gives (op := .Lt) (typeIs_bytes s (a.map Nat.toUInt8).toArray t) (typeIs_bytes s (b.map Nat.toUInt8).toArray u) slot_bytes_lt entry_bytes_lt (args_bytes_lt _ _) (gives_bytes_lt _ _ t u) (fun e => nomatch e) ?_
    show Q (.bool (Builtin.Bytes.order (a.map Nat.toUInt8) (b.map Nat.toUInt8) == .lt)) s
    rw [order_kv ha hb]
    cases h : ltL a b with
    | true => rw [h] at hq; exact hq
    | false => rw [h] at hq; cases h2 : ltL b a <;> exact hq
theorem kvGt (ha : KOk kind a) (hb : KOk kind b) (hq : Q (.bool (ltL b a)) s) : wpAny (model prog w) A (compareOp .Gt (kv kind a t) (kv kind b u)) Q E s := by
  rcases ha with rfl | ⟨rfl, ha⟩
  · refine P.gt_str (x := ⟨a.toArray⟩) (y := ⟨b.toArray⟩) ?_
    show Q (.bool (decide (b < a))) s
    rw [ltL_iff]; exact hq
  · rcases hb with h | ⟨_, hb⟩
    · cases h
    refine compareOp_gives (op := .Gt) (typeIs_bytes s (a.map Nat.toUInt8).toArray t) (typeIs_bytes s (b.map Nat.toUInt8).toArray u) slot_bytes_gt entry_bytes_gt (args_bytes_gt _ _) (gives_bytes_gt _ _ t u) (fun e => nomatch e) ?_
    show Q (.bool (Builtin.Bytes.order (a.map Nat.toUInt8) (b.map Nat.toUInt8) == .gt)) s
    rw [order_kv ha hb]
    cases h2 : ltL b a with
    | true =>
      rw [h2] at hq
      rw [ltL_asymm h2]; exact hq
    | false => rw [h2] at hq; cases h : ltL a b <;> exact hq
end
end Mine
/- MOrd -/
namespace Mine
open PySem PySem.W PyProof.Rows PySem.Calls
/-- a strict order that tells any two apart -/
structure STO (R : Nat → Nat → Bool) : Prop where
  irr : ∀ a, R a a = false
  tr : ∀ {a b c}, R a b = true → R b c = true → R a c = true
  tot : ∀ a b, R a b = true ∨ a = b ∨ R b a = true
theorem STO.asy {R : Nat → Nat → Bool} (H : STO R) {a b : Nat} (h : R a b = true) : R b a = false := by
  cases q : R b a with
  | false => rfl
  | true => rw [← H.irr a, H.tr h q]

theorem count_pairwise {R : Nat → Nat → Bool} (H : STO R) : ∀ {l : List Nat} (i : Nat) (hi : i < l.length), l.Pairwise (fun a b => R a b = true) → l.countP (fun o => R o l[i]) = i
  | x :: l, 0, _, hp => by
    have hx := (List.pairwise_cons.mp hp).1
    show List.countP (fun o => R o x) (x :: l) = 0
    rw [List.countP_eq_zero]
    intro a ha
    rcases List.mem_cons.mp ha with rfl | ha
    · rw [H.irr]; decide
    · rw [H.asy (hx a ha)]; decide
  | x :: l, i + 1, hi, hp => by
    have hx := (List.pairwise_cons.mp hp)
    have hi' : i < l.length := Nat.lt_of_succ_lt_succ hi
    show List.countP (fun o => R o l[i]) (x :: l) = i + 1
    rw [List.countP_cons, count_pairwise H i hi' hx.2, if_pos (hx.1 _ (List.getElem_mem hi'))]

/-- the order's own list of places -/
noncomputable def srt (R : Nat → Nat → Bool) (n : Nat) : List Nat := (List.range n).mergeSort (fun a b => !R b a)
theorem srt_perm (R : Nat → Nat → Bool) (n : Nat) : (srt R n).Perm (List.range n) := List.mergeSort_perm _ _
theorem srt_len (R : Nat → Nat → Bool) (n : Nat) : (srt R n).length = n := by rw [(srt_perm R n).length_eq, List.length_range]
theorem srt_nodup (R : Nat → Nat → Bool) (n : Nat) : (srt R n).Nodup := (srt_perm R n).nodup_iff.mpr List.nodup_range
theorem srt_sorted {R : Nat → Nat → Bool} (H : STO R) (n : Nat) : (srt R n).Pairwise (fun a b => R a b = true) := by
  have h1 : (srt R n).Pairwise (fun a b => (!R b a) = true) := by
    refine List.pairwise_mergeSort (fun a b c h k => ?_) (fun a b => ?_) _
    · simp only [Bool.not_eq_true'] at h k ⊢
      cases q : R c a with
      | false => rfl
      | true =>
        rcases H.tot a b with e | rfl | e
        · rw [← k, H.tr q e]
        · exact q.symm.trans k
        · exact e.symm.trans h
    · cases q : R b a with
      | false => simp
      | true => simp [H.asy q]
  have h2 := srt_nodup R n
  refine (h1.and h2).imp fun {a b} h => ?_
  obtain ⟨h, hne⟩ := h
  simp only [Bool.not_eq_true'] at h
  rcases H.tot a b with e | rfl | e
  · exact e
  · exact absurd rfl hne
  · rw [h] at e; cases e

def rankF (R : Nat → Nat → Bool) (n p : Nat) : Nat := (List.range n).countP (fun o => R o p)
theorem rank_srt {R : Nat → Nat → Bool} (H : STO R) (n i : Nat) (hi : i < (srt R n).length) : rankF R n (srt R n)[i] = i := by
  unfold rankF
  rw [← (srt_perm R n).countP_eq, count_pairwise H i hi (srt_sorted H n)]
theorem srt_at {R : Nat → Nat → Bool} (H : STO R) {n p : Nat} (hp : p < n) : ∃ i, ∃ hi : i < (srt R n).length, (srt R n)[i] = p ∧ rankF R n p = i := by
  have : p ∈ srt R n := (srt_perm R n).mem_iff.mpr (List.mem_range.mpr hp)
  obtain ⟨i, hi, rfl⟩ := List.mem_iff_getElem.mp this
  exact ⟨i, hi, rfl, rank_srt H n i hi⟩
theorem rank_lt {R : Nat → Nat → Bool} (H : STO R) {n p : Nat} (hp : p < n) : rankF R n p < n := by
  obtain ⟨i, hi, _, e⟩ := srt_at H hp
  rw [e, ← srt_len R n]; exact hi
theorem rank_inj {R : Nat → Nat → Bool} (H : STO R) {n p q : Nat} (hp : p < n) (hq : q < n) (h : rankF R n p = rankF R n q) : p = q := by
  obtain ⟨i, hi, e1, e2⟩ := srt_at H hp
  obtain ⟨j, hj, f1, f2⟩ := srt_at H hq
  have : i = j := by first | lia | omega
  subst this
  rw [← e1, ← f1]
theorem ord_eq {R : Nat → Nat → Bool} (H : STO R) {n : Nat} {acc : List Nat} (hl : acc.length = n) (h : ∀ p, p < n → acc[rankF R n p]? = some p) : acc = srt R n := by
  refine List.ext_getElem (by rw [hl, srt_len]) fun i h1 h2 => ?_
  have hm : (srt R n)[i] < n := List.mem_range.mp ((srt_perm R n).mem_iff.mp (List.getElem_mem h2))
  have := h _ hm
  rw [rank_srt H] at this
  rw [List.getElem?_eq_getElem h1] at this
  exact Option.some.inj this
theorem srt_unique {R : Nat → Nat → Bool} (H : STO R) {n : Nat} {l : List Nat} (hp : l.Perm (List.range n)) (hs : l.Pairwise (fun a b => R a b = true)) : l = srt R n := by
  have hll : l.length = n := by rw [hp.length_eq, List.length_range]
  refine ord_eq H hll fun p hpn => ?_
  have : p ∈ l := hp.mem_iff.mpr (List.mem_range.mpr hpn)
  obtain ⟨i, hi, rfl⟩ := List.mem_iff_getElem.mp this
  have e : rankF R n l[i] = i := by
    unfold rankF
    rw [← hp.countP_eq, count_pairwise H i hi hs]
  rw [e, List.getElem?_eq_getElem hi]

def kl (gt : Bool) (x y : List Nat) : Bool := if gt = true then ltL y x else ltL x y
theorem kl_irr (gt : Bool) (x : List Nat) : kl gt x x = false := by cases gt <;> exact ltL_irrefl x
theorem kl_tr {gt : Bool} {x y z : List Nat} (h : kl gt x y = true) (k : kl gt y z = true) : kl gt x z = true := by
  cases gt
  · exact ltL_trans (a := x) (b := y) (c := z) h k
  · exact ltL_trans (a := z) (b := y) (c := x) k h
theorem kl_tot (gt : Bool) (x y : List Nat) : kl gt x y = true ∨ x = y ∨ kl gt y x = true := by
  cases gt
  · exact ltL_tri x y
  · rcases ltL_tri x y with h | h | h
    · exact .inr (.inr h)
    · exact .inr (.inl h)
    · exact .inl h
theorem kl_asy {gt : Bool} {x y : List Nat} (h : kl gt x y = true) : kl gt y x = false := by
  cases q : kl gt y x with
  | false => rfl
  | true => rw [← kl_irr gt x, kl_tr h q]
theorem kl_prog {gt : Bool} {ko kp : List Nat} (h : ko ≠ kp) : (ltL kp ko == gt) = kl gt ko kp := by
  cases gt
  · show (ltL kp ko == false) = ltL ko kp
    rcases ltL_tri ko kp with q | q | q
    · rw [ltL_asymm q, q]; rfl
    · exact absurd q h
    · rw [ltL_asymm q, q]; rfl
  · show (ltL kp ko == true) = ltL kp ko
    cases ltL kp ko <;> rfl

/-- a stands ahead of b -/
def aheadR (gt : Bool) (k : Nat → List Nat) (a b : Nat) : Bool := if k a == k b then decide (a < b) else kl gt (k a) (k b)
theorem aheadR_eq {gt : Bool} {k : Nat → List Nat} {a b : Nat} (h : k a = k b) : aheadR gt k a b = decide (a < b) := by unfold aheadR; rw [if_pos (by simp [h])]
theorem aheadR_ne {gt : Bool} {k : Nat → List Nat} {a b : Nat} (h : k a ≠ k b) : aheadR gt k a b = kl gt (k a) (k b) := by unfold aheadR; rw [if_neg (by simp [h])]
theorem aheadR_sto (gt : Bool) (k : Nat → List Nat) : STO (aheadR gt k) where
  irr := fun a => by rw [aheadR_eq rfl]; simp
  tr := fun {a b c} h1 h2 => by
    by_cases e1 : k a = k b
    · by_cases e2 : k b = k c
      · rw [aheadR_eq e1] at h1; rw [aheadR_eq e2] at h2; rw [aheadR_eq (e1.trans e2)]
        simp at h1 h2 ⊢; first | lia | omega
      · rw [aheadR_ne e2] at h2
        rw [aheadR_ne (by rw [e1]; exact e2), e1]; exact h2
    · rw [aheadR_ne e1] at h1
      by_cases e2 : k b = k c
      · rw [aheadR_ne (by rw [← e2]; exact e1), ← e2]; exact h1
      · rw [aheadR_ne e2] at h2
        have := kl_tr h1 h2
        rw [aheadR_ne (fun e => by rw [e, kl_irr] at this; cases this)]; exact this
  tot := fun a b => by
    by_cases e : k a = k b
    · rw [aheadR_eq e, aheadR_eq e.symm]
      rcases Nat.lt_trichotomy a b with h | h | h
      · exact .inl (by simpa using h)
      · exact .inr (.inl h)
      · exact .inr (.inr (by simpa using h))
    · rw [aheadR_ne e, aheadR_ne (Ne.symm e)]
      rcases kl_tot gt (k a) (k b) with h | h | h
      · exact .inl h
      · exact absurd h e
      · exact .inr (.inr h)

theorem qF_lt : ∀ (x y : List Nat) (b : Bool), ltL (qF b x) (qF b y) = ltL x y
  | [], [], _ => rfl
  | [], d :: y, b => by rw [qF, qF]; split <;> rfl
  | c :: x, [], b => by rw [qF, qF]; split <;> rfl
  | c :: x, d :: y, b => by
    rw [qF, qF]
    by_cases h1 : (b && c == 46) = true
    · rw [if_pos h1]
      have hc : c = 46 := by simp at h1; exact h1.2
      subst hc
      by_cases h2 : (b && d == 46) = true
      · rw [if_pos h2]
        have hd : d = 46 := by simp at h2; exact h2.2
        subst hd
        simp [ltL, qF_lt x y false]
      · rw [if_neg h2]
        have hd : 46 ≠ d := fun e => h2 (by rw [← e]; exact h1)
        simp only [ltL, beq_false_of_ne hd, Bool.false_and]
    · rw [if_neg h1]
      by_cases h2 : (b && d == 46) = true
      · rw [if_pos h2]
        have hd : d = 46 := by simp at h2; exact h2.2
        subst hd
        have hc : c ≠ 46 := fun e => h1 (by rw [e]; exact h2)
        simp only [ltL, beq_false_of_ne hc, Bool.false_and]
      · rw [if_neg h2]
        by_cases hcd : c = d
        · subst hcd; simp [ltL, qF_lt x y]
        · simp only [ltL, beq_false_of_ne hcd, Bool.false_and]
theorem qF_inj {x y : List Nat} {b : Bool} (h : qF b x = qF b y) : x = y := by
  rcases ltL_tri x y with q | q | q
  · rw [← qF_lt x y b, h, ltL_irrefl] at q; cases q
  · exact q
  · rw [← qF_lt y x b, h, ltL_irrefl] at q; cases q
theorem aheadR_qF (gt b : Bool) (k : Nat → List Nat) : aheadR gt (fun i => qF b (k i)) = aheadR gt k := by
  funext i j
  by_cases e : k i = k j
  · rw [aheadR_eq e, aheadR_eq (k := fun i => qF b (k i)) (by rw [e])]
  · rw [aheadR_ne e, aheadR_ne (k := fun i => qF b (k i)) (fun q => e (qF_inj q))]
    cases gt <;> exact qF_lt ..
end Mine
/- MSortP -/
namespace Mine
open PySem PySem.W PyProof.Rows PySem.Calls
structure TO {α : Type} (lt : α → α → Bool) : Prop where
  irr : ∀ a, lt a a = false
  tr : ∀ {a b c}, lt a b = true → lt b c = true → lt a c = true
  tot : ∀ a b, lt a b = true ∨ a = b ∨ lt b a = true
theorem TO.asy {α : Type} {lt : α → α → Bool} (T : TO lt) {a b : α} (h : lt a b = true) : lt b a = false := by
  cases q : lt b a with
  | false => rfl
  | true => rw [← T.irr a, T.tr h q]

section
variable {α : Type} [DecidableEq α] {lt : α → α → Bool} {k : Nat → α}

/-- by the key, and by the place where keys are one -/
def stab (lt : α → α → Bool) (k : Nat → α) (a b : Nat) : Bool := if k a = k b then decide (a < b) else lt (k a) (k b)
theorem stab_lt (T : TO lt) {a b : Nat} (h : lt (k a) (k b) = true) : stab lt k a b = true := by
  unfold stab
  rw [if_neg (fun e => by rw [e, T.irr] at h; cases h)]; exact h
theorem stab_of (T : TO lt) {a b : Nat} (hn : lt (k b) (k a) = false) (hi : a < b) : stab lt k a b = true := by
  rcases T.tot (k a) (k b) with h | h | h
  · exact stab_lt T h
  · unfold stab; rw [if_pos h]; simpa using hi
  · rw [hn] at h; cases h
theorem stab_not (T : TO lt) {a b : Nat} (h : stab lt k a b = true) : lt (k b) (k a) = false := by
  unfold stab at h
  by_cases e : k a = k b
  · rw [e]; exact T.irr _
  · rw [if_neg e] at h; exact T.asy h
theorem stab_sto (T : TO lt) (k : Nat → α) : STO (stab lt k) where
  irr := fun a => by unfold stab; rw [if_pos rfl]; simp
  tr := fun {a b c} h1 h2 => by
    have n1 := stab_not T h1
    have n2 := stab_not T h2
    rcases T.tot (k a) (k b) with h | h | h
    · rcases T.tot (k b) (k c) with g | g | g
      · exact stab_lt T (T.tr h g)
      · exact stab_lt T (by rw [← g]; exact h)
      · rw [n2] at g; cases g
    · rcases T.tot (k b) (k c) with g | g | g
      · exact stab_lt T (by rw [h]; exact g)
      · unfold stab at h1 h2 ⊢
        rw [if_pos h] at h1; rw [if_pos g] at h2; rw [if_pos (h.trans g)]
        simp at h1 h2 ⊢; first | lia | omega
      · rw [n2] at g; cases g
    · rw [n1] at h; cases h
  tot := fun a b => by
    rcases T.tot (k a) (k b) with h | h | h
    · exact .inl (stab_lt T h)
    · rcases Nat.lt_trichotomy a b with g | g | g
      · exact .inl (stab_of T (by rw [h]; exact T.irr _) g)
      · exact .inr (.inl g)
      · exact .inr (.inr (stab_of T (by rw [h]; exact T.irr _) g))
    · exact .inr (.inr (stab_lt T h))

def runT {β : Type} (c : Nat → Nat → Bool) : KasT β → β
  | .ret a => a
  | .ask i j f => runT c (f (c i j))
theorem runT_bind {β γ : Type} (c : Nat → Nat → Bool) (f : β → KasT γ) : ∀ t : KasT β, runT c (t.bind f) = runT c (f (runT c t))
  | .ret _ => rfl
  | .ask i j g => runT_bind c f (g (c i j))

abbrev gd (p : Array Nat) (i : Nat) : Nat := p.getD i 0
theorem gd_get (p : Array Nat) (i : Nat) : gd p i = (p[i]?).getD 0 := by simp [gd, Array.getD]; split <;> simp_all
theorem gd_rev {p : Array Nat} {i j : Nat} (hj : j ≤ p.size) (q : Nat) : gd (kas_rev p i j) q = if i ≤ q ∧ q < j then gd p (i + j - 1 - q) else gd p q := by
  rw [gd_get, kas_rev, getElem?_mirror_all hj]
  split <;> rw [gd_get]
theorem gd_bub {p : Array Nat} {src d : Nat} (hs : src < p.size) (hd : d ≤ src) (q : Nat) : gd (bubble p src d) q = if q = src - d then gd p src else if src - d < q ∧ q ≤ src then gd p (q - 1) else gd p q := by
  rw [gd_get, getElem?_bubble hs d hd, gd_get p src, gd_get p (q - 1), gd_get p q]
  by_cases h : q = src - d
  · rw [if_pos h, if_pos h]
  · rw [if_neg h, if_neg h]
    by_cases h' : src - d < q ∧ q ≤ src
    · rw [if_pos h', if_pos h']
    · rw [if_neg h', if_neg h']

structure Base (N : Nat) (p : Array Nat) (r : Nat) : Prop where
  sz : p.size = N
  pm : p.toList.Perm (List.range N)
  suf : ∀ i, r ≤ i → i < N → gd p i = i
  low : ∀ i, i < r → gd p i < r
  le : r ≤ N
theorem Base.succ {N r : Nat} {p : Array Nat} (B : Base N p r) (h : r < N) : Base N p (r + 1) :=
  ⟨B.sz, B.pm, fun i h1 h2 => B.suf i (by first | lia | omega) h2, fun i h1 => by
    by_cases e : i = r
    · rw [e, B.suf r (Nat.le_refl _) h]; first | lia | omega
    · have := B.low i (by first | lia | omega); first | lia | omega, h⟩
theorem Base.upto {N r : Nat} {p : Array Nat} (B : Base N p r) : ∀ m, r + m ≤ N → Base N p (r + m)
  | 0, _ => B
  | m + 1, h => (B.upto m (by first | lia | omega)).succ (by first | lia | omega)
theorem Base.rev {N r i j : Nat} {p : Array Nat} (B : Base N p r) (hj : j ≤ r) : Base N (kas_rev p i j) r := by
  have hs : j ≤ p.size := by rw [B.sz]; exact Nat.le_trans hj B.le
  refine ⟨by rw [kas_rev, mirror_size]; exact B.sz, (Array.perm_iff_toList_perm.mp (mirror_perm ..)).trans B.pm, fun q h1 h2 => ?_, fun q h1 => ?_, B.le⟩
  · rw [gd_rev hs, if_neg (by first | lia | omega)]; exact B.suf q h1 h2
  · rw [gd_rev hs]
    split
    · exact B.low _ (by first | lia | omega)
    · exact B.low _ h1

/-- the first r lie in order -/
def Asc (R : Nat → Nat → Bool) (p : Array Nat) (r : Nat) : Prop := ∀ i j, i < j → j < r → R (gd p i) (gd p j) = true
def Des (R : Nat → Nat → Bool) (p : Array Nat) (r : Nat) : Prop := ∀ i j, i < j → j < r → R (gd p j) (gd p i) = true
theorem Des.rev {R : Nat → Nat → Bool} {p : Array Nat} {r : Nat} (D : Des R p r) (hr : r ≤ p.size) : Asc R (kas_rev p 0 r) r := fun i j h1 h2 => by
  rw [gd_rev hr, gd_rev hr, if_pos (by first | lia | omega), if_pos (by first | lia | omega)]
  exact D _ _ (by first | lia | omega) (by first | lia | omega)
theorem Asc.rev {R : Nat → Nat → Bool} {p : Array Nat} {r : Nat} (D : Asc R p r) (hr : r ≤ p.size) : Des R (kas_rev p 0 r) r := fun i j h1 h2 => by
  rw [gd_rev hr, gd_rev hr, if_pos (by first | lia | omega), if_pos (by first | lia | omega)]
  exact D _ _ (by first | lia | omega) (by first | lia | omega)

theorem asc_spec (c : Nat → Nat → Bool) (p : Array Nat) : ∀ f n, n ≤ runT c (kas_asc p f n) ∧ runT c (kas_asc p f n) ≤ n + f ∧ (∀ i, n ≤ i → i < runT c (kas_asc p f n) → c (gd p i) (gd p (i - 1)) = false) ∧
    (runT c (kas_asc p f n) < n + f → c (gd p (runT c (kas_asc p f n))) (gd p (runT c (kas_asc p f n) - 1)) = true)
  | 0, n => by
    show n ≤ n ∧ n ≤ n + 0 ∧ _ ∧ (n < n + 0 → _)
    exact ⟨Nat.le_refl _, Nat.le_refl _, (fun i h1 (h2 : i < n) => absurd h1 (by first | lia | omega)), fun h => absurd h (by first | lia | omega)⟩
  | f + 1, n => by
    have e : runT c (kas_asc p (f + 1) n) = runT c (if c (gd p n) (gd p (n - 1)) = true then .ret n else kas_asc p f (n + 1)) := rfl
    cases h : c (gd p n) (gd p (n - 1)) with
    | true =>
      rw [h, if_pos rfl] at e
      have e : runT c (kas_asc p (f + 1) n) = n := e
      rw [e]
      exact ⟨Nat.le_refl _, by first | lia | omega, fun i h1 h2 => absurd h1 (by first | lia | omega), fun _ => h⟩
    | false =>
      rw [h, if_neg (by decide)] at e
      rw [e]
      obtain ⟨a1, a2, a3, a4⟩ := asc_spec c p f (n + 1)
      refine ⟨by first | lia | omega, by first | lia | omega, fun i h1 h2 => ?_, fun hl => a4 (by first | lia | omega)⟩
      by_cases e' : i = n
      · rw [e']; exact h
      · exact a3 i (by first | lia | omega) h2

theorem Asc.ext (T : TO lt) {N r : Nat} {p : Array Nat} (hr : 1 ≤ r) (B : Base N p r) (H : Asc (stab lt k) p r) : ∀ m, r + m ≤ N → (∀ i, r ≤ i → i < r + m → lt (k (gd p i)) (k (gd p (i - 1))) = false) → Asc (stab lt k) p (r + m)
  | 0, _, _ => H
  | m + 1, hm, hn => by
    have ih := H.ext T hr B m (by first | lia | omega) fun i h1 h2 => hn i h1 (by first | lia | omega)
    have B' := B.upto m (by first | lia | omega)
    have last : stab lt k (gd p (r + m - 1)) (gd p (r + m)) = true := by
      refine stab_of T (hn (r + m) (by first | lia | omega) (by first | lia | omega)) ?_
      have := B'.low (r + m - 1) (by first | lia | omega)
      rw [B'.suf (r + m) (Nat.le_refl _) (by first | lia | omega)]; exact this
    intro i j h1 h2
    by_cases e : j = r + m
    · subst e
      by_cases e' : i = r + m - 1
      · rw [e']; exact last
      · exact (stab_sto T k).tr (ih i (r + m - 1) (by first | lia | omega) (by first | lia | omega)) last
    · exact ih i j h1 (by first | lia | omega)

structure Dsc (lt : α → α → Bool) (k : Nat → α) (N : Nat) (p : Array Nat) (m q : Nat) : Prop where
  B : Base N p m
  hq : q + 1 ≤ m
  a : ∀ i j, i < j → j < m - (q + 1) → stab lt k (gd p j) (gd p i) = true
  b : ∀ i j, m - (q + 1) ≤ i → i < j → j < m → k (gd p i) = k (gd p j) ∧ gd p i < gd p j
  c : ∀ i j, i < m - (q + 1) → m - (q + 1) ≤ j → j < m → lt (k (gd p j)) (k (gd p i)) = true
theorem Dsc.flip (T : TO lt) {N m q : Nat} {p : Array Nat} (D : Dsc lt k N p m q) : Des (stab lt k) (kas_rev p (m - (q + 1)) m) m := fun i j h1 h2 => by
  have hs : m ≤ p.size := by rw [D.B.sz]; exact D.B.le
  have hq := D.hq
  rw [gd_rev hs, gd_rev hs]
  by_cases hj : m - (q + 1) ≤ j
  · rw [if_pos (⟨hj, h2⟩ : m - (q + 1) ≤ j ∧ j < m)]
    by_cases hi : m - (q + 1) ≤ i
    · rw [if_pos (⟨hi, by first | lia | omega⟩ : m - (q + 1) ≤ i ∧ i < m)]
      obtain ⟨e, l⟩ := D.b (m - (q + 1) + m - 1 - j) (m - (q + 1) + m - 1 - i) (by first | lia | omega) (by first | lia | omega) (by first | lia | omega)
      exact stab_of T (by rw [e]; exact T.irr _) l
    · rw [if_neg (fun h => hi h.1)]
      exact stab_lt T (D.c i _ (by first | lia | omega) (by first | lia | omega) (by first | lia | omega))
  · rw [if_neg (fun h => hj h.1), if_neg (fun h => hj (by first | lia | omega))]
    exact D.a i j h1 (by first | lia | omega)
theorem rev_id (p : Array Nat) (m : Nat) : kas_rev p (m - (0 + 1)) m = p := by
  unfold kas_rev
  rw [show (m - (m - (0 + 1))) / 2 = 0 by first | lia | omega]
  rfl
theorem Dsc.down (T : TO lt) {N m q : Nat} {p : Array Nat} (D : Dsc lt k N p m q) (hm : m < N) (hc : lt (k (gd p m)) (k (gd p (m - 1))) = true) : Dsc lt k N (kas_rev p (m - (q + 1)) m) (m + 1) 0 := by
  have hs : m ≤ p.size := by rw [D.B.sz]; exact D.B.le
  have hq := D.hq
  refine ⟨(D.B.rev (Nat.le_refl _)).succ hm, by first | lia | omega, fun i j h1 h2 => D.flip T i j h1 (by first | lia | omega), fun i j h1 h2 h3 => absurd h2 (by first | lia | omega), fun i j h1 h2 h3 => ?_⟩
  have hj : j = m := by first | lia | omega
  subst hj
  rw [gd_rev hs, gd_rev hs, if_neg (by first | lia | omega)]
  have key : ∀ x, x < j → lt (k (gd p j)) (k (gd p x)) = true := fun x hx => by
    by_cases e : j - (q + 1) ≤ x
    · by_cases e' : x = j - 1
      · rw [e']; exact hc
      · rw [(D.b x (j - 1) e (by first | lia | omega) (by first | lia | omega)).1]; exact hc
    · exact T.tr hc (D.c x (j - 1) (by first | lia | omega) (by first | lia | omega) (by first | lia | omega))
  split
  · exact key _ (by first | lia | omega)
  · exact key _ (by first | lia | omega)
theorem Dsc.same (T : TO lt) {N m q : Nat} {p : Array Nat} (D : Dsc lt k N p m q) (hm : m < N) (h1 : lt (k (gd p m)) (k (gd p (m - 1))) = false) (h2 : lt (k (gd p (m - 1))) (k (gd p m)) = false) : Dsc lt k N p (m + 1) (q + 1) := by
  have hq := D.hq
  have e : k (gd p (m - 1)) = k (gd p m) := by
    rcases T.tot (k (gd p (m - 1))) (k (gd p m)) with h | h | h
    · rw [h2] at h; cases h
    · exact h
    · rw [h1] at h; cases h
  have em : m + 1 - (q + 1 + 1) = m - (q + 1) := by first | lia | omega
  refine ⟨D.B.succ hm, by first | lia | omega, fun i j l1 l2 => D.a i j l1 (by first | lia | omega), fun i j l1 l2 l3 => ?_, fun i j l1 l2 l3 => ?_⟩
  · rw [em] at l1
    by_cases hj : j = m
    · subst hj
      refine ⟨?_, by rw [D.B.suf j (Nat.le_refl _) hm]; exact D.B.low i l2⟩
      by_cases hi : i = j - 1
      · rw [hi]; exact e
      · rw [(D.b i (j - 1) l1 (by first | lia | omega) (by first | lia | omega)).1]; exact e
    · exact D.b i j l1 l2 (by first | lia | omega)
  · rw [em] at l1 l2
    by_cases hj : j = m
    · subst hj
      rw [← e]; exact D.c i (j - 1) l1 (by first | lia | omega) (by first | lia | omega)
    · exact D.c i j l1 l2 (by first | lia | omega)

theorem desc_spec (T : TO lt) {N : Nat} : ∀ f p m q, m + f = N → Dsc lt k N p m q →
    Dsc lt k N (runT (fun i j => lt (k i) (k j)) (kas_desc f p m q)).1 (runT (fun i j => lt (k i) (k j)) (kas_desc f p m q)).2.1 (runT (fun i j => lt (k i) (k j)) (kas_desc f p m q)).2.2
  | 0, p, m, q, _, D => D
  | f + 1, p, m, q, hf, D => by
    have e : runT (fun i j => lt (k i) (k j)) (kas_desc (f + 1) p m q) = runT (fun i j => lt (k i) (k j)) (if lt (k (gd p m)) (k (gd p (m - 1))) = true then (if q > 0 then kas_desc f (kas_rev p (m - (q + 1)) m) (m + 1) 0 else kas_desc f p (m + 1) 0)
      else .ask (gd p (m - 1)) (gd p m) fun d => if d = true then .ret (p, m, q) else kas_desc f p (m + 1) (q + 1)) := rfl
    rw [e]
    cases h1 : lt (k (gd p m)) (k (gd p (m - 1))) with
    | true =>
      rw [if_pos rfl]
      have D' := D.down T (by first | lia | omega) h1
      by_cases hq : q > 0
      · rw [if_pos hq]
        exact desc_spec T f _ _ _ (by first | lia | omega) D'
      · rw [if_neg hq]
        have : q = 0 := by first | lia | omega
        subst this
        rw [rev_id] at D'
        exact desc_spec T f _ _ _ (by first | lia | omega) D'
    | false =>
      rw [if_neg (by decide)]
      show Dsc lt k N (runT _ (if lt (k (gd p (m - 1))) (k (gd p m)) = true then .ret (p, m, q) else kas_desc f p (m + 1) (q + 1))).1 (runT _ (if lt (k (gd p (m - 1))) (k (gd p m)) = true then .ret (p, m, q) else kas_desc f p (m + 1) (q + 1))).2.1 (runT _ (if lt (k (gd p (m - 1))) (k (gd p m)) = true then .ret (p, m, q) else kas_desc f p (m + 1) (q + 1))).2.2
      cases h2 : lt (k (gd p (m - 1))) (k (gd p m)) with
      | true => rw [if_pos rfl]; exact D
      | false =>
        rw [if_neg (by decide)]
        exact desc_spec T f _ _ _ (by first | lia | omega) (D.same T (by first | lia | omega) h1 h2)

theorem tail_spec (T : TO lt) {N n : Nat} {p : Array Nat} (hn : 1 ≤ n) (B : Base N p n) (D : Des (stab lt k) p n) :
    Base N (runT (fun i j => lt (k i) (k j)) (kas_tail3 n N p)).2 (runT (fun i j => lt (k i) (k j)) (kas_tail3 n N p)).1 ∧ Asc (stab lt k) (runT (fun i j => lt (k i) (k j)) (kas_tail3 n N p)).2 (runT (fun i j => lt (k i) (k j)) (kas_tail3 n N p)).1 ∧ 1 ≤ (runT (fun i j => lt (k i) (k j)) (kas_tail3 n N p)).1 := by
  unfold kas_tail3
  rw [runT_bind]
  obtain ⟨a1, a2, a3, a4⟩ := asc_spec (fun i j => lt (k i) (k j)) (kas_rev p 0 n) (N - n) n
  generalize runT (fun i j => lt (k i) (k j)) (kas_asc (kas_rev p 0 n) (N - n) n) = m at *
  show Base N (kas_rev p 0 n) m ∧ Asc (stab lt k) (kas_rev p 0 n) m ∧ 1 ≤ m
  have B' := B.rev (i := 0) (Nat.le_refl n)
  have hle := B.le
  have A' := D.rev (by rw [B.sz]; exact hle)
  obtain ⟨d, rfl⟩ := Nat.exists_eq_add_of_le a1
  exact ⟨B'.upto d (by first | lia | omega), A'.ext T hn B' d (by first | lia | omega) a3, by first | lia | omega⟩

theorem descPart_spec (T : TO lt) {N n : Nat} {p : Array Nat} (hn : n < N) (D : Dsc lt k N p (n + 1) 0) :
    Base N (runT (fun i j => lt (k i) (k j)) (kas_descPart n N p)).2 (runT (fun i j => lt (k i) (k j)) (kas_descPart n N p)).1 ∧ Asc (stab lt k) (runT (fun i j => lt (k i) (k j)) (kas_descPart n N p)).2 (runT (fun i j => lt (k i) (k j)) (kas_descPart n N p)).1 ∧ 1 ≤ (runT (fun i j => lt (k i) (k j)) (kas_descPart n N p)).1 := by
  unfold kas_descPart
  rw [runT_bind]
  have D' := desc_spec T (N - (n + 1)) p (n + 1) 0 (by first | lia | omega) D
  generalize runT (fun i j => lt (k i) (k j)) (kas_desc (N - (n + 1)) p (n + 1) 0) = r at *
  obtain ⟨p', m, q⟩ := r
  have hq := D'.hq
  simp only at D' hq ⊢
  have Fl := D'.flip T
  have B' := D'.B.rev (i := m - (q + 1)) (Nat.le_refl m)
  by_cases h : q > 0
  · rw [if_pos h]
    exact tail_spec T (by first | lia | omega) B' Fl
  · rw [if_neg h]
    have : q = 0 := by first | lia | omega
    subst this
    rw [rev_id] at Fl
    exact tail_spec T (by first | lia | omega) D'.B Fl

theorem base0 (N : Nat) (h : 1 ≤ N) : Base N (List.toArray (List.range N)) 1 := by
  have hg : ∀ i, i < N → gd (List.toArray (List.range N)) i = i := fun i hi => by simp [gd, Array.getD, hi]
  exact ⟨by simp, by simp, fun i _ h2 => hg i h2, fun i h1 => by rw [hg i (by first | lia | omega)]; exact h1, h⟩

theorem count_spec (T : TO lt) {N : Nat} (hN : 1 ≤ N) :
    Base N (runT (fun i j => lt (k i) (k j)) (kas_count N (List.toArray (List.range N)))).2 (runT (fun i j => lt (k i) (k j)) (kas_count N (List.toArray (List.range N)))).1 ∧
      Asc (stab lt k) (runT (fun i j => lt (k i) (k j)) (kas_count N (List.toArray (List.range N)))).2 (runT (fun i j => lt (k i) (k j)) (kas_count N (List.toArray (List.range N)))).1 ∧
      1 ≤ (runT (fun i j => lt (k i) (k j)) (kas_count N (List.toArray (List.range N)))).1 := by
  have B0 := base0 N hN
  generalize List.toArray (List.range N) = p at *
  unfold kas_count
  rw [runT_bind]
  obtain ⟨a1, a2, a3, a4⟩ := asc_spec (fun i j => lt (k i) (k j)) p (N - 1) 1
  generalize runT (fun i j => lt (k i) (k j)) (kas_asc p (N - 1) 1) = m at *
  obtain ⟨d, rfl⟩ := Nat.exists_eq_add_of_le a1
  have B1 := B0.upto d (by first | lia | omega)
  have A1 : Asc (stab lt k) p (1 + d) := Asc.ext T (Nat.le_refl 1) B0 (fun i j h1 h2 => absurd h1 (by first | lia | omega)) d (by first | lia | omega) a3
  have hs : 1 + d ≤ p.size := by rw [B1.sz]; exact B1.le
  by_cases e : (1 + d == N) = true
  · rw [if_pos e]; exact ⟨B1, A1, by show 1 ≤ 1 + d; first | lia | omega⟩
  · rw [if_neg e]
    have hlt : 1 + d < N := by
      have : 1 + d ≠ N := by simpa using e
      first | lia | omega
    have hc := a4 (by first | lia | omega)
    by_cases h1 : 1 + d > 1
    · rw [if_pos h1]
      show Base N (runT _ (if lt (k (gd p 0)) (k (gd p (1 + d - 1))) = true then .ret (1 + d, p) else kas_descPart (1 + d) N (kas_rev p 0 (1 + d)))).2 (runT _ (if lt (k (gd p 0)) (k (gd p (1 + d - 1))) = true then .ret (1 + d, p) else kas_descPart (1 + d) N (kas_rev p 0 (1 + d)))).1 ∧ Asc (stab lt k) (runT _ (if lt (k (gd p 0)) (k (gd p (1 + d - 1))) = true then .ret (1 + d, p) else kas_descPart (1 + d) N (kas_rev p 0 (1 + d)))).2 (runT _ (if lt (k (gd p 0)) (k (gd p (1 + d - 1))) = true then .ret (1 + d, p) else kas_descPart (1 + d) N (kas_rev p 0 (1 + d)))).1 ∧ 1 ≤ (runT _ (if lt (k (gd p 0)) (k (gd p (1 + d - 1))) = true then .ret (1 + d, p) else kas_descPart (1 + d) N (kas_rev p 0 (1 + d)))).1
      cases h2 : lt (k (gd p 0)) (k (gd p (1 + d - 1))) with
      | true => rw [if_pos rfl]; exact ⟨B1, A1, by show 1 ≤ 1 + d; first | lia | omega⟩
      | false =>
        rw [if_neg (by decide)]
        refine descPart_spec T hlt ?_
        have Br := (B1.rev (i := 0) (Nat.le_refl _)).succ hlt
        have De := A1.rev hs
        refine ⟨Br, by first | lia | omega, fun i j l1 l2 => De i j l1 (by first | lia | omega), fun i j l1 l2 l3 => absurd l2 (by first | lia | omega), fun i j l1 l2 l3 => ?_⟩
        have hj : j = 1 + d := by first | lia | omega
        subst hj
        rw [gd_rev hs, gd_rev hs, if_neg (by first | lia | omega), if_pos (by first | lia | omega)]
        have all : ∀ x, x < 1 + d → k (gd p x) = k (gd p (1 + d - 1)) := fun x hx => by
          have u1 : lt (k (gd p x)) (k (gd p 0)) = false := by
            by_cases ex : x = 0
            · rw [ex]; exact T.irr _
            · exact stab_not T (A1 0 x (by first | lia | omega) hx)
          have u2 : lt (k (gd p (1 + d - 1))) (k (gd p x)) = false := by
            by_cases ex : x = 1 + d - 1
            · rw [← ex]; exact T.irr _
            · exact stab_not T (A1 x (1 + d - 1) (by first | lia | omega) (by first | lia | omega))
          rcases T.tot (k (gd p x)) (k (gd p (1 + d - 1))) with g | g | g
          · rcases T.tot (k (gd p 0)) (k (gd p x)) with f | f | f
            · rw [T.tr f g] at h2; cases h2
            · rw [f, g] at h2; cases h2
            · rw [u1] at f; cases f
          · exact g
          · rw [u2] at g; cases g
        rw [all (0 + (1 + d) - 1 - i) (by first | lia | omega)]; exact hc
    · rw [if_neg h1]
      have : d = 0 := by first | lia | omega
      subst this
      refine descPart_spec T hlt ⟨B1.succ hlt, by first | lia | omega, fun i j l1 l2 => absurd l1 (by first | lia | omega), fun i j l1 l2 l3 => absurd l2 (by first | lia | omega), fun i j l1 l2 l3 => ?_⟩
      have hj : j = 1 := by first | lia | omega
      have hi : i = 0 := by first | lia | omega
      subst hj hi
      exact hc

theorem place_spec (c : Nat → Nat → Bool) (p : Array Nat) (kk : Nat) : ∀ f l r, l ≤ r → r ≤ kk → r - l ≤ f →
    (∀ i j, i ≤ j → j < kk → c (gd p kk) (gd p i) = true → c (gd p kk) (gd p j) = true) →
    (∀ i, i < l → c (gd p kk) (gd p i) = false) → (∀ i, r ≤ i → i < kk → c (gd p kk) (gd p i) = true) →
    runT c (kas_place p kk f l r) ≤ kk ∧ (∀ i, i < runT c (kas_place p kk f l r) → c (gd p kk) (gd p i) = false) ∧ (∀ i, runT c (kas_place p kk f l r) ≤ i → i < kk → c (gd p kk) (gd p i) = true)
  | 0, l, r, h1, h2, h3, _, hl, hr => by
    show l ≤ kk ∧ (∀ i, i < l → _) ∧ (∀ i, l ≤ i → _)
    exact ⟨by first | lia | omega, hl, fun i g1 g2 => hr i (by first | lia | omega) g2⟩
  | f + 1, l, r, h1, h2, h3, mono, hl, hr => by
    have e : runT c (kas_place p kk (f + 1) l r) = runT c (if l ≥ r then .ret l else .ask (gd p kk) (gd p ((l + r) / 2)) fun d => if d = true then kas_place p kk f l ((l + r) / 2) else kas_place p kk f ((l + r) / 2 + 1) r) := rfl
    by_cases hge : l ≥ r
    · rw [if_pos hge] at e
      have e : runT c (kas_place p kk (f + 1) l r) = l := e
      rw [e]
      exact ⟨by first | lia | omega, hl, fun i g1 g2 => hr i (by first | lia | omega) g2⟩
    · rw [if_neg hge] at e
      have e : runT c (kas_place p kk (f + 1) l r) = runT c (if c (gd p kk) (gd p ((l + r) / 2)) = true then kas_place p kk f l ((l + r) / 2) else kas_place p kk f ((l + r) / 2 + 1) r) := e
      cases hc : c (gd p kk) (gd p ((l + r) / 2)) with
      | true =>
        rw [hc, if_pos rfl] at e
        rw [e]
        exact place_spec c p kk f l ((l + r) / 2) (by first | lia | omega) (by first | lia | omega) (by first | lia | omega) mono hl fun i g1 g2 => mono _ _ g1 g2 hc
      | false =>
        rw [hc, if_neg (by decide)] at e
        rw [e]
        refine place_spec c p kk f ((l + r) / 2 + 1) r (by first | lia | omega) (by first | lia | omega) (by first | lia | omega) mono (fun i g1 => ?_) hr
        cases q : c (gd p kk) (gd p i) with
        | false => rfl
        | true => rw [mono i ((l + r) / 2) (by first | lia | omega) (by first | lia | omega) q] at hc; cases hc

theorem bin_spec (T : TO lt) {N : Nat} : ∀ f p m, m + f = N → Base N p m → Asc (stab lt k) p m →
    Base N (runT (fun i j => lt (k i) (k j)) (kas_bin f p m)) N ∧ Asc (stab lt k) (runT (fun i j => lt (k i) (k j)) (kas_bin f p m)) N
  | 0, p, m, hf, B, H => by
    have : m = N := by first | lia | omega
    subst this; exact ⟨B, H⟩
  | f + 1, p, m, hf, B, H => by
    have e : runT (fun i j => lt (k i) (k j)) (kas_bin (f + 1) p m) = runT (fun i j => lt (k i) (k j)) ((kas_place p m m 0 m).bind fun l => kas_bin f (bubble p m (m - l)) (m + 1)) := rfl
    rw [e, runT_bind]
    have hm : m < N := by first | lia | omega
    have hs : m < p.size := by rw [B.sz]; exact hm
    obtain ⟨b1, b2, b3⟩ := place_spec (fun i j => lt (k i) (k j)) p m m 0 m (by first | lia | omega) (Nat.le_refl _) (by first | lia | omega) (fun i j g1 g2 g3 => by
        by_cases ij : i = j
        · rw [← ij]; exact g3
        · have := stab_not T (H i j (by first | lia | omega) g2)
          rcases T.tot (k (gd p i)) (k (gd p j)) with g | g | g
          · exact T.tr g3 g
          · show lt (k (gd p m)) (k (gd p j)) = true; rw [← g]; exact g3
          · rw [this] at g; cases g) (fun i h => absurd h (by first | lia | omega)) (fun i h1 h2 => absurd h1 (by first | lia | omega))
    generalize runT (fun i j => lt (k i) (k j)) (kas_place p m m 0 m) = l at *
    have gb := gd_bub (p := p) (src := m) (d := m - l) hs (by first | lia | omega)
    have hl : m - (m - l) = l := by first | lia | omega
    rw [hl] at gb
    have hself : gd p m = m := B.suf m (Nat.le_refl _) hm
    refine bin_spec T f _ (m + 1) (by first | lia | omega) ⟨by rw [bubble_size]; exact B.sz, (Array.perm_iff_toList_perm.mp (bubble_perm ..)).trans B.pm, fun i h1 h2 => ?_, fun i h1 => ?_, hm⟩ fun i j h1 h2 => ?_
    · rw [gb, if_neg (by first | lia | omega), if_neg (by first | lia | omega)]; exact B.suf i (by first | lia | omega) h2
    · rw [gb]
      by_cases i1 : i = l
      · rw [if_pos i1, hself]; first | lia | omega
      · rw [if_neg i1]
        by_cases i2 : l < i ∧ i ≤ m
        · rw [if_pos i2]; have := B.low (i - 1) (by first | lia | omega); first | lia | omega
        · rw [if_neg i2]; have := B.low i (by first | lia | omega); first | lia | omega
    · have before : ∀ i, i < l → stab lt k (gd p i) (gd p m) = true := fun i hi => stab_of T (b2 i hi) (by rw [hself]; exact B.low i (by first | lia | omega))
      have after : ∀ i, l ≤ i → i < m → stab lt k (gd p m) (gd p i) = true := fun i g1 g2 => stab_lt T (b3 i g1 g2)
      rw [gb, gb]
      by_cases i1 : i = l
      · rw [if_pos i1, if_neg (by first | lia | omega), if_pos (by first | lia | omega)]
        exact after _ (by first | lia | omega) (by first | lia | omega)
      · rw [if_neg i1]
        by_cases i2 : l < i ∧ i ≤ m
        · rw [if_pos i2, if_neg (by first | lia | omega), if_pos (by first | lia | omega)]
          exact H _ _ (by first | lia | omega) (by first | lia | omega)
        · rw [if_neg i2]
          by_cases j1 : j = l
          · rw [if_pos j1]; exact before i (by first | lia | omega)
          · rw [if_neg j1]
            by_cases j2 : l < j ∧ j ≤ m
            · rw [if_pos j2]
              exact H _ _ (by first | lia | omega) (by first | lia | omega)
            · rw [if_neg j2]; exact H i j h1 (by first | lia | omega)

theorem sort_spec (T : TO lt) (k : Nat → α) {N : Nat} (hN : 1 ≤ N) : (runT (fun i j => lt (k i) (k j)) (kas_sort N)).toList = srt (stab lt k) N := by
  have fin : ∀ p, Base N p N → Asc (stab lt k) p N → p.toList = srt (stab lt k) N := fun p B H => by
    refine srt_unique (stab_sto T k) B.pm (List.pairwise_iff_getElem.mpr fun i j hi hj hij => ?_)
    have hl : p.toList.length = N := by rw [Array.length_toList, B.sz]
    have hg : ∀ i (h : i < p.toList.length), p.toList[i] = gd p i := fun i h => by
      have h' : i < p.size := by simpa using h
      simp [gd, Array.getD, h']
    rw [hg i hi, hg j hj]
    exact H i j hij (by first | lia | omega)
  unfold kas_sort
  rw [runT_bind]
  obtain ⟨c1, c2, c3⟩ := count_spec (k := k) T hN
  generalize runT (fun i j => lt (k i) (k j)) (kas_count N (List.toArray (List.range N))) = r at *
  obtain ⟨m, p⟩ := r
  simp only at c1 c2 c3 ⊢
  have hle := c1.le
  by_cases h : m < N
  · rw [if_pos h, show max m 1 = m by first | lia | omega]
    obtain ⟨d1, d2⟩ := bin_spec T (N - m) p m (by first | lia | omega) c1 c2
    exact fin _ d1 d2
  · rw [if_neg h]
    have : m = N := by first | lia | omega
    subst this
    exact fin _ c1 c2
end
end Mine
/- MOrder -/
namespace Mine
open PySem PySem.W PyProof.Rows PySem.Calls
section
variable {prog : Program} {w : World} {A : Around} {E : Value → Shared → Prop} {s : Shared} {b h h' : Heap} {tk : Nat} {L d : Addr} {o : Obj} {al : List (Str × Value)} {news news' : List (Addr × Obj)}
theorem St.fresh' (S : St b L h al news) (hk : Keeps h h') (hn : h.get? d = none) (ho : h'.get? d = some o) : St b L h' al ((d, o) :: news) := by
  have S' := S.grow hk
  refine ⟨S'.fr, fun p hp => ?_⟩
  rcases List.mem_cons.mp hp with rfl | hp
  · refine ⟨ho, fun e => ?_, ?_⟩
    · obtain ⟨⟨m, F, _⟩, _⟩ := S
      obtain ⟨oL, _, _, hL, _⟩ := F.ns
      have e : d = L := e
      rw [e, hL] at hn; cases hn
    · cases q : b.get? d with
      | none => rfl
      | some o' => rw [S.keep _ _ q] at hn; cases hn
  · exact S'.N p hp
theorem mulE {l : Addr} {vs ws : List Value} {ep : Nat} {x : Int} {u : Tok} {Q : Value → Shared → Prop} (S : St b L h al news) (hl : h.get? l = some (listOf vs.toArray ep)) (h0 : 0 ≤ x) (hsz : vs.length * x.toNat ≤ 256) (h1 : x ≤ 256) (e : (List.replicate x.toNat vs).flatten = ws)
    (hq : ∀ D h', St b L h' al ((D, listOf ws.toArray 0) :: news) → (∀ p ∈ news, p.1 < D) → Q (.ref D) (sh s h' tk)) : wpAny (model prog w) A (binaryOp .Mult (.ref l) (.int x u)) Q E (sh s h tk) := by
  obtain ⟨⟨m, F, hm⟩, N⟩ := S
  exact KMa.mul (s := sh s h tk) F N ⟨_, hl, rfl, _, rfl⟩ (by first | lia | omega) (by first | lia | omega) hsz e fun D h' F' N' hlt => hq D h' ⟨⟨m, F', hm⟩, N'⟩ hlt
abbrev rangeO (a n c : Int) (t1 t2 t3 : Tok) : Obj := { cls := .type "range", data := .fields #[.int a t1, .int n t2, .int c t3] }
theorem iterRg {r : Addr} {n : Int} {t1 t2 t3 : Tok} {Q : Value → Shared → Prop} (S : St b L h al news) (hr : h.get? r = some (rangeO 0 n 1 t1 t2 t3)) (h0 : 0 ≤ n) (h1 : n < 2 ^ 62)
    (hq : ∀ it h', St b L h' al ((it, rangeIt 0 n 1) :: news) → (∀ p ∈ news, p.1 < it) → Q (.ref it) (sh s h' tk)) : wpAny (model prog w) A (pyIter (.ref r)) Q E (sh s h tk) := by
  refine wpAny_pyIter_range (s := sh s h tk) hr ?_ ?_
  · simp [Builtin.Range.small, Builtin.Range.rangeFitsLong, rangeSize_one]; split <;> first | lia | omega
  · rw [show Builtin.Range.rangeSize 0 n 1 = n by rw [rangeSize_one]; split <;> first | lia | omega]
    exact hq _ _ (S.push _) S.below
end

theorem intsAre_set {vs : List Value} {l : List Nat} (h : IntsAre vs (l.map Int.ofNat)) (i x : Nat) (t : Tok) : IntsAre (vs.set i (.int (x : Int) t)) ((l.set i x).map Int.ofNat) := by
  induction l generalizing vs i with
  | nil => cases h; exact .nil
  | cons y r ih =>
    cases h with
    | cons _ u h' =>
      cases i with
      | zero => exact .cons _ t h'
      | succ i => exact .cons _ u (ih h' i)
theorem intsAre_rep (n : Nat) (t : Tok) : IntsAre (List.replicate n (.int 0 t)) ((List.replicate n 0).map Int.ofNat) := by
  induction n with
  | zero => exact .nil
  | succ n ih => exact .cons 0 t ih

def kF (ks : List (List Nat × Tok)) (i : Nat) : List Nat := (ks.getD i ([], 0)).1
theorem kvs_get {kind : Nat} {ks : List (List Nat × Tok)} {i : Nat} (hi : i < ks.length) : ∃ t, (kvs kind ks).toArray[i]? = some (kv kind (kF ks i) t) := by
  refine ⟨ks[i].2, ?_⟩
  simp [kvs, kF, hi]
theorem kF_ok {kind : Nat} {ks : List (List Nat × Tok)} (hk : ∀ p ∈ ks, KOk kind p.1) {i : Nat} (hi : i < ks.length) : KOk kind (kF ks i) := by
  have : kF ks i = ks[i].1 := by simp [kF, hi]
  rw [this]; exact hk _ (List.getElem_mem hi)

theorem count_succ (R : Nat → Nat → Bool) (j p : Nat) : (List.range (j + 1)).countP (fun o => R o p) = (List.range j).countP (fun o => R o p) + (if R j p = true then 1 else 0) := by
  rw [List.range_succ, List.countP_append, List.countP_singleton]

theorem law_order {w : World} {A : Around} {s : Shared} {b h : Heap} {tk : Nat} {Q E : Value → Shared → Prop} {kind : Nat} {ks : List (List Nat × Tok)} {lk : Addr} {epk : Nat} {gt : Bool}
  (B : Ba w b) (hb : Keeps b h) (hroom : A.depth < recursionLimit) (hh : A.handled = none) (hk : ∀ p ∈ ks, KOk kind p.1) (h63 : ks.length < 64) (hlk : h.get? lk = some (listOf (kvs kind ks).toArray epk))
  (hQ : ∀ D its ep h' tk, Keeps h h' → h'.get? D = some (listOf (List.toArray its) ep) → IntsAre its ((srt (aheadR gt (kF ks)) ks.length).map Int.ofNat) → h.get? D = none → Q (.ref D) (sh s h' tk)) :
  wpAny (model PySem.Challenge.rw_mr0271_01.row.prog w) A (call (.ref 161) [.ref lk, .bool gt] []) Q E (sh s h tk) := by
  refine enter B hb [] (fun p hp => nomatch hp) (by k_is) (by k_is) hroom (binds := [("keys", .ref lk), ("greatest", .bool gt)]) (BindsTo.of_eq rfl) (locs rfl) (by decide) (by walk_at "al") ?_
  intro g L h₁ tk S B hL hg1 hg2 hg3
  have kg : Keeps h g := fun x o e => hg1 x o (fun q => nomatch q) e
  have kh : ∀ {h' al ns}, St g L h' al ns → Keeps h h' := fun S' x o e => S'.keep x o (kg x o e)
  have hlg : g.get? lk = some (listOf (kvs kind ks).toArray epk) := kg _ _ hlk
  have hsz : (kvs kind ks).toArray.size = ks.length := by simp [kvs]
  have hfit : (((kvs kind ks).toArray.size : Nat) : Int) < 2 ^ 63 := by first | lia | omega
  have STR := aheadR_sto gt (kF ks)
  refine exN ?_
  refine wpAny_Assign_Name ?_
  refine wpAny_BinOp ?_
  refine listE (spliced_cons (cInt (spliced_nil ⟨_, _, rfl, by rw [sizeLine_eq]; exact (by decide : (1 : Nat) ≤ 16777216), ?_⟩)))
  have S := S.push (listOf #[.int 0 tk] 0)
  refine Call_ (nameB B S (by k_is) (by boot_fast) (by decide) (callWith_builtin1 (args_cons (nameL S rfl (args_nil (len_list (s := sh s _ _) ⟨_, S.keep _ _ hlg, rfl, _, rfl⟩ hfit ?_))))))
  rw [hsz]
  refine mulE (vs := [.int 0 tk]) S (S.N.get (.head _)) (by first | lia | omega) (by simp; first | lia | omega) (by first | lia | omega) (ws := List.replicate ks.length (.int 0 tk)) (by simp [List.flatten_replicate_singleton]) fun lo h2 S hlt => ?_
  refine storeL S fun h3 tk3 S => ?_
  refine exN (for_ (Call_ (nameB B S (by k_is) (by boot_fast) (by decide) (callWith_type1 (args_cons (Call_ (nameB B S (by k_is) (by boot_fast) (by decide) (callWith_builtin1 (args_cons (nameL S rfl (args_nil (len_list (s := sh s _ _) ⟨_, S.keep _ _ hlg, rfl, _, rfl⟩ hfit (args_nil ?_)))))))))))))
  rw [hsz]
  refine callRange S fun ra t1 t2 h4 tk4 S hlt2 => ?_
  refine iterRg S (S.N.get (.head _)) (by first | lia | omega) (by first | lia | omega) fun it h5 S hlt5 => ?_
  have hne : lo < it := hlt5 (lo, _) (.tail _ (.head _))
  refine forL (fun n h => ∃ (m : Nat) (acc : List Nat) (its : List Value) (ep : Nat), St g L h [("order", .ref lo), ("keys", .ref lk), ("greatest", .bool gt)] [(it, rangeIt (m : Int) ((ks.length : Int) - m) 1), (lo, listOf its.toArray ep)] ∧ IntsAre its (acc.map Int.ofNat) ∧
    acc.length = ks.length ∧ (∀ p, p < m → acc[rankF (aheadR gt (kF ks)) ks.length p]? = some p) ∧ n = ks.length - m ∧ m ≤ ks.length) ks.length
    ⟨0, List.replicate ks.length 0, List.replicate ks.length (.int 0 tk), 0, ?_, intsAre_rep _ _, by simp, (fun p hp => absurd hp (Nat.not_lt_zero _)), rfl, Nat.zero_le _⟩ ?_
  · rw [show (((ks.length : Nat) : Int) - ((0 : Nat) : Int)) = (ks.length : Int) by first | lia | omega]
    exact S.weaken (by walk_at "al") (by walk_at "nw")
  rintro n hp tk ⟨m, acc, its, ep, S, hi, hal, hacc, hn, hm⟩
  have hil : its.length = ks.length := by rw [hi.length, List.length_map, hal]
  by_cases hlt : m < ks.length
  · refine nextR S (.head fun p hp => by rcases List.mem_singleton.mp hp with rfl; exact Nat.ne_of_lt hne) (by first | lia | omega) fun h6 S => wpAny_assign_Name (storeL S fun h7 tk7 S => ?_)
    rw [show ((m : Int) + 1) = ((m + 1 : Nat) : Int) by first | lia | omega, show ((ks.length : Int) - (m : Int) - 1) = ((ks.length : Int) - ((m + 1 : Nat) : Int)) by first | lia | omega] at S
    refine exN (wpAny_Assign_Name (cInt (storeL S fun h8 tk8 S => ?_)))
    refine exN (for_ (Call_ (nameB B S (by k_is) (by boot_fast) (by decide) (callWith_type1 (args_cons (Call_ (nameB B S (by k_is) (by boot_fast) (by decide) (callWith_builtin1 (args_cons (nameL S rfl (args_nil (len_list (s := sh s _ _) ⟨_, S.keep _ _ hlg, rfl, _, rfl⟩ hfit (args_nil ?_)))))))))))))
    rw [hsz]
    refine callRange S fun ra2 t1 t2 h9 tk9 S hlt9 => ?_
    refine iterRg S (S.N.get (.head _)) (by first | lia | omega) (by first | lia | omega) fun it2 h10 S hlt10 => ?_
    have hn1 : it < it2 := hlt10 (it, _) (.tail _ (.head _))
    have hn2 : lo < it2 := hlt10 (lo, _) (.tail _ (.tail _ (.head _)))
    refine forL (fun n h => ∃ (j : Nat) (c : Nat) (tc : Tok), St g L h [("ahead", .int (c : Int) tc), ("place", .int (m : Int) tk), ("order", .ref lo), ("keys", .ref lk), ("greatest", .bool gt)] [(it2, rangeIt (j : Int) ((ks.length : Int) - j) 1), (it, rangeIt ((m + 1 : Nat) : Int) ((ks.length : Int) - ((m + 1 : Nat) : Int)) 1), (lo, listOf its.toArray ep)] ∧
      c = (List.range j).countP (fun o => aheadR gt (kF ks) o m) ∧ n = ks.length - j ∧ j ≤ ks.length) ks.length
      ⟨0, 0, tk7, ?_, rfl, rfl, Nat.zero_le _⟩ ?_
    · rw [show (((ks.length : Nat) : Int) - ((0 : Nat) : Int)) = (ks.length : Int) by first | lia | omega]
      exact S.weaken (by walk_at "al") (by walk_at "nw")
    rintro n' hp tk ⟨j, c, tc, S, hc, hn', hj⟩
    by_cases hlj : j < ks.length
    · refine nextR S (.head fun p hp => by
        rcases List.mem_cons.mp hp with rfl | hp
        · exact Nat.ne_of_lt hn1
        · rcases List.mem_singleton.mp hp with rfl; exact Nat.ne_of_lt hn2) (by first | lia | omega) fun h6 S => wpAny_assign_Name (storeL S fun h7 tk7 S => ?_)
      rw [show ((j : Int) + 1) = ((j + 1 : Nat) : Int) by first | lia | omega, show ((ks.length : Int) - (j : Int) - 1) = ((ks.length : Int) - ((j + 1 : Nat) : Int)) by first | lia | omega] at S
      obtain ⟨tj, hkj⟩ := kvs_get (kind := kind) hlj
      obtain ⟨tm, hkm⟩ := kvs_get (kind := kind) hlt
      have okj := kF_ok hk hlj
      have okm := kF_ok hk hlt
      have hcs := count_succ (aheadR gt (kF ks)) j m
      refine exN (wpAny_If (wpAny_isTrue_Compare1 (Subscript_ (nameL S rfl (nameL S rfl (getL (S.keep _ _ hlg) (by first | lia | omega) (by first | lia | omega) (x := kv kind (kF ks j) tj) (by simpa using hkj) (Subscript_ (nameL S rfl (nameL S rfl (getL (S.keep _ _ hlg) (by first | lia | omega) (by first | lia | omega) (x := kv kind (kF ks m) tm) (by simpa using hkm) (kvEq okj okm (wpAny_truthy_bool ?_))))))))))))
      by_cases he : kF ks j = kF ks m
      · rw [if_pos (by simpa using he)]
        rw [aheadR_eq he] at hcs
        refine exN (wpAny_If (wpAny_isTrue_Compare1 (nameL S rfl (nameL S rfl (P.lt_int (wpAny_truthy_bool ?_))))))
        by_cases hjm : j < m
        · rw [if_pos (by simpa using hjm)]
          refine exN (wpAny_AugAssign_Name (loadL S rfl (cInt (iaddI (storeL S fun h' tk' S => wpAny_execs_nil (wpAny_execs_nil (wpAny_execs_nil ?_)))))))
          rw [show ((c : Int) + 1) = ((c + 1 : Nat) : Int) by first | lia | omega] at S
          exact ⟨n' - 1, _, _, rfl, by first | lia | omega, j + 1, c + 1, _, by walk_at "st", by rw [hcs, hc, if_pos (by simpa using hjm)], by first | lia | omega, by first | lia | omega⟩
        · rw [if_neg (by simpa using hjm)]
          refine wpAny_execs_nil (wpAny_execs_nil (wpAny_execs_nil ?_))
          exact ⟨n' - 1, _, _, rfl, by first | lia | omega, j + 1, c, _, by walk_at "st", by rw [hcs, hc, if_neg (by simpa using hjm)]; rfl, by first | lia | omega, by first | lia | omega⟩
      · rw [if_neg (by simpa using he)]
        rw [aheadR_ne he, ← kl_prog he] at hcs
        refine exN (wpAny_If (wpAny_isTrue_Compare1 (wpAny_Compare1 (Subscript_ (nameL S rfl (nameL S rfl (getL (S.keep _ _ hlg) (by first | lia | omega) (by first | lia | omega) (x := kv kind (kF ks j) tj) (by simpa using hkj) (Subscript_ (nameL S rfl (nameL S rfl (getL (S.keep _ _ hlg) (by first | lia | omega) (by first | lia | omega) (x := kv kind (kF ks m) tm) (by simpa using hkm) (kvGt okj okm (nameL S rfl (eq_bool (wpAny_truthy_bool ?_)))))))))))))))
        by_cases hjm : (ltL (kF ks m) (kF ks j) == gt) = true
        · rw [if_pos hjm]
          refine exN (wpAny_AugAssign_Name (loadL S rfl (cInt (iaddI (storeL S fun h' tk' S => wpAny_execs_nil (wpAny_execs_nil (wpAny_execs_nil ?_)))))))
          rw [show ((c : Int) + 1) = ((c + 1 : Nat) : Int) by first | lia | omega] at S
          exact ⟨n' - 1, _, _, rfl, by first | lia | omega, j + 1, c + 1, _, by walk_at "st", by rw [hcs, hc, if_pos hjm], by first | lia | omega, by first | lia | omega⟩
        · rw [if_neg hjm]
          refine wpAny_execs_nil (wpAny_execs_nil (wpAny_execs_nil ?_))
          exact ⟨n' - 1, _, _, rfl, by first | lia | omega, j + 1, c, _, by walk_at "st", by rw [hcs, hc, if_neg hjm]; rfl, by first | lia | omega, by first | lia | omega⟩
    · have hje : j = ks.length := by first | lia | omega
      have hcr : c = rankF (aheadR gt (kF ks)) ks.length m := by rw [hc, hje]; rfl
      have hrl := rank_lt STR hlt
      refine nextR_end (news' := [(it, rangeIt ((m + 1 : Nat) : Int) ((ks.length : Int) - ((m + 1 : Nat) : Int)) 1), (lo, listOf its.toArray ep)]) hh S (.head _) (by first | lia | omega) (fun p hp => ?_) fun h6 S => ?_
      · rcases List.mem_cons.mp hp with rfl | hp
        · exact ⟨.tail _ (.head _), Nat.ne_of_lt hn1⟩
        · rcases List.mem_singleton.mp hp with rfl; exact ⟨.tail _ (.tail _ (.head _)), Nat.ne_of_lt hn2⟩
      refine exN (wpAny_Assign_Subscript (nameL S rfl (nameL S rfl (nameL S rfl (setL S (Upd.tail (Nat.ne_of_gt hne) (Upd.head fun _ hx => nomatch hx)) (by first | lia | omega) (by first | lia | omega) (by rw [List.size_toArray]; first | lia | omega) fun h7 S => wpAny_execs_nil ?_)))))
      rw [Int.toNat_natCast, List.setIfInBounds_toArray] at S
      refine ⟨n - 1, _, _, rfl, by first | lia | omega, m + 1, acc.set c m, its.set c (.int (m : Int) _), ep, by walk_at "st", intsAre_set hi c m _, by rw [List.length_set]; exact hal, ?_, by first | lia | omega, by first | lia | omega⟩
      intro p hp
      by_cases hpm : p = m
      · subst hpm
        rw [← hcr, List.getElem?_set_self (by first | lia | omega)]
      · rw [List.getElem?_set_ne ?_]
        · exact hacc p (by first | lia | omega)
        · rw [hcr]
          intro e
          exact hpm (rank_inj STR (by first | lia | omega) hlt e.symm)
  · have hme : m = ks.length := by first | lia | omega
    refine nextR_end (news' := [(lo, listOf its.toArray ep)]) hh S (.head _) (by first | lia | omega) (fun p hp => ?_) fun h6 S => ?_
    · rcases List.mem_singleton.mp hp with rfl; exact ⟨.tail _ (.head _), Nat.ne_of_lt hne⟩
    refine exN (wpAny_Return_some (nameL S rfl ?_))
    have hacc' := ord_eq STR hal (by rw [← hme]; exact hme ▸ hacc)
    rw [hacc'] at hi
    refine hQ _ its ep h6 _ (kh S) (S.N.get (.head _)) hi ?_
    cases q : h.get? lo with
    | none => rfl
    | some o => rw [← (S.N _ (.head _)).2.2]; exact (kg _ _ q).symm ▸ rfl
end Mine
/- MTup -/
namespace Mine
open PySem PySem.W PyProof.Rows PySem.Calls
abbrev K3 := List Nat × Int × Int
/-- the order of triples -/
def lt3 (a b : K3) : Bool := ltL a.1 b.1 || (a.1 == b.1 && (decide (a.2.1 < b.2.1) || (a.2.1 == b.2.1 && decide (a.2.2 < b.2.2))))
theorem lt3_to : TO lt3 where
  irr := fun a => by simp [lt3, ltL_irrefl]
  tr := fun {a b c} h1 h2 => by
    obtain ⟨a1, a2, a3⟩ := a
    obtain ⟨b1, b2, b3⟩ := b
    obtain ⟨c1, c2, c3⟩ := c
    simp only [lt3, Bool.or_eq_true, Bool.and_eq_true, decide_eq_true_eq, beq_iff_eq] at h1 h2 ⊢
    rcases h1 with h1 | ⟨rfl, h1⟩
    · rcases h2 with h2 | ⟨rfl, h2⟩
      · exact .inl (ltL_trans h1 h2)
      · exact .inl h1
    · rcases h2 with h2 | ⟨rfl, h2⟩
      · exact .inl h2
      · exact .inr ⟨rfl, by first | lia | omega⟩
  tot := fun a b => by
    obtain ⟨a1, a2, a3⟩ := a
    obtain ⟨b1, b2, b3⟩ := b
    simp only [lt3, Bool.or_eq_true, Bool.and_eq_true, decide_eq_true_eq, beq_iff_eq, Prod.mk.injEq]
    rcases ltL_tri a1 b1 with h | rfl | h
    · exact .inl (.inl h)
    · have : (a2 < b2 ∨ (a2 = b2 ∧ a3 < b3)) ∨ (a2 = b2 ∧ a3 = b3) ∨ (b2 < a2 ∨ (b2 = a2 ∧ b3 < a3)) := by first | lia | omega
      rcases this with h | h | h
      · exact .inl (.inr ⟨rfl, h⟩)
      · exact .inr (.inl ⟨rfl, h⟩)
      · exact .inr (.inr (.inr ⟨rfl, h⟩))
    · exact .inr (.inr (.inl h))

abbrev tupO (xs : Array Value) : Obj := { cls := .type "tuple", data := .seq xs }
/-- the triple's object -/
def IsT3 (kind : Nat) (x : K3) (o : Obj) : Prop := ∃ t1 t2 t3, o = tupO #[kv kind x.1 t1, .int x.2.1 t2, .int x.2.2 t3]

section
variable {prog : Program} {w : World} {A : Around} {E : Value → Shared → Prop} {s : Shared} {kind : Nat} {a b : List Nat} {t u : Tok}
theorem kvEqB (ha : KOk kind a) (hb : KOk kind b) {Q : Bool → Shared → Prop} (hq : Q (a == b) s) : wpAny (model prog w) A (eqBool (kv kind a t) (kv kind b u)) Q E s := by
  rcases ha with rfl | ⟨rfl, ha⟩
  · refine eqBool_str (x := ⟨a.toArray⟩) (y := ⟨b.toArray⟩) ?_
    rw [show ((⟨a.toArray⟩ : Str) == ⟨b.toArray⟩) = (a == b) by rw [Bool.eq_iff_iff]; simp]
    exact hq
  · rcases hb with h | ⟨_, hb⟩
    · cases h
    refine eqBool_bytes (b := (a.map Nat.toUInt8).toArray) (c := (b.map Nat.toUInt8).toArray) ?_
    have := beq_kv ha hb
    show Q (decide (a.map Nat.toUInt8 = b.map Nat.toUInt8)) s
    rw [show decide (a.map Nat.toUInt8 = b.map Nat.toUInt8) = (a == b) by rw [← this, Bool.eq_iff_iff]; simp]
    exact hq
theorem call_bytes_lt (ha : KOk 1 a) (hb : KOk 1 b) {Q : Value → Shared → Prop} (hq : Q (.bool (ltL a b)) s) : wpAny (model prog w) A (call (.builtin "bytes.__lt__") [kv 1 a t, kv 1 b u]) Q E s := by
  rcases ha with h | ⟨_, ha⟩
  · cases h
  rcases hb with h | ⟨_, hb⟩
  · cases h
  refine call_gives slot_bytes_lt (typeIs_bytes s (a.map Nat.toUInt8).toArray t) entry_bytes_lt (args_bytes_lt _ _) (gives_bytes_lt _ _ t u) ?_
  show Q (.bool (Builtin.Bytes.order (a.map Nat.toUInt8) (b.map Nat.toUInt8) == .lt)) s
  rw [order_kv ha hb]
  cases h : ltL a b with
  | true => rw [h] at hq; exact hq
  | false => rw [h] at hq; cases h2 : ltL b a <;> exact hq
theorem kvOneLt (ha : KOk kind a) (hb : KOk kind b) {Q : Bool → Shared → Prop} (hq : Q (ltL a b) s) : wpAny (model prog w) A (oneLt' true (kv kind a t) (kv kind b u)) Q E s := by
  rcases id ha with rfl | ⟨rfl, _⟩
  · refine oneLt_str (a := ⟨a.toArray⟩) (b := ⟨b.toArray⟩) ?_
    show Q (decide (a < b)) s
    rw [ltL_iff]; exact hq
  · rw [oneLt'_eq]
    simp only [if_true]
    refine wpAny_bind (wpAny_cRoomFor_byValue rfl ?_)
    refine wpAny_bind (wpAny_callSpecialIfBound?_slot (typeIs_bytes s (a.map Nat.toUInt8).toArray t) slot_bytes_lt (call_bytes_lt ha hb ?_))
    exact wpAny_truthy_bool hq

theorem t3_lt {x y : K3} {c d : Addr} {oc od : Obj} {Q : Value → Shared → Prop} (hu : A.units < cLine) (hc : s.heap.get? c = some oc) (hd : s.heap.get? d = some od) (tc : IsT3 kind x oc) (td : IsT3 kind y od) (kx : KOk kind x.1) (ky : KOk kind y.1)
    (hq : Q (.bool (lt3 x y)) s) : wpAny (model prog w) A (compareOp .Lt (.ref c) (.ref d)) Q E s := by
  obtain ⟨t1, t2, t3, rfl⟩ := tc
  obtain ⟨u1, u2, u3, rfl⟩ := td
  have hTc : s.TypeIs (.ref c) "tuple" := ⟨_, hc, rfl⟩
  have hTd : s.TypeIs (.ref d) "tuple" := ⟨_, hd, rfl⟩
  show wpAny _ _ (richCompare .Lt (.ref c) (.ref d)) Q E s
  refine wpAny_richCompare_same_room (op := .Lt) hTc hTd F.slot_tuple_lt (wpAny_call_entry F.slot_tuple_lt hTc F.entry_tuple_lt ?_ (F.args_tuple_lt_2 _ _)) hu
  show wpAny _ _ (isInstance (.ref d) (.type "tuple") >>= _) _ _ s
  refine wpAny_bind (wpAny_isInstance hTd isSubtype_tuple_tuple ?_)
  simp only [Bool.not_true, Bool.false_eq_true, if_false]
  refine wpAny_bind (wpAny_tupleItemsOf hc rfl ?_)
  refine wpAny_bind (wpAny_tupleItemsOf hd rfl ?_)
  refine wpAny_bind ?_
  show wpAny _ _ (forIn [(kv kind x.1 t1, kv kind y.1 u1), (Value.int x.2.1 t2, Value.int y.2.1 u2), (Value.int x.2.2 t3, Value.int y.2.2 u3)] _ _) _ _ s
  rw [List.forIn_cons]
  refine wpAny_bind (wpAny_bind (kvEqB kx ky ?_))
  by_cases h1 : x.1 = y.1
  · rw [show (x.1 == y.1) = true by simpa using h1]
    simp only [Bool.not_true, Bool.false_eq_true, if_false]
    refine wpAny_pure ?_
    show wpAny _ _ (forIn [(Value.int x.2.1 t2, Value.int y.2.1 u2), (Value.int x.2.2 t3, Value.int y.2.2 u3)] _ _) _ _ s
    rw [List.forIn_cons]
    refine wpAny_bind (wpAny_bind (wpAny_eqBool_int ?_))
    by_cases h2 : x.2.1 = y.2.1
    · rw [show (x.2.1 == y.2.1) = true by simpa using h2]
      simp only [Bool.not_true, Bool.false_eq_true, if_false]
      refine wpAny_pure ?_
      show wpAny _ _ (forIn [(Value.int x.2.2 t3, Value.int y.2.2 u3)] _ _) _ _ s
      rw [List.forIn_cons]
      refine wpAny_bind (wpAny_bind (wpAny_eqBool_int ?_))
      by_cases h3 : x.2.2 = y.2.2
      · rw [show (x.2.2 == y.2.2) = true by simpa using h3]
        simp only [Bool.not_true, Bool.false_eq_true, if_false]
        refine wpAny_pure ?_
        show wpAny _ _ (forIn ([] : List (Value × Value)) _ _) _ _ s
        rw [List.forIn_nil]
        refine wpAny_pure (wpAny_pure ⟨_, rfl, (fun e => nomatch e), ?_⟩)
        have : lt3 x y = false := by simp [lt3, h1, h2, h3, ltL_irrefl]
        rw [this] at hq; exact hq
      · rw [show (x.2.2 == y.2.2) = false by simpa using h3]
        simp only [Bool.not_false, if_true]
        refine wpAny_bind (wpAny_rule (wpAny_bind (show wpAny _ _ (compareOp .Lt (.int x.2.2 t3) (.int y.2.2 u3)) _ _ s from P.lt_int ?_)))
        refine wpAny_pure (wpAny_pure (wpAny_pure ⟨_, rfl, (fun e => nomatch e), ?_⟩))
        have : lt3 x y = decide (x.2.2 < y.2.2) := by simp [lt3, h1, h2, ltL_irrefl]
        rw [this] at hq; exact hq
    · rw [show (x.2.1 == y.2.1) = false by simpa using h2]
      simp only [Bool.not_false, if_true]
      refine wpAny_bind (wpAny_rule (wpAny_bind (show wpAny _ _ (compareOp .Lt (.int x.2.1 t2) (.int y.2.1 u2)) _ _ s from P.lt_int ?_)))
      refine wpAny_pure (wpAny_pure (wpAny_pure ⟨_, rfl, (fun e => nomatch e), ?_⟩))
      have : lt3 x y = decide (x.2.1 < y.2.1) := by simp [lt3, h1, h2, ltL_irrefl]
      rw [this] at hq; exact hq
  · rw [show (x.1 == y.1) = false by simpa using h1]
    simp only [Bool.not_false, if_true]
    refine wpAny_bind (wpAny_rule (wpAny_bind (show wpAny _ _ (compareOp .Lt (kv kind x.1 t1) (kv kind y.1 u1)) _ _ s from kvLt kx ky ?_)))
    refine wpAny_pure (wpAny_pure (wpAny_pure ⟨_, rfl, (fun e => nomatch e), ?_⟩))
    have : lt3 x y = ltL x.1 y.1 := by simp [lt3, h1]
    rw [this] at hq; exact hq

theorem t3_keyLt {x y : K3} {c d : Addr} {oc od : Obj} {Q : Bool → Shared → Prop} (hc : s.heap.get? c = some oc) (hd : s.heap.get? d = some od) (tc : IsT3 kind x oc) (td : IsT3 kind y od) (kx : KOk kind x.1) (ky : KOk kind y.1)
    (hq : Q (lt3 x y) s) : wpAny (model prog w) A (keyLt' (tuples' true) (.ref c) (.ref d)) Q E s := by
  obtain ⟨t1, t2, t3, rfl⟩ := tc
  obtain ⟨u1, u2, u3, rfl⟩ := td
  refine kat_lt hc rfl hd rfl ?_
  show KatLex _ _ _ _ _ _ [(kv kind x.1 t1, kv kind y.1 u1), (.int x.2.1 t2, .int y.2.1 u2), (.int x.2.2 t3, .int y.2.2 u3)] _ _
  refine kat_cons (kvEqB kx ky ?_)
  by_cases h1 : x.1 = y.1
  · rw [show (x.1 == y.1) = true by simpa using h1]
    refine kat_yes (kat_cons (wpAny_eqBool_int ?_))
    by_cases h2 : x.2.1 = y.2.1
    · rw [show (x.2.1 == y.2.1) = true by simpa using h2]
      refine kat_yes (kat_cons (wpAny_eqBool_int ?_))
      by_cases h3 : x.2.2 = y.2.2
      · rw [show (x.2.2 == y.2.2) = true by simpa using h3]
        refine kat_yes (kat_nil ?_)
        have : lt3 x y = false := by simp [lt3, h1, h2, h3, ltL_irrefl]
        rw [this] at hq; exact hq
      · rw [show (x.2.2 == y.2.2) = false by simpa using h3]
        refine kat_no (kat_one _ _ (P.lt_int ?_))
        have : lt3 x y = decide (x.2.2 < y.2.2) := by simp [lt3, h1, h2, ltL_irrefl]
        rw [this] at hq; exact hq
    · rw [show (x.2.1 == y.2.1) = false by simpa using h2]
      refine kat_no (kat_one _ _ (P.lt_int ?_))
      have : lt3 x y = decide (x.2.1 < y.2.1) := by simp [lt3, h1, h2, ltL_irrefl]
      rw [this] at hq; exact hq
  · rw [show (x.1 == y.1) = false by simpa using h1]
    refine kat_no (kvOneLt kx ky ?_)
    have : lt3 x y = ltL x.1 y.1 := by simp [lt3, h1]
    rw [this] at hq; exact hq
end

/-- every question lies below n -/
inductive AskOk {β : Type} (n : Nat) : KasT β → Prop
  | ret (a : β) : AskOk n (.ret a)
  | ask {i j : Nat} {f : Bool → KasT β} (hi : i < n) (hj : j < n) (hf : ∀ b, AskOk n (f b)) : AskOk n (.ask i j f)
theorem AskOk.bind {β γ : Type} {n : Nat} {t : KasT β} (h : AskOk n t) {f : β → KasT γ} (hf : ∀ a, AskOk n (f a)) : AskOk n (t.bind f) := by
  induction h with
  | ret a => exact hf a
  | ask hi hj _ ih => exact .ask hi hj ih
/-- the answers that may come -/
inductive Gets {β : Type} : KasT β → β → Prop
  | ret (a : β) : Gets (.ret a) a
  | ask {i j : Nat} {f : Bool → KasT β} {a : β} (b : Bool) : Gets (f b) a → Gets (.ask i j f) a
theorem AskOk.bind' {β γ : Type} {n : Nat} {t : KasT β} (h : AskOk n t) {f : β → KasT γ} (hf : ∀ a, Gets t a → AskOk n (f a)) : AskOk n (t.bind f) := by
  induction h with
  | ret a => exact hf a (.ret a)
  | ask hi hj _ ih => exact .ask hi hj fun b => ih b fun a ha => hf a (.ask b ha)
theorem askOk_run {β : Type} {n : Nat} {cmp : Nat → Nat → (Bool → Shared → Prop) → Shared → Prop} {c : Nat → Nat → Bool} {s : Shared} (hc : ∀ i j C, i < n → j < n → C (c i j) s → cmp i j C s) {t : KasT β} (h : AskOk n t) {Q : β → Shared → Prop} (hq : Q (runT c t) s) : t.kasWp cmp Q s := by
  induction h with
  | ret a => exact hq
  | ask hi hj _ ih => exact hc _ _ _ hi hj (ih _ hq)

def Small (n : Nat) (p : Array Nat) : Prop := 0 < n ∧ ∀ x ∈ p.toList, x < n
theorem Small.gd {n : Nat} {p : Array Nat} (h : Small n p) (i : Nat) : p.getD i 0 < n := by
  by_cases hi : i < p.size
  · have : p.getD i 0 = p[i] := by simp [Array.getD, hi]
    rw [this]
    exact h.2 _ (by simp)
  · have : p.getD i 0 = 0 := by simp [Array.getD, hi]
    rw [this]; exact h.1
theorem Small.perm {n : Nat} {p q : Array Nat} (h : Small n p) (hp : q.Perm p) : Small n q := ⟨h.1, fun x hx => h.2 x ((Array.perm_iff_toList_perm.mp hp).mem_iff.mp hx)⟩
theorem Small.rev {n : Nat} {p : Array Nat} (h : Small n p) (i j : Nat) : Small n (kas_rev p i j) := h.perm (mirror_perm ..)
theorem Small.bub {n : Nat} {p : Array Nat} (h : Small n p) (i j : Nat) : Small n (bubble p i j) := h.perm (bubble_perm ..)

theorem asc_ok {n : Nat} {p : Array Nat} (h : Small n p) : ∀ f i, AskOk n (kas_asc p f i)
  | 0, i => .ret _
  | f + 1, i => .ask (h.gd _) (h.gd _) fun b => by cases b <;> first | exact .ret _ | exact asc_ok h f (i + 1)
theorem desc_ok {n : Nat} : ∀ f p i q, Small n p → AskOk n (kas_desc f p i q)
  | 0, p, i, q, _ => .ret _
  | f + 1, p, i, q, h => .ask (h.gd _) (h.gd _) fun b => by
    cases b with
    | true =>
      show AskOk n (if q > 0 then kas_desc f (kas_rev p (i - (q + 1)) i) (i + 1) 0 else kas_desc f p (i + 1) 0)
      split
      · exact desc_ok f _ _ _ (h.rev _ _)
      · exact desc_ok f _ _ _ h
    | false => exact .ask (h.gd _) (h.gd _) fun d => by cases d <;> first | exact .ret _ | exact desc_ok f _ _ _ h
theorem desc_gets {n : Nat} : ∀ f p i q r, Small n p → Gets (kas_desc f p i q) r → Small n r.1
  | 0, p, i, q, r, h, g => by cases g; exact h
  | f + 1, p, i, q, r, h, g => by
    cases g with
    | ask b g =>
      cases b with
      | true =>
        change Gets (if q > 0 then kas_desc f (kas_rev p (i - (q + 1)) i) (i + 1) 0 else kas_desc f p (i + 1) 0) r at g
        split at g
        · exact desc_gets f _ _ _ _ (h.rev _ _) g
        · exact desc_gets f _ _ _ _ h g
      | false =>
        cases g with
        | ask d g =>
          cases d with
          | true => cases g; exact h
          | false => exact desc_gets f _ _ _ _ h g
theorem tail_ok {n i N : Nat} {p : Array Nat} (h : Small n p) : AskOk n (kas_tail3 i N p) := (asc_ok (h.rev _ _) _ _).bind fun _ => .ret _
theorem gets_bind {β γ : Type} {t : KasT β} {f : β → KasT γ} {c : γ} (h : Gets (t.bind f) c) : ∃ a, Gets t a ∧ Gets (f a) c := by
  induction t with
  | ret a => exact ⟨a, .ret a, h⟩
  | ask i j k ih =>
    cases h with
    | ask b g =>
      obtain ⟨a, h1, h2⟩ := ih b g
      exact ⟨a, .ask b h1, h2⟩
theorem tail_gets {n i N : Nat} {p : Array Nat} {r : Nat × Array Nat} (h : Small n p) (g : Gets (kas_tail3 i N p) r) : Small n r.2 := by
  obtain ⟨a, _, g⟩ := gets_bind g
  cases g; exact h.rev _ _
theorem descPart_ok {n i N : Nat} {p : Array Nat} (h : Small n p) : AskOk n (kas_descPart i N p) := (desc_ok _ _ _ _ h).bind' fun r g => by
  have := desc_gets _ _ _ _ _ h g
  show AskOk n (if r.2.2 > 0 then _ else _)
  split
  · exact tail_ok (this.rev _ _)
  · exact tail_ok this
theorem descPart_gets {n i N : Nat} {p : Array Nat} {r : Nat × Array Nat} (h : Small n p) (g : Gets (kas_descPart i N p) r) : Small n r.2 := by
  obtain ⟨a, g1, g2⟩ := gets_bind g
  have := desc_gets _ _ _ _ _ h g1
  change Gets (if a.2.2 > 0 then _ else _) r at g2
  split at g2
  · exact tail_gets (this.rev _ _) g2
  · exact tail_gets this g2
theorem count_ok {n N : Nat} {p : Array Nat} (h : Small n p) : AskOk n (kas_count N p) := (asc_ok h _ _).bind fun m => by
  show AskOk n (if (m == N) = true then _ else _)
  split
  · exact .ret _
  · split
    · refine .ask (h.gd _) (h.gd _) fun b => ?_
      cases b with
      | true => exact .ret _
      | false => exact descPart_ok (h.rev _ _)
    · exact descPart_ok h
theorem count_gets {n N : Nat} {p : Array Nat} {r : Nat × Array Nat} (h : Small n p) (g : Gets (kas_count N p) r) : Small n r.2 := by
  obtain ⟨m, _, g⟩ := gets_bind g
  change Gets (if (m == N) = true then _ else _) r at g
  split at g
  · cases g; exact h
  · split at g
    · cases g with
      | ask b g =>
        cases b with
        | true => cases g; exact h
        | false => exact descPart_gets (h.rev _ _) g
    · exact descPart_gets h g
theorem place_ok {n : Nat} {p : Array Nat} (h : Small n p) (k : Nat) : ∀ f l r, AskOk n (kas_place p k f l r)
  | 0, l, r => .ret _
  | f + 1, l, r => by
    show AskOk n (if l ≥ r then _ else _)
    split
    · exact .ret _
    · refine .ask (h.gd _) (h.gd _) fun b => ?_
      cases b with
      | true => exact place_ok h k f _ _
      | false => exact place_ok h k f _ _
theorem bin_ok {n : Nat} : ∀ f p k, Small n p → AskOk n (kas_bin f p k)
  | 0, p, k, _ => .ret _
  | f + 1, p, k, h => (place_ok h k _ _ _).bind fun l => bin_ok f _ _ (h.bub _ _)
theorem sort_ok {n : Nat} (hn : 0 < n) : AskOk n (kas_sort n) := by
  have h0 : Small n (List.toArray (List.range n)) := ⟨hn, fun x hx => by simpa using hx⟩
  refine (count_ok h0).bind' fun r g => ?_
  have := count_gets h0 g
  show AskOk n (if r.1 < n then _ else _)
  split
  · exact bin_ok _ _ _ this
  · exact .ret _
theorem sort_run {α : Type} [DecidableEq α] {lt : α → α → Bool} (T : TO lt) (k : Nat → α) {n : Nat} (hn : 0 < n) {cmp : Nat → Nat → (Bool → Shared → Prop) → Shared → Prop} {s : Shared} (hc : ∀ i j C, i < n → j < n → C (lt (k i) (k j)) s → cmp i j C s)
    {Q : Array Nat → Shared → Prop} (hq : ∀ p : Array Nat, p.toList = srt (stab lt k) n → Q p s) : (kas_sort n).kasWp cmp Q s :=
  askOk_run (c := fun i j => lt (k i) (k j)) hc (sort_ok hn) (hq _ (sort_spec T k hn))
end Mine
/- MSortC -/
namespace Mine
open PySem PySem.W PyProof.Rows PySem.Calls
theorem revsrt {α : Type} [DecidableEq α] {lt : α → α → Bool} (T : TO lt) (k : Nat → α) (n : Nat) :
    ((srt (stab lt (fun i => k (n - 1 - i))) n).map (fun i => n - 1 - i)).reverse = srt (stab (fun a b => lt b a) k) n := by
  have T' : TO (fun a b => lt b a) := ⟨T.irr, fun h1 h2 => T.tr h2 h1, fun a b => by rcases T.tot a b with h | h | h; exact .inr (.inr h); exact .inr (.inl h); exact .inl h⟩
  have hm : ∀ x ∈ srt (stab lt (fun i => k (n - 1 - i))) n, x < n := fun x hx => List.mem_range.mp ((srt_perm _ _).mem_iff.mp hx)
  have hnd : ((srt (stab lt (fun i => k (n - 1 - i))) n).map (fun i => n - 1 - i)).Nodup := by
    refine List.pairwise_map.mpr ((srt_nodup (stab lt (fun i => k (n - 1 - i))) n).imp_of_mem fun {a b} ha hb hne e => hne ?_)
    have := hm a ha; have := hm b hb
    first | lia | omega
  refine srt_unique (stab_sto T' k) ((List.reverse_perm _).trans ?_) ?_
  · refine (List.perm_ext_iff_of_nodup hnd List.nodup_range).mpr fun x => ?_
    constructor
    · intro hx
      obtain ⟨y, hy, rfl⟩ := List.mem_map.mp hx
      have := hm y hy
      exact List.mem_range.mpr (by first | lia | omega)
    · intro hx
      have hx := List.mem_range.mp hx
      exact List.mem_map.mpr ⟨n - 1 - x, (srt_perm _ _).mem_iff.mpr (List.mem_range.mpr (by first | lia | omega)), by first | lia | omega⟩
  · rw [List.pairwise_reverse, List.pairwise_map]
    refine (srt_sorted (stab_sto T (fun i => k (n - 1 - i))) n).imp_of_mem fun {a b} ha hb h => ?_
    have := hm a ha; have := hm b hb
    unfold stab at h ⊢
    by_cases e : k (n - 1 - a) = k (n - 1 - b)
    · rw [if_pos e] at h
      rw [if_pos e.symm]
      simp at h ⊢; first | lia | omega
    · rw [if_neg e] at h
      rw [if_neg (Ne.symm e)]; exact h

theorem srt_map_rev {β : Type} (d : β) {α : Type} [DecidableEq α] {lt : α → α → Bool} (T : TO lt) (k : Nat → α) (vs : List β) :
    ((srt (stab lt (fun i => k (vs.length - 1 - i))) vs.length).map (fun i => vs.reverse.getD i d)).reverse = (srt (stab (fun a b => lt b a) k) vs.length).map (fun i => vs.getD i d) := by
  rw [← revsrt T k vs.length, List.map_reverse, List.map_map]
  congr 1
  refine List.map_congr_left fun i hi => ?_
  have hi : i < vs.length := List.mem_range.mp ((srt_perm _ _).mem_iff.mp hi)
  show vs.reverse.getD i d = vs.getD (vs.length - 1 - i) d
  simp only [List.getD_eq_getElem?_getD, List.getElem?_reverse hi]

theorem kv_looks {M : Model} {h : Heap} (kind : Nat) (a : List Nat) (t : Tok) (hk : KOk kind a) : Looks M h (typeOf (kv kind a t)) (.type (if kind = 0 then "str" else "bytes")) := by
  rcases hk with rfl | ⟨rfl, _⟩
  · exact Looks.now
  · exact Looks.now

section
variable {prog : Program} {w : World} {A : Around} {E : Value → Shared → Prop} {s : Shared} {b h : Heap} {tk : Nat} {L D : Addr} {al : List (Str × Value)} {rest : List (Addr × Obj)} {kind ep : Nat} {its : List Value} {k : Nat → K3}

/-- the items are triples of the ledger -/
def Trip (kind : Nat) (rest : List (Addr × Obj)) (its : List Value) (k : Nat → K3) : Prop :=
  ∀ i, i < its.length → ∃ a o, its[i]? = some (.ref a) ∧ (a, o) ∈ rest ∧ IsT3 kind (k i) o ∧ KOk kind (k i).1

theorem trip_tups {h : Heap} (hh : ∀ p ∈ rest, h.get? p.1 = some p.2) : ∀ {its : List Value} {k : Nat → K3}, Trip kind rest its k → ∃ fs, KatTups h its fs ∧ fs.length = its.length ∧ ∀ v ∈ fs, ∃ a t, v = kv kind a t ∧ KOk kind a
  | [], _, _ => ⟨[], trivial, rfl, fun _ h => nomatch h⟩
  | x :: its, k, T => by
    obtain ⟨fs, h1, h2, h3⟩ := trip_tups hh (its := its) (k := fun i => k (i + 1)) (fun i hi => T (i + 1) (Nat.succ_lt_succ hi))
    obtain ⟨a, o, e, hm, ⟨t1, t2, t3, rfl⟩, hk⟩ := T 0 (Nat.succ_pos _)
    have e : x = .ref a := by simpa using e
    subst e
    refine ⟨kv kind (k 0).1 t1 :: fs, KatTups.cons (hh _ hm) rfl rfl rfl h1, by simp [h2], fun v hv => ?_⟩
    rcases List.mem_cons.mp hv with rfl | hv
    · exact ⟨_, _, rfl, hk⟩
    · exact h3 v hv

theorem trip_kind {M : Model} {A : Around} (hh : ∀ p ∈ rest, h.get? p.1 = some p.2) (T : Trip kind rest its k) (h2 : 2 ≤ its.length) {Q : SortKind → Shared → Prop} (hq : Q (tuples' true) (sh s h tk)) : wpAny M A (keyKind' its.toArray) Q E (sh s h tk) := by
  obtain ⟨fs, t, hl, hf⟩ := trip_tups hh T
  have hkk : kind = 0 ∨ kind = 1 := by
    obtain ⟨_, _, _, _, _, hk⟩ := T 0 (by first | lia | omega)
    rcases hk with h | h
    · exact .inl h
    · exact .inr h.1
  refine kat_kind (s := sh s h tk) (T := .type (if kind = 0 then "str" else "bytes")) t (by first | lia | omega) (fun v hv => ?_) (by simp) ?_
  · obtain ⟨a, u, rfl, hk⟩ := hf v hv
    exact kv_looks kind a u hk
  · rcases hkk with rfl | rfl <;> exact hq

theorem trip_ask {A : Around} {κ : SortKind} (hκ : κ = tuples' true) (hh : ∀ p ∈ rest, h.get? p.1 = some p.2) (T : Trip kind rest its k) {i j : Nat} {C : Bool → Shared → Prop} (hi : i < its.length) (hj : j < its.length) (hq : C (lt3 (k i) (k j)) (sh s h tk)) :
    kas_ask prog w A κ its i j C (sh s h tk) := by
  subst hκ
  obtain ⟨a, o, e, hm, h3, hk⟩ := T i hi
  obtain ⟨a', o', e', hm', h3', hk'⟩ := T j hj
  unfold kas_ask
  rw [show its.getD i .none = .ref a by simp [e], show its.getD j .none = .ref a' by simp [e']]
  exact t3_keyLt (s := sh s h tk) (hh _ hm) (hh _ hm') h3 h3' hk hk' hq

theorem sortMin {Q : Value → Shared → Prop} (S : St b L h al ((D, listOf its.toArray ep) :: rest)) (hne : ∀ p ∈ rest, p.1 ≠ D) (T : Trip kind rest its k) (h2 : 2 ≤ its.length) (h64 : its.length < 64)
    (hq : ∀ h' ep', St b L h' al ((D, listOf ((srt (stab lt3 k) its.length).map fun i => its.getD i .none).toArray ep') :: rest) → Q .none (sh s h' tk)) : wpAny (model prog w) A (call (.builtin "list.sort") [.ref D]) Q E (sh s h tk) := by
  obtain ⟨⟨m, F, hm⟩, N⟩ := S
  refine kat_lsort (s := sh s h tk) F N (UpdF.head hne) (List.toList_toArray ..) h2 h64 fun e1 h' F' N' => ?_
  have hh : ∀ p ∈ rest, h'.get? p.1 = some p.2 := fun p hp => (N' p (.tail _ hp)).1
  refine trip_kind hh T h2 ?_
  refine sort_run lt3_to k (by first | lia | omega) (fun i j C hi hj hC => trip_ask rfl hh T hi hj hC) fun p hp => ?_
  rw [hp]
  exact KasFin.intro F' N' (UpdF.head hne) fun h'' c F'' N'' => hq h'' c ⟨⟨m, F'', hm⟩, N''⟩

theorem zip_rev (vs : List Value) : (vs.toArray.zip vs.toArray).reverse = vs.reverse.toArray.zip vs.reverse.toArray := by
  apply Array.toList_inj.mp
  rw [Array.toList_reverse]
  simp only [Array.toList_zip]
  show (List.zipWith Prod.mk vs vs).reverse = List.zipWith Prod.mk vs.reverse vs.reverse
  exact List.reverse_zipWith rfl

theorem sortMax {Q : Value → Shared → Prop} (S : St b L h al ((D, listOf its.toArray ep) :: rest)) (hne : ∀ p ∈ rest, p.1 ≠ D) (T : Trip kind rest its k) (h2 : 2 ≤ its.length) (h64 : its.length < 64)
    (hq : ∀ h' ep', St b L h' al ((D, listOf ((srt (stab (fun a b => lt3 b a) k) its.length).map fun i => its.getD i .none).toArray ep') :: rest) → Q .none (sh s h' tk)) :
    wpAny (model prog w) A (call (.builtin "list.sort") [.ref D] [(Str.ofString "reverse", .bool true)]) Q E (sh s h tk) := by
  have ho : (sh s h tk).heap.get? D = some (seqObj "list" its.toArray ep) := S.N.get (.head _)
  have hD := S.N _ (.head _)
  have s1 := Heap.SameBut.update h D (Obj.mapSeq fun _ => (#[] : Array Value))
  obtain ⟨e1, ho1⟩ : ∃ e1, (h.update D (Obj.mapSeq fun _ => (#[] : Array Value))).get? D = some (seqObj "list" #[] e1) := ⟨_, get?_update_seq ho fun _ => #[]⟩
  have S1 : St b L (h.update D (Obj.mapSeq fun _ => (#[] : Array Value))) al ((D, listOf #[] e1) :: rest) := S.upd (.head hne) s1 ho1
  have S2 := (S1.push (seqObj "tuple" its.toArray 0)).push (seqObj "list" #[] 0)
  have S3 : St b L (((h.update D (Obj.mapSeq fun _ => (#[] : Array Value))).push (seqObj "tuple" its.toArray 0)).push (seqObj "list" #[] 0)) al ((D, listOf #[] e1) :: rest) := S2.sub fun p hp => .tail _ (.tail _ hp)
  have hh : ∀ p ∈ rest, (((h.update D (Obj.mapSeq fun _ => (#[] : Array Value))).push (seqObj "tuple" its.toArray 0)).push (seqObj "list" #[] 0)).get? p.1 = some p.2 := fun p hp => (S3.N p (.tail _ hp)).1
  have hD3 := S3.N.get (.head _)
  refine wpAny_call_entry_kw slot_list_sort ⟨_, ho, rfl⟩ entry_list_sort ?_ (args_list_sort_rev _ _)
  show wpAny _ _ (Builtin.«list.sort» ⟨[.ref D], [(Str.ofString "reverse", .bool true)]⟩) _ _ _
  rw [PyProof.Rows.list_sort_rev]
  refine wpAny_bind (listItems_at ho rfl ?_)
  refine wpAny_bind (listUpdate_at ho rfl ?_ (by rw [List.size_toArray, sizeLine_eq]; first | lia | omega) (Nat.zero_le _))
  refine wpAny_bind (seqEpoch_at ho1 rfl ?_)
  refine wpAny_bind (wpAny_newTuple ?_ (by show its.length ≤ _; rw [sizeLine_eq]; first | lia | omega))
  refine wpAny_bind (wpAny_newList ?_ (Nat.zero_le _))
  refine wpAny_holding ?_
  show wpAny (model prog w) _ _ _ E (sh s (((h.update D (Obj.mapSeq fun _ => (#[] : Array Value))).push (seqObj "tuple" its.toArray 0)).push (seqObj "list" #[] 0)) tk)
  generalize (((h.update D (Obj.mapSeq fun _ => (#[] : Array Value))).push (seqObj "tuple" its.toArray 0)).push (seqObj "list" #[] 0)) = H at S3 hh hD3
  dsimp only
  rw [if_pos rfl]
  refine wpAny_bind (wpAny_rule ?_)
  have hn2 : ¬ its.toArray.size < 2 := by rw [List.size_toArray]; first | lia | omega
  rw [if_neg hn2, if_neg hn2, if_pos rfl]
  refine wpAny_bind (trip_kind hh T h2 ?_)
  rw [zip_rev]
  have hlr : its.reverse.length = its.length := List.length_reverse
  have Tr : Trip kind rest its.reverse (fun i => k (its.length - 1 - i)) := fun i hi => by
    rw [hlr] at hi
    obtain ⟨a, o, e, r⟩ := T (its.length - 1 - i) (by first | lia | omega)
    exact ⟨a, o, by rw [List.getElem?_reverse hi]; exact e, r⟩
  refine wpAny_bind (wpAny_mono (kat_run (s := sh s H tk) (ks := its.reverse) (vs := its.reverse) (Q := fun st' s' => s' = sh s H tk ∧ failedOf st' = none ∧ ((arrOf st').map (·.2)).toList = (srt (stab lt3 (fun i => k (its.length - 1 - i))) its.length).map (fun i => its.reverse.getD i .none))
      (G := fun p s' => s' = sh s H tk ∧ p.toList = srt (stab lt3 (fun i => k (its.length - 1 - i))) its.length)
      rfl (by first | lia | omega) (by first | lia | omega) (fun p st' s' a1 a2 a3 a4 => ⟨a4.1, a3, by rw [kat_snds rfl a2, a4.2]⟩) ?_) ?_ fun _ _ e => e)
  · rw [hlr]
    exact sort_run lt3_to (fun i => k (its.length - 1 - i)) (by first | lia | omega) (fun i j C hi hj hC => trip_ask rfl hh Tr (by first | lia | omega) (by first | lia | omega) hC) fun p hp => ⟨rfl, hp⟩
  rintro ⟨⟨⟩, st'⟩ s' ⟨rfl, hf, hout⟩
  dsimp only
  refine wpAny_bind (seqEpoch_at hD3 rfl ?_)
  have hrev : (((arrOf st').map (·.2)).reverse) = ((srt (stab (fun a b => lt3 b a) k) its.length).map fun i => its.getD i .none).toArray := by
    apply Array.toList_inj.mp
    rw [Array.toList_reverse, hout, srt_map_rev Value.none lt3_to k its]
  rw [if_pos rfl, hrev]
  refine wpAny_bind (listUpdate_at hD3 rfl ?_ (Nat.zero_le _) (by rw [List.size_toArray, List.length_map, srt_len, sizeLine_eq]; first | lia | omega))
  rw [hf]
  simp only [bne_self_eq_false, Bool.false_eq_true, if_false]
  have s2 := Heap.SameBut.update H D (Obj.mapSeq fun _ => ((srt (stab (fun a b => lt3 b a) k) its.length).map fun i => its.getD i .none).toArray)
  obtain ⟨c2, hc2⟩ : ∃ c2, (H.update D (Obj.mapSeq fun _ => ((srt (stab (fun a b => lt3 b a) k) its.length).map fun i => its.getD i .none).toArray)).get? D = some (seqObj "list" ((srt (stab (fun a b => lt3 b a) k) its.length).map fun i => its.getD i .none).toArray c2) := ⟨_, get?_update_seq hD3 fun _ => ((srt (stab (fun a b => lt3 b a) k) its.length).map fun i => its.getD i .none).toArray⟩
  exact wpAny_pure ⟨_, rfl, hq _ c2 (S3.upd (.head hne) s2 hc2)⟩
end
end Mine
/- MSortK -/
namespace Mine
open PySem PySem.W PyProof.Rows PySem.Calls
theorem aheadR_stab (gt : Bool) (k : Nat → List Nat) : aheadR gt k = stab (kl gt) k := by
  funext a b
  unfold stab
  by_cases e : k a = k b
  · rw [aheadR_eq e, if_pos e]
  · rw [aheadR_ne e, if_neg e]
theorem ltL_to : TO ltL := ⟨ltL_irrefl, ltL_trans, ltL_tri⟩
theorem kl_false : kl false = ltL := by funext a b; rfl
theorem kl_true : kl true = fun a b => ltL b a := by funext a b; rfl

/-- a key that may be called upon the places below n -/
def KeyOk (w : World) (s : Shared) (kf : Addr) (b : Heap) (kind : Nat) (K : Nat → List Nat) (n : Nat) : Prop :=
  (∀ i, i < n → KOk kind (K i)) ∧ ∀ (A : Around) (h : Heap) (tk i : Nat) (t : Tok) (Q E : Value → Shared → Prop), i < n → Keeps b h → A.depth + 4 < recursionLimit → A.handled = none →
    (∀ h' tk' t', Keeps h h' → Q (kv kind (K i) t') (sh s h' tk')) → wpAny (model PySem.Challenge.rw_mr0271_01.row.prog w) A (call (.ref kf) [.int (i : Int) t] []) Q E (sh s h tk)

theorem getD_kvs {kind : Nat} {ks : List (List Nat × Tok)} {i : Nat} (hi : i < ks.length) : ∃ t, (kvs kind ks).getD i .none = kv kind (kF ks i) t := by
  obtain ⟨t, ht⟩ := kvs_get (kind := kind) hi
  exact ⟨t, by rw [List.getD_eq_getElem?_getD]; simpa using congrArg (fun o => Option.getD o Value.none) ht⟩

section
variable {w : World} {A : Around} {E : Value → Shared → Prop} {s : Shared} {b h : Heap} {tk : Nat} {L kf : Addr} {m : Str → Option Value} {rest : List (Addr × Obj)} {kind n : Nat} {K : Nat → List Nat}

theorem keys_run (hkey : KeyOk w s kf b kind K n) (hd : A.depth + 4 < recursionLimit) (hh : A.handled = none) {kS : Addr} {Fin : List Value → Nat → Shared → Prop} (hne : ∀ p ∈ rest, p.1 ≠ kS) :
    ∀ (vs : List Value) (j : Nat) (ks : List (List Nat × Tok)) (e : Nat) (h : Heap) (tk : Nat), IntsAre vs ((List.range' j (n - j)).map Int.ofNat) → ks.length = j → j ≤ n → (∀ i, i < j → kF ks i = K i) →
      Fr b L h m → News b L h ((kS, seqObj "list" (kvs kind ks).toArray e) :: rest) →
      (∀ ks' e' h' tk', ks'.length = n → (∀ i, i < n → kF ks' i = K i) → Fr b L h' m → News b L h' ((kS, seqObj "list" (kvs kind ks').toArray e') :: rest) → Fin (kvs kind ks') e' (sh s h' tk')) →
      KatKeys PySem.Challenge.rw_mr0271_01.row.prog w A b L m kS (.ref kf) Fin vs (kvs kind ks) e (sh s h tk)
  | [], j, ks, e, h, tk, hv, hl, hj, hK, F, N, hf => by
    have : n - j = 0 := by
      have := hv.length
      simp at this; first | lia | omega
    have : j = n := by first | lia | omega
    subst this
    exact KatKeys.nil (hf ks e h tk hl hK F N)
  | v :: vs, j, ks, e, h, tk, hv, hl, hj, hK, F, N, hf => by
    have hlen : (v :: vs).length = n - j := by have := hv.length; simpa using this
    have hjn : j < n := by simp at hlen; first | lia | omega
    rw [show n - j = (n - (j + 1)) + 1 by first | lia | omega, List.range'_succ, List.map_cons] at hv
    cases hv with
    | cons _ t hv =>
      refine KatKeys.cons ?_
      refine hkey.2 A h tk j t _ _ hjn F.keep hd hh fun h' tk' t' hk => ?_
      refine KatBack.intro (s := sh s h' tk') (F.kept hk) (N.grown hk) (UpdF.head hne) fun h'' c F'' N'' => ?_
      have ee : kvs kind ks ++ [kv kind (K j) t'] = kvs kind (ks ++ [(K j, t')]) := by simp [kvs]
      rw [ee] at N'' ⊢
      refine keys_run hkey hd hh hne vs (j + 1) (ks ++ [(K j, t')]) c h'' tk' hv (by simp [hl]) hjn (fun i hi => ?_) F'' N'' hf
      by_cases hij : i < j
      · rw [← hK i hij]
        simp [kF, List.getD_eq_getElem?_getD, List.getElem?_append_left (show i < ks.length by first | lia | omega)]
      · have : i = ks.length := by first | lia | omega
        subst this
        simp [kF, List.getD_eq_getElem?_getD, hl]

theorem keys_sorted {al : List (Str × Value)} {news : List (Addr × Obj)} (gt : Bool) {vs : List Value} {l : Addr} {ep : Nat} {kw : List (Str × Value)} {Q : Value → Shared → Prop} (S : St b L h al news) (hkey : KeyOk w s kf b kind K n) (hd : A.depth + 4 < recursionLimit) (hh : A.handled = none)
    (hl : h.get? l = some (listOf vs.toArray ep)) (hv : IntsAre vs ((List.range n).map Int.ofNat)) (h2 : 2 ≤ n) (h64 : n < 64)
    (ha1 : argsOk "sorted" ⟨[.ref l], kw⟩) (ha2 : ∀ x, argsOk "list.sort" ⟨[.ref x], kw⟩) (ht : ∀ x, Builtin.«list.sort» ⟨[.ref x], kw⟩ = ksk_tree x (.ref kf) gt)
    (hq : ∀ D h' tk' ep', St b L h' al ((D, listOf ((srt (aheadR gt K) n).map fun i => vs.getD i .none).toArray ep') :: news) → (∀ p ∈ news, p.1 < D) → Q (.ref D) (sh s h' tk')) :
    wpAny (model PySem.Challenge.rw_mr0271_01.row.prog w) A (call (.builtin "sorted") [.ref l] kw) Q E (sh s h tk) := by
  obtain ⟨⟨m, F, hm⟩, N⟩ := S
  have hvl : vs.length = n := by have := hv.length; simpa using this
  refine kat_sortedK (s := sh s h tk) (b := gt) F N ⟨_, hl, rfl, _, rfl⟩ (by first | lia | omega) (by first | lia | omega) ha1 ha2 ht fun D kS e1 h' F' N' hDk hlt => ?_
  have hne : ∀ p ∈ (D, seqObj "list" #[] e1) :: news, p.1 ≠ kS := fun p hp => by
    rcases List.mem_cons.mp hp with rfl | hp
    · exact Nat.ne_of_lt hDk
    · exact Nat.ne_of_lt (Nat.lt_trans (hlt p hp) hDk)
  refine keys_run (A := A.in1.in1) (ks := []) hkey (by exact hd) (by exact hh) hne vs 0 0 h' tk (by rw [Nat.sub_zero, ← List.range_eq_range']; exact hv) rfl (Nat.zero_le _) (fun i hi => absurd hi (Nat.not_lt_zero _)) F' N' ?_
  intro ks' e' h2' tk' hkl hK F2 N2
  have hkk : kind = 0 ∨ kind = 1 := by
    rcases hkey.1 0 (by first | lia | omega) with q | q
    · exact .inl q
    · exact .inr q.1
  have hok : ∀ i, i < n → KOk kind (kF ks' i) := fun i hi => by rw [hK i hi]; exact hkey.1 i hi
  have hkvl : (kvs kind ks').length = n := by simp [kvs, hkl]
  refine kas_kind (s := sh s h2' tk') (vs := kvs kind ks') (T := .type (if kind = 0 then "str" else "bytes")) (by first | lia | omega) (fun v hv => ?_) (by rcases hkk with rfl | rfl <;> decide) (by simp) ?_
  · obtain ⟨i, hi, rfl⟩ := List.mem_iff_getElem.mp hv
    have hi' : i < ks'.length := by first | lia | omega
    obtain ⟨t, e⟩ := kvs_get (kind := kind) hi'
    have e2 : (kvs kind ks')[i] = kv kind (kF ks' i) t := by simpa [hi] using e
    rw [e2]
    exact kv_looks kind _ t (hok i (by first | lia | omega))
  have fin : ∀ (out : List Value), out = (srt (aheadR gt K) n).map (fun i => vs.getD i .none) → KatFin b L m kS D (kvs kind ks') e' e1 out (fun s4 => Q (.ref D) s4) (sh s h2' tk') := fun out ho => by
    subst ho
    refine KatFin.intro (s := sh s h2' tk') F2 N2 (UpdF.head hne) fun h3 c F3 N3 => ?_
    refine KasFin.intro (s := sh s h3 tk') F3 N3 (UpdF.tail (Nat.ne_of_gt hDk) (UpdF.head fun p hp => Nat.ne_of_lt (hlt p hp))) fun h4 c4 F4 N4 => ?_
    exact hq D h4 tk' c4 ⟨⟨m, F4, hm⟩, fun p hp => N4 p (.tail _ hp)⟩ hlt
  have ask : ∀ (us : List (List Nat × Tok)) i j (C : Bool → Shared → Prop), us.length = n → (∀ i, i < n → KOk kind (kF us i)) → i < n → j < n → C (ltL (kF us i) (kF us j)) (sh s h2' tk') → kas_ask PySem.Challenge.rw_mr0271_01.row.prog w A.in1.in1 oneType' (kvs kind us) i j C (sh s h2' tk') := fun us i j C hl hok hi hj hC => by
    obtain ⟨t1, q1⟩ := getD_kvs (kind := kind) (ks := us) (i := i) (by first | lia | omega)
    obtain ⟨t2, q2⟩ := getD_kvs (kind := kind) (ks := us) (i := j) (by first | lia | omega)
    unfold kas_ask
    rw [q1, q2, keyLt'_oneType]
    exact kvOneLt (hok i hi) (hok j hj) hC
  have hkeq : ∀ i j, i < n → j < n → ltL (kF ks' i) (kF ks' j) = ltL (K i) (K j) := fun i j hi hj => by rw [hK i hi, hK j hj]
  cases gt with
  | false =>
    rw [hvl]
    refine sort_run ltL_to K (by first | lia | omega) (fun i j C hi hj hC => ?_) fun p hp => fin _ ?_
    · refine ask ks' i j C hkl hok hi hj ?_
      rw [hkeq i j hi hj]; exact hC
    · show p.toList.map (fun i => vs.getD i .none) = _
      rw [hp, aheadR_stab, kl_false]
  | true =>
    rw [hvl]
    have hrev : katRev true (kvs kind ks') = kvs kind ks'.reverse := by simp [katRev, kvs]
    rw [hrev]
    have hkr : ∀ i, i < n → kF ks'.reverse i = K (n - 1 - i) := fun i hi => by
      rw [← hK (n - 1 - i) (by first | lia | omega)]
      unfold kF
      rw [List.getD_eq_getElem?_getD, List.getElem?_reverse (by first | lia | omega), hkl, ← List.getD_eq_getElem?_getD]
    refine sort_run ltL_to (fun i => K (n - 1 - i)) (by first | lia | omega) (fun i j C hi hj hC => ?_) fun p hp => fin _ ?_
    · refine ask ks'.reverse i j C (by simp [hkl]) (fun i hi => by rw [hkr i hi]; exact hkey.1 _ (by first | lia | omega)) hi hj ?_
      rw [hkr i hi, hkr j hj]; exact hC
    · show (p.toList.map (fun i => vs.reverse.getD i .none)).reverse = _
      have := srt_map_rev Value.none ltL_to K vs
      rw [hvl] at this
      rw [hp, this, aheadR_stab, kl_true]
end
end Mine
/- MIter -/
namespace Mine
open PySem PySem.W PyProof.Rows PySem.Calls
abbrev lsO (src : Value) (i : Nat) : Obj := { cls := .type "list_iterator", data := .fields #[src, .int (i : Int) 0] }
abbrev zipO (f0 : Value) (TI TO : Addr) : Obj := { cls := .type "zip", data := .fields #[f0, .bool false, .bool false, .ref TI, .ref TO] }
abbrev pairO (a b : Value) : Obj := { cls := .type "tuple", data := .seq #[a, b] }
def Stops (h : Heap) (e : Addr) : Prop := ∃ o, h.get? e = some o ∧ o.cls = .type "StopIteration"

section
variable {prog : Program} {w : World} {A : Around} {E : Value → Shared → Prop} {s : Shared} {b h : Heap} {tk : Nat} {L : Addr} {al : List (Str × Value)} {news news' rest : List (Addr × Obj)}

theorem stop_ {α : Type} {Q : α → Shared → Prop} (hh : A.handled = none) (hE : ∀ e h', Keeps h h' → Stops h' e → h.objs.size ≤ e → E (.ref e) (sh s h' tk)) : wpAny (model prog w) A (Builtin.SmallTypes.stopIteration : Sem α) Q E (sh s h tk) := by
  unfold Builtin.SmallTypes.stopIteration
  refine wpAny_bind ?_
  simp only [newExc, newTuple]
  refine wpAny_bind (wpAny_newObj_type ?_ (by size_fits))
  refine wpAny_bind (m := firstArgMember _ _) (wpAny_of_eq (a := Value.none) (by first | rfl | (simp only [firstArgMember]; rfl)) ?_)
  refine wpAny_newObj_type ?_ (by size_fits)
  simp only [raiseNew]
  refine wpAny_bind (wpAny_handled ?_)
  rw [hh]
  refine wpAny_bind (wpAny_pure (wpAny_throw ?_))
  exact hE _ _ (fun a o e => Heap.get?_push_of_some _ (Heap.get?_push_of_some _ e)) ⟨_, Heap.get?_push_size _ rfl, rfl⟩ (by
    show h.objs.size ≤ (h.push _).objs.size
    rw [Heap.size_push]; exact Nat.le_succ _)

/-- __next__ of a range's iterator -/
theorem cnR {it : Addr} {x left step : Int} {Q : Option Value → Shared → Prop} (S : St b L h al news) (U : Upd it (rangeIt x left step) (rangeIt (x + step) (left - 1) step) news news') (hl : 0 < left)
    (hq : ∀ h', St b L h' al news' → Heap.SameBut it h h' → Q (some (.int x tk)) (sh s h' (tk + 1))) : wpAny (model prog w) A (callSpecial? (.ref it) "__next__") Q E (sh s h tk) := by
  have hm : (it, rangeIt x left step) ∈ news := by
    obtain ⟨pre, post, rfl, _⟩ := U.split
    exact List.mem_append.mpr (.inr (.head _))
  have ho : (sh s h tk).heap.get? it = some (rangeIt x left step) := S.N.get hm
  have hT : (sh s h tk).TypeIs (.ref it) "range_iterator" := ⟨_, ho, rfl⟩
  refine wpAny_callSpecial?_slot (name := PySem.Str.ofString "__next__") hT F.slot_range_iterator_next (wpAny_call_entry F.slot_range_iterator_next hT F.entry_range_iterator_next ?_ (F.args_range_iterator_next_1 _))
  show wpAny _ _ (field (.ref it) 0 >>= _) _ _ _
  refine wpAny_bind (wpAny_field ho rfl (x := rawInt x) rfl ?_)
  show wpAny _ _ (field (.ref it) 1 >>= _) _ _ _
  refine wpAny_bind (wpAny_field ho rfl (x := rawInt left) rfl ?_)
  show wpAny _ _ (field (.ref it) 2 >>= _) _ _ _
  refine wpAny_bind (wpAny_field ho rfl (x := rawInt step) rfl ?_)
  show wpAny _ _ (if left ≤ 0 then _ else _) _ _ _
  rw [if_neg (by first | lia | omega)]
  refine wpAny_bind (wpAny_setField_rec ho (by simp) fun h1 ho1 hs1 => ?_)
  refine wpAny_bind (wpAny_setField_rec (s := { sh s h tk with heap := h1 }) ho1 (by simp) fun h2 ho2 hs2 => ?_)
  refine wpAny_bind (wpAny_mkInt (wpAny_pure ⟨_, rfl, ?_⟩))
  exact hq h2 (S.upd U (hs1.trans hs2) ho2) (hs1.trans hs2)
theorem cnR_end {it : Addr} {x left step : Int} {Q : Option Value → Shared → Prop} (hh : A.handled = none) (S : St b L h al news) (hm : (it, rangeIt x left step) ∈ news) (hl : left ≤ 0)
    (hE : ∀ e h', St b L h' al news → Stops h' e → h.objs.size ≤ e → E (.ref e) (sh s h' tk)) : wpAny (model prog w) A (callSpecial? (.ref it) "__next__") Q E (sh s h tk) := by
  have ho : (sh s h tk).heap.get? it = some (rangeIt x left step) := S.N.get hm
  have hT : (sh s h tk).TypeIs (.ref it) "range_iterator" := ⟨_, ho, rfl⟩
  refine wpAny_callSpecial?_slot (name := PySem.Str.ofString "__next__") hT F.slot_range_iterator_next (wpAny_call_entry F.slot_range_iterator_next hT F.entry_range_iterator_next ?_ (F.args_range_iterator_next_1 _))
  show wpAny _ _ (field (.ref it) 0 >>= _) _ _ _
  refine wpAny_bind (wpAny_field ho rfl (x := rawInt x) rfl ?_)
  show wpAny _ _ (field (.ref it) 1 >>= _) _ _ _
  refine wpAny_bind (wpAny_field ho rfl (x := rawInt left) rfl ?_)
  show wpAny _ _ (field (.ref it) 2 >>= _) _ _ _
  refine wpAny_bind (wpAny_field ho rfl (x := rawInt step) rfl ?_)
  show wpAny _ _ (if left ≤ 0 then _ else _) _ _ _
  rw [if_pos hl]
  exact wpAny_bind (wpAny_rule (wpAny_bind (stop_ hh fun e h' hk he hle => hE e h' (S.grow hk) he hle)))

/-- __next__ of a list's iterator -/
theorem cnL {it ax : Addr} {i ep : Nat} {items : Array Value} {x : Value} {Q : Option Value → Shared → Prop} (S : St b L h al news) (U : Upd it (lsO (.ref ax) i) (lsO (.ref ax) (i + 1)) news news') (hl : h.get? ax = some (listOf items ep)) (hx : items[i]? = some x)
    (hq : ∀ h', St b L h' al news' → Heap.SameBut it h h' → Q (some x) (sh s h' tk)) : wpAny (model prog w) A (callSpecial? (.ref it) "__next__") Q E (sh s h tk) := by
  have hm : (it, lsO (.ref ax) i) ∈ news := by
    obtain ⟨pre, post, rfl, _⟩ := U.split
    exact List.mem_append.mpr (.inr (.head _))
  have ho : (sh s h tk).heap.get? it = some (lsO (.ref ax) i) := S.N.get hm
  have hT : (sh s h tk).TypeIs (.ref it) "list_iterator" := ⟨_, ho, rfl⟩
  refine wpAny_callSpecial?_slot (name := PySem.Str.ofString "__next__") hT slot_listiter_next (wpAny_call_entry slot_listiter_next hT entry_listiter_next ?_ (args_listiter_next _))
  show wpAny _ _ (field (.ref it) 0 >>= _) _ _ _
  refine wpAny_bind (wpAny_field ho rfl (x := .ref ax) rfl ?_)
  show wpAny _ _ (if (Value.ref ax == Value.none) = true then _ else _) _ _ _
  rw [if_neg (show ¬ ((Value.ref ax == Value.none) = true) from Bool.false_ne_true)]
  show wpAny _ _ (field (.ref it) 1 >>= _) _ _ _
  refine wpAny_bind (wpAny_field ho rfl (x := .int i 0) rfl ?_)
  show wpAny _ _ (seqItems? (.ref ax) >>= _) _ _ _
  refine wpAny_bind (wpAny_seqItems (s := sh s h tk) hl rfl ?_)
  simp only [Int.toNat_natCast, hx]
  refine wpAny_bind (wpAny_setField_rec ho (by simp) fun h1 ho1 hs1 => wpAny_pure ⟨x, rfl, ?_⟩)
  exact hq h1 (S.upd U hs1 ho1) hs1
theorem cnL_end {it ax : Addr} {i ep : Nat} {items : Array Value} {Q : Option Value → Shared → Prop} (hh : A.handled = none) (S : St b L h al news) (U : Upd it (lsO (.ref ax) i) (lsO .none i) news news') (hl : h.get? ax = some (listOf items ep)) (hx : items[i]? = none)
    (hE : ∀ e h', St b L h' al news' → Stops h' e → h.objs.size ≤ e → E (.ref e) (sh s h' tk)) : wpAny (model prog w) A (callSpecial? (.ref it) "__next__") Q E (sh s h tk) := by
  have hm : (it, lsO (.ref ax) i) ∈ news := by
    obtain ⟨pre, post, rfl, _⟩ := U.split
    exact List.mem_append.mpr (.inr (.head _))
  have ho : (sh s h tk).heap.get? it = some (lsO (.ref ax) i) := S.N.get hm
  have hT : (sh s h tk).TypeIs (.ref it) "list_iterator" := ⟨_, ho, rfl⟩
  refine wpAny_callSpecial?_slot (name := PySem.Str.ofString "__next__") hT slot_listiter_next (wpAny_call_entry slot_listiter_next hT entry_listiter_next ?_ (args_listiter_next _))
  show wpAny _ _ (field (.ref it) 0 >>= _) _ _ _
  refine wpAny_bind (wpAny_field ho rfl (x := .ref ax) rfl ?_)
  show wpAny _ _ (if (Value.ref ax == Value.none) = true then _ else _) _ _ _
  rw [if_neg (show ¬ ((Value.ref ax == Value.none) = true) from Bool.false_ne_true)]
  show wpAny _ _ (field (.ref it) 1 >>= _) _ _ _
  refine wpAny_bind (wpAny_field ho rfl (x := .int i 0) rfl ?_)
  show wpAny _ _ (seqItems? (.ref ax) >>= _) _ _ _
  refine wpAny_bind (wpAny_seqItems (s := sh s h tk) hl rfl ?_)
  simp only [Int.toNat_natCast, hx]
  refine wpAny_bind (wpAny_rule (wpAny_bind (wpAny_setField_rec ho (by simp) fun h1 ho1 hs1 => ?_)))
  exact stop_ (h := h1) hh fun e h' hk he hle => hE e h' ((S.upd U hs1 ho1).grow hk) he (Nat.le_trans (Nat.le_of_eq hs1.1.symm) hle)
theorem cnL_gone {it : Addr} {i : Nat} {Q : Option Value → Shared → Prop} (hh : A.handled = none) (S : St b L h al news) (hm : (it, lsO .none i) ∈ news)
    (hE : ∀ e h', St b L h' al news → Stops h' e → h.objs.size ≤ e → E (.ref e) (sh s h' tk)) : wpAny (model prog w) A (callSpecial? (.ref it) "__next__") Q E (sh s h tk) := by
  have ho : (sh s h tk).heap.get? it = some (lsO .none i) := S.N.get hm
  have hT : (sh s h tk).TypeIs (.ref it) "list_iterator" := ⟨_, ho, rfl⟩
  refine wpAny_callSpecial?_slot (name := PySem.Str.ofString "__next__") hT slot_listiter_next (wpAny_call_entry slot_listiter_next hT entry_listiter_next ?_ (args_listiter_next _))
  show wpAny _ _ (field (.ref it) 0 >>= _) _ _ _
  refine wpAny_bind (wpAny_field ho rfl (x := .none) rfl ?_)
  show wpAny _ _ (if (Value.none == Value.none) = true then _ else _) _ _ _
  rw [if_pos (show (Value.none == Value.none) = true from rfl)]
  exact wpAny_bind (wpAny_rule (wpAny_bind (stop_ hh fun e h' hk he hle => hE e h' (S.grow hk) he hle)))

/-- from __next__ to the loop's own step -/
theorem pyNextOf {it : Addr} {Q : Option Value → Shared → Prop}
    (hc : wpAny (model prog w) A (callSpecial? (.ref it) "__next__") (fun r s' => ∃ v, r = some v ∧ Q (some v) s') (fun x s' => ∃ e h' tk', x = .ref e ∧ s' = sh s h' tk' ∧ Stops h' e ∧ Q none s') (sh s h tk)) : wpAny (model prog w) A (pyNext (.ref it)) Q E (sh s h tk) := by
  unfold pyNext
  refine wpAny_bind (wpAny_attempt (wpAny_mono hc (fun r s' h' => ?_) fun x s' h' => ?_))
  · obtain ⟨v, rfl, hq⟩ := h'
    exact wpAny_pure hq
  · obtain ⟨e, h', tk', rfl, rfl, ⟨o, ho, hc⟩, hq⟩ := h'
    exact wpAny_bind (wpAny_isInstance (T := "StopIteration") (b := true) ⟨o, ho, hc⟩ isSubtype_stop (wpAny_pure hq))
theorem nextOfOf {it : Addr} {Q : Value → Shared → Prop} (hc : wpAny (model prog w) A (callSpecial? (.ref it) "__next__") (fun r s' => ∃ v, r = some v ∧ Q v s') E (sh s h tk)) : wpAny (model prog w) A (Builtin.SmallTypes.nextOf (.ref it)) Q E (sh s h tk) := by
  unfold Builtin.SmallTypes.nextOf
  refine wpAny_bind (wpAny_mono hc (fun r s' h' => ?_) fun _ _ x => x)
  obtain ⟨v, rfl, hq⟩ := h'
  exact wpAny_pure hq

theorem nxL {it ax : Addr} {i ep : Nat} {items : Array Value} {x : Value} {Q : Option Value → Shared → Prop} (S : St b L h al news) (U : Upd it (lsO (.ref ax) i) (lsO (.ref ax) (i + 1)) news news') (hl : h.get? ax = some (listOf items ep)) (hx : items[i]? = some x)
    (hq : ∀ h', St b L h' al news' → Q (some x) (sh s h' tk)) : wpAny (model prog w) A (pyNext (.ref it)) Q E (sh s h tk) :=
  pyNextOf (cnL S U hl hx fun h' S' _ => ⟨_, rfl, hq h' S'⟩)
theorem nxL_end {it ax : Addr} {i ep : Nat} {items : Array Value} {Q : Option Value → Shared → Prop} (hh : A.handled = none) (S : St b L h al news) (U : Upd it (lsO (.ref ax) i) (lsO .none i) news news') (hl : h.get? ax = some (listOf items ep)) (hx : items[i]? = none)
    (hq : ∀ h', St b L h' al news' → Q none (sh s h' tk)) : wpAny (model prog w) A (pyNext (.ref it)) Q E (sh s h tk) :=
  pyNextOf (cnL_end hh S U hl hx fun e h' S' he _ => ⟨e, h', tk, rfl, rfl, he, hq h' S'⟩)
theorem nxL_gone {it : Addr} {i : Nat} {Q : Option Value → Shared → Prop} (hh : A.handled = none) (S : St b L h al news) (hm : (it, lsO .none i) ∈ news)
    (hq : ∀ h', St b L h' al news → Q none (sh s h' tk)) : wpAny (model prog w) A (pyNext (.ref it)) Q E (sh s h tk) :=
  pyNextOf (cnL_gone hh S hm fun e h' S' he _ => ⟨e, h', tk, rfl, rfl, he, hq h' S'⟩)

theorem iterL {ax : Addr} {items : Array Value} {ep : Nat} {Q : Value → Shared → Prop} (S : St b L h al news) (hl : h.get? ax = some (listOf items ep))
    (hq : ∀ it h', St b L h' al ((it, lsO (.ref ax) 0) :: news) → (∀ p ∈ news, p.1 < it) → it = h.objs.size → h'.objs.size = it + 1 → Q (.ref it) (sh s h' tk)) : wpAny (model prog w) A (pyIter (.ref ax)) Q E (sh s h tk) :=
  wpAny_pyIter_list (s := sh s h tk) ⟨_, hl, rfl, _, rfl⟩ (hq _ _ (S.push _) S.below rfl (Heap.size_push ..))
theorem iterSelf {it : Addr} {src : Value} {i : Nat} {Q : Value → Shared → Prop} (hi : h.get? it = some (lsO src i)) (hq : Q (.ref it) (sh s h tk)) : wpAny (model prog w) A (pyIter (.ref it)) Q E (sh s h tk) := by
  have hT : (sh s h tk).TypeIs (.ref it) "list_iterator" := ⟨_, hi, rfl⟩
  refine wpAny_pyIter_slot hT slot_listiter_iter (wpAny_call_entry slot_listiter_iter hT entry_listiter_iter ?_ (args_listiter_iter _))
  show wpAny _ _ (ret (.ref it)) _ _ _
  exact wpAny_pure ⟨_, rfl, "list_iterator", _, hT, slot_listiter_next.lookup, hq⟩
end
end Mine
/- MZip -/
namespace Mine
open PySem PySem.W PyProof.Rows PySem.Calls
section
variable {prog : Program} {w : World} {A : Around} {E : Value → Shared → Prop} {s : Shared} {b h : Heap} {tk : Nat} {L : Addr} {al : List (Str × Value)} {news news' rest : List (Addr × Obj)} {env : Env}

theorem meets_zip_rl (r it : Addr) (a n c : Int) (t1 t2 t3 : Tok) (l : Addr) (i : Nat) (hsmall : Builtin.Range.small a n c = true) :
    Meets (Builtin.«zip.__new__» ⟨[.type "zip", .ref r, .ref it], []⟩) (fun _ R s => IsRange s.heap r a n c t1 t2 t3 ∧ s.heap.IsListIter it l i ∧
      R (.ok (.ret (.ref (s.heap.objs.size + 3)))) { s with heap := (((s.heap.push (rangeIt a (Builtin.Range.rangeSize a n c) c)).push (pairO (.ref s.heap.objs.size) (.ref it))).push (pairO .none .none)).push (zipO .none (s.heap.objs.size + 1) (s.heap.objs.size + 2)) }) :=
  .of_wp fun prog w A R s h => by
    obtain ⟨hp, g, d, tk, os⟩ := s; obtain ⟨h1, h2, h⟩ := h
    have hsub := sub_zip
    have hL1 : IsRange (Shared.heap ⟨hp, g, d, tk, os⟩) r a n c t1 t2 t3 := h1
    have hL2 : Heap.IsListIter (Shared.heap ⟨hp.push (rangeIt a (Builtin.Range.rangeSize a n c) c), g, d, tk, os⟩) it l i := by
      obtain ⟨o, ho, r⟩ := h2; exact ⟨o, Heap.get?_push_of_some _ ho, r⟩
    have z1 : (hp.push (rangeIt a (Builtin.Range.rangeSize a n c) c)).objs.size = hp.objs.size + 1 := Heap.size_push ..
    have z2 : ((hp.push (rangeIt a (Builtin.Range.rangeSize a n c) c)).push (pairO (.ref hp.objs.size) (.ref it))).objs.size = hp.objs.size + 2 := by rw [Heap.size_push, z1]
    have z3 : (((hp.push (rangeIt a (Builtin.Range.rangeSize a n c) c)).push (pairO (.ref hp.objs.size) (.ref it))).push (pairO .none .none)).objs.size = hp.objs.size + 3 := by rw [Heap.size_push, z2]
    wp_walk using wpAny_pyIter_range hL1 hsmall, wpAny_pyIter_listiter hL2
    have key : ∀ (n1 n2 n3 : Nat), n1 = hp.objs.size + 1 → n2 = hp.objs.size + 2 → n3 = hp.objs.size + 3 →
        R (.ok (.ret (.ref n3))) ⟨(((hp.push (rangeIt a (Builtin.Range.rangeSize a n c) c)).push (pairO (.ref hp.objs.size) (.ref it))).push (pairO .none .none)).push (zipO .none n1 n2), g, d, tk, os⟩ := by
      rintro _ _ _ rfl rfl rfl; exact h
    exact ⟨_, rfl, key _ _ _ z1 z2 z3⟩

theorem callZip {r it l : Addr} {i : Nat} {a n c : Int} {t1 t2 t3 : Tok} {Q : Value → Shared → Prop} (S : St b L h al news) (hr : h.get? r = some (rangeO a n c t1 t2 t3)) (hi : h.get? it = some (lsO (.ref l) i)) (hsmall : Builtin.Range.small a n c = true)
    (hq : ∀ i1 TI TO z h', St b L h' al ((z, zipO .none TI TO) :: (TO, pairO .none .none) :: (TI, pairO (.ref i1) (.ref it)) :: (i1, rangeIt a (Builtin.Range.rangeSize a n c) c) :: news) → (∀ p ∈ news, p.1 < i1) → it < i1 → i1 < TI → TI < TO → TO < z → h'.objs.size = z + 1 → Q (.ref z) (sh s h' tk)) :
    wpAny (model prog w) A (call (.type "zip") [.ref r, .ref it]) Q E (sh s h tk) := by
  refine callType_new F.called_zip (by decide) (F.typeCall_zip_2 _ _) (F.newCall_zip_2 _ _) (fun obj => F.args_object_init_3 obj _ _) F.entry_zip_new (meets_zip_rl r it a n c t1 t2 t3 l i hsmall) ⟨hr, ⟨_, hi, rfl, rfl⟩, ?_⟩
  have z1 : (h.push (rangeIt a (Builtin.Range.rangeSize a n c) c)).objs.size = h.objs.size + 1 := Heap.size_push ..
  have z2 : ((h.push (rangeIt a (Builtin.Range.rangeSize a n c) c)).push (pairO (.ref h.objs.size) (.ref it))).objs.size = h.objs.size + 2 := by rw [Heap.size_push, z1]
  have z3 : (((h.push (rangeIt a (Builtin.Range.rangeSize a n c) c)).push (pairO (.ref h.objs.size) (.ref it))).push (pairO .none .none)).objs.size = h.objs.size + 3 := by rw [Heap.size_push, z2]
  have S1 := S.push (rangeIt a (Builtin.Range.rangeSize a n c) c)
  have S2 := S1.push (pairO (.ref h.objs.size) (.ref it))
  have S3 := S2.push (pairO .none .none)
  have S4 := S3.push (zipO .none (h.objs.size + 1) (h.objs.size + 2))
  have hlt := Heap.lt_size hi
  have zz : ((((h.push (rangeIt a (Builtin.Range.rangeSize a n c) c)).push (pairO (.ref h.objs.size) (.ref it))).push (pairO .none .none)).push (zipO .none (h.objs.size + 1) (h.objs.size + 2))).objs.size = h.objs.size + 4 := by rw [Heap.size_push, z3]
  rw [z1, z2, z3] at S4
  refine ⟨⟨_, S4.N.get (.head _), rfl⟩, ?_⟩
  exact hq h.objs.size (h.objs.size + 1) (h.objs.size + 2) (h.objs.size + 3) _ S4 S.below hlt (Nat.lt_succ_self _) (Nat.lt_succ_self _) (Nat.lt_succ_self _) zz

theorem onR {α : Type} {m : Sem α} {f : Value → Sem Unit} {Q : α → Shared → Prop} (hm : wpAny (model prog w) A m Q (fun x s' => wpAny (model prog w) A (f x) (fun _ s'' => E x s'') E s') s) : wpAny (model prog w) A (m.onRaise f) Q E s := wpAny_onRaise hm

variable {z TI TO i1 i2 ax : Addr} {x left step : Int} {a0 b0 : Value} {i ep : Nat} {items : Array Value}

/-- the zip's parts lie apart -/
structure Apart (z TO i1 i2 : Addr) (rest : List (Addr × Obj)) : Prop where
  zTO : z ≠ TO
  zi1 : z ≠ i1
  zi2 : z ≠ i2
  TOi1 : TO ≠ i1
  TOi2 : TO ≠ i2
  i12 : i1 ≠ i2
  r : ∀ p ∈ rest, p.1 ≠ z ∧ p.1 ≠ TO ∧ p.1 ≠ i1 ∧ p.1 ≠ i2

theorem uZ {D : Apart z TO i1 i2 rest} {o o' oT o1 o2 : Obj} : Upd z o o' ((z, o) :: (TO, oT) :: (i1, o1) :: (i2, o2) :: rest) ((z, o') :: (TO, oT) :: (i1, o1) :: (i2, o2) :: rest) := .head fun p hp => by
  rcases List.mem_cons.mp hp with rfl | hp
  · exact D.zTO.symm
  · rcases List.mem_cons.mp hp with rfl | hp
    · exact D.zi1.symm
    · rcases List.mem_cons.mp hp with rfl | hp
      · exact D.zi2.symm
      · exact (D.r p hp).1
theorem uT {D : Apart z TO i1 i2 rest} {oz o o' o1 o2 : Obj} : Upd TO o o' ((z, oz) :: (TO, o) :: (i1, o1) :: (i2, o2) :: rest) ((z, oz) :: (TO, o') :: (i1, o1) :: (i2, o2) :: rest) := .tail D.zTO (.head fun p hp => by
  rcases List.mem_cons.mp hp with rfl | hp
  · exact D.TOi1.symm
  · rcases List.mem_cons.mp hp with rfl | hp
    · exact D.TOi2.symm
    · exact (D.r p hp).2.1)
theorem u1 {D : Apart z TO i1 i2 rest} {oz oT o o' o2 : Obj} : Upd i1 o o' ((z, oz) :: (TO, oT) :: (i1, o) :: (i2, o2) :: rest) ((z, oz) :: (TO, oT) :: (i1, o') :: (i2, o2) :: rest) := .tail D.zi1 (.tail D.TOi1 (.head fun p hp => by
  rcases List.mem_cons.mp hp with rfl | hp
  · exact D.i12.symm
  · exact (D.r p hp).2.2.1))
theorem u2 {D : Apart z TO i1 i2 rest} {oz oT o1 o o' : Obj} : Upd i2 o o' ((z, oz) :: (TO, oT) :: (i1, o1) :: (i2, o) :: rest) ((z, oz) :: (TO, oT) :: (i1, o1) :: (i2, o') :: rest) := .tail D.zi2 (.tail D.TOi2 (.tail D.i12 (.head fun p hp => (D.r p hp).2.2.2)))

theorem setF {d : Addr} {cls : Value} {vs : Array Value} {k : Nat} {v : Value} {Q : Unit → Shared → Prop} (S : St b L h al news) (U : Upd d { cls := cls, dict := none, data := .fields vs, slots := #[] } { cls := cls, dict := none, data := .fields (vs.setIfInBounds k v), slots := #[] } news news') (hk : k < vs.size)
    (hq : ∀ h', St b L h' al news' → h'.objs.size = h.objs.size → Q () (sh s h' tk)) : wpAny (model prog w) A (setField (.ref d) k v) Q E (sh s h tk) := by
  have hm : (d, ({ cls := cls, dict := none, data := .fields vs, slots := #[] } : Obj)) ∈ news := by
    obtain ⟨pre, post, rfl, _⟩ := U.split
    exact List.mem_append.mpr (.inr (.head _))
  exact wpAny_setField_rec (s := sh s h tk) (S.N.get hm) hk fun h' ho hs => hq h' (S.upd U hs ho) hs.1
theorem setP {T : Addr} {v : Value} {k : Nat} {Q : Unit → Shared → Prop} (S : St b L h al news) (U : Upd T (pairO a0 b0) { cls := .type "tuple", data := .seq ((#[a0, b0] : Array Value).setIfInBounds k v) } news news')
    (hq : ∀ h', St b L h' al news' → h'.objs.size = h.objs.size → Q () (sh s h' tk)) : wpAny (model prog w) A (updateSeq T (·.setIfInBounds k v)) Q E (sh s h tk) := by
  have hm : (T, pairO a0 b0) ∈ news := by
    obtain ⟨pre, post, rfl, _⟩ := U.split
    exact List.mem_append.mpr (.inr (.head _))
  exact wpAny_updateSeq_pair (s := sh s h tk) (S.N.get hm) fun h' ho hs => hq h' (S.upd U hs ho) hs.1

/-- the head of the zip's step: to the first draw -/
theorem zipHead {Q : Option Value → Shared → Prop} (D : Apart z TO i1 i2 rest) {o1 o2 : Obj} (S : St b L h al ((z, zipO .none TI TO) :: (TO, pairO a0 b0) :: (i1, o1) :: (i2, o2) :: rest)) (hTI : (TI, pairO (.ref i1) (.ref i2)) ∈ rest)
    (hq : ∀ h', St b L h' al ((z, zipO .ellipsis TI TO) :: (TO, pairO a0 b0) :: (i1, o1) :: (i2, o2) :: rest) → h'.objs.size = h.objs.size →
      wpAny (model prog w) A.in1 (callSpecial? (.ref i1) "__next__") (fun r s1 => ∃ v h1 tk1 o1', r = some v ∧ s1 = sh s h1 tk1 ∧ h1.objs.size = h.objs.size ∧ St b L h1 al ((z, zipO .ellipsis TI TO) :: (TO, pairO a0 b0) :: (i1, o1') :: (i2, o2) :: rest) ∧
        ∀ h2 tk2, St b L h2 al ((z, zipO .ellipsis TI TO) :: (TO, pairO v b0) :: (i1, o1') :: (i2, o2) :: rest) → h2.objs.size = h.objs.size →
          wpAny (model prog w) A.in1 (callSpecial? (.ref i2) "__next__") (fun r s3 => ∃ u h3 tk3 o2', r = some u ∧ s3 = sh s h3 tk3 ∧ h3.objs.size = h.objs.size ∧ St b L h3 al ((z, zipO .ellipsis TI TO) :: (TO, pairO v b0) :: (i1, o1') :: (i2, o2') :: rest) ∧
            ∀ h4 T, St b L h4 al ((T, pairO v u) :: (z, zipO (rawInt T) TI TO) :: (TO, pairO v u) :: (i1, o1') :: (i2, o2') :: rest) → T = h.objs.size → Q (some (.ref T)) (sh s h4 tk3))
            (fun x s3 => ∃ e h3 tk3 o2', x = .ref e ∧ s3 = sh s h3 tk3 ∧ Stops h3 e ∧ St b L h3 al ((z, zipO .ellipsis TI TO) :: (TO, pairO v b0) :: (i1, o1') :: (i2, o2') :: rest) ∧ h.objs.size ≤ e ∧
              ∀ h4, St b L h4 al ((i2, o2') :: rest) → Q none (sh s h4 tk3)) (sh s h2 tk2))
        (fun x s1 => ∃ e h1 tk1 o1', x = .ref e ∧ s1 = sh s h1 tk1 ∧ Stops h1 e ∧ St b L h1 al ((z, zipO .ellipsis TI TO) :: (TO, pairO a0 b0) :: (i1, o1') :: (i2, o2) :: rest) ∧ h.objs.size ≤ e ∧
          ∀ h4, St b L h4 al ((i2, o2) :: rest) → Q none (sh s h4 tk1)) (sh s h' tk)) :
    wpAny (model prog w) A (pyNext (.ref z)) Q E (sh s h tk) := by
  have hz : (sh s h tk).heap.get? z = some (zipO .none TI TO) := S.N.get (.head _)
  have hT : (sh s h tk).TypeIs (.ref z) "zip" := ⟨_, hz, rfl⟩
  have hzlt : z < h.objs.size := Heap.lt_size hz
  have hTIh : (sh s h tk).heap.get? TI = some (pairO (.ref i1) (.ref i2)) := S.N.get (.tail _ (.tail _ (.tail _ (.tail _ hTI))))
  refine pyNextOf ?_
  refine wpAny_callSpecial?_slot (name := Str.ofString "__next__") hT F.slot_zip_next (wpAny_call_entry F.slot_zip_next hT F.entry_zip_next ?_ (F.args_zip_next_1 _))
  show wpAny _ _ (field (.ref z) 2 >>= _) _ _ _
  refine wpAny_bind (wpAny_field hz rfl (x := .bool false) rfl ?_)
  show wpAny _ _ (field (.ref z) 3 >>= _) _ _ _
  refine wpAny_bind (wpAny_field hz rfl (x := .ref TI) rfl ?_)
  refine wpAny_bind (wpAny_seqItems hTIh rfl ?_)
  show wpAny _ _ (Builtin.SmallTypes.ownedTupleIsFree (.ref z) >>= _) _ _ _
  refine wpAny_bind ?_
  unfold Builtin.SmallTypes.ownedTupleIsFree
  refine wpAny_bind (wpAny_field hz rfl (x := .none) rfl (wpAny_pure ?_))
  simp only [if_true]
  refine wpAny_bind (wpAny_rule ?_)
  refine wpAny_bind (wpAny_field hz rfl (x := .ref TO) rfl ?_)
  refine wpAny_bind (setF S (uZ (D := D)) (by simp) fun h1 S1 hz1 => ?_)
  refine wpAny_bind ?_
  simp only [List.zipIdx_cons, List.zipIdx_nil, List.forIn_cons, List.forIn_nil]
  have fin : ∀ (e : Addr) (h3 : Heap) (tk3 : Nat) (oT o1' o2' : Obj), Stops h3 e → h.objs.size ≤ e → St b L h3 al ((z, zipO .ellipsis TI TO) :: (TO, oT) :: (i1, o1') :: (i2, o2') :: rest) → (∀ h4, St b L h4 al ((i2, o2') :: rest) → Q none (sh s h4 tk3)) →
      wpAny (model prog w) A.in1 (setField (.ref z) 0 .none) (fun _ s'' => ∃ e' h' tk', Value.ref e = .ref e' ∧ s'' = sh s h' tk' ∧ Stops h' e' ∧ Q none s'') (fun x s' => ∃ e h' tk', x = .ref e ∧ s' = sh s h' tk' ∧ Stops h' e ∧ Q none s') (sh s h3 tk3) := fun e h3 tk3 oT o1' o2' he hle S3 hq3 => by
    obtain ⟨oe, hoe, hce⟩ := he
    have hez : e ≠ z := Nat.ne_of_gt (Nat.lt_of_lt_of_le hzlt hle)
    refine wpAny_setField_rec (s := sh s h3 tk3) (S3.N.get (.head _)) (by simp) fun h4 ho4 hs4 => ?_
    refine ⟨e, h4, tk3, rfl, rfl, ⟨oe, hs4.extBut _ _ hez hoe, hce⟩, hq3 h4 ?_⟩
    exact (S3.upd (uZ (D := D)) hs4 ho4).sub fun p hp => .tail _ (.tail _ (.tail _ hp))
  refine wpAny_bind (wpAny_bind (wpAny_onRaise ?_))
  show wpAny _ _ (Builtin.SmallTypes.nextOf (.ref i1) >>= _) _ _ _
  refine wpAny_bind (nextOfOf (wpAny_mono (hq h1 S1 hz1) (fun r s1 hr => ?ok) fun x s1 hx => ?ko))
  case ko =>
    obtain ⟨e, h2, tk2, o1', rfl, rfl, he, S2, hle, hq2⟩ := hx
    exact fin e h2 tk2 _ o1' o2 he hle S2 hq2
  obtain ⟨v, h2, tk2, o1', rfl, rfl, hz2, S2, hq2⟩ := hr
  refine ⟨v, rfl, wpAny_pure ?_⟩
  refine wpAny_bind (wpAny_seqItems (s := sh s h2 tk2) (S2.N.get (.tail _ (.head _))) rfl ?_)
  refine wpAny_bind (setP S2 (uT (D := D)) fun h3 S3 hz3 => ?_)
  refine wpAny_bind (wpAny_letGo (wpAny_pure ?_))
  refine wpAny_bind (wpAny_bind (wpAny_onRaise ?_))
  show wpAny _ _ (Builtin.SmallTypes.nextOf (.ref i2) >>= _) _ _ _
  refine wpAny_bind (nextOfOf (wpAny_mono (hq2 h3 tk2 S3 (hz3.trans hz2)) (fun r s1 hr => ?ok2) fun x s1 hx => ?ko2))
  case ko2 =>
    obtain ⟨e, h4, tk4, o2', rfl, rfl, he, S4, hle, hq4⟩ := hx
    exact fin e h4 tk4 _ o1' o2' he hle S4 hq4
  obtain ⟨u, h4, tk4, o2', rfl, rfl, hz4, S4, hq4⟩ := hr
  refine ⟨u, rfl, wpAny_pure ?_⟩
  refine wpAny_bind (wpAny_seqItems (s := sh s h4 tk4) (S4.N.get (.tail _ (.head _))) rfl ?_)
  refine wpAny_bind (setP S4 (uT (D := D)) fun h5 S5 hz5 => ?_)
  refine wpAny_bind (wpAny_letGo (wpAny_pure (wpAny_pure ?_)))
  refine wpAny_bind (wpAny_seqItems (s := sh s h5 tk4) (S5.N.get (.tail _ (.head _))) rfl ?_)
  refine wpAny_bind (wpAny_newTuple ?_ (by rw [sizeLine_eq]; simp))
  have S6 := S5.push (pairO v u)
  have hsz5 : h5.objs.size = h.objs.size := hz5.trans hz4
  have hnz : ∀ p ∈ (z, zipO .ellipsis TI TO) :: (TO, pairO v u) :: (i1, o1') :: (i2, o2') :: rest, p.1 ≠ h5.objs.size := fun p hp => Nat.ne_of_lt (S5.below p hp)
  show wpAny _ _ (Builtin.SmallTypes.ownedTupleHandOut (.ref z) (.ref h5.objs.size) >>= _) _ _ (sh s (h5.push (pairO v u)) tk4)
  refine wpAny_bind ?_
  unfold Builtin.SmallTypes.ownedTupleHandOut
  refine wpAny_bind (setF S6 (.tail (Ne.symm (hnz _ (.head _))) (uZ (D := D))) (by simp) fun h7 S7 hz7 => ?_)
  refine setF S7 (.tail (Ne.symm (hnz _ (.head _))) (uZ (D := D))) (by simp) fun h8 S8 hz8 => ?_
  refine wpAny_pure ⟨_, rfl, _, rfl, ?_⟩
  exact hq4 h8 _ S8 hsz5
end
end Mine
/- MZip2 -/
namespace Mine
open PySem PySem.W PyProof.Rows PySem.Calls
section
variable {prog : Program} {w : World} {A : Around} {E : Value → Shared → Prop} {s : Shared} {b h : Heap} {tk : Nat} {L D : Addr} {al : List (Str × Value)} {news news' rest : List (Addr × Obj)} {env : Env}
variable {z TI TO i1 i2 ax : Addr} {x left step : Int} {a0 b0 : Value} {i ep : Nat} {items : Array Value}

theorem zItem {y : Value} {Q : Option Value → Shared → Prop} (D : Apart z TO i1 i2 rest) (S : St b L h al ((z, zipO .none TI TO) :: (TO, pairO a0 b0) :: (i1, rangeIt x left step) :: (i2, lsO (.ref ax) i) :: rest)) (hTI : (TI, pairO (.ref i1) (.ref i2)) ∈ rest)
    (hl : 0 < left) (hax : b.get? ax = some (listOf items ep)) (hy : items[i]? = some y)
    (hq : ∀ h' T t tk', St b L h' al ((T, pairO (.int x t) y) :: (z, zipO (rawInt T) TI TO) :: (TO, pairO (.int x t) y) :: (i1, rangeIt (x + step) (left - 1) step) :: (i2, lsO (.ref ax) (i + 1)) :: rest) → T = h.objs.size → Q (some (.ref T)) (sh s h' tk')) :
    wpAny (model prog w) A (pyNext (.ref z)) Q E (sh s h tk) := by
  refine zipHead D S hTI fun h1 S1 hz1 => ?_
  refine cnR S1 (u1 (D := D)) hl fun h2 S2 hs2 => ⟨_, h2, _, _, rfl, rfl, hs2.1.trans hz1, S2, fun h3 tk3 S3 hz3 => ?_⟩
  refine cnL S3 (u2 (D := D)) (S3.keep _ _ hax) hy fun h4 S4 hs4 => ⟨_, h4, _, _, rfl, rfl, hs4.1.trans hz3, S4, fun h5 T S5 hT => ?_⟩
  exact hq h5 T _ _ S5 hT
theorem zEndR {Q : Option Value → Shared → Prop} (hh : A.handled = none) (D : Apart z TO i1 i2 rest) {o2 : Obj} (S : St b L h al ((z, zipO .none TI TO) :: (TO, pairO a0 b0) :: (i1, rangeIt x left step) :: (i2, o2) :: rest)) (hTI : (TI, pairO (.ref i1) (.ref i2)) ∈ rest)
    (hl : left ≤ 0) (hq : ∀ h' tk', St b L h' al ((i2, o2) :: rest) → Q none (sh s h' tk')) :
    wpAny (model prog w) A (pyNext (.ref z)) Q E (sh s h tk) := by
  refine zipHead D S hTI fun h1 S1 hz1 => ?_
  refine cnR_end hh S1 (.tail _ (.tail _ (.head _))) hl fun e h2 S2 he hle => ⟨e, h2, _, _, rfl, rfl, he, S2, ?_, fun h3 S3 => hq h3 _ S3⟩
  rw [← hz1]; exact hle
theorem zEndL {Q : Option Value → Shared → Prop} (hh : A.handled = none) (D : Apart z TO i1 i2 rest) (S : St b L h al ((z, zipO .none TI TO) :: (TO, pairO a0 b0) :: (i1, rangeIt x left step) :: (i2, lsO (.ref ax) i) :: rest)) (hTI : (TI, pairO (.ref i1) (.ref i2)) ∈ rest)
    (hl : 0 < left) (hax : b.get? ax = some (listOf items ep)) (hy : items[i]? = none) (hq : ∀ h' tk', St b L h' al ((i2, lsO .none i) :: rest) → Q none (sh s h' tk')) :
    wpAny (model prog w) A (pyNext (.ref z)) Q E (sh s h tk) := by
  refine zipHead D S hTI fun h1 S1 hz1 => ?_
  refine cnR S1 (u1 (D := D)) hl fun h2 S2 hs2 => ⟨_, h2, _, _, rfl, rfl, hs2.1.trans hz1, S2, fun h3 tk3 S3 hz3 => ?_⟩
  refine cnL_end hh S3 (u2 (D := D)) (S3.keep _ _ hax) hy fun e h4 S4 he hle => ⟨e, h4, _, _, rfl, rfl, he, S4, ?_, fun h5 S5 => hq h5 _ S5⟩
  rw [← hz3]; exact hle
theorem goZ {T : Addr} {elts : List Expr} {x1 : Nat} {pos : Pos} {Q : Unit → Shared → Prop} (S : St b L h al news) (U : Upd z (zipO (rawInt T) TI TO) (zipO .none TI TO) news news')
    (hq : ∀ h', St b L h' al news' → Q () (sh s h' tk)) : wpAny (model prog w) A (letOwnedTupleGo (.Tuple elts x1 pos) (.ref z) (.ref T)) Q E (sh s h tk) := by
  have hm : (z, zipO (rawInt T) TI TO) ∈ news := by
    obtain ⟨pre, post, rfl, _⟩ := U.split
    exact List.mem_append.mpr (.inr (.head _))
  exact wpAny_letOwnedTupleGo_zip (s := sh s h tk) (S.N.get hm) fun h' hz hs => hq h' (S.upd U hs hz)
theorem zSelf {f0 : Value} {Q : Value → Shared → Prop} (hz : h.get? z = some (zipO f0 TI TO)) (hq : Q (.ref z) (sh s h tk)) : wpAny (model prog w) A (pyIter (.ref z)) Q E (sh s h tk) := wpAny_pyIter_zip (s := sh s h tk) hz hq
theorem goL {T it : Addr} {src : Value} {elts : List Expr} {x1 : Nat} {pos : Pos} {Q : Unit → Shared → Prop} (hi : h.get? it = some (lsO (.ref ax) i)) (hq : Q () (sh s h tk)) :
    wpAny (model prog w) A (letOwnedTupleGo (.Tuple elts x1 pos) (.ref it) (.ref T)) Q E (sh s h tk) := wpAny_letOwnedTupleGo_listiter (s := sh s h tk) ⟨_, hi, rfl, rfl⟩ hq

/-- a comprehension's loop, the owned tuple's step told -/
theorem compLT {elt target iter : Expr} {itv : Value} {scope : Scope} {pos : Pos} {R : Result → Shared → Prop} (I : Nat → Heap → Prop) (n₀ : Nat) (h₀ : I n₀ h)
    (turn : ∀ n h tk, I n h → wpAny (model prog w) A (pyNext itv) (fun r s₁ => match r with
      | none => R (.ok .next) s₁
      | some v => wpAny (model prog w) A (letOwnedTupleGo target itv v) (fun _ s₁' => wpAny (model prog w) A (assign target env v) (fun _ s₂ => wpAny (model prog w) A (eval elt env) (fun x s₃ => ∃ h3 tk3 its ep b C al news news', s₃ = sh s h3 tk3 ∧ St b C h3 al news ∧
          Upd D (listOf its ep) (listOf (its.push x) (ep + 1)) news news' ∧ its.size ≤ sizeLine ∧ ∀ h4, St b C h4 al news' → ∃ m, m < n ∧ I m h4) (fun _ _ => False) s₂) (fun _ _ => False) s₁') (fun _ _ => False) s₁) (fun _ _ => False) (sh s h tk)) :
    codeAny (model prog w) A (.compLoop (.ListComp elt [⟨target, iter, [], 0⟩] scope pos) 0 itv (.ref D) env) R (sh s h tk) := by
  refine codeAny_loop rfl (fun n s' => ∃ h' tk', s' = sh s h' tk' ∧ I n h') (fun n s' hI => ?_) n₀ ⟨h, tk, rfl, h₀⟩
  obtain ⟨h, tk, rfl, hI⟩ := hI
  show wpAny _ A ((compTurn (.ListComp elt [⟨target, iter, [], 0⟩] scope pos) 0 itv (.ref D) env).onRaise (fun x => do noteFrame x env; theTreesLotGoes x)) _ _ _
  refine wpAny_noted ?_
  rw [compTurn_list1]
  refine wpAny_bind (wpAny_standAt (wpAny_bind (wpAny_mono (turn n h tk hI) (fun r s₁ h₁ => ?_) fun _ _ x => x.elim)))
  cases r with
  | none => exact wpAny_pure h₁
  | some v =>
    refine wpAny_bind (wpAny_mono h₁ (fun _ s₁' h₁' => ?_) fun _ _ x => x.elim)
    refine wpAny_bind (wpAny_mono h₁' (fun _ s₂ h₂ => ?_) fun _ _ x => x.elim)
    refine wpAny_bind (wpAny_bind (wpAny_mono h₂ (fun x s₃ h₃ => ?_) fun _ _ x => x.elim))
    obtain ⟨h3, tk3, its, ep, b, C, al, news, news', rfl, S, U, hsz, hk⟩ := h₃
    obtain ⟨⟨m, F, hm⟩, N⟩ := S
    refine wpAny_bind (append_K (s := sh s h3 tk3) F N U (fun h' F' N' => ?_) hsz)
    obtain ⟨m', hlt, hi⟩ := hk h' ⟨⟨m, F', hm⟩, N'⟩
    exact wpAny_pure (wpAny_pure ⟨rfl, m', hlt, h', tk3, rfl, hi⟩)

/-- a tuple's parts to their names -/
theorem asgT {elts : List Expr} {x1 : Nat} {pos : Pos} {T : Addr} {its : Array Value} {Q : Unit → Shared → Prop} (hh : A.handled = none) (S : St b L h al news) (ht : h.get? T = some (tupO its))
    (hq : ∀ h', St b L h' al news → wpAny (model prog w) A (assignInOrder ((assignEach elts env).map (·.2)) its.toList) Q E (sh s h' tk))
    (hn : (assignEach elts env).length = its.size := by rfl) (hstar : (assignEach elts env).findIdx? (·.1) = none := by rfl) :
    wpAny (model prog w) A (assign (.Tuple elts x1 pos) env (.ref T)) Q E (sh s h tk) :=
  wpAny_assign_Tuple (s := sh s h tk) hh ⟨_, ht, rfl, _, rfl⟩ hn hstar fun h' he => hq h' (S.grow fun a o e => he a o (Nat.ne_of_lt (Heap.lt_size e)) e)

/-- a tuple display -/
theorem tupE {elts : List Expr} {x1 : Nat} {pos : Pos} {Q : Value → Shared → Prop}
    (hv : wpAny (model prog w) A (spliced (elts.map fun e => (false, eval e env))) (fun vs s₁ => ∃ h' tk', s₁ = sh s h' tk' ∧ vs.length ≤ sizeLine ∧ Q (.ref h'.objs.size) (sh s (h'.push (tupO vs.toArray)) tk')) E (sh s h tk))
    (hs : backTo pos (starEach elts env) = elts.map fun e => (false, eval e env) := by rfl) : wpAny (model prog w) A (eval (.Tuple elts x1 pos) env) Q E (sh s h tk) := by
  refine wpAny_Tuple_spliced ?_
  rw [hs]
  refine wpAny_mono hv (fun vs s₁ h₁ => ?_) fun _ _ x => x
  obtain ⟨h', tk', rfl, hl, hq⟩ := h₁
  exact ⟨hl, hq⟩
end
end Mine
/- MMin -/
namespace Mine
open PySem PySem.W PyProof.Rows PySem.Calls
theorem lower_take {R : Nat → Nat → Bool} (H : STO R) {n : Nat} {l : List Nat} (hnd : l.Nodup) (hlt : ∀ e ∈ l, e < n) (hs : l.Pairwise (fun a b => R a b = true)) (hlow : ∀ e ∈ l, ∀ x, x < n → x ∉ l → R e x = true) : l = (srt R n).take l.length := by
  have hmem : ∀ x, x ∈ srt R n ↔ x < n := fun x => (srt_perm R n).mem_iff.trans List.mem_range
  have full : l ++ (srt R n).filter (fun x => !l.contains x) = srt R n := by
    refine srt_unique H ?_ ?_
    · have nd : (l ++ (srt R n).filter (fun x => !l.contains x)).Nodup := by
        refine List.nodup_append.mpr ⟨hnd, (srt_nodup R n).filter _, fun a ha b hb e => ?_⟩
        subst e
        have := (List.mem_filter.mp hb).2
        simp [ha] at this
      refine (List.perm_ext_iff_of_nodup nd List.nodup_range).mpr fun x => ?_
      rw [List.mem_append, List.mem_filter, List.mem_range, hmem]
      constructor
      · rintro (h | h)
        · exact hlt x h
        · exact h.1
      · intro h
        by_cases hx : x ∈ l
        · exact .inl hx
        · exact .inr ⟨h, by simp [hx]⟩
    · refine List.pairwise_append.mpr ⟨hs, (srt_sorted H n).filter _, fun a ha b hb => ?_⟩
      obtain ⟨h1, h2⟩ := List.mem_filter.mp hb
      exact hlow a ha b ((hmem b).mp h1) (by simpa using h2)
  rw [← full, List.take_left']
  rfl

def Best (R : Nat → Nat → Bool) (j b : Nat) : Prop := b < j ∧ ∀ x, x < j → x ≠ b → R b x = true
theorem Best.take {R : Nat → Nat → Bool} (H : STO R) {n b : Nat} (h : Best R n b) : (srt R n).take 1 = [b] := by
  have := lower_take H (l := [b]) (by simp) (fun e he => by rw [List.mem_singleton.mp he]; exact h.1) (by simp) (fun e he x hx hn => by
    rw [List.mem_singleton.mp he]
    exact h.2 x hx fun q => hn (by rw [q]; exact .head _))
  exact this.symm
theorem Best.one {R : Nat → Nat → Bool} : Best R 1 0 := ⟨by decide, fun x hx hn => absurd (Nat.lt_one_iff.mp hx) hn⟩
theorem Best.new {R : Nat → Nat → Bool} (H : STO R) {j b : Nat} (h : Best R j b) (hr : R j b = true) : Best R (j + 1) j := ⟨Nat.lt_succ_self _, fun x hx hn => by
  have hxj : x < j := by first | lia | omega
  by_cases e : x = b
  · rw [e]; exact hr
  · exact H.tr hr (h.2 x hxj e)⟩
theorem Best.old {R : Nat → Nat → Bool} {j b : Nat} (h : Best R j b) (hr : R b j = true) : Best R (j + 1) b := ⟨Nat.lt_succ_of_lt h.1, fun x hx hn => by
  by_cases e : x = j
  · rw [e]; exact hr
  · exact h.2 x (by first | lia | omega) hn⟩
theorem ahead_new {gt : Bool} {K : Nat → List Nat} {j b : Nat} (h : kl gt (K j) (K b) = true) : aheadR gt K j b = true := by
  rw [aheadR_ne (fun e => by rw [e, kl_irr] at h; cases h)]; exact h
theorem ahead_old {gt : Bool} {K : Nat → List Nat} {j b : Nat} (h : kl gt (K j) (K b) = false) (hb : b < j) : aheadR gt K b j = true := by
  by_cases e : K b = K j
  · rw [aheadR_eq e]; simpa using hb
  · rw [aheadR_ne e]
    rcases kl_tot gt (K b) (K j) with q | q | q
    · exact q
    · exact absurd q e
    · rw [h] at q; cases q

/-- the best so far, in its list -/
def BestIn (kind : Nat) (K : Nat → List Nat) (R : Nat → Nat → Bool) (j : Nat) (xs : Array Value) : Prop := (xs = #[] ∧ j = 0) ∨ ∃ bb t tb, xs = #[.int ((bb : Nat) : Int) t, kv kind (K bb) tb] ∧ Best R j bb

theorem args_min (a d q : Value) : argsOk "min" ⟨[a], [(Str.ofString "default", d), (Str.ofString "key", q)]⟩ := by unfold argsOk; kernel_rfl

section
variable {w : World} {A : Around} {E : Value → Shared → Prop} {s : Shared} {b h : Heap} {tk : Nat} {L kf ax I Sx : Addr} {al : List (Str × Value)} {rest : List (Addr × Obj)} {kind n ep : Nat} {K : Nat → List Nat} {vs : List Value} {dv : Value} {Rr : Result → Shared → Prop}

theorem min_loop (hh : A.handled = none) (hkey : KeyOk w s kf b kind K n) (hd : A.depth + 4 < recursionLimit) (hax : b.get? ax = some (listOf vs.toArray ep)) (hv : IntsAre vs ((List.range n).map Int.ofNat)) (hn : 1 ≤ n)
    (hSI : Sx ≠ I) (hrS : ∀ p ∈ rest, p.1 ≠ Sx) (hrI : ∀ p ∈ rest, p.1 ≠ I)
    (hR : ∀ (bb : Nat) t h' tk', Best (aheadR false K) n bb → St b L h' al ((I, lsO .none n) :: rest) → Rr (.ok (.ret (.int (bb : Int) t))) (sh s h' tk')) :
    ∀ (r j : Nat) (h : Heap) (tk : Nat) (xs : Array Value) (c : Nat), n - j = r → j ≤ n → St b L h al ((Sx, listOf xs c) :: (I, lsO (.ref ax) j) :: rest) → BestIn kind K (aheadR false K) j xs →
      codeAny (model PySem.Challenge.rw_mr0271_01.row.prog w) A (.builtin "min.loop" ⟨[.ref I, .ref kf, .ref Sx], [(Str.ofString "default", dv)]⟩) Rr (sh s h tk) := by
  have hname : (toString "min" ++ toString ".loop" : String) = "min.loop" := by decide
  have hvl : vs.length = n := by have := hv.length; simpa using this
  have uI : ∀ {o o' oS : Obj}, Upd I o o' ((Sx, oS) :: (I, o) :: rest) ((Sx, oS) :: (I, o') :: rest) := .tail hSI (.head hrI)
  have uS : ∀ {o o' oI : Obj}, Upd Sx o o' ((Sx, o) :: (I, oI) :: rest) ((Sx, o') :: (I, oI) :: rest) := .head fun p hp => by
    rcases List.mem_cons.mp hp with rfl | hp
    · exact hSI.symm
    · exact hrS p hp
  intro r
  induction r with
  | zero =>
    intro j h tk xs c hr hj S hB
    have hjn : j = n := by first | lia | omega
    subst hjn
    obtain ⟨rfl, e0⟩ | ⟨bb, t, tb, rfl, hb⟩ := hB
    · first | lia | omega
    refine codeAny_builtin PySem.F.entry_min_loop ?_
    rw [Around.under_plainId PySem.F.plain_min_loop _]
    show wpAny _ A.in1 (seqItems? (.ref Sx) >>= _) _ _ _
    refine wpAny_bind (wpAny_seqItems (s := sh s h tk) (S.N.get (.head _)) rfl ?_)
    show wpAny _ A.in1 (tryCatch (pyNext (.ref I)) _ >>= _) _ _ _
    refine wpAny_bind (wpAny_tryCatch (nxL_end (A := A.in1) hh S uI (S.keep _ _ hax) (by simp; first | lia | omega) fun h1 S1 => ?_))
    show wpAny _ A.in1 (updateSeq Sx (fun _ => #[]) >>= _) _ _ _
    refine wpAny_bind ?_
    refine wpAny_updateSeq (s := sh s h1 tk) (S1.N.get (.head _)) rfl (wpAny_bind (wpAny_letGo (wpAny_pure ?_)))
    have s1 := Heap.SameBut.update h1 Sx (Obj.mapSeq fun _ => (#[] : Array Value))
    exact hR bb t _ tk hb (S1.drop (.head _) s1.extBut fun p hp => ⟨.tail _ hp, by
      rcases List.mem_cons.mp hp with rfl | hp
      · exact hSI.symm
      · exact hrS p hp⟩)
  | succ r ih =>
    intro j h tk xs c hr hj S hB
    have hlt : j < n := by first | lia | omega
    obtain ⟨t0, ht0⟩ := intsAre_get hv (i := j) (by simpa using hlt)
    have ht0 : vs[j]? = some (.int (j : Int) t0) := by simpa using ht0
    refine codeAny_builtin PySem.F.entry_min_loop ?_
    rw [Around.under_plainId PySem.F.plain_min_loop _]
    show wpAny _ A.in1 (seqItems? (.ref Sx) >>= _) _ _ _
    refine wpAny_bind (wpAny_seqItems (s := sh s h tk) (S.N.get (.head _)) rfl ?_)
    show wpAny _ A.in1 (tryCatch (pyNext (.ref I)) _ >>= _) _ _ _
    refine wpAny_bind (wpAny_tryCatch (nxL (A := A.in1) S uI (S.keep _ _ hax) (by simpa using ht0) fun h1 S1 => ?_))
    show wpAny _ A.in1 (tryCatch (holding [.int (j : Int) t0] (call (.ref kf) [.int (j : Int) t0])) _ >>= _) _ _ _
    refine wpAny_bind (wpAny_tryCatch (wpAny_holding (hkey.2 A.in1 h1 tk j t0 _ _ hlt S1.keep (by exact hd) (by exact hh) fun h2 tk2 t2 hk2 => ?_)))
    have S2 := S1.grow hk2
    have put : ∀ (h3 : Heap) (S3 : St b L h3 al ((Sx, listOf xs c) :: (I, lsO (.ref ax) (j + 1)) :: rest)) (ys : Array Value), ∃ c2, St b L (h3.update Sx (Obj.mapSeq fun _ => ys)) al ((Sx, listOf ys c2) :: (I, lsO (.ref ax) (j + 1)) :: rest) := fun h3 S3 ys => by
      have s1 := Heap.SameBut.update h3 Sx (Obj.mapSeq fun _ => ys)
      obtain ⟨c2, hc2⟩ : ∃ c2, (h3.update Sx (Obj.mapSeq fun _ => ys)).get? Sx = some (seqObj "list" ys c2) := ⟨_, get?_update_seq (S3.N.get (.head _)) fun _ => ys⟩
      exact ⟨c2, S3.upd uS s1 hc2⟩
    obtain ⟨rfl, rfl⟩ | ⟨bb, t, tb, rfl, hb⟩ := hB
    · show wpAny _ A.in1 (updateSeq Sx (fun _ => #[.int ((0 : Nat) : Int) t0, kv kind (K 0) t2]) >>= _) _ _ _
      refine wpAny_bind ?_
      refine wpAny_updateSeq (s := sh s h2 tk2) (S2.N.get (.head _)) rfl ?_
      rw [hname]
      obtain ⟨c2, S3⟩ := put h2 S2 #[.int ((0 : Nat) : Int) t0, kv kind (K 0) t2]
      exact wpAny_pure ⟨plainId_quiet PySem.F.plain_min_loop _, ih 1 _ tk2 _ c2 (by first | lia | omega) (by first | lia | omega) S3 (.inr ⟨0, t0, t2, rfl, Best.one⟩)⟩
    · show wpAny _ A.in1 (tryCatch (holding [.int (j : Int) t0, kv kind (K j) t2] (richCompare .Lt (kv kind (K j) t2) (kv kind (K bb) tb) >>= _)) _ >>= _) _ _ _
      refine wpAny_bind (wpAny_tryCatch (wpAny_holding (wpAny_bind (show wpAny _ _ (compareOp .Lt (kv kind (K j) t2) (kv kind (K bb) tb)) _ _ _ from kvLt (hkey.1 j hlt) (hkey.1 bb (Nat.lt_trans hb.1 hlt)) ?_))))
      refine wpAny_bind (wpAny_holding (wpAny_truthy_bool ?_))
      refine wpAny_bind (wpAny_letGo (wpAny_pure ?_))
      have hkl : ltL (K j) (K bb) = kl false (K j) (K bb) := rfl
      rw [hkl]
      cases hc : kl false (K j) (K bb) with
      | true =>
        rw [if_pos rfl]
        refine wpAny_bind ?_
        refine wpAny_updateSeq (s := sh s h2 tk2) (S2.N.get (.head _)) rfl (wpAny_bind (wpAny_letGo ?_))
        rw [hname]
        obtain ⟨c2, S3⟩ := put h2 S2 #[.int (j : Int) t0, kv kind (K j) t2]
        exact wpAny_pure ⟨plainId_quiet PySem.F.plain_min_loop _, ih (j + 1) _ tk2 _ c2 (by first | lia | omega) (by first | lia | omega) S3 (.inr ⟨j, t0, t2, rfl, hb.new (aheadR_sto false K) (ahead_new hc)⟩)⟩
      | false =>
        rw [if_neg (by decide)]
        refine wpAny_bind (wpAny_letGo ?_)
        rw [hname]
        exact wpAny_pure ⟨plainId_quiet PySem.F.plain_min_loop _, ih (j + 1) h2 tk2 _ c (by first | lia | omega) (by first | lia | omega) S2 (.inr ⟨bb, t, tb, rfl, hb.old (ahead_old hc hb.1)⟩)⟩

theorem min_call {Q : Value → Shared → Prop} (hh : A.handled = none) (hkey : KeyOk w s kf b kind K n) (hd : A.depth + 4 < recursionLimit) (hax : b.get? ax = some (listOf vs.toArray ep)) (hv : IntsAre vs ((List.range n).map Int.ofNat)) (hn : 1 ≤ n)
    (S : St b L h al ((I, lsO (.ref ax) 0) :: rest)) (hrI : ∀ p ∈ rest, p.1 ≠ I)
    (hQ : ∀ (bb : Nat) t h' tk', Best (aheadR false K) n bb → St b L h' al ((I, lsO .none n) :: rest) → Q (.int (bb : Int) t) (sh s h' tk')) :
    wpAny (model PySem.Challenge.rw_mr0271_01.row.prog w) A (call (.builtin "min") [.ref I] [(Str.ofString "default", dv), (Str.ofString "key", .ref kf)]) Q E (sh s h tk) := by
  have hname : (toString "min" ++ toString ".loop" : String) = "min.loop" := by decide
  refine kmk_tree (by decide +kernel) (by decide +kernel) PySem.F.entry_min (args_min _ _ _) ?_
  show wpAny _ A.in1 (Builtin.Builtins.bindParams "min" ["key", "default"] 0 ⟨[], [(Str.ofString "default", dv), (Str.ofString "key", .ref kf)]⟩ >>= _) _ _ _
  refine wpAny_bind (wpAny_of_eq (a := [some (.ref kf), some dv]) (by first | rfl | kernel_rfl) ?_)
  show wpAny _ A.in1 (pyIter (.ref I) >>= _) _ _ _
  refine wpAny_bind (iterSelf (S.N.get (.head _)) ?_)
  refine wpAny_bind (wpAny_newList ?_ (Nat.zero_le _))
  have S1 := S.push (listOf #[] 0)
  rw [hname]
  refine wpAny_pure ⟨plainId_quiet PySem.F.plain_min_loop _, ?_⟩
  exact min_loop (rest := rest) hh hkey hd hax hv hn (Nat.ne_of_gt (S.below _ (.head _))) (fun p hp => Nat.ne_of_lt (S.below p (.tail _ hp))) hrI hQ _ 0 _ tk #[] 0 rfl (Nat.zero_le _) S1 (.inl ⟨rfl, rfl⟩)
end

theorem args_max (a d q : Value) : argsOk "max" ⟨[a], [(Str.ofString "default", d), (Str.ofString "key", q)]⟩ := by unfold argsOk; kernel_rfl

section
variable {w : World} {A : Around} {E : Value → Shared → Prop} {s : Shared} {b h : Heap} {tk : Nat} {L kf ax I Sx : Addr} {al : List (Str × Value)} {rest : List (Addr × Obj)} {kind n ep : Nat} {K : Nat → List Nat} {vs : List Value} {dv : Value} {Rr : Result → Shared → Prop}

theorem max_loop (hh : A.handled = none) (hkey : KeyOk w s kf b kind K n) (hd : A.depth + 4 < recursionLimit) (hax : b.get? ax = some (listOf vs.toArray ep)) (hv : IntsAre vs ((List.range n).map Int.ofNat)) (hn : 1 ≤ n)
    (hSI : Sx ≠ I) (hrS : ∀ p ∈ rest, p.1 ≠ Sx) (hrI : ∀ p ∈ rest, p.1 ≠ I)
    (hR : ∀ (bb : Nat) t h' tk', Best (aheadR true K) n bb → St b L h' al ((I, lsO .none n) :: rest) → Rr (.ok (.ret (.int (bb : Int) t))) (sh s h' tk')) :
    ∀ (r j : Nat) (h : Heap) (tk : Nat) (xs : Array Value) (c : Nat), n - j = r → j ≤ n → St b L h al ((Sx, listOf xs c) :: (I, lsO (.ref ax) j) :: rest) → BestIn kind K (aheadR true K) j xs →
      codeAny (model PySem.Challenge.rw_mr0271_01.row.prog w) A (.builtin "max.loop" ⟨[.ref I, .ref kf, .ref Sx], [(Str.ofString "default", dv)]⟩) Rr (sh s h tk) := by
  have hname : (toString "max" ++ toString ".loop" : String) = "max.loop" := by decide
  have hvl : vs.length = n := by have := hv.length; simpa using this
  have uI : ∀ {o o' oS : Obj}, Upd I o o' ((Sx, oS) :: (I, o) :: rest) ((Sx, oS) :: (I, o') :: rest) := .tail hSI (.head hrI)
  have uS : ∀ {o o' oI : Obj}, Upd Sx o o' ((Sx, o) :: (I, oI) :: rest) ((Sx, o') :: (I, oI) :: rest) := .head fun p hp => by
    rcases List.mem_cons.mp hp with rfl | hp
    · exact hSI.symm
    · exact hrS p hp
  intro r
  induction r with
  | zero =>
    intro j h tk xs c hr hj S hB
    have hjn : j = n := by first | lia | omega
    subst hjn
    obtain ⟨rfl, e0⟩ | ⟨bb, t, tb, rfl, hb⟩ := hB
    · first | lia | omega
    refine codeAny_builtin PySem.F.entry_max_loop ?_
    rw [Around.under_plainId PySem.F.plain_max_loop _]
    show wpAny _ A.in1 (seqItems? (.ref Sx) >>= _) _ _ _
    refine wpAny_bind (wpAny_seqItems (s := sh s h tk) (S.N.get (.head _)) rfl ?_)
    show wpAny _ A.in1 (tryCatch (pyNext (.ref I)) _ >>= _) _ _ _
    refine wpAny_bind (wpAny_tryCatch (nxL_end (A := A.in1) hh S uI (S.keep _ _ hax) (by simp; first | lia | omega) fun h1 S1 => ?_))
    show wpAny _ A.in1 (updateSeq Sx (fun _ => #[]) >>= _) _ _ _
    refine wpAny_bind ?_
    refine wpAny_updateSeq (s := sh s h1 tk) (S1.N.get (.head _)) rfl (wpAny_bind (wpAny_letGo (wpAny_pure ?_)))
    have s1 := Heap.SameBut.update h1 Sx (Obj.mapSeq fun _ => (#[] : Array Value))
    exact hR bb t _ tk hb (S1.drop (.head _) s1.extBut fun p hp => ⟨.tail _ hp, by
      rcases List.mem_cons.mp hp with rfl | hp
      · exact hSI.symm
      · exact hrS p hp⟩)
  | succ r ih =>
    intro j h tk xs c hr hj S hB
    have hlt : j < n := by first | lia | omega
    obtain ⟨t0, ht0⟩ := intsAre_get hv (i := j) (by simpa using hlt)
    have ht0 : vs[j]? = some (.int (j : Int) t0) := by simpa using ht0
    refine codeAny_builtin PySem.F.entry_max_loop ?_
    rw [Around.under_plainId PySem.F.plain_max_loop _]
    show wpAny _ A.in1 (seqItems? (.ref Sx) >>= _) _ _ _
    refine wpAny_bind (wpAny_seqItems (s := sh s h tk) (S.N.get (.head _)) rfl ?_)
    show wpAny _ A.in1 (tryCatch (pyNext (.ref I)) _ >>= _) _ _ _
    refine wpAny_bind (wpAny_tryCatch (nxL (A := A.in1) S uI (S.keep _ _ hax) (by simpa using ht0) fun h1 S1 => ?_))
    show wpAny _ A.in1 (tryCatch (holding [.int (j : Int) t0] (call (.ref kf) [.int (j : Int) t0])) _ >>= _) _ _ _
    refine wpAny_bind (wpAny_tryCatch (wpAny_holding (hkey.2 A.in1 h1 tk j t0 _ _ hlt S1.keep (by exact hd) (by exact hh) fun h2 tk2 t2 hk2 => ?_)))
    have S2 := S1.grow hk2
    have put : ∀ (h3 : Heap) (S3 : St b L h3 al ((Sx, listOf xs c) :: (I, lsO (.ref ax) (j + 1)) :: rest)) (ys : Array Value), ∃ c2, St b L (h3.update Sx (Obj.mapSeq fun _ => ys)) al ((Sx, listOf ys c2) :: (I, lsO (.ref ax) (j + 1)) :: rest) := fun h3 S3 ys => by
      have s1 := Heap.SameBut.update h3 Sx (Obj.mapSeq fun _ => ys)
      obtain ⟨c2, hc2⟩ : ∃ c2, (h3.update Sx (Obj.mapSeq fun _ => ys)).get? Sx = some (seqObj "list" ys c2) := ⟨_, get?_update_seq (S3.N.get (.head _)) fun _ => ys⟩
      exact ⟨c2, S3.upd uS s1 hc2⟩
    obtain ⟨rfl, rfl⟩ | ⟨bb, t, tb, rfl, hb⟩ := hB
    · show wpAny _ A.in1 (updateSeq Sx (fun _ => #[.int ((0 : Nat) : Int) t0, kv kind (K 0) t2]) >>= _) _ _ _
      refine wpAny_bind ?_
      refine wpAny_updateSeq (s := sh s h2 tk2) (S2.N.get (.head _)) rfl ?_
      rw [hname]
      obtain ⟨c2, S3⟩ := put h2 S2 #[.int ((0 : Nat) : Int) t0, kv kind (K 0) t2]
      exact wpAny_pure ⟨plainId_quiet PySem.F.plain_max_loop _, ih 1 _ tk2 _ c2 (by first | lia | omega) (by first | lia | omega) S3 (.inr ⟨0, t0, t2, rfl, Best.one⟩)⟩
    · show wpAny _ A.in1 (tryCatch (holding [.int (j : Int) t0, kv kind (K j) t2] (richCompare .Gt (kv kind (K j) t2) (kv kind (K bb) tb) >>= _)) _ >>= _) _ _ _
      refine wpAny_bind (wpAny_tryCatch (wpAny_holding (wpAny_bind (show wpAny _ _ (compareOp .Gt (kv kind (K j) t2) (kv kind (K bb) tb)) _ _ _ from kvGt (hkey.1 j hlt) (hkey.1 bb (Nat.lt_trans hb.1 hlt)) ?_))))
      refine wpAny_bind (wpAny_holding (wpAny_truthy_bool ?_))
      refine wpAny_bind (wpAny_letGo (wpAny_pure ?_))
      have hkl : ltL (K bb) (K j) = kl true (K j) (K bb) := rfl
      rw [hkl]
      cases hc : kl true (K j) (K bb) with
      | true =>
        rw [if_pos rfl]
        refine wpAny_bind ?_
        refine wpAny_updateSeq (s := sh s h2 tk2) (S2.N.get (.head _)) rfl (wpAny_bind (wpAny_letGo ?_))
        rw [hname]
        obtain ⟨c2, S3⟩ := put h2 S2 #[.int (j : Int) t0, kv kind (K j) t2]
        exact wpAny_pure ⟨plainId_quiet PySem.F.plain_max_loop _, ih (j + 1) _ tk2 _ c2 (by first | lia | omega) (by first | lia | omega) S3 (.inr ⟨j, t0, t2, rfl, hb.new (aheadR_sto true K) (ahead_new hc)⟩)⟩
      | false =>
        rw [if_neg (by decide)]
        refine wpAny_bind (wpAny_letGo ?_)
        rw [hname]
        exact wpAny_pure ⟨plainId_quiet PySem.F.plain_max_loop _, ih (j + 1) h2 tk2 _ c (by first | lia | omega) (by first | lia | omega) S2 (.inr ⟨bb, t, tb, rfl, hb.old (ahead_old hc hb.1)⟩)⟩

theorem max_call {Q : Value → Shared → Prop} (hh : A.handled = none) (hkey : KeyOk w s kf b kind K n) (hd : A.depth + 4 < recursionLimit) (hax : b.get? ax = some (listOf vs.toArray ep)) (hv : IntsAre vs ((List.range n).map Int.ofNat)) (hn : 1 ≤ n)
    (S : St b L h al ((I, lsO (.ref ax) 0) :: rest)) (hrI : ∀ p ∈ rest, p.1 ≠ I)
    (hQ : ∀ (bb : Nat) t h' tk', Best (aheadR true K) n bb → St b L h' al ((I, lsO .none n) :: rest) → Q (.int (bb : Int) t) (sh s h' tk')) :
    wpAny (model PySem.Challenge.rw_mr0271_01.row.prog w) A (call (.builtin "max") [.ref I] [(Str.ofString "default", dv), (Str.ofString "key", .ref kf)]) Q E (sh s h tk) := by
  have hname : (toString "max" ++ toString ".loop" : String) = "max.loop" := by decide
  refine kmk_tree (by decide +kernel) (by decide +kernel) PySem.F.entry_max (args_max _ _ _) ?_
  show wpAny _ A.in1 (Builtin.Builtins.bindParams "max" ["key", "default"] 0 ⟨[], [(Str.ofString "default", dv), (Str.ofString "key", .ref kf)]⟩ >>= _) _ _ _
  refine wpAny_bind (wpAny_of_eq (a := [some (.ref kf), some dv]) (by first | rfl | kernel_rfl) ?_)
  show wpAny _ A.in1 (pyIter (.ref I) >>= _) _ _ _
  refine wpAny_bind (iterSelf (S.N.get (.head _)) ?_)
  refine wpAny_bind (wpAny_newList ?_ (Nat.zero_le _))
  have S1 := S.push (listOf #[] 0)
  rw [hname]
  refine wpAny_pure ⟨plainId_quiet PySem.F.plain_max_loop _, ?_⟩
  exact max_loop (rest := rest) hh hkey hd hax hv hn (Nat.ne_of_gt (S.below _ (.head _))) (fun p hp => Nat.ne_of_lt (S.below p (.tail _ hp))) hrI hQ _ 0 _ tk #[] 0 rfl (Nat.zero_le _) S1 (.inl ⟨rfl, rfl⟩)
end
end Mine
/- MSmall -/
namespace Mine
open PySem PySem.W PyProof.Rows PySem.Calls
section
variable {prog : Program} {w : World} {A : Around} {E : Value → Shared → Prop} {s : Shared} {b h h' : Heap} {tk : Nat} {L : Addr} {al : List (Str × Value)} {news news' rest : List (Addr × Obj)} {env : Env}

theorem callIter {v : Value} {Q : Value → Shared → Prop} (hi : wpAny (model prog w) A.in1 (pyIter v) Q E (sh s h tk)) : wpAny (model prog w) A (call (.builtin "iter") [v]) Q E (sh s h tk) := by
  refine call_function_entry (by decide +kernel) (by decide +kernel) kdk_entry_iter (kdk_args_iter _) ?_
  unfold Builtin.«iter»
  refine wpAny_bind (m := someArgs "iter" 1 2 _) (wpAny_of_eq (a := [v]) (by first | rfl | kernel_rfl!) ?_)
  show wpAny _ _ (pyIter v >>= _) _ _ _
  exact wpAny_bind (wpAny_mono hi (fun r s' hr => wpAny_pure ⟨_, rfl, hr⟩) fun _ _ e => e)

theorem called_object : TypeCalled "object" "object.__new__" "object.__init__" :=
  ⟨by decide +kernel, by decide +kernel, ⟨_, _, F.mro_object⟩, madeBy_type F.mro_object (by rw [typeLookup_type, builtinLookup_eq_fast]; kernel_rfl) (by decide +kernel), by decide +kernel, by rw [isSubtype_type]; kernel_rfl, F.slot_object_init⟩
theorem object_new0 : Meets (Builtin.«object.__new__» ⟨[.type "object"], []⟩) (fun _ R s => R (.ok (.ret (.ref s.heap.objs.size))) { s with heap := s.heap.push { cls := .type "object", data := .plain } }) :=
  .of_wp fun prog w A R s h => by
    obtain ⟨hp, g, d, tk, os⟩ := s
    have f1 : Bind.madeHere "object.__new__" (.type "object") = pure () := by kernel_rfl
    wp_walk
    exact ⟨_, rfl, h⟩
theorem object_init0 (o : Value) : Meets (Builtin.«object.__init__» ⟨[o], []⟩) (fun _ R s => R (.ok (.ret .none)) s) :=
  .of_wp fun prog w A R s h => by
    obtain ⟨hp, g, d, tk, os⟩ := s
    wp_walk
    exact ⟨_, rfl, h⟩
theorem callObject {Q : Value → Shared → Prop} (S : St b L h al news) (hq : ∀ o h', St b L h' al news → Keeps h h' → o = h.objs.size → Q (.ref o) (sh s h' tk)) : wpAny (model prog w) A (call (.type "object") []) Q E (sh s h tk) := by
  refine callType_meets (Q₁ := fun obj s₁ => obj = .ref h.objs.size ∧ s₁ = sh s (h.push { cls := .type "object", data := .plain }) tk) called_object (by kernel_rfl) (by kernel_rfl) F.entry_object_new F.entry_object_init object_new0 ⟨rfl, rfl⟩ ?_
  rintro obj s₁ ⟨rfl, rfl⟩
  refine ⟨⟨_, Heap.get?_push_size _ rfl, rfl⟩, by unfold argsOk; kernel_rfl, _, object_init0 _, rfl, ?_⟩
  exact hq _ _ ((S.push _).sub fun p hp => .tail _ hp) (fun a o e => Heap.get?_push_of_some _ e) rfl

theorem no_len_listiter : typeLookup (.type "list_iterator") "__len__" = pure none := by rw [typeLookup_type, builtinLookup_eq_fast]; kernel_rfl
theorem lenRaise {it : Addr} {src : Value} {i : Nat} {Q : Value → Shared → Prop} (hh : A.handled = none) (hi : h.get? it = some (lsO src i)) (hE : ∀ e h' tk', Heap.NewExc h h' e "TypeError" → E (.ref e) (sh s h' tk')) :
    wpAny (model prog w) A (call (.builtin "len") [.ref it]) Q E (sh s h tk) := by
  have hT : (sh s h tk).TypeIs (.ref it) "list_iterator" := ⟨_, hi, rfl⟩
  refine call_function_entry (by decide +kernel) (by decide +kernel) entry_len (by unfold argsOk; kernel_rfl) ?_
  unfold Builtin.«len»
  refine wpAny_bind (m := oneArg "len" _) (wpAny_of_eq (a := Value.ref it) rfl ?_)
  refine wpAny_bind (wpAny_callSpecial?_none (name := Str.ofString "__len__") hT no_len_listiter ?_)
  refine wpAny_bind (wpAny_rule ?_)
  refine wpAny_bind (wpAny_typeNameOf' hT (by decide) ?_)
  exact wpAny_raiseErrorMade (s := sh s h tk) plainExc_TypeError hh (fun h' tk' e hx => hE e h' tk' hx) (by decide +kernel)
end
end Mine
/- MTry -/
namespace Mine
open PySem PySem.W PyProof.Rows PySem.Calls
/-- the frames around, and their objects -/
inductive FrOk : List Env → List (Addr × Obj) → Prop
  | nil : FrOk [] []
  | cons {env : Env} {a : Addr} {o : Obj} {es : List Env} {fl : List (Addr × Obj)} : env.scope.kind ≠ .module → env.frame = some a → (∀ vs, o.data ≠ .fields vs) → FrOk es fl → FrOk (env :: es) ((a, o) :: fl)
/-- the same objects, their slots aside -/
inductive SlotsOf : List (Addr × Obj) → List (Addr × Obj) → Prop
  | nil : SlotsOf [] []
  | cons {a : Addr} {o : Obj} {fl fl' : List (Addr × Obj)} (sl : Array (Option Value)) : SlotsOf fl fl' → SlotsOf ((a, o) :: fl) ((a, { o with slots := sl }) :: fl')
theorem SlotsOf.refl : ∀ fl : List (Addr × Obj), SlotsOf fl fl
  | [] => .nil
  | (a, o) :: fl => .cons (o := o) o.slots (SlotsOf.refl fl)
theorem SlotsOf.fst {fl fl' : List (Addr × Obj)} (h : SlotsOf fl fl') : fl'.map (·.1) = fl.map (·.1) := by
  induction h with
  | nil => rfl
  | cons sl _ ih => simp [ih]
theorem FrOk.slots {es : List Env} {fl fl' : List (Addr × Obj)} (h : FrOk es fl) (hs : SlotsOf fl fl') : FrOk es fl' := by
  induction h generalizing fl' with
  | nil => cases hs; exact .nil
  | cons h1 h2 h3 _ ih => cases hs with | cons sl hs => exact .cons h1 h2 h3 (ih hs)

/-- what a note of the frames may change -/
def Up (base h h' : Heap) : Prop := base.StaysIn h' ∧ h.UpToSlots h'

theorem slotsOf_up {h h' : Heap} (hu : h.UpToSlots h') : ∀ {es : List Env} {fl : List (Addr × Obj)}, FrOk es fl → (∀ p ∈ fl, h.get? p.1 = some p.2) → ∃ fl', SlotsOf fl fl' ∧ ∀ p ∈ fl', h'.get? p.1 = some p.2
  | _, _, .nil, _ => ⟨[], .nil, fun _ hp => nomatch hp⟩
  | _, _, .cons (a := a) (o := o) h1 h2 h3 r, hp => by
    obtain ⟨fl', s1, s2⟩ := slotsOf_up hu r fun p q => hp p (.tail _ q)
    obtain ⟨sl, hs⟩ := hu a o (hp _ (.head _)) h3
    refine ⟨_, .cons sl s1, fun p q => ?_⟩
    rcases List.mem_cons.mp q with rfl | q
    · exact hs
    · exact s2 p q

section
variable {prog : Program} {w : World} {A : Around} {E : Value → Shared → Prop} {s : Shared} {g h h' : Heap} {tk : Nat} {L e : Addr} {al : List (Str × Value)} {rest fl : List (Addr × Obj)} {outer : List Env}

theorem St.slots (S : St g L h al (rest ++ fl)) (hf : FrOk outer fl) (hr : ∀ p ∈ rest, p.1 ∉ fl.map (·.1) ∧ p.1 ≠ e) (he : g.get? e = none) (hu : Up (hideAll h (L :: e :: fl.map (·.1))) h h') : ∃ fl', SlotsOf fl fl' ∧ St g L h' al (rest ++ fl') := by
  obtain ⟨hst, hu⟩ := hu
  obtain ⟨⟨m, F, hm⟩, N⟩ := S
  obtain ⟨fl', s1, s2⟩ := slotsOf_up hu hf fun p hp => (N p (List.mem_append_right _ hp)).1
  have kb : KeepsBut (L :: e :: fl.map (·.1)) h h' := fun a o n q => hst a o (hideAll_get _ q n)
  have hg : ∀ a o, g.get? a = some o → a ∉ L :: e :: fl.map (·.1) := fun a o q hm' => by
    rcases List.mem_cons.mp hm' with rfl | hm'
    · exact absurd (Heap.lt_size q) (Nat.not_lt.mpr F.above)
    · rcases List.mem_cons.mp hm' with rfl | hm'
      · rw [he] at q; cases q
      · obtain ⟨p, hp, rfl⟩ := List.mem_map.mp hm'
        rw [(N p (List.mem_append_right _ hp)).2.2] at q; cases q
  refine ⟨fl', s1, ⟨m, ⟨hu.ns F.ns, fun a o q => kb a o (hg a o q) (F.keep a o q), F.above⟩, hm⟩, fun p hp => ?_⟩
  rcases List.mem_append.mp hp with hp | hp
  · have z := N p (List.mem_append_left _ hp)
    refine ⟨kb _ _ (fun hm' => ?_) z.1, z.2⟩
    rcases List.mem_cons.mp hm' with q | hm'
    · exact z.2.1 q
    · rcases List.mem_cons.mp hm' with q | hm'
      · exact (hr p hp).2 q
      · exact (hr p hp).1 hm'
  · have : p.1 ∈ fl.map (·.1) := by rw [← s1.fst]; exact List.mem_map_of_mem hp
    obtain ⟨q, hq, e'⟩ := List.mem_map.mp this
    have z := N q (List.mem_append_right _ hq)
    exact ⟨s2 p hp, by rw [← e']; exact z.2.1, by rw [← e']; exact z.2.2⟩

theorem funFrames_of {base h : Heap} : ∀ {es : List Env} {fl : List (Addr × Obj)}, FrOk es fl → (∀ p ∈ fl, h.get? p.1 = some p.2 ∧ base.get? p.1 = none) → h.FunFrames base es
  | _, _, .nil, _ => trivial
  | _, _, .cons h1 h2 h3 r, hp => ⟨h1, ⟨_, _, h2, (hp _ (.head _)).2, (hp _ (.head _)).1, h3⟩, funFrames_of r fun p q => hp p (.tail _ q)⟩

theorem noteFirst {M : Model} {base : Heap} {env : Env} {L e : Addr} {oe : Obj} {vs : Array Value} {a0 : Value} {Q : Unit → Shared → Prop} (hfr : A.frames = some (env :: outer)) (hl : h.FunFrames base (env :: outer)) (hf : env.frame = some L)
    (he : h.get? e = some oe) (hkb : base.StaysIn h) (hen : base.get? e = none) (hd : oe.data = .fields vs) (h1 : vs[1]? = some .none) (h0 : vs[0]? = some a0)
    (hq : ∀ h', Heap.NotedW base (env :: outer) e oe.cls a0 (rawInt L) h h' → Q () (sh s h' tk)) : wpAny M A (noteFrame (.ref e) env) Q E (sh s h tk) := by
  unfold noteFrame
  simp only [hf]
  refine wpAny_bind (wpAny_field (s := sh s h tk) he hd h1 ?_)
  rw [if_neg (by decide)]
  exact wpAny_entryW (s := sh s h tk) hfr hl hf he hkb hen hd (Array.getElem?_eq_some_iff.mp h1).1 h0 fun h' hn => hq h' hn

theorem sub_te_te : isSubtype (.type "TypeError") (.type "TypeError") = pure true := by rw [isSubtype_type]; kernel_rfl
theorem sub_te_ae : isSubtype (.type "TypeError") (.type "AttributeError") = pure false := by rw [isSubtype_type]; kernel_rfl
theorem sub_te_be : isSubtype (.type "TypeError") (.type "BaseException") = pure true := by rw [isSubtype_type]; kernel_rfl
theorem sub_ae_be : isSubtype (.type "AttributeError") (.type "BaseException") = pure true := by rw [isSubtype_type]; kernel_rfl
theorem nt_te : isSubtype (.type ((Manifest.find? "TypeError").elim "type" fun x => x.metatype)) (.type "tuple") = pure false := by rw [isSubtype_type]; kernel_rfl
theorem nt_ae : isSubtype (.type ((Manifest.find? "AttributeError").elim "type" fun x => x.metatype)) (.type "tuple") = pure false := by rw [isSubtype_type]; kernel_rfl

/-- a TypeError that has come up is caught, and passed over -/
theorem caught {cl : List (Str × Addr)} {cn : Str} {cs : Scope} {a : Addr} {ccd : Value} {p1 p2 tpos pos ppos : Pos} {x1 : Nat} {Q : Flow → Shared → Prop} {h₀ : Heap} (B : Ba w g) (S0 : St g L h₀ al (rest ++ fl)) (hf : FrOk outer fl)
    (hr : ∀ p ∈ rest, p.1 ∉ fl.map (·.1)) (hx : Heap.NewExc h₀ h e "TypeError") (hfr : A.frames = some (envX cn cs L a ccd cl :: outer)) (hk : cs.kind = .function) (ht1 : (envX cn cs L a ccd cl).kindOf "TypeError" = some .globalImplicit) (ht2 : (envX cn cs L a ccd cl).kindOf "AttributeError" = some .globalImplicit)
    (e1 : nsIn (hd.heap_39 w.params) mainGlobals "TypeError" = some none) (e2 : nsIn (hd.heap_39 w.params) mainGlobals "AttributeError" = some none)
    (hq : ∀ h' fl' tk', SlotsOf fl fl' → St g L h' al (rest ++ fl') → Q .next (sh s h' tk')) :
    wpAny (model prog w) A (noteFrame (.ref e) (envX cn cs L a ccd cl)) (fun _ s₂ => wpAny (model prog w) A (setFlight (.ref e) none) (fun _ s₃ =>
      wpAny (model prog w) A (handleBy (.ref e) (envX cn cs L a ccd cl) [.ExceptHandler (some (.Tuple [.Name "TypeError" p1, .Name "AttributeError" p2] x1 tpos)) none [.Pass ppos] pos]) Q E s₃) E s₂) E (sh s h tk) := by
  obtain ⟨hkeep, hnew, oe, t0, he, hcls, hdat⟩ := hx
  have S := S0.grow hkeep
  have hge : g.get? e = none := by
    cases q : g.get? e with
    | none => rfl
    | some o => rw [S0.keep _ _ q] at hnew; cases hnew
  have hre : ∀ p ∈ rest, p.1 ∉ fl.map (·.1) ∧ p.1 ≠ e := fun p hp => ⟨hr p hp, fun q => by
    have := (S0.N p (List.mem_append_left _ hp)).1
    rw [q, hnew] at this; cases this⟩
  have hLe : L ≠ e := fun q => by
    obtain ⟨⟨m, F, _⟩, _⟩ := S0
    obtain ⟨oL, _, _, hL, _⟩ := F.ns
    rw [q, hnew] at hL; cases hL
  obtain ⟨oL, hoL, hdL⟩ : ∃ oL, h.get? L = some oL ∧ ∀ vs, oL.data ≠ .fields vs := by
    obtain ⟨⟨m, F, _⟩, _⟩ := S
    obtain ⟨oL, es, ep, hL, hd, _⟩ := F.ns
    exact ⟨oL, hL, fun vs q => by rw [hd] at q; cases q⟩
  have stay : (hideAll h (L :: e :: fl.map (·.1))).StaysIn h := fun a o q => of_hideAll _ q
  have hben : (hideAll h (L :: e :: fl.map (·.1))).get? e = none := hideAll_none _ (.tail _ (.head _))
  have FF : h.FunFrames (hideAll h (L :: e :: fl.map (·.1))) (envX cn cs L a ccd cl :: outer) :=
    ⟨by show cs.kind ≠ .module; rw [hk]; decide, ⟨L, oL, rfl, hideAll_none _ (.head _), hoL, hdL⟩, funFrames_of hf fun p hp => ⟨(S.N p (List.mem_append_right _ hp)).1, hideAll_none _ (.tail _ (.tail _ (List.mem_map_of_mem hp)))⟩⟩
  refine noteFirst hfr FF rfl he stay hben hdat rfl rfl fun h1 ⟨k1, k2, k3, k4⟩ => ?_
  refine wpAny_setFlight_noneW (s := sh s h1 tk) k1 k2 k3 fun h2 j1 j2 j3 j4 => ?_
  have U2 : Up (hideAll h (L :: e :: fl.map (·.1))) h h2 := ⟨j1, Heap.UpToSlots.trans k4 fun b o q n => ⟨o.slots, j4 b o q n⟩⟩
  obtain ⟨fl2, sl2, S2⟩ := S.slots hf hre hge U2
  obtain ⟨o2, ho2, hc2⟩ := j3.at.there
  refine wpAny_handleBy_tup2 (T1 := "TypeError") (T2 := "AttributeError") (X := "TypeError") sub_te_be nt_te sub_ae_be nt_ae sub_te_te sub_te_ae ?_
  refine tupE (s := s) (tk := tk) (spliced_cons (nameB B S2 e1 (by boot_fast) (by decide) (spliced_cons (nameB B S2 e2 (show bootBuiltins "AttributeError" = some (.type "AttributeError") by decide +kernel) (by decide) (spliced_nil ⟨_, _, rfl, by rw [sizeLine_eq]; exact (by decide : (2 : Nat) ≤ 16777216), ?_⟩) hk ht2 (by decide))) hk ht1 (by decide)))
  refine ⟨_, rfl, ⟨_, Heap.get?_push_size _ rfl, rfl, _, rfl⟩, ⟨_, Heap.get?_push_of_some _ ho2, hc2.trans hcls⟩, ?_⟩
  rw [if_pos (by decide)]
  have push : ∀ b o, h2.get? b = some o → (h2.push (tupO #[.type "TypeError", .type "AttributeError"])).get? b = some o := fun b o q => Heap.get?_push_of_some _ q
  have l1 : (hideAll h (L :: e :: fl.map (·.1))).StaysIn (h2.push (tupO #[.type "TypeError", .type "AttributeError"])) := fun b o q => push b o (j1 b o q)
  have l3 : (h2.push (tupO #[.type "TypeError", .type "AttributeError"])).TracedAtW (hideAll h (L :: e :: fl.map (·.1))) e oe.cls t0 .none := by
    obtain ⟨a1, a2, a3, a4, a5, b1, b2, b3, b4, b5, b6, b7, b8⟩ := j3.at
    exact ⟨a1, a2, a3, a4, a5, push _ _ b1, b2, b3, b4, b5, b6, push _ _ b7, b8⟩
  refine wpAny_setFlight_noneW (s := sh s (h2.push (tupO #[.type "TypeError", .type "AttributeError"])) tk) l1 (j2.of_keeps fun b o q n => ⟨o, push b o q, rfl⟩) l3 fun h3 m1 m2 m3 m4 => ?_
  have U3 : Up (hideAll h (L :: e :: fl.map (·.1))) h h3 := ⟨m1, Heap.UpToSlots.trans (Heap.UpToSlots.trans U2.2 (Heap.UpToSlots.of_keeps push)) fun b o q n => ⟨o.slots, m4 b o q n⟩⟩
  obtain ⟨fl3, sl3, S3⟩ := S.slots hf hre hge U3
  exact exN (wpAny_Pass (wpAny_execs_nil (hq h3 fl3 tk sl3 S3)))
end
end Mine
/- MHeap1 -/
namespace Mine
open PySem PySem.W PyProof.Rows PySem.Calls
/-- the sift towards the root -/
def sdF {α : Type} (r : α → α → Bool) (d : α) (start : Nat) (new : α) (h : List α) (pos : Nat) : List α :=
  if hp : start < pos then
    if r (h.getD ((pos - 1) / 2) d) new = true then sdF r d start new (h.set pos (h.getD ((pos - 1) / 2) d)) ((pos - 1) / 2) else h.set pos new
  else h.set pos new
termination_by pos
decreasing_by first | lia | omega

theorem half {p : Nat} (h : 0 < p) : ((p : Int) - 1).fdiv (2 ^ (1 : Int).toNat) = (((p - 1) / 2 : Nat) : Int) := by
  rw [show (2 : Int) ^ (1 : Int).toNat = 2 from by decide, Int.fdiv_eq_ediv_of_nonneg _ (by decide)]
  first | lia | omega

/-- the comparison of the heap's items, wherever all but the heap's list stands -/
def CmpOk (w : World) (mx : Bool) (l : Addr) (h : Heap) (items : List Value) (r : Value → Value → Bool) : Prop :=
  ∀ (A' : Around) (s' : Shared) (Q' : Value → Shared → Prop) (u v : Value), A'.units < 400 → KeepsBut [l] h s'.heap → u ∈ items → v ∈ items → Q' (.bool (r u v)) s' →
    wpAny (model PySem.Challenge.rw_mr0271_01.row.prog w) A' (if mx = true then compareOp .Lt u v else compareOp .Lt v u) Q' (fun _ _ => False) s'

theorem siftdown_max {w : World} {A : Around} {s : Shared} {b h : Heap} {tk : Nat} (r : Value → Value → Bool)
  {Q E : Value → Shared → Prop} {l : Addr} {items : List Value} {ep : Nat} {a q : Nat} {t1 t2 : Tok}
  (B : Ba w b) (hb : Keeps b h) (N : h.get? l = some (listOf items.toArray ep) ∧ b.get? l = none) (hroom : A.depth < recursionLimit)
  (h2 : q < items.length) (h63 : items.length < 64) (hun : A.units < 390)
  (hcmp : CmpOk w true l h items r)
  (hQ : ∀ h' tk, KeepsBut [l] h h' → h'.get? l = some (listOf (sdF r .none a (items.getD q .none) items q).toArray ep) → Q .none (sh s h' tk)) :
  wpAny (model PySem.Challenge.rw_mr0271_01.row.prog w) A (call (.ref 109) [.ref l, .int a t1, .int q t2] []) Q E (sh s h tk) := by
  refine enter B hb [(l, listOf items.toArray ep)] (fun p hp => by rcases List.mem_singleton.mp hp with rfl; exact N) (by k_is) (by k_is) hroom
    (binds := [("heap", .ref l), ("startpos", .int a t1), ("pos", .int q t2)]) (BindsTo.of_eq rfl) (locs rfl) (by decide) (by walk_at "al") ?_
  intro g L h₁ tk S B hL hg1 hg2 hg3
  have kb : ∀ {h' al ns}, St g L h' al ns → KeepsBut [l] h h' := fun S' x o n e => S'.keep x o (hg1 x o n e)
  have hq : items[q]? = some (items.getD q .none) := by simp [h2]
  have hnew : items.getD q .none ∈ items := List.mem_of_getElem? hq
  generalize hn : items.getD q .none = new at *
  refine exN (wpAny_Assign_Name (Subscript_ (nameL S rfl (nameL S rfl (getL (S.N.get (.head _)) (by first | lia | omega) (by first | lia | omega) (x := new) (by simpa using hq) (storeL S fun h' tk' S => ?_))))))
  refine exN (while_ (fun n h => ∃ its p t, St g L h [("heap", .ref l), ("startpos", .int a t1), ("pos", .int (p : Nat) t), ("newitem", new)] [(l, listOf (List.toArray its) ep)] ∧
      n = p ∧ p < its.length ∧ its.length = items.length ∧ (∀ x ∈ its, x ∈ items) ∧ sdF r .none a new its p = sdF r .none a new items q) q
    ⟨items, q, t2, by walk_at "st", rfl, h2, rfl, fun _ hx => hx, rfl⟩ ?_)
  rintro p h tk ⟨its, _, t, S, rfl, hp, hl, hm, he⟩
  refine wpAny_isTrue_Compare1 (nameL S rfl (nameL S rfl (gt_int (wpAny_truthy_bool (split_dec (fun hc => ?_) (fun hc => ?_))))))
  · have hap : a < p := by first | lia | omega
    have hpp := half (p := p) (by first | lia | omega)
    have hpl : (p - 1) / 2 < its.length := by first | lia | omega
    have hpar : its[(p - 1) / 2]? = some (its.getD ((p - 1) / 2) .none) := by simp [hpl]
    have hparm : its.getD ((p - 1) / 2) .none ∈ items := hm _ (List.mem_of_getElem? hpar)
    refine exN (wpAny_Assign_Name (wpAny_BinOp (wpAny_BinOp (nameL S rfl (cInt (subI (cInt (rshI (by decide) ?_))))))))
    rw [hpp]
    refine storeL S fun h' tk' S => ?_
    refine exN (wpAny_Assign_Name (Subscript_ (nameL S rfl (nameL S rfl (getL (S.N.get (.head _)) (by first | lia | omega) (by first | lia | omega) (x := its.getD ((p - 1) / 2) .none) (by rw [Int.toNat_natCast]; simpa using hpar) (storeL S fun h' tk' S => ?_))))))
    refine exN (wpAny_If (wpAny_isTrue_Compare1 (nameL S rfl (nameL S rfl (hcmp _ (sh s h' tk') _ _ _ (by show A.units + 3 < 400; first | lia | omega) (kb S) hparm hnew (wpAny_truthy_bool (split_bool (fun hr => ?_) (fun hr => ?_))))))))
    · refine exN (wpAny_Assign_Subscript (nameL S rfl (nameL S rfl (nameL S rfl (setL S (Upd.head (fun _ hx => nomatch hx)) (by first | lia | omega) (by first | lia | omega) (by simpa using hp) fun h' S => ?_)))))
      refine exN (wpAny_Assign_Name (nameL S rfl (storeL S fun h' tk' S => ?_)))
      refine exN (SiftDown.continue_ ?_)
      rw [show its.toArray.setIfInBounds ((p : Int)).toNat (its.getD ((p - 1) / 2) .none) = List.toArray (its.set p (its.getD ((p - 1) / 2) .none)) by simp] at S
      refine ⟨(p - 1) / 2, _, _, rfl, by first | lia | omega, its.set p (its.getD ((p - 1) / 2) .none), (p - 1) / 2, _, by walk_at "st", rfl, by simpa using hpl, by simpa using hl, fun x hx => ?_, ?_⟩
      · rcases List.mem_or_eq_of_mem_set hx with hx | rfl
        · exact hm x hx
        · exact hparm
      · rw [← he]
        conv => rhs; rw [sdF]
        rw [dif_pos hap, if_pos hr]
    · refine wpAny_execs_nil (exN (SiftDown.break_ ?_))
      refine exN (wpAny_Assign_Subscript (nameL S rfl (nameL S rfl (nameL S rfl (setL S (Upd.head (fun _ hx => nomatch hx)) (by first | lia | omega) (by first | lia | omega) (by simpa using hp) fun h' S => ?_)))))
      refine wpAny_execs_nil (hQ _ _ (kb S) ?_)
      rw [(S.N.get (.head _)), ← he, sdF, dif_pos hap, if_neg (by rw [hr]; exact Bool.false_ne_true)]
      simp
  · refine exN (wpAny_Assign_Subscript (nameL S rfl (nameL S rfl (nameL S rfl (setL S (Upd.head (fun _ hx => nomatch hx)) (by first | lia | omega) (by first | lia | omega) (by simpa using hp) fun h' S => ?_)))))
    refine wpAny_execs_nil (hQ _ _ (kb S) ?_)
    rw [(S.N.get (.head _)), ← he, sdF, dif_neg (by first | lia | omega)]
    simp

theorem siftdown_min {w : World} {A : Around} {s : Shared} {b h : Heap} {tk : Nat} (r : Value → Value → Bool)
  {Q E : Value → Shared → Prop} {l : Addr} {items : List Value} {ep : Nat} {a q : Nat} {t1 t2 : Tok}
  (B : Ba w b) (hb : Keeps b h) (N : h.get? l = some (listOf items.toArray ep) ∧ b.get? l = none) (hroom : A.depth < recursionLimit)
  (h2 : q < items.length) (h63 : items.length < 64) (hun : A.units < 390)
  (hcmp : CmpOk w false l h items r)
  (hQ : ∀ h' tk, KeepsBut [l] h h' → h'.get? l = some (listOf (sdF r .none a (items.getD q .none) items q).toArray ep) → Q .none (sh s h' tk)) :
  wpAny (model PySem.Challenge.rw_mr0271_01.row.prog w) A (call (.ref 95) [.ref l, .int a t1, .int q t2] []) Q E (sh s h tk) := by
  refine enter B hb [(l, listOf items.toArray ep)] (fun p hp => by rcases List.mem_singleton.mp hp with rfl; exact N) (by k_is) (by k_is) hroom
    (binds := [("heap", .ref l), ("startpos", .int a t1), ("pos", .int q t2)]) (BindsTo.of_eq rfl) (locs rfl) (by decide) (by walk_at "al") ?_
  intro g L h₁ tk S B hL hg1 hg2 hg3
  have kb : ∀ {h' al ns}, St g L h' al ns → KeepsBut [l] h h' := fun S' x o n e => S'.keep x o (hg1 x o n e)
  have hq : items[q]? = some (items.getD q .none) := by simp [h2]
  have hnew : items.getD q .none ∈ items := List.mem_of_getElem? hq
  generalize hn : items.getD q .none = new at *
  refine exN (wpAny_Assign_Name (Subscript_ (nameL S rfl (nameL S rfl (getL (S.N.get (.head _)) (by first | lia | omega) (by first | lia | omega) (x := new) (by simpa using hq) (storeL S fun h' tk' S => ?_))))))
  refine exN (while_ (fun n h => ∃ its p t, St g L h [("heap", .ref l), ("startpos", .int a t1), ("pos", .int (p : Nat) t), ("newitem", new)] [(l, listOf (List.toArray its) ep)] ∧
      n = p ∧ p < its.length ∧ its.length = items.length ∧ (∀ x ∈ its, x ∈ items) ∧ sdF r .none a new its p = sdF r .none a new items q) q
    ⟨items, q, t2, by walk_at "st", rfl, h2, rfl, fun _ hx => hx, rfl⟩ ?_)
  rintro p h tk ⟨its, _, t, S, rfl, hp, hl, hm, he⟩
  refine wpAny_isTrue_Compare1 (nameL S rfl (nameL S rfl (gt_int (wpAny_truthy_bool (split_dec (fun hc => ?_) (fun hc => ?_))))))
  · have hap : a < p := by first | lia | omega
    have hpp := half (p := p) (by first | lia | omega)
    have hpl : (p - 1) / 2 < its.length := by first | lia | omega
    have hpar : its[(p - 1) / 2]? = some (its.getD ((p - 1) / 2) .none) := by simp [hpl]
    have hparm : its.getD ((p - 1) / 2) .none ∈ items := hm _ (List.mem_of_getElem? hpar)
    refine exN (wpAny_Assign_Name (wpAny_BinOp (wpAny_BinOp (nameL S rfl (cInt (subI (cInt (rshI (by decide) ?_))))))))
    rw [hpp]
    refine storeL S fun h' tk' S => ?_
    refine exN (wpAny_Assign_Name (Subscript_ (nameL S rfl (nameL S rfl (getL (S.N.get (.head _)) (by first | lia | omega) (by first | lia | omega) (x := its.getD ((p - 1) / 2) .none) (by rw [Int.toNat_natCast]; simpa using hpar) (storeL S fun h' tk' S => ?_))))))
    refine exN (wpAny_If (wpAny_isTrue_Compare1 (nameL S rfl (nameL S rfl (hcmp _ (sh s h' tk') _ _ _ (by show A.units + 3 < 400; first | lia | omega) (kb S) hparm hnew (wpAny_truthy_bool (split_bool (fun hr => ?_) (fun hr => ?_))))))))
    · refine exN (wpAny_Assign_Subscript (nameL S rfl (nameL S rfl (nameL S rfl (setL S (Upd.head (fun _ hx => nomatch hx)) (by first | lia | omega) (by first | lia | omega) (by simpa using hp) fun h' S => ?_)))))
      refine exN (wpAny_Assign_Name (nameL S rfl (storeL S fun h' tk' S => ?_)))
      refine exN (SiftDown.continue_ ?_)
      rw [show its.toArray.setIfInBounds ((p : Int)).toNat (its.getD ((p - 1) / 2) .none) = List.toArray (its.set p (its.getD ((p - 1) / 2) .none)) by simp] at S
      refine ⟨(p - 1) / 2, _, _, rfl, by first | lia | omega, its.set p (its.getD ((p - 1) / 2) .none), (p - 1) / 2, _, by walk_at "st", rfl, by simpa using hpl, by simpa using hl, fun x hx => ?_, ?_⟩
      · rcases List.mem_or_eq_of_mem_set hx with hx | rfl
        · exact hm x hx
        · exact hparm
      · rw [← he]
        conv => rhs; rw [sdF]
        rw [dif_pos hap, if_pos hr]
    · refine wpAny_execs_nil (exN (SiftDown.break_ ?_))
      refine exN (wpAny_Assign_Subscript (nameL S rfl (nameL S rfl (nameL S rfl (setL S (Upd.head (fun _ hx => nomatch hx)) (by first | lia | omega) (by first | lia | omega) (by simpa using hp) fun h' S => ?_)))))
      refine wpAny_execs_nil (hQ _ _ (kb S) ?_)
      rw [(S.N.get (.head _)), ← he, sdF, dif_pos hap, if_neg (by rw [hr]; exact Bool.false_ne_true)]
      simp
  · refine exN (wpAny_Assign_Subscript (nameL S rfl (nameL S rfl (nameL S rfl (setL S (Upd.head (fun _ hx => nomatch hx)) (by first | lia | omega) (by first | lia | omega) (by simpa using hp) fun h' S => ?_)))))
    refine wpAny_execs_nil (hQ _ _ (kb S) ?_)
    rw [(S.N.get (.head _)), ← he, sdF, dif_neg (by first | lia | omega)]
    simp
end Mine
/- MHeap2 -/
namespace Mine
open PySem PySem.W PyProof.Rows PySem.Calls
/-- the child that goes up -/
def chF {α : Type} (r : α → α → Bool) (d : α) (h : List α) (pos : Nat) : Nat :=
  if 2 * pos + 2 < h.length ∧ r (h.getD (2 * pos + 2) d) (h.getD (2 * pos + 1) d) = false then 2 * pos + 2 else 2 * pos + 1
theorem chF_gt {α : Type} (r : α → α → Bool) (d : α) (h : List α) (pos : Nat) : pos < chF r d h pos := by unfold chF; split <;> first | lia | omega
theorem chF_lt {α : Type} (r : α → α → Bool) (d : α) (h : List α) (pos : Nat) (hp : 2 * pos + 1 < h.length) : chF r d h pos < h.length := by unfold chF; split <;> first | lia | omega
/-- the hole goes down to a leaf -/
def suF {α : Type} (r : α → α → Bool) (d : α) (h : List α) (pos : Nat) : List α × Nat :=
  if _hp : 2 * pos + 1 < h.length then suF r d (h.set pos (h.getD (chF r d h pos) d)) (chF r d h pos) else (h, pos)
termination_by h.length - pos
decreasing_by
  have := chF_gt r d h pos
  rw [List.length_set]
  first | lia | omega
/-- the sift as a whole -/
def siF {α : Type} (r : α → α → Bool) (d : α) (h : List α) (pos : Nat) : List α :=
  sdF r d pos (h.getD pos d) ((suF r d h pos).1.set (suF r d h pos).2 (h.getD pos d)) (suF r d h pos).2
theorem suF_len {α : Type} (r : α → α → Bool) (d : α) (h : List α) (pos : Nat) : (suF r d h pos).1.length = h.length := by
  induction h, pos using suF.induct r d with
  | case1 h pos hp ih => rw [suF, dif_pos hp, ih, List.length_set]
  | case2 h pos hp => rw [suF, dif_neg hp]
theorem suF_lt {α : Type} (r : α → α → Bool) (d : α) (h : List α) (pos : Nat) (hp : pos < h.length) : (suF r d h pos).2 < h.length := by
  induction h, pos using suF.induct r d with
  | case1 h pos hp' ih =>
    rw [suF, dif_pos hp']
    have := ih (by rw [List.length_set]; exact chF_lt r d h pos hp')
    rwa [List.length_set] at this
  | case2 h pos hp' => rw [suF, dif_neg hp']; exact hp
theorem sdF_len {α : Type} (r : α → α → Bool) (d : α) (st : Nat) (new : α) (h : List α) (pos : Nat) : (sdF r d st new h pos).length = h.length := by
  induction h, pos using sdF.induct r d st new with
  | case1 h pos hp hr ih => rw [sdF, dif_pos hp, if_pos hr, ih, List.length_set]
  | case2 h pos hp hr => rw [sdF, dif_pos hp, if_neg hr, List.length_set]
  | case3 h pos hp => rw [sdF, dif_neg hp, List.length_set]
theorem siF_len {α : Type} (r : α → α → Bool) (d : α) (h : List α) (pos : Nat) : (siF r d h pos).length = h.length := by
  unfold siF; rw [sdF_len, List.length_set, suF_len]

theorem CmpOk.sub {w : World} {mx : Bool} {l : Addr} {h h' : Heap} {items items' : List Value} {r : Value → Value → Bool} (c : CmpOk w mx l h items r) (hk : KeepsBut [l] h h') (hi : ∀ x ∈ items', x ∈ items) : CmpOk w mx l h' items' r :=
  fun A' s' Q' u v hu hs h1 h2 hq => c A' s' Q' u v hu (fun a o n e => hs a o n (hk a o n e)) (hi u h1) (hi v h2) hq
theorem len_fit {n : Nat} (h : n < 64) : (n : Int) < 2 ^ 63 := by first | lia | omega

theorem siftup_max {w : World} {A : Around} {s : Shared} {b h : Heap} {tk : Nat} (r : Value → Value → Bool)
  {Q E : Value → Shared → Prop} {l : Addr} {items : List Value} {ep : Nat} {q : Nat} {t2 : Tok}
  (B : Ba w b) (hb : Keeps b h) (N : h.get? l = some (listOf items.toArray ep) ∧ b.get? l = none) (hroom : A.depth + 1 < recursionLimit)
  (h2 : q < items.length) (h63 : items.length < 64) (hun : A.units < 380)
  (hcmp : CmpOk w true l h items r)
  (hQ : ∀ h' tk, KeepsBut [l] h h' → h'.get? l = some (listOf (siF r .none items q).toArray ep) → Q .none (sh s h' tk)) :
  wpAny (model PySem.Challenge.rw_mr0271_01.row.prog w) A (call (.ref 116) [.ref l, .int q t2] []) Q E (sh s h tk) := by
  refine enter B hb [(l, listOf items.toArray ep)] (fun p hp => by rcases List.mem_singleton.mp hp with rfl; exact N) (by k_is) (by k_is) (by first | lia | omega)
    (binds := [("heap", .ref l), ("pos", .int q t2)]) (BindsTo.of_eq rfl) (locs rfl) (by decide) (by walk_at "al") ?_
  intro g L h₁ tk S B hL hg1 hg2 hg3
  have hlg : g.get? l = none := hg2 l (.head _)
  have kb : ∀ {h' al ns}, St g L h' al ns → KeepsBut [l] h h' := fun S' x o n e => S'.keep x o (hg1 x o n e)
  have hq : items[q]? = some (items.getD q .none) := by simp [h2]
  have hnew : items.getD q .none ∈ items := List.mem_of_getElem? hq
  unfold siF at hQ
  generalize hn : items.getD q .none = new at *
  refine exN (wpAny_Assign_Name (Call_ (nameB B S (by k_is) (by boot_fast) (by decide) (callWith_builtin1 (args_cons (nameL S rfl (args_nil (len_list (s := sh s _ _) ⟨_, S.N.get (.head _), rfl, _, rfl⟩ (len_fit h63) (storeL (s := s) S fun h' tk' S => ?_)))))))))
  rw [List.size_toArray] at S
  refine exN (wpAny_Assign_Name (nameL S rfl (storeL S fun h' tk' S => ?_)))
  refine exN (wpAny_Assign_Name (Subscript_ (nameL S rfl (nameL S rfl (getL (S.N.get (.head _)) (by first | lia | omega) (by first | lia | omega) (x := new) (by simpa using hq) (storeL S fun h' tk' S => ?_))))))
  refine exN (wpAny_Assign_Name (wpAny_BinOp (wpAny_BinOp (cInt (nameL S rfl (mulI (cInt (addI (storeL S fun h' tk' S => ?_)))))))))
  refine exN (while_ (fun n h => ∃ its p t t' t'', St g L h [("heap", .ref l), ("pos", .int (p : Nat) t), ("endpos", .int (items.length : Nat) t''), ("startpos", .int (q : Nat) t2), ("newitem", new), ("childpos", .int (2 * (p : Int) + 1) t')] [(l, listOf (List.toArray its) ep)] ∧
      n + p = items.length ∧ p < its.length ∧ its.length = items.length ∧ (∀ x ∈ its, x ∈ items) ∧ suF r .none its p = suF r .none items q) (items.length - q)
    ⟨items, q, t2, _, _, by walk_at "st", by first | lia | omega, h2, rfl, fun _ hx => hx, rfl⟩ ?_)
  rintro n h tk ⟨its, p, t, t', t'', S, hnp, hp, hl, hm, he⟩
  refine wpAny_isTrue_Compare1 (nameL S rfl (nameL S rfl (lt_int (wpAny_truthy_bool (split_dec (fun hc => ?_) (fun hc => ?_))))))
  · have hcl : 2 * p + 1 < its.length := by first | lia | omega
    have hgt := chF_gt r Value.none its p
    have hlt := chF_lt r Value.none its p hcl
    have hch : its[chF r .none its p]? = some (its.getD (chF r .none its p) .none) := by simp [hlt]
    have hchm : its.getD (chF r .none its p) .none ∈ items := hm _ (List.mem_of_getElem? hch)
    have hleft : its[2 * p + 1]? = some (its.getD (2 * p + 1) .none) := by simp [hcl]
    refine exN (wpAny_Assign_Name (wpAny_BinOp (nameL S rfl (cInt (addI (storeL S fun h' tk' S => ?_))))))
    refine exN (wpAny_mono (Q := fun f s' => f = .next ∧ ∃ h tk t', s' = sh s h tk ∧ St g L h [("heap", .ref l), ("pos", .int (p : Nat) t), ("endpos", .int (items.length : Nat) t''), ("startpos", .int (q : Nat) t2), ("newitem", new), ("childpos", .int ((chF r .none its p : Nat) : Int) t')] [(l, listOf (List.toArray its) ep)]) ?_ ?_ fun _ _ x => x)
    · refine wpAny_If (isTrue_and (wpAny_isTrue_Compare1 (nameL S rfl (nameL S rfl (lt_int (wpAny_truthy_bool (split_dec (fun hc2 => ?_) (fun hc2 => ?_))))))))
      · have hrl : 2 * p + 2 < its.length := by first | lia | omega
        have hright : its[2 * p + 2]? = some (its.getD (2 * p + 2) .none) := by simp [hrl]
        refine isTrue_and (isTrue_not (wpAny_isTrue_Compare1 (Subscript_ (nameL S rfl (nameL S rfl (getL (S.N.get (.head _)) (by first | lia | omega) (by first | lia | omega) (x := its.getD (2 * p + 2) .none) (by rw [show (2 * (p : Int) + 1 + 1 : Int).toNat = 2 * p + 2 by first | lia | omega]; simpa using hright)
          (Subscript_ (nameL S rfl (nameL S rfl (getL (S.N.get (.head _)) (by first | lia | omega) (by first | lia | omega) (x := its.getD (2 * p + 1) .none) (by rw [show (2 * (p : Int) + 1 : Int).toNat = 2 * p + 1 by first | lia | omega]; simpa using hleft) ?_))))))))))
        refine hcmp _ (sh s h' tk') _ (its.getD (2 * p + 2) .none) (its.getD (2 * p + 1) .none) (by show A.units + 3 < 400; first | lia | omega) (kb S) (hm _ (List.mem_of_getElem? hright)) (hm _ (List.mem_of_getElem? hleft)) (wpAny_truthy_bool ?_)
        cases hr : r (its.getD (2 * p + 2) .none) (its.getD (2 * p + 1) .none) with
        | true =>
          refine wpAny_execs_nil ⟨rfl, _, _, _, rfl, by rw [show ((chF r .none its p : Nat) : Int) = 2 * (p : Int) + 1 by unfold chF; rw [if_neg (by rw [hr]; simp)]; first | lia | omega]; walk_at "st"⟩
        | false =>
          refine isTrue_and_nil (exN (wpAny_Assign_Name (nameL S rfl (storeL S fun h' tk' S => ?_))))
          refine wpAny_execs_nil ⟨rfl, _, _, _, rfl, by rw [show ((chF r .none its p : Nat) : Int) = 2 * (p : Int) + 1 + 1 by unfold chF; rw [if_pos ⟨hrl, hr⟩]; first | lia | omega]; walk_at "st"⟩
      · refine wpAny_execs_nil ⟨rfl, _, _, _, rfl, by rw [show ((chF r .none its p : Nat) : Int) = 2 * (p : Int) + 1 by unfold chF; rw [if_neg (by first | lia | omega)]; first | lia | omega]; walk_at "st"⟩
    · rintro _ _ ⟨rfl, h', tk', t', rfl, S⟩
      refine exN (wpAny_Assign_Subscript (Subscript_ (nameL S rfl (nameL S rfl (getL (S.N.get (.head _)) (by first | lia | omega) (by first | lia | omega) (x := its.getD (chF r .none its p) .none) (by rw [Int.toNat_natCast]; simpa using hch) (nameL S rfl (nameL S rfl (setL S (Upd.head (fun _ hx => nomatch hx)) (by first | lia | omega) (by first | lia | omega) (by simpa using hp) fun h' S => ?_))))))))
      refine exN (wpAny_Assign_Name (nameL S rfl (storeL S fun h' tk' S => ?_)))
      refine exN (wpAny_Assign_Name (wpAny_BinOp (wpAny_BinOp (cInt (nameL S rfl (mulI (cInt (addI (storeL S fun h' tk' S => ?_)))))))))
      rw [show its.toArray.setIfInBounds ((p : Int)).toNat (its.getD (chF r .none its p) .none) = List.toArray (its.set p (its.getD (chF r .none its p) .none)) by simp] at S
      refine wpAny_execs_nil ⟨items.length - chF r .none its p, _, _, rfl, by first | lia | omega, its.set p (its.getD (chF r .none its p) .none), chF r .none its p, _, _, _, by walk_at "st", by first | lia | omega, by rw [List.length_set]; exact hlt, by rw [List.length_set]; exact hl, fun x hx => ?_, ?_⟩
      · rcases List.mem_or_eq_of_mem_set hx with hx | rfl
        · exact hm x hx
        · exact hchm
      · rw [← he]
        conv => rhs; rw [suF]
        rw [dif_pos hcl]
  · have hend : suF r .none its p = (its, p) := by rw [suF, dif_neg (by first | lia | omega)]
    rw [he] at hend
    rw [hend] at hQ
    refine exN (wpAny_Assign_Subscript (nameL S rfl (nameL S rfl (nameL S rfl (setL S (Upd.head (fun _ hx => nomatch hx)) (by first | lia | omega) (by first | lia | omega) (by simpa using hp) fun h' S => ?_)))))
    rw [show its.toArray.setIfInBounds ((p : Int)).toNat new = List.toArray (its.set p new) by simp] at S
    refine exN (wpAny_Expr (Call_ (nameK B S (by k_is) (callWith_K (K := hd.heap_39 w.params) B.X (by k_is) (args_cons (nameL S rfl (args_cons (nameL S rfl (args_cons (nameL S rfl (args_nil ⟨B.X.keeps S.keep, ?_⟩)))))))))))
    refine siftdown_max r B S.keep ⟨S.N.get (.head _), hlg⟩ (by show A.depth + 1 < _; first | lia | omega) (by rw [List.length_set]; exact hp) (by rw [List.length_set]; first | lia | omega) (by show A.units + 3 < _; first | lia | omega) (hcmp.sub (kb S) fun x hx => ?_) fun h' tk hk hl' => ?_
    · rcases List.mem_or_eq_of_mem_set hx with hx | rfl
      · exact hm x hx
      · exact hnew
    · refine wpAny_execs_nil (hQ _ _ (fun a o n e => hk a o n (kb S a o n e)) ?_)
      rw [hl', show (its.set p new).getD p .none = new by simp [hp]]

theorem siftup_min {w : World} {A : Around} {s : Shared} {b h : Heap} {tk : Nat} (r : Value → Value → Bool)
  {Q E : Value → Shared → Prop} {l : Addr} {items : List Value} {ep : Nat} {q : Nat} {t2 : Tok}
  (B : Ba w b) (hb : Keeps b h) (N : h.get? l = some (listOf items.toArray ep) ∧ b.get? l = none) (hroom : A.depth + 1 < recursionLimit)
  (h2 : q < items.length) (h63 : items.length < 64) (hun : A.units < 380)
  (hcmp : CmpOk w false l h items r)
  (hQ : ∀ h' tk, KeepsBut [l] h h' → h'.get? l = some (listOf (siF r .none items q).toArray ep) → Q .none (sh s h' tk)) :
  wpAny (model PySem.Challenge.rw_mr0271_01.row.prog w) A (call (.ref 102) [.ref l, .int q t2] []) Q E (sh s h tk) := by
  refine enter B hb [(l, listOf items.toArray ep)] (fun p hp => by rcases List.mem_singleton.mp hp with rfl; exact N) (by k_is) (by k_is) (by first | lia | omega)
    (binds := [("heap", .ref l), ("pos", .int q t2)]) (BindsTo.of_eq rfl) (locs rfl) (by decide) (by walk_at "al") ?_
  intro g L h₁ tk S B hL hg1 hg2 hg3
  have hlg : g.get? l = none := hg2 l (.head _)
  have kb : ∀ {h' al ns}, St g L h' al ns → KeepsBut [l] h h' := fun S' x o n e => S'.keep x o (hg1 x o n e)
  have hq : items[q]? = some (items.getD q .none) := by simp [h2]
  have hnew : items.getD q .none ∈ items := List.mem_of_getElem? hq
  unfold siF at hQ
  generalize hn : items.getD q .none = new at *
  refine exN (wpAny_Assign_Name (Call_ (nameB B S (by k_is) (by boot_fast) (by decide) (callWith_builtin1 (args_cons (nameL S rfl (args_nil (len_list (s := sh s _ _) ⟨_, S.N.get (.head _), rfl, _, rfl⟩ (len_fit h63) (storeL (s := s) S fun h' tk' S => ?_)))))))))
  rw [List.size_toArray] at S
  refine exN (wpAny_Assign_Name (nameL S rfl (storeL S fun h' tk' S => ?_)))
  refine exN (wpAny_Assign_Name (Subscript_ (nameL S rfl (nameL S rfl (getL (S.N.get (.head _)) (by first | lia | omega) (by first | lia | omega) (x := new) (by simpa using hq) (storeL S fun h' tk' S => ?_))))))
  refine exN (wpAny_Assign_Name (wpAny_BinOp (wpAny_BinOp (cInt (nameL S rfl (mulI (cInt (addI (storeL S fun h' tk' S => ?_)))))))))
  refine exN (while_ (fun n h => ∃ its p t t' t'', St g L h [("heap", .ref l), ("pos", .int (p : Nat) t), ("endpos", .int (items.length : Nat) t''), ("startpos", .int (q : Nat) t2), ("newitem", new), ("childpos", .int (2 * (p : Int) + 1) t')] [(l, listOf (List.toArray its) ep)] ∧
      n + p = items.length ∧ p < its.length ∧ its.length = items.length ∧ (∀ x ∈ its, x ∈ items) ∧ suF r .none its p = suF r .none items q) (items.length - q)
    ⟨items, q, t2, _, _, by walk_at "st", by first | lia | omega, h2, rfl, fun _ hx => hx, rfl⟩ ?_)
  rintro n h tk ⟨its, p, t, t', t'', S, hnp, hp, hl, hm, he⟩
  refine wpAny_isTrue_Compare1 (nameL S rfl (nameL S rfl (lt_int (wpAny_truthy_bool (split_dec (fun hc => ?_) (fun hc => ?_))))))
  · have hcl : 2 * p + 1 < its.length := by first | lia | omega
    have hgt := chF_gt r Value.none its p
    have hlt := chF_lt r Value.none its p hcl
    have hch : its[chF r .none its p]? = some (its.getD (chF r .none its p) .none) := by simp [hlt]
    have hchm : its.getD (chF r .none its p) .none ∈ items := hm _ (List.mem_of_getElem? hch)
    have hleft : its[2 * p + 1]? = some (its.getD (2 * p + 1) .none) := by simp [hcl]
    refine exN (wpAny_Assign_Name (wpAny_BinOp (nameL S rfl (cInt (addI (storeL S fun h' tk' S => ?_))))))
    refine exN (wpAny_mono (Q := fun f s' => f = .next ∧ ∃ h tk t', s' = sh s h tk ∧ St g L h [("heap", .ref l), ("pos", .int (p : Nat) t), ("endpos", .int (items.length : Nat) t''), ("startpos", .int (q : Nat) t2), ("newitem", new), ("childpos", .int ((chF r .none its p : Nat) : Int) t')] [(l, listOf (List.toArray its) ep)]) ?_ ?_ fun _ _ x => x)
    · refine wpAny_If (isTrue_and (wpAny_isTrue_Compare1 (nameL S rfl (nameL S rfl (lt_int (wpAny_truthy_bool (split_dec (fun hc2 => ?_) (fun hc2 => ?_))))))))
      · have hrl : 2 * p + 2 < its.length := by first | lia | omega
        have hright : its[2 * p + 2]? = some (its.getD (2 * p + 2) .none) := by simp [hrl]
        refine isTrue_and (isTrue_not (wpAny_isTrue_Compare1 (Subscript_ (nameL S rfl (nameL S rfl (getL (S.N.get (.head _)) (by first | lia | omega) (by first | lia | omega) (x := its.getD (2 * p + 1) .none) (by rw [show (2 * (p : Int) + 1 : Int).toNat = 2 * p + 1 by first | lia | omega]; simpa using hleft)
          (Subscript_ (nameL S rfl (nameL S rfl (getL (S.N.get (.head _)) (by first | lia | omega) (by first | lia | omega) (x := its.getD (2 * p + 2) .none) (by rw [show (2 * (p : Int) + 1 + 1 : Int).toNat = 2 * p + 2 by first | lia | omega]; simpa using hright) ?_))))))))))
        refine hcmp _ (sh s h' tk') _ (its.getD (2 * p + 2) .none) (its.getD (2 * p + 1) .none) (by show A.units + 3 < 400; first | lia | omega) (kb S) (hm _ (List.mem_of_getElem? hright)) (hm _ (List.mem_of_getElem? hleft)) (wpAny_truthy_bool ?_)
        cases hr : r (its.getD (2 * p + 2) .none) (its.getD (2 * p + 1) .none) with
        | true =>
          refine wpAny_execs_nil ⟨rfl, _, _, _, rfl, by rw [show ((chF r .none its p : Nat) : Int) = 2 * (p : Int) + 1 by unfold chF; rw [if_neg (by rw [hr]; simp)]; first | lia | omega]; walk_at "st"⟩
        | false =>
          refine isTrue_and_nil (exN (wpAny_Assign_Name (nameL S rfl (storeL S fun h' tk' S => ?_))))
          refine wpAny_execs_nil ⟨rfl, _, _, _, rfl, by rw [show ((chF r .none its p : Nat) : Int) = 2 * (p : Int) + 1 + 1 by unfold chF; rw [if_pos ⟨hrl, hr⟩]; first | lia | omega]; walk_at "st"⟩
      · refine wpAny_execs_nil ⟨rfl, _, _, _, rfl, by rw [show ((chF r .none its p : Nat) : Int) = 2 * (p : Int) + 1 by unfold chF; rw [if_neg (by first | lia | omega)]; first | lia | omega]; walk_at "st"⟩
    · rintro _ _ ⟨rfl, h', tk', t', rfl, S⟩
      refine exN (wpAny_Assign_Subscript (Subscript_ (nameL S rfl (nameL S rfl (getL (S.N.get (.head _)) (by first | lia | omega) (by first | lia | omega) (x := its.getD (chF r .none its p) .none) (by rw [Int.toNat_natCast]; simpa using hch) (nameL S rfl (nameL S rfl (setL S (Upd.head (fun _ hx => nomatch hx)) (by first | lia | omega) (by first | lia | omega) (by simpa using hp) fun h' S => ?_))))))))
      refine exN (wpAny_Assign_Name (nameL S rfl (storeL S fun h' tk' S => ?_)))
      refine exN (wpAny_Assign_Name (wpAny_BinOp (wpAny_BinOp (cInt (nameL S rfl (mulI (cInt (addI (storeL S fun h' tk' S => ?_)))))))))
      rw [show its.toArray.setIfInBounds ((p : Int)).toNat (its.getD (chF r .none its p) .none) = List.toArray (its.set p (its.getD (chF r .none its p) .none)) by simp] at S
      refine wpAny_execs_nil ⟨items.length - chF r .none its p, _, _, rfl, by first | lia | omega, its.set p (its.getD (chF r .none its p) .none), chF r .none its p, _, _, _, by walk_at "st", by first | lia | omega, by rw [List.length_set]; exact hlt, by rw [List.length_set]; exact hl, fun x hx => ?_, ?_⟩
      · rcases List.mem_or_eq_of_mem_set hx with hx | rfl
        · exact hm x hx
        · exact hchm
      · rw [← he]
        conv => rhs; rw [suF]
        rw [dif_pos hcl]
  · have hend : suF r .none its p = (its, p) := by rw [suF, dif_neg (by first | lia | omega)]
    rw [he] at hend
    rw [hend] at hQ
    refine exN (wpAny_Assign_Subscript (nameL S rfl (nameL S rfl (nameL S rfl (setL S (Upd.head (fun _ hx => nomatch hx)) (by first | lia | omega) (by first | lia | omega) (by simpa using hp) fun h' S => ?_)))))
    rw [show its.toArray.setIfInBounds ((p : Int)).toNat new = List.toArray (its.set p new) by simp] at S
    refine exN (wpAny_Expr (Call_ (nameK B S (by k_is) (callWith_K (K := hd.heap_39 w.params) B.X (by k_is) (args_cons (nameL S rfl (args_cons (nameL S rfl (args_cons (nameL S rfl (args_nil ⟨B.X.keeps S.keep, ?_⟩)))))))))))
    refine siftdown_min r B S.keep ⟨S.N.get (.head _), hlg⟩ (by show A.depth + 1 < _; first | lia | omega) (by rw [List.length_set]; exact hp) (by rw [List.length_set]; first | lia | omega) (by show A.units + 3 < _; first | lia | omega) (hcmp.sub (kb S) fun x hx => ?_) fun h' tk hk hl' => ?_
    · rcases List.mem_or_eq_of_mem_set hx with hx | rfl
      · exact hm x hx
      · exact hnew
    · refine wpAny_execs_nil (hQ _ _ (fun a o n e => hk a o n (kb S a o n e)) ?_)
      rw [hl', show (its.set p new).getD p .none = new by simp [hp]]
end Mine
/- MPureHeap -/
namespace Mine
/-- a strict weak order -/
structure SWO {α : Type} (r : α → α → Bool) : Prop where
  asymm : ∀ a b, r a b = true → r b a = false
  ntrans : ∀ a b c, r a b = false → r b c = false → r a c = false
theorem SWO.irrefl {α : Type} {r : α → α → Bool} (o : SWO r) (a : α) : r a a = false := by
  cases h : r a a with
  | false => rfl
  | true => have := o.asymm a a h; rw [h] at this; exact this
theorem SWO.trans {α : Type} {r : α → α → Bool} (o : SWO r) {a b c : α} (h1 : r a b = true) (h2 : r b c = true) : r a c = true := by
  cases h : r a c with
  | true => rfl
  | false => have := o.ntrans a c b h (o.asymm _ _ h2); rw [h1] at this; cases this

section
variable {α : Type} {r : α → α → Bool} {d : α}

theorem swap_perm {h : List α} {i j : Nat} {new : α} (hi : i < h.length) (hj : j < h.length) (hij : i ≠ j) : ((h.set i (h.getD j d)).set j new).Perm (h.set i new) := by
  have := List.set_set_perm (as := h.set i new) (i := i) (j := j) (by simpa using hi) (by simpa using hj)
  simp only [List.getElem_set_self, List.set_set, ne_eq, hij, not_false_eq_true, List.getElem_set_ne] at this
  simpa [List.getD, hj] using this

theorem sdF_perm (st : Nat) (new : α) (h : List α) (pos : Nat) (hp : pos < h.length) : (sdF r d st new h pos).Perm (h.set pos new) := by
  induction h, pos using sdF.induct r d st new with
  | case1 h pos hs hr ih =>
    rw [sdF, dif_pos hs, if_pos hr]
    refine (ih (by rw [List.length_set]; first | lia | omega)).trans (swap_perm hp (by first | lia | omega) (by first | lia | omega))
  | case2 h pos hs hr => rw [sdF, dif_pos hs, if_neg hr]
  | case3 h pos hs => rw [sdF, dif_neg hs]

theorem suF_perm (new : α) (h : List α) (pos : Nat) (hp : pos < h.length) : ((suF r d h pos).1.set (suF r d h pos).2 new).Perm (h.set pos new) := by
  induction h, pos using suF.induct r d with
  | case1 h pos hc ih =>
    rw [suF, dif_pos hc]
    have h1 := chF_lt r d h pos hc
    have h2 := chF_gt r d h pos
    refine (ih (by rw [List.length_set]; exact h1)).trans (swap_perm hp h1 (by first | lia | omega))
  | case2 h pos hc => rw [suF, dif_neg hc]

theorem siF_perm (h : List α) (pos : Nat) (hp : pos < h.length) : (siF r d h pos).Perm h := by
  unfold siF
  refine (sdF_perm _ _ _ _ (by rw [List.length_set, suF_len]; exact suF_lt r d h pos hp)).trans ?_
  rw [List.set_set]
  refine (suF_perm _ h pos hp).trans ?_
  have : h.set pos (h.getD pos d) = h := by
    have e : h.getD pos d = h[pos] := by simp [List.getD, hp]
    rw [e, List.set_getElem_self]
  rw [this]

/-- p lies under k -/
inductive Under (k : Nat) : Nat → Prop
  | self : Under k k
  | child {p c : Nat} : Under k p → (c = 2 * p + 1 ∨ c = 2 * p + 2) → Under k c
theorem Under.le {k p : Nat} (u : Under k p) : k ≤ p := by
  induction u with
  | self => exact Nat.le_refl _
  | child _ hc ih => first | lia | omega
theorem Under.up {k p : Nat} (u : Under k p) (h : k < p) : Under k ((p - 1) / 2) := by
  cases u with
  | self => first | lia | omega
  | child u' hc =>
    rename_i q
    have : (p - 1) / 2 = q := by first | lia | omega
    rw [this]; exact u'

/-- every parent from k on is not ahead of its children -/
def HeapFrom (r : α → α → Bool) (d : α) (k : Nat) (h : List α) : Prop :=
  ∀ a c, k ≤ a → (c = 2 * a + 1 ∨ c = 2 * a + 2) → c < h.length → r (h.getD a d) (h.getD c d) = false

theorem getD_set_ne {h : List α} {i j : Nat} {v : α} (hij : i ≠ j) : (h.set i v).getD j d = h.getD j d := by
  simp [List.getD, List.getElem?_set, hij]
theorem getD_set_eq {h : List α} {i : Nat} {v : α} (hi : i < h.length) : (h.set i v).getD i d = v := by
  simp [List.getD, List.getElem?_set, hi]

/-- all edges but those at the hole p; the hole's parent is not ahead of the hole's children -/
structure Hole (r : α → α → Bool) (d : α) (k p : Nat) (h : List α) : Prop where
  edge : ∀ a c, k ≤ a → (c = 2 * a + 1 ∨ c = 2 * a + 2) → c < h.length → a ≠ p → c ≠ p → r (h.getD a d) (h.getD c d) = false
  grand : ∀ c, k < p → (c = 2 * p + 1 ∨ c = 2 * p + 2) → c < h.length → r (h.getD ((p - 1) / 2) d) (h.getD c d) = false

theorem suF_hole (k : Nat) (h : List α) (p : Nat) (hu : Under k p) (hp : p < h.length) (o : SWO r) (H : Hole r d k p h) :
    Under k (suF r d h p).2 ∧ Hole r d k (suF r d h p).2 (suF r d h p).1 ∧ ¬ 2 * (suF r d h p).2 + 1 < h.length := by
  induction h, p using suF.induct r d with
  | case1 h p hc ih =>
    rw [suF, dif_pos hc]
    have h1 := chF_lt r d h p hc
    have h2 := chF_gt r d h p
    have hch : chF r d h p = 2 * p + 1 ∨ chF r d h p = 2 * p + 2 := by unfold chF; split <;> simp
    have hle := hu.le
    have hmax : ∀ c, (c = 2 * p + 1 ∨ c = 2 * p + 2) → c < h.length → r (h.getD (chF r d h p) d) (h.getD c d) = false := by
      intro c hcc hcl
      unfold chF
      split
      · rename_i q
        rcases hcc with rfl | rfl
        · exact q.2
        · exact o.irrefl _
      · rename_i q
        rcases hcc with rfl | rfl
        · exact o.irrefl _
        · have : r (h.getD (2 * p + 2) d) (h.getD (2 * p + 1) d) = true := by
            cases e : r (h.getD (2 * p + 2) d) (h.getD (2 * p + 1) d) with
            | true => rfl
            | false => exact absurd ⟨hcl, e⟩ q
          exact o.asymm _ _ this
    have := ih (hu.child hch) (by rw [List.length_set]; exact h1) ?_
    · rwa [List.length_set] at this
    · refine ⟨fun a c ha hac hcl hne hne2 => ?_, fun c hk hcc hcl => ?_⟩
      · rw [List.length_set] at hcl
        by_cases ea : a = p
        · subst ea
          rw [getD_set_eq hp, getD_set_ne (by first | lia | omega)]
          exact hmax c hac hcl
        · by_cases ec : c = p
          · subst ec
            rw [getD_set_eq hp, getD_set_ne (fun e => ea e.symm)]
            have hka : k < c := by
              rcases Nat.lt_or_ge k c with q | q
              · exact q
              · first | lia | omega
            have := H.grand (chF r d h c) hka hch h1
            rwa [show (c - 1) / 2 = a by first | lia | omega] at this
          · rw [getD_set_ne (fun e => ea e.symm), getD_set_ne (fun e => ec e.symm)]
            exact H.edge a c ha hac hcl ea ec
      · rw [List.length_set] at hcl
        have hpar : (chF r d h p - 1) / 2 = p := by first | lia | omega
        rw [hpar, getD_set_eq hp, getD_set_ne (by first | lia | omega)]
        exact H.edge _ _ (by first | lia | omega) hcc hcl (by first | lia | omega) (by first | lia | omega)
  | case2 h p hc =>
    rw [suF, dif_neg hc]
    exact ⟨hu, H, hc⟩

/-- all edges with `new` at p, but the one above p -/
structure Bub (r : α → α → Bool) (d : α) (k p : Nat) (new : α) (h : List α) : Prop where
  edge : ∀ a c, k ≤ a → (c = 2 * a + 1 ∨ c = 2 * a + 2) → c < h.length → c ≠ p → r ((h.set p new).getD a d) ((h.set p new).getD c d) = false
  grand : ∀ c, k < p → (c = 2 * p + 1 ∨ c = 2 * p + 2) → c < h.length → r (h.getD ((p - 1) / 2) d) (h.getD c d) = false

theorem sdF_heap (k : Nat) (new : α) (h : List α) (p : Nat) (hu : Under k p) (hp : p < h.length) (o : SWO r) (H : Bub r d k p new h) : HeapFrom r d k (sdF r d k new h p) := by
  induction h, p using sdF.induct r d k new with
  | case1 h p hs hr ih =>
    rw [sdF, dif_pos hs, if_pos hr]
    have hle := hu.le
    have hup := hu.up hs
    have hup' := hup.le
    have hq : (p - 1) / 2 < p := by first | lia | omega
    refine ih hup (by rw [List.length_set]; first | lia | omega) ⟨fun a c ha hac hcl hne => ?_, fun c hk hcc hcl => ?_⟩
    · rw [List.length_set] at hcl
      have old := H.edge a c ha hac hcl
      by_cases ea : a = (p - 1) / 2
      · subst ea
        rw [getD_set_eq (by rw [List.length_set]; first | lia | omega), getD_set_ne (by first | lia | omega)]
        by_cases ec : c = p
        · subst ec
          rw [getD_set_eq hp]
          exact o.asymm _ _ hr
        · rw [getD_set_ne (fun e => ec e.symm)]
          have e1 := old ec
          rw [getD_set_ne (by first | lia | omega), getD_set_ne (fun e => ec e.symm)] at e1
          cases e2 : r new (h.getD c d) with
          | false => rfl
          | true => have := o.trans hr e2; rw [e1] at this; cases this
      · rw [getD_set_ne (fun e => ea e.symm), getD_set_ne (fun e => hne e.symm)]
        by_cases ec : c = p
        · subst ec; first | lia | omega
        · have e1 := old ec
          by_cases ea2 : a = p
          · subst ea2
            rw [getD_set_eq hp, getD_set_ne (by first | lia | omega)]
            exact H.grand c hs hac hcl
          · rw [getD_set_ne (fun e => ea2 e.symm), getD_set_ne (fun e => ec e.symm)] at e1 ⊢
            exact e1
    · rw [List.length_set] at hcl
      have hqq : ((p - 1) / 2 - 1) / 2 ≠ p := by first | lia | omega
      have e0 := H.edge (((p - 1) / 2 - 1) / 2) ((p - 1) / 2) (by have := (hup.up hk).le; first | lia | omega) (by first | lia | omega) (by first | lia | omega) (by first | lia | omega)
      rw [getD_set_ne (fun e => hqq e.symm), getD_set_ne (by first | lia | omega)] at e0
      rw [getD_set_ne (fun e => hqq e.symm)]
      by_cases ec : c = p
      · subst ec
        rw [getD_set_eq hp]
        exact e0
      · rw [getD_set_ne (fun e => ec e.symm)]
        have e1 := H.edge ((p - 1) / 2) c (by first | lia | omega) hcc hcl ec
        rw [getD_set_ne (by first | lia | omega), getD_set_ne (fun e => ec e.symm)] at e1
        exact o.ntrans _ _ _ e0 e1
  | case2 h p hs hr =>
    rw [sdF, dif_pos hs, if_neg hr]
    intro a c ha hac hcl
    rw [List.length_set] at hcl
    by_cases ec : c = p
    · subst ec
      rw [getD_set_eq hp, getD_set_ne (by first | lia | omega)]
      rw [show a = (c - 1) / 2 by first | lia | omega]
      simpa using hr
    · exact H.edge a c ha hac hcl ec
  | case3 h p hs =>
    rw [sdF, dif_neg hs]
    have := hu.le
    have hpk : p = k := by first | lia | omega
    subst hpk
    intro a c ha hac hcl
    rw [List.length_set] at hcl
    exact H.edge a c ha hac hcl (by first | lia | omega)

theorem siF_heap (o : SWO r) (h : List α) (k : Nat) (hk : k < h.length) (H : HeapFrom r d (k + 1) h) : HeapFrom r d k (siF r d h k) := by
  have H0 : Hole r d k k h := ⟨fun a c ha hac hcl hne _ => H a c (by first | lia | omega) hac hcl, fun c hkk => by first | lia | omega⟩
  obtain ⟨u, H1, hleaf⟩ := suF_hole k h k .self hk o H0
  have hl := suF_len r d h k
  have hlt := suF_lt r d h k hk
  unfold siF
  refine sdF_heap k _ _ _ u (by rw [List.length_set, hl]; exact hlt) o ⟨fun a c ha hac hcl hne => ?_, fun c hkk hcc hcl => ?_⟩
  · rw [List.length_set, hl] at hcl
    rw [List.set_set]
    by_cases ea : a = (suF r d h k).2
    · first | lia | omega
    · rw [getD_set_ne (fun e => ea e.symm), getD_set_ne (fun e => hne e.symm)]
      exact H1.edge a c ha hac (by rw [hl]; exact hcl) ea hne
  · rw [List.length_set, hl] at hcl
    first | lia | omega

/-- heapify -/
def hfF (r : α → α → Bool) (d : α) : Nat → List α → List α
  | 0, h => h
  | k + 1, h => hfF r d k (siF r d h k)
theorem hfF_len (k : Nat) : ∀ h : List α, (hfF r d k h).length = h.length := by
  induction k with
  | zero => intro h; rfl
  | succ k ih => intro h; rw [hfF, ih, siF_len]
theorem hfF_perm (k : Nat) : ∀ h : List α, k ≤ h.length → (hfF r d k h).Perm h := by
  induction k with
  | zero => intro h _; exact .refl _
  | succ k ih => intro h hk; rw [hfF]; exact (ih _ (by rw [siF_len]; first | lia | omega)).trans (siF_perm h k (by first | lia | omega))
theorem hfF_heap (o : SWO r) (k : Nat) : ∀ h : List α, k ≤ h.length → HeapFrom r d k h → HeapFrom r d 0 (hfF r d k h) := by
  induction k with
  | zero => intro h _ H; exact H
  | succ k ih => intro h hk H; rw [hfF]; exact ih _ (by rw [siF_len]; first | lia | omega) (siF_heap o h k (by first | lia | omega) H)
theorem heapify_heap (o : SWO r) (h : List α) : HeapFrom r d 0 (hfF r d (h.length / 2) h) :=
  hfF_heap o _ h (Nat.div_le_self ..) fun a c ha hac hcl => by first | lia | omega

/-- the root is not ahead of any other -/
theorem HeapFrom.root (o : SWO r) {h : List α} (H : HeapFrom r d 0 h) : ∀ c, c < h.length → r (h.getD 0 d) (h.getD c d) = false := by
  intro c
  induction c using Nat.strongRecOn with
  | ind c ih =>
    intro hc
    by_cases e : c = 0
    · subst e; exact o.irrefl _
    · exact o.ntrans _ _ _ (ih ((c - 1) / 2) (by first | lia | omega) (by first | lia | omega)) (H ((c - 1) / 2) c (by first | lia | omega) (by first | lia | omega) hc)
end
end Mine
/- MHeap3 -/
namespace Mine
open PySem PySem.W PyProof.Rows PySem.Calls
theorem St.chg {b : Heap} {L : Addr} {h h' : Heap} {al : List (Str × Value)} {news news' : List (Addr × Obj)} {d : Addr} {o o' : Obj} (S : St b L h al news) (U : Upd d o o' news news') (hk : KeepsBut [d] h h') (ho : h'.get? d = some o') : St b L h' al news' := by
  obtain ⟨pre, post, rfl, rfl, x1, x2⟩ := U.split
  have z := S.N (d, o) (List.mem_append.mpr (.inr (.head _)))
  refine S.but hk (fun a ha => by rcases List.mem_singleton.mp ha with rfl; exact z.2.2) (fun q => z.2.1 (List.mem_singleton.mp q).symm) fun p hp => ?_
  rcases List.mem_append.mp hp with hp | hp
  · have y := S.N p (List.mem_append.mpr (.inl hp))
    exact ⟨hk _ _ (fun q => x1 p hp (List.mem_singleton.mp q)) y.1, y.2⟩
  · rcases List.mem_cons.mp hp with rfl | hp
    · exact ⟨ho, z.2⟩
    · have y := S.N p (List.mem_append.mpr (.inr (.tail _ hp)))
      exact ⟨hk _ _ (fun q => x2 p hp (List.mem_singleton.mp q)) y.1, y.2⟩

theorem heapify_max {w : World} {A : Around} {s : Shared} {b h : Heap} {tk : Nat} (r : Value → Value → Bool)
  {Q E : Value → Shared → Prop} {l : Addr} {items : List Value} {ep : Nat}
  (B : Ba w b) (hb : Keeps b h) (N : h.get? l = some (listOf items.toArray ep) ∧ b.get? l = none) (hroom : A.depth + 2 < recursionLimit)
  (h63 : items.length < 64) (hun : A.units < 370) (hh : A.handled = none)
  (hcmp : CmpOk w true l h items r)
  (hQ : ∀ h' tk, KeepsBut [l] h h' → h'.get? l = some (listOf (hfF r .none (items.length / 2) items).toArray ep) → Q .none (sh s h' tk)) :
  wpAny (model PySem.Challenge.rw_mr0271_01.row.prog w) A (call (.ref 88) [.ref l] []) Q E (sh s h tk) := by
  refine enter B hb [(l, listOf items.toArray ep)] (fun p hp => by rcases List.mem_singleton.mp hp with rfl; exact N) (by k_is) (by k_is) (by first | lia | omega)
    (binds := [("x", .ref l)]) (BindsTo.of_eq rfl) (locs rfl) (by decide) (by walk_at "al") ?_
  intro g L h₁ tk S B hL hg1 hg2 hg3
  have hlg : g.get? l = none := hg2 l (.head _)
  have kb : ∀ {h' al ns}, St g L h' al ns → KeepsBut [l] h h' := fun S' x o n e => S'.keep x o (hg1 x o n e)
  refine exN (wpAny_Assign_Name (Call_ (nameB B S (by k_is) (by boot_fast) (by decide) (callWith_builtin1 (args_cons (nameL S rfl (args_nil (len_list (s := sh s _ _) ⟨_, S.N.get (.head _), rfl, _, rfl⟩ (len_fit h63) (storeL (s := s) S fun h' tk' S => ?_)))))))))
  rw [List.size_toArray] at S
  refine exN (for_ (Call_ (nameB B S (by k_is) (by boot_fast) (by decide) (callWith_type1 (args_cons (Call_ (nameB B S (by k_is) (by boot_fast) (by decide) (callWith_type1 (args_cons (wpAny_BinOp (nameL S rfl (cInt (fdivI (by decide) (args_nil ?_ ))))))))))))))
  rw [fdiv2]
  refine callRange S fun ra t1 t2 h' tk' S2 lr => args_nil (callReversed S2 (S2.N.get (.head _)) (by first | lia | omega) (by first | lia | omega) fun it h' S lt => ?_)
  have hlt : l < it := lt (l, _) (.tail _ (.head _))
  refine iterR (S.N.get (.head _)) ?_
  refine forL (fun n h => ∃ its al, St g L h (("x", .ref l) :: al) [(it, rangeIt ((n : Int) - 1) n (-1)), (l, listOf (List.toArray its) ep)] ∧ n ≤ its.length ∧ its.length = items.length ∧ its.Perm items ∧ hfF r .none n its = hfF r .none (items.length / 2) items)
    (items.length / 2) ⟨items, [], ?_, Nat.div_le_self .., rfl, .refl _, rfl⟩ ?_
  · exact S.weaken (by walk_at "al") (by walk_at "nw")
  · rintro n h tk ⟨its, al, S, hn, hl, hp, he⟩
    cases n with
    | zero =>
      refine nextR_end (news' := [(l, listOf (List.toArray its) ep)]) hh S (.head _) (by first | lia | omega) (fun p hp => ?_) fun h' S => wpAny_execs_nil (hQ _ _ (kb S) ?_)
      · rcases List.mem_singleton.mp hp with rfl
        exact ⟨.tail _ (.head _), Nat.ne_of_lt hlt⟩
      · rw [S.N.get (.head _), ← he]; rfl
    | succ n =>
      refine nextR S (.head fun p hp => by rcases List.mem_singleton.mp hp with rfl; exact Nat.ne_of_lt hlt) (by first | lia | omega) fun h' S => wpAny_assign_Name (storeL S fun h' tk' S => ?_)
      refine exN (wpAny_Expr (Call_ (nameK B S (by k_is) (callWith_K (K := hd.heap_39 w.params) B.X (by k_is) (args_cons (nameL S rfl (args_cons (nameL S rfl (args_nil ⟨B.X.keeps S.keep, ?_⟩)))))))))
      rw [show (((n + 1 : Nat) : Int) - 1) = (n : Int) by first | lia | omega] at S ⊢
      refine siftup_max r B S.keep ⟨S.N.get (.tail _ (.head _)), hlg⟩ (by show A.depth + 1 + 1 < _; first | lia | omega) (by first | lia | omega) (by first | lia | omega) (by show A.units + 3 < _; first | lia | omega) (hcmp.sub (kb S) fun x hx => hp.mem_iff.mp hx) fun h' tk hk hl' => ?_
      have S' := S.chg (.tail (Nat.ne_of_gt hlt) (.head fun _ hx => nomatch hx)) hk hl'
      refine wpAny_execs_nil ⟨n, _, _, rfl, by first | lia | omega, siF r .none its n, [], ?_, by rw [siF_len]; first | lia | omega, by rw [siF_len]; exact hl, (siF_perm its n (by first | lia | omega)).trans hp, he⟩
      rw [show ((n : Int) + -1) = (n : Int) - 1 by first | lia | omega] at S'
      exact S'.weaken (by walk_at "al") (by walk_at "nw")

theorem heapreplace_max {w : World} {A : Around} {s : Shared} {b h : Heap} {tk : Nat} (r : Value → Value → Bool)
  {Q E : Value → Shared → Prop} {l : Addr} {items univ : List Value} {ep : Nat} {item : Value}
  (B : Ba w b) (hb : Keeps b h) (N : h.get? l = some (listOf items.toArray ep) ∧ b.get? l = none) (hroom : A.depth + 2 < recursionLimit)
  (h0 : 0 < items.length) (h63 : items.length < 64) (hun : A.units < 370)
  (hi : ∀ x ∈ items, x ∈ univ) (hit : item ∈ univ)
  (hcmp : CmpOk w true l h univ r)
  (hQ : ∀ h' tk, KeepsBut [l] h h' → h'.get? l = some (listOf (siF r .none (items.set 0 item) 0).toArray ep) → Q (items.getD 0 .none) (sh s h' tk)) :
  wpAny (model PySem.Challenge.rw_mr0271_01.row.prog w) A (call (.ref 81) [.ref l, item] []) Q E (sh s h tk) := by
  refine enter B hb [(l, listOf items.toArray ep)] (fun p hp => by rcases List.mem_singleton.mp hp with rfl; exact N) (by k_is) (by k_is) (by first | lia | omega)
    (binds := [("heap", .ref l), ("item", item)]) (BindsTo.of_eq rfl) (locs rfl) (by decide) (by walk_at "al") ?_
  intro g L h₁ tk S B hL hg1 hg2 hg3
  have hlg : g.get? l = none := hg2 l (.head _)
  have kb : ∀ {h' al ns}, St g L h' al ns → KeepsBut [l] h h' := fun S' x o n e => S'.keep x o (hg1 x o n e)
  have hq : items[0]? = some (items.getD 0 .none) := by simp [h0]
  refine exN (wpAny_Assign_Name (Subscript_ (nameL S rfl (cInt (getL (S.N.get (.head _)) (by first | lia | omega) (by first | lia | omega) (x := items.getD 0 .none) (by simpa using hq) (storeL S fun h' tk' S => ?_))))))
  refine exN (wpAny_Assign_Subscript (nameL S rfl (nameL S rfl (cInt (setL S (Upd.head (fun _ hx => nomatch hx)) (by first | lia | omega) (by first | lia | omega) (by rw [List.size_toArray]; first | lia | omega) fun h' S => ?_)))))
  rw [show items.toArray.setIfInBounds ((0 : Int)).toNat item = List.toArray (items.set 0 item) by simp] at S
  refine exN (wpAny_Expr (Call_ (nameK B S (by k_is) (callWith_K (K := hd.heap_39 w.params) B.X (by k_is) (args_cons (nameL S rfl (args_cons (cInt (args_nil ⟨B.X.keeps S.keep, ?_⟩)))))))))
  refine siftup_max (q := 0) r B S.keep ⟨S.N.get (.head _), hlg⟩ (by show A.depth + 1 + 1 < _; first | lia | omega) (by rw [List.length_set]; exact h0) (by rw [List.length_set]; first | lia | omega) (by show A.units + 3 < _; first | lia | omega) (hcmp.sub (kb S) fun x hx => ?_) fun h' tk hk hl' => ?_
  · rcases List.mem_or_eq_of_mem_set hx with hx | rfl
    · exact hi x hx
    · exact hit
  · have S' := S.chg (.head fun _ hx => nomatch hx) hk hl'
    exact exN (wpAny_Return_some (nameL S' rfl (hQ _ _ (kb S') (S'.N.get (.head _)))))

theorem heapify_min {w : World} {A : Around} {s : Shared} {b h : Heap} {tk : Nat} (r : Value → Value → Bool)
  {Q E : Value → Shared → Prop} {l : Addr} {items : List Value} {ep : Nat}
  (B : Ba w b) (hb : Keeps b h) (N : h.get? l = some (listOf items.toArray ep) ∧ b.get? l = none) (hroom : A.depth + 2 < recursionLimit)
  (h63 : items.length < 64) (hun : A.units < 370) (hh : A.handled = none)
  (hcmp : CmpOk w false l h items r)
  (hQ : ∀ h' tk, KeepsBut [l] h h' → h'.get? l = some (listOf (hfF r .none (items.length / 2) items).toArray ep) → Q .none (sh s h' tk)) :
  wpAny (model PySem.Challenge.rw_mr0271_01.row.prog w) A (call (.ref 74) [.ref l] []) Q E (sh s h tk) := by
  refine enter B hb [(l, listOf items.toArray ep)] (fun p hp => by rcases List.mem_singleton.mp hp with rfl; exact N) (by k_is) (by k_is) (by first | lia | omega)
    (binds := [("x", .ref l)]) (BindsTo.of_eq rfl) (locs rfl) (by decide) (by walk_at "al") ?_
  intro g L h₁ tk S B hL hg1 hg2 hg3
  have hlg : g.get? l = none := hg2 l (.head _)
  have kb : ∀ {h' al ns}, St g L h' al ns → KeepsBut [l] h h' := fun S' x o n e => S'.keep x o (hg1 x o n e)
  refine exN (wpAny_Assign_Name (Call_ (nameB B S (by k_is) (by boot_fast) (by decide) (callWith_builtin1 (args_cons (nameL S rfl (args_nil (len_list (s := sh s _ _) ⟨_, S.N.get (.head _), rfl, _, rfl⟩ (len_fit h63) (storeL (s := s) S fun h' tk' S => ?_)))))))))
  rw [List.size_toArray] at S
  refine exN (for_ (Call_ (nameB B S (by k_is) (by boot_fast) (by decide) (callWith_type1 (args_cons (Call_ (nameB B S (by k_is) (by boot_fast) (by decide) (callWith_type1 (args_cons (wpAny_BinOp (nameL S rfl (cInt (fdivI (by decide) (args_nil ?_ ))))))))))))))
  rw [fdiv2]
  refine callRange S fun ra t1 t2 h' tk' S2 lr => args_nil (callReversed S2 (S2.N.get (.head _)) (by first | lia | omega) (by first | lia | omega) fun it h' S lt => ?_)
  have hlt : l < it := lt (l, _) (.tail _ (.head _))
  refine iterR (S.N.get (.head _)) ?_
  refine forL (fun n h => ∃ its al, St g L h (("x", .ref l) :: al) [(it, rangeIt ((n : Int) - 1) n (-1)), (l, listOf (List.toArray its) ep)] ∧ n ≤ its.length ∧ its.length = items.length ∧ its.Perm items ∧ hfF r .none n its = hfF r .none (items.length / 2) items)
    (items.length / 2) ⟨items, [], ?_, Nat.div_le_self .., rfl, .refl _, rfl⟩ ?_
  · exact S.weaken (by walk_at "al") (by walk_at "nw")
  · rintro n h tk ⟨its, al, S, hn, hl, hp, he⟩
    cases n with
    | zero =>
      refine nextR_end (news' := [(l, listOf (List.toArray its) ep)]) hh S (.head _) (by first | lia | omega) (fun p hp => ?_) fun h' S => wpAny_execs_nil (hQ _ _ (kb S) ?_)
      · rcases List.mem_singleton.mp hp with rfl
        exact ⟨.tail _ (.head _), Nat.ne_of_lt hlt⟩
      · rw [S.N.get (.head _), ← he]; rfl
    | succ n =>
      refine nextR S (.head fun p hp => by rcases List.mem_singleton.mp hp with rfl; exact Nat.ne_of_lt hlt) (by first | lia | omega) fun h' S => wpAny_assign_Name (storeL S fun h' tk' S => ?_)
      refine exN (wpAny_Expr (Call_ (nameK B S (by k_is) (callWith_K (K := hd.heap_39 w.params) B.X (by k_is) (args_cons (nameL S rfl (args_cons (nameL S rfl (args_nil ⟨B.X.keeps S.keep, ?_⟩)))))))))
      rw [show (((n + 1 : Nat) : Int) - 1) = (n : Int) by first | lia | omega] at S ⊢
      refine siftup_min r B S.keep ⟨S.N.get (.tail _ (.head _)), hlg⟩ (by show A.depth + 1 + 1 < _; first | lia | omega) (by first | lia | omega) (by first | lia | omega) (by show A.units + 3 < _; first | lia | omega) (hcmp.sub (kb S) fun x hx => hp.mem_iff.mp hx) fun h' tk hk hl' => ?_
      have S' := S.chg (.tail (Nat.ne_of_gt hlt) (.head fun _ hx => nomatch hx)) hk hl'
      refine wpAny_execs_nil ⟨n, _, _, rfl, by first | lia | omega, siF r .none its n, [], ?_, by rw [siF_len]; first | lia | omega, by rw [siF_len]; exact hl, (siF_perm its n (by first | lia | omega)).trans hp, he⟩
      rw [show ((n : Int) + -1) = (n : Int) - 1 by first | lia | omega] at S'
      exact S'.weaken (by walk_at "al") (by walk_at "nw")

theorem heapreplace_min {w : World} {A : Around} {s : Shared} {b h : Heap} {tk : Nat} (r : Value → Value → Bool)
  {Q E : Value → Shared → Prop} {l : Addr} {items univ : List Value} {ep : Nat} {item : Value}
  (B : Ba w b) (hb : Keeps b h) (N : h.get? l = some (listOf items.toArray ep) ∧ b.get? l = none) (hroom : A.depth + 2 < recursionLimit)
  (h0 : 0 < items.length) (h63 : items.length < 64) (hun : A.units < 370)
  (hi : ∀ x ∈ items, x ∈ univ) (hit : item ∈ univ)
  (hcmp : CmpOk w false l h univ r)
  (hQ : ∀ h' tk, KeepsBut [l] h h' → h'.get? l = some (listOf (siF r .none (items.set 0 item) 0).toArray ep) → Q (items.getD 0 .none) (sh s h' tk)) :
  wpAny (model PySem.Challenge.rw_mr0271_01.row.prog w) A (call (.ref 67) [.ref l, item] []) Q E (sh s h tk) := by
  refine enter B hb [(l, listOf items.toArray ep)] (fun p hp => by rcases List.mem_singleton.mp hp with rfl; exact N) (by k_is) (by k_is) (by first | lia | omega)
    (binds := [("heap", .ref l), ("item", item)]) (BindsTo.of_eq rfl) (locs rfl) (by decide) (by walk_at "al") ?_
  intro g L h₁ tk S B hL hg1 hg2 hg3
  have hlg : g.get? l = none := hg2 l (.head _)
  have kb : ∀ {h' al ns}, St g L h' al ns → KeepsBut [l] h h' := fun S' x o n e => S'.keep x o (hg1 x o n e)
  have hq : items[0]? = some (items.getD 0 .none) := by simp [h0]
  refine exN (wpAny_Assign_Name (Subscript_ (nameL S rfl (cInt (getL (S.N.get (.head _)) (by first | lia | omega) (by first | lia | omega) (x := items.getD 0 .none) (by simpa using hq) (storeL S fun h' tk' S => ?_))))))
  refine exN (wpAny_Assign_Subscript (nameL S rfl (nameL S rfl (cInt (setL S (Upd.head (fun _ hx => nomatch hx)) (by first | lia | omega) (by first | lia | omega) (by rw [List.size_toArray]; first | lia | omega) fun h' S => ?_)))))
  rw [show items.toArray.setIfInBounds ((0 : Int)).toNat item = List.toArray (items.set 0 item) by simp] at S
  refine exN (wpAny_Expr (Call_ (nameK B S (by k_is) (callWith_K (K := hd.heap_39 w.params) B.X (by k_is) (args_cons (nameL S rfl (args_cons (cInt (args_nil ⟨B.X.keeps S.keep, ?_⟩)))))))))
  refine siftup_min (q := 0) r B S.keep ⟨S.N.get (.head _), hlg⟩ (by show A.depth + 1 + 1 < _; first | lia | omega) (by rw [List.length_set]; exact h0) (by rw [List.length_set]; first | lia | omega) (by show A.units + 3 < _; first | lia | omega) (hcmp.sub (kb S) fun x hx => ?_) fun h' tk hk hl' => ?_
  · rcases List.mem_or_eq_of_mem_set hx with hx | rfl
    · exact hi x hx
    · exact hit
  · have S' := S.chg (.head fun _ hx => nomatch hx) hk hl'
    exact exN (wpAny_Return_some (nameL S' rfl (hQ _ _ (kb S') (S'.N.get (.head _)))))
end Mine
/- MPool -/
namespace Mine
open PySem PySem.W PyProof.Rows PySem.Calls
def Bey (gt : Bool) (a b : Int) : Prop := if gt = true then b < a else a < b

/-- the triples in the heap's list: their numbers and their orders -/
structure Pool (gt : Bool) (K : Nat → List Nat) (kind : Nat) (led : List (Addr × Obj)) (items : List Value) (el : Value → Nat) (od : Value → Int) : Prop where
  trip : ∀ v ∈ items, ∃ a o, v = .ref a ∧ (a, o) ∈ led ∧ IsT3 kind (K (el v), od v, (el v : Int)) o
  mono : ∀ u ∈ items, ∀ v ∈ items, el u < el v → Bey gt (od u) (od v)
  inj : ∀ u ∈ items, ∀ v ∈ items, el u = el v → u = v
  nd : (items.map el).Nodup

def tr (K : Nat → List Nat) (el : Value → Nat) (od : Value → Int) (v : Value) : K3 := (K (el v), od v, (el v : Int))
def rr (gt : Bool) (K : Nat → List Nat) (el : Value → Nat) (u v : Value) : Bool := aheadR gt K (el u) (el v)

section
variable {gt : Bool} {K : Nat → List Nat} {kind : Nat} {led led' : List (Addr × Obj)} {items items' : List Value} {el : Value → Nat} {od : Value → Int}

theorem Pool.lt (P : Pool gt K kind led items el od) {u v : Value} (hu : u ∈ items) (hv : v ∈ items) : (if gt = true then lt3 (tr K el od v) (tr K el od u) else lt3 (tr K el od u) (tr K el od v)) = aheadR gt K (el u) (el v) := by
  by_cases e : K (el u) = K (el v)
  · rw [aheadR_eq e]
    rcases Nat.lt_trichotomy (el u) (el v) with h | h | h
    · have := P.mono u hu v hv h
      cases gt
      · have this : od u < od v := this
        simp [lt3, tr, e, ltL_irrefl, this, h]
      · have this : od v < od u := this
        simp [lt3, tr, e, ltL_irrefl, this, h]
    · have := P.inj u hu v hv h
      subst this
      simp [lt3_to.irr]
    · have := P.mono v hv u hu h
      cases gt
      · have this : od v < od u := this
        have h1 : ¬ od u < od v := by first | lia | omega
        have h2 : ¬ od u = od v := by first | lia | omega
        have h3 : ¬ el u < el v := by first | lia | omega
        simp [lt3, tr, e, ltL_irrefl, h1, h2, h3]
      · have this : od u < od v := this
        have h1 : ¬ od v < od u := by first | lia | omega
        have h2 : ¬ od v = od u := by first | lia | omega
        have h3 : ¬ el u < el v := by first | lia | omega
        simp [lt3, tr, e, ltL_irrefl, h1, h2, h3]
  · rw [aheadR_ne e]
    cases gt
    · simp [lt3, tr, e, kl]
    · simp [lt3, tr, Ne.symm e, kl]

theorem rr_swo (gt : Bool) (K : Nat → List Nat) (el : Value → Nat) : SWO (rr gt K el) :=
  ⟨fun _ _ h => (aheadR_sto gt K).asy h, fun a b c h1 h2 => by
    have H := aheadR_sto gt K
    unfold rr at *
    cases q : aheadR gt K (el a) (el c) with
    | false => rfl
    | true =>
      rcases H.tot (el a) (el b) with e | e | e
      · rw [h1] at e; cases e
      · rw [e, h2] at q; cases q
      · rw [H.tr e q] at h2; cases h2⟩

theorem Pool.cmp (P : Pool gt K kind led items el od) (w : World) {l : Addr} {h : Heap} (hl : ∀ p ∈ led, h.get? p.1 = some p.2 ∧ p.1 ≠ l) (hk : ∀ v ∈ items, KOk kind (K (el v))) : CmpOk w (!gt) l h items (rr gt K el) := by
  intro A s Q u v hun hkb hu hv hq
  obtain ⟨a, o, rfl, hm, t⟩ := P.trip u hu
  obtain ⟨a', o', rfl, hm', t'⟩ := P.trip v hv
  have ha := hkb a o (fun q => (hl _ hm).2 (List.mem_singleton.mp q)) (hl _ hm).1
  have ha' := hkb a' o' (fun q => (hl _ hm').2 (List.mem_singleton.mp q)) (hl _ hm').1
  have e := P.lt hu hv
  have hq : Q (.bool (aheadR gt K (el (.ref a)) (el (.ref a')))) s := hq
  rw [← e] at hq
  have hu' : A.units < cLine := Nat.lt_trans hun (by decide)
  cases gt
  · rw [if_pos (by decide)]
    exact t3_lt hu' ha ha' t t' (hk _ hu) (hk _ hv) hq
  · rw [if_neg (by decide)]
    exact t3_lt hu' ha' ha t' t (hk _ hv) (hk _ hu) hq

theorem Pool.perm (P : Pool gt K kind led items el od) (hp : items'.Perm items) : Pool gt K kind led items' el od :=
  ⟨fun v hv => P.trip v (hp.mem_iff.mp hv), fun u hu v hv => P.mono u (hp.mem_iff.mp hu) v (hp.mem_iff.mp hv), fun u hu v hv => P.inj u (hp.mem_iff.mp hu) v (hp.mem_iff.mp hv), (hp.map el).nodup_iff.mpr P.nd⟩
theorem Pool.grow (P : Pool gt K kind led items el od) (hl : ∀ p ∈ led, p ∈ led') : Pool gt K kind led' items el od :=
  ⟨fun v hv => by obtain ⟨a, o, e, hm, t⟩ := P.trip v hv; exact ⟨a, o, e, hl _ hm, t⟩, P.mono, P.inj, P.nd⟩

open Classical in
noncomputable def put {β : Type} (f : Value → β) (x : Value) (y : β) (v : Value) : β := if v = x then y else f v
theorem put_eq {β : Type} (f : Value → β) (x : Value) (y : β) : put f x y x = y := by unfold put; rw [if_pos rfl]
theorem put_ne {β : Type} (f : Value → β) {x v : Value} (y : β) (h : v ≠ x) : put f x y v = f v := by unfold put; rw [if_neg h]

theorem Pool.retell (P : Pool gt K kind led items el od) {x : Value} {j : Nat} {q : Int} (hx : x ∉ items) : Pool gt K kind led items (put el x j) (put od x q) := by
  have ne : ∀ v ∈ items, v ≠ x := fun v hv e => hx (e ▸ hv)
  refine ⟨fun v hv => ?_, fun u hu v hv h => ?_, fun u hu v hv h => ?_, ?_⟩
  · rw [put_ne _ _ (ne v hv), put_ne _ _ (ne v hv)]; exact P.trip v hv
  · rw [put_ne _ _ (ne u hu), put_ne _ _ (ne v hv)] at h ⊢; exact P.mono u hu v hv h
  · rw [put_ne _ _ (ne u hu), put_ne _ _ (ne v hv)] at h; exact P.inj u hu v hv h
  · rw [List.map_congr_left fun v hv => put_ne el j (ne v hv)]; exact P.nd

/-- one more triple, with a greater number and an order beyond -/
theorem Pool.add (P : Pool gt K kind led items el od) {x : Value} {j : Nat} {q : Int} (hx : x ∉ items) {a : Addr} {o : Obj} (he : x = .ref a) (hm : (a, o) ∈ led) (ht : IsT3 kind (K j, q, (j : Int)) o) (hj : ∀ v ∈ items, el v < j) (hq : ∀ v ∈ items, Bey gt (od v) q) :
    Pool gt K kind led (x :: items) (put el x j) (put od x q) := by
  have ne : ∀ v ∈ items, v ≠ x := fun v hv e => hx (e ▸ hv)
  have R := P.retell (j := j) (q := q) hx
  refine ⟨fun v hv => ?_, fun u hu v hv h => ?_, fun u hu v hv h => ?_, ?_⟩
  · rcases List.mem_cons.mp hv with rfl | hv
    · rw [put_eq, put_eq]; exact ⟨a, o, he, hm, ht⟩
    · exact R.trip v hv
  · rcases List.mem_cons.mp hu with eu | hu'
    · rcases List.mem_cons.mp hv with ev | hv'
      · rw [eu, ev] at h; exact absurd h (Nat.lt_irrefl _)
      · rw [eu, put_eq, put_ne _ _ (ne v hv')] at h
        exact absurd (hj v hv') (by first | lia | omega)
    · rcases List.mem_cons.mp hv with ev | hv'
      · rw [ev, put_eq, put_ne _ _ (ne u hu')]; exact hq u hu'
      · exact R.mono u hu' v hv' h
  · rcases List.mem_cons.mp hu with eu | hu'
    · rcases List.mem_cons.mp hv with ev | hv'
      · rw [eu, ev]
      · rw [eu, put_eq, put_ne _ _ (ne v hv')] at h
        exact absurd (hj v hv') (by first | lia | omega)
    · rcases List.mem_cons.mp hv with ev | hv'
      · rw [ev, put_eq, put_ne _ _ (ne u hu')] at h
        exact absurd (hj u hu') (by first | lia | omega)
      · exact R.inj u hu' v hv' h
  · rw [List.map_cons, put_eq]
    refine List.nodup_cons.mpr ⟨fun h => ?_, R.nd⟩
    obtain ⟨v, hv, e⟩ := List.mem_map.mp h
    rw [put_ne _ _ (ne v hv)] at e
    exact absurd (hj v hv) (by first | lia | omega)
theorem Pool.sub (P : Pool gt K kind led items el od) (hs : items'.Sublist items) : Pool gt K kind led items' el od :=
  ⟨fun v hv => P.trip v (hs.subset hv), fun u hu v hv => P.mono u (hs.subset hu) v (hs.subset hv), fun u hu v hv => P.inj u (hs.subset hu) v (hs.subset hv), P.nd.sublist (hs.map el)⟩

/-- all that stand ahead are in -/
structure Lower (R : Nat → Nat → Bool) (j : Nat) (els : List Nat) : Prop where
  lt : ∀ e ∈ els, e < j
  low : ∀ e ∈ els, ∀ x, x < j → x ∉ els → R e x = true
theorem Lower.perm {R : Nat → Nat → Bool} {j : Nat} {l l' : List Nat} (h : Lower R j l) (hp : l'.Perm l) : Lower R j l' :=
  ⟨fun e he => h.lt e (hp.mem_iff.mp he), fun e he x hx hn => h.low e (hp.mem_iff.mp he) x hx fun q => hn (hp.mem_iff.mpr q)⟩
theorem Lower.new {R : Nat → Nat → Bool} (H : STO R) {j e0 : Nat} {t : List Nat} (h : Lower R j (e0 :: t)) (hmax : ∀ e ∈ t, R e e0 = true) (hj : R j e0 = true) : Lower R (j + 1) (j :: t) where
  lt := fun e he => by
    rcases List.mem_cons.mp he with rfl | he
    · first | lia | omega
    · have := h.lt e (.tail _ he); first | lia | omega
  low := fun e he x hx hn => by
    have hxj : x ≠ j := fun q => hn (q ▸ .head _)
    have hxt : x ∉ t := fun q => hn (.tail _ q)
    have key : R e0 x = true ∨ x = e0 := by
      by_cases q : x = e0
      · exact .inr q
      · exact .inl (h.low e0 (.head _) x (by first | lia | omega) fun m => (List.mem_cons.mp m).elim q hxt)
    have he0 : R e e0 = true := by
      rcases List.mem_cons.mp he with rfl | he
      · exact hj
      · exact hmax e he
    rcases key with k | k
    · exact H.tr he0 k
    · rw [k]; exact he0
theorem Lower.skip {R : Nat → Nat → Bool} (H : STO R) {j e0 : Nat} {t : List Nat} (h : Lower R j (e0 :: t)) (hmax : ∀ e ∈ t, R e e0 = true) (hj : R e0 j = true) : Lower R (j + 1) (e0 :: t) where
  lt := fun e he => by have := h.lt e he; first | lia | omega
  low := fun e he x hx hn => by
    by_cases q : x = j
    · subst q
      rcases List.mem_cons.mp he with rfl | he
      · exact hj
      · exact H.tr (hmax e he) hj
    · exact h.low e he x (by first | lia | omega) hn
theorem Lower.all (R : Nat → Nat → Bool) (j : Nat) {els : List Nat} (hp : els.Perm (List.range j)) : Lower R j els :=
  ⟨fun e he => List.mem_range.mp (hp.mem_iff.mp he), fun e _ x hx hn => absurd (hp.mem_iff.mpr (List.mem_range.mpr hx)) hn⟩

/-- the root stands last -/
theorem root_last (P : Pool gt K kind led items el od) (H : HeapFrom (rr gt K el) Value.none 0 items) {v0 : Value} {tl : List Value} (e : items = v0 :: tl) : ∀ x ∈ tl.map el, aheadR gt K x (el v0) = true := by
  subst e
  intro x hx
  obtain ⟨v, hv, rfl⟩ := List.mem_map.mp hx
  obtain ⟨i, hi, rfl⟩ := List.mem_iff_getElem.mp hv
  have h0 := H.root (rr_swo gt K el) (i + 1) (by simp; exact hi)
  have h0 : aheadR gt K (el v0) (el tl[i]) = false := by simpa [rr, hi] using h0
  rcases (aheadR_sto gt K).tot (el tl[i]) (el v0) with q | q | q
  · exact q
  · have := P.nd
    rw [List.map_cons, List.nodup_cons] at this
    exact absurd (List.mem_map.mpr ⟨_, List.getElem_mem hi, q⟩) this.1
  · rw [h0] at q; cases q

theorem heap_congr {r r' : Value → Value → Bool} {k : Nat} {items : List Value} (H : HeapFrom r Value.none k items) (he : ∀ u ∈ items, ∀ v ∈ items, r' u v = r u v) : HeapFrom r' Value.none k items := fun a c ha hac hcl => by
  have e1 : items.getD a Value.none ∈ items := by
    have : a < items.length := by first | lia | omega
    simp [List.getD, this]
  have e2 : items.getD c Value.none ∈ items := by simp [List.getD, hcl]
  rw [he _ e1 _ e2]; exact H a c ha hac hcl
theorem heap_set0 {r : Value → Value → Bool} {items : List Value} {x : Value} (H : HeapFrom r Value.none 0 items) : HeapFrom r Value.none 1 (items.set 0 x) := fun a c ha hac hcl => by
  rw [List.length_set] at hcl
  rw [getD_set_ne (by first | lia | omega), getD_set_ne (by first | lia | omega)]
  exact H a c (by first | lia | omega) hac hcl

/-- sorted, they are the first of all -/
theorem pool_sorted {m n : Nat} (P : Pool gt K kind led items el od) (Lw : Lower (aheadR gt K) n (items.map el)) :
    ((srt (stab (fun a b => if gt = true then lt3 b a else lt3 a b) (fun i => tr K el od (items.getD i Value.none))) items.length).map fun i => el (items.getD i Value.none)) = (srt (aheadR gt K) n).take items.length := by
  have T : TO (fun a b : K3 => if gt = true then lt3 b a else lt3 a b) := by
    cases gt
    · exact ⟨lt3_to.irr, lt3_to.tr, lt3_to.tot⟩
    · exact ⟨lt3_to.irr, fun h1 h2 => lt3_to.tr h2 h1, fun a b => by rcases lt3_to.tot a b with h | h | h; exact .inr (.inr h); exact .inr (.inl h); exact .inl h⟩
  have hp := srt_perm (stab (fun a b => if gt = true then lt3 b a else lt3 a b) (fun i => tr K el od (items.getD i Value.none))) items.length
  have hmap : (List.range items.length).map (fun i => el (items.getD i Value.none)) = items.map el := by
    refine List.ext_getElem (by simp) fun i h1 h2 => ?_
    have : i < items.length := by simpa using h2
    simp [this]
  have hperm : ((srt (stab (fun a b => if gt = true then lt3 b a else lt3 a b) (fun i => tr K el od (items.getD i Value.none))) items.length).map fun i => el (items.getD i Value.none)).Perm (items.map el) := by
    rw [← hmap]; exact hp.map _
  have hmem : ∀ i ∈ srt (stab (fun a b => if gt = true then lt3 b a else lt3 a b) (fun i => tr K el od (items.getD i Value.none))) items.length, items.getD i Value.none ∈ items := fun i hi => by
    have : i < items.length := List.mem_range.mp (hp.mem_iff.mp hi)
    simp [List.getD, this]
  have := lower_take (aheadR_sto gt K) (l := (srt (stab (fun a b => if gt = true then lt3 b a else lt3 a b) (fun i => tr K el od (items.getD i Value.none))) items.length).map fun i => el (items.getD i Value.none)) (n := n)
    (hperm.nodup_iff.mpr P.nd) (fun e he => Lw.lt e (hperm.mem_iff.mp he)) ?_ (fun e he x hx hn => Lw.low e (hperm.mem_iff.mp he) x hx fun q => hn (hperm.mem_iff.mpr q))
  · rw [this, List.length_map, srt_len]
  · rw [List.pairwise_map]
    have hs := (srt_sorted (stab_sto T (fun i => tr K el od (items.getD i Value.none))) items.length).and (List.pairwise_map.mp (hperm.nodup_iff.mpr P.nd))
    refine hs.imp_of_mem fun {a b} ha hb hab => ?_
    obtain ⟨h1, h2⟩ := hab
    have e := P.lt (hmem a ha) (hmem b hb)
    rw [← e]
    unfold stab at h1
    by_cases q : tr K el od (items.getD a Value.none) = tr K el od (items.getD b Value.none)
    · have : ((el (items.getD a Value.none) : Nat) : Int) = (el (items.getD b Value.none) : Nat) := congrArg (fun x : K3 => x.2.2) q
      exact absurd (by first | lia | omega) h2
    · rw [if_neg q] at h1; exact h1
end
end Mine
/- MCells -/
namespace Mine
open PySem PySem.W PyProof.Rows PySem.Calls
section
variable {prog : Program} {w : World} {A : Around} {s : Shared} {b h : Heap} {tk : Nat}
  {Q E : Value → Shared → Prop} {name qual : Str} {params : Arguments} {body : List Stmt} {scope : Scope} {dV kV doc pm cdv ct oc : Value} {an od : Option Addr} {osl : Array (Option Value)} {f : Addr} {args : List Value} {kw : List (Str × Value)} {binds al : List (Str × Value)}

/-- entering a def that has cells -/
theorem enterC (B : Ba w b) (hb : Keeps b h) (hide : List (Addr × Obj)) (N : ∀ p ∈ hide, h.get? p.1 = some p.2 ∧ b.get? p.1 = none)
    (ho : (hd.heap_39 w.params).lookup f = some ⟨oc, od, .func (fnOf name qual params body scope dV kV doc pm an cdv ct), osl⟩) (hcd : codeIn (hd.heap_39 w.params) cdv qual = true) (hroom : A.depth < recursionLimit)
    (hbind : BindsTo (sh s h tk) (fnOf name qual params body scope dV kV doc pm an cdv ct) ⟨args, kw⟩ binds)
    (hkind : ∀ n, ∀ x ∈ binds, scope.names.lookup x.1 = some .local ∨ (scope.names.lookup x.1 = some .cell ∧ ((cellsFrom n scope.names []).lookup x.1).isSome = true))
    (hnd : ((cellsFrom 0 scope.names []).map (·.1)).Nodup)
    (hal : ∀ L', ∀ p ∈ al, bindL (envX qual scope L' f cdv (cellsFrom (L' + 1) scope.names [])).kindOf binds (fun _ => none) p.1 = some p.2)
    (hw : ∀ g L' h₁ tk cells, St g L' h₁ al (cells ++ hide) → CellsAre (bindC (envX qual scope L' f cdv (cellsFrom (L' + 1) scope.names [])).kindOf binds fun _ => none) (cellsFrom (L' + 1) scope.names []) cells →
      Ba w g → L' = h.objs.size → KeepsBut (hide.map (·.1)) h g → (∀ a ∈ hide.map (·.1), g.get? a = none) → Keeps g h →
      wpAny (model prog w) (A.deeper (envX qual scope L' f cdv (cellsFrom (L' + 1) scope.names []))) (execs body (envX qual scope L' f cdv (cellsFrom (L' + 1) scope.names [])))
        (fun fl s' => Q (match fl with | .ret v => v | _ => .none) s') (fun _ _ => False) (sh s h₁ tk))
    (hco : scope.isCoroutine = false := by rfl) (hgen : scope.isGenerator = false := by rfl) (hk : scope.kind = .function := by rfl) :
    wpAny (model prog w) A (call (.ref f) args kw) Q E (sh s h tk) := by
  have Bs := B.keeps hb
  obtain ⟨Xs, _, _, _, _, Ts⟩ := Bs
  refine wpAny_call (codeAny_call_function hroom (Xs _ _ ho) rfl hco hgen rfl (codeRec_of Xs hcd) (hbind _ _ _ _ ?_))
  refine wpAny_newFunctionEnv_cells hk (hkind _) fun env' he s' x => ?_
  subst he
  refine ⟨Ts.nolimit.keeps x.toInCall.keep, codeAny_func ?_⟩
  obtain ⟨h₁, tk', rfl, _⟩ := x.done
  have hk₁ : Keeps h h₁ := x.toInCall.keep
  obtain ⟨cells, NC, Y⟩ := Cl.news (h₀ := h) (Nat.le_refl _) fun n c hm => ⟨x.cell n c (lookup_of_mem_nodup (cellsFrom_names scope.names 0 (h.objs.size + 1) [] [] rfl ▸ hnd) hm), x.above n c hm⟩
  have nm : ∀ a o, b.get? a = some o → a ∉ hide.map (·.1) := fun a o e q => by
    obtain ⟨q', hq, rfl⟩ := List.mem_map.mp q
    rw [(N q' hq).2] at e; cases e
  have st : Keeps b (hideAll h (hide.map (·.1))) := fun a o e => hideAll_get _ (hb a o e) (nm a o e)
  refine wpAny_mono (hw (hideAll h (hide.map (·.1))) h.objs.size h₁ tk' cells ⟨⟨_, ⟨x.toInCall.ns, fun a o e => hk₁ a o (of_hideAll _ e), Nat.le_of_eq (hideAll_size _ _)⟩, fun y v e => hal _ (y, v) (mem_of_lookup e)⟩, fun p hp => ?_⟩ Y (B.keeps st) rfl
    (fun a o n e => hideAll_get _ e n) (fun a ha => hideAll_none _ ha) (fun a o e => of_hideAll _ e)) (fun fl s' hl => hl) fun _ _ y => y.elim
  rcases List.mem_append.mp hp with hp | hp
  · refine ⟨(NC p hp).1, (NC p hp).2.1, ?_⟩
    cases q : (hideAll h (hide.map (·.1))).get? p.1 with
    | none => rfl
    | some o => have := of_hideAll _ q; rw [(NC p hp).2.2] at this; cases this
  · exact ⟨hk₁ _ _ (N p hp).1, Nat.ne_of_lt (Heap.lt_size (N p hp).1), hideAll_none _ (List.mem_map_of_mem hp)⟩
end

section
variable {M : Model} {A : Around} {E : Value → Shared → Prop} {s : Shared} {b h : Heap} {tk : Nat} {L C a c : Addr} {cn : Str} {cs sc : Scope} {ccd : Value} {cl cl' : List (Str × Addr)}
  {x : Str} {pos : Pos} {v : Value} {al : List (Str × Value)} {news news' : List (Addr × Obj)} {w : World} {o : Obj}
/-- a name that is a cell -/
theorem nameC {Q : Value → Shared → Prop} (S : St b L h al news) (hc : cl.lookup x = some c) (hm : (c, o) ∈ news) (hd : o.data = .cell (some v)) (hq : Q v (sh s h tk))
    (hk : cs.kind = .function := by rfl) (hx : (envX cn cs L a ccd cl).kindOf x = some .cell := by rfl) (hb : (x == ("__debug__" : Str)) = false := by decide) :
    wpAny M A (eval (.Name x pos) (envX cn cs L a ccd cl)) Q E (sh s h tk) := nameX_C (s := sh s h tk) S.N hc hm hd hq hk hx hb
theorem nameF {Q : Value → Shared → Prop} (S : St b L h al news) (hc : cl.lookup x = some c) (hm : (c, o) ∈ news) (hd : o.data = .cell (some v)) (hq : Q v (sh s h tk))
    (hk : cs.kind = .function := by rfl) (hx : (envX cn cs L a ccd cl).kindOf x = some .free := by rfl) (hb : (x == ("__debug__" : Str)) = false := by decide) (hn : (x == ("__classdict__" : Str)) = false := by decide) :
    wpAny M A (eval (.Name x pos) (envX cn cs L a ccd cl)) Q E (sh s h tk) := nameX_F (s := sh s h tk) S.N hc hm hd hq hk hx hb hn
/-- the same within a comprehension -/
theorem nameCC {Q : Value → Shared → Prop} (hh : h.get? c = some o) (hc : cl.lookup x = some c) (hd : o.data = .cell (some v)) (hq : Q v (sh s h tk))
    (hk : sc.kind = .function := by rfl) (hx : (compEnvC sc cl C (envX cn cs L a ccd cl')).kindOf x = some .cell := by rfl) (hb : (x == ("__debug__" : Str)) = false := by decide) :
    wpAny M A (eval (.Name x pos) (compEnvC sc cl C (envX cn cs L a ccd cl'))) Q E (sh s h tk) :=
  wpAny_Name (wpAny_loadName_cell (s := sh s h tk) (env := compEnvC sc cl C (envX cn cs L a ccd cl')) hk hx hc ⟨o, hh, hd⟩ hq) hb
theorem storeC {Q : Unit → Shared → Prop} {v₀ : Option Value} {g : Obj → List (Addr × Obj)} (S : St b L h al news) (hc : cl.lookup x = some c) (U : UpdF c o news g) (hd : o.data = .cell v₀)
    (hq : ∀ h' o', St b L h' al (g o') → o'.data = .cell (some v) → Q () (sh s h' tk))
    (hk : cs.kind = .function := by rfl) (hx : (envX cn cs L a ccd cl).kindOf x = some .cell := by rfl) : wpAny M A (storeName (envX cn cs L a ccd cl) x v) Q E (sh s h tk) := by
  obtain ⟨⟨m, F, hm⟩, N⟩ := S
  exact storeX_C (s := sh s h tk) F N hc U hd (fun h' o' F' N' hd' => hq h' o' ⟨⟨m, F', hm⟩, N'⟩ hd') hk hx
end
end Mine
/- MZl -/
namespace Mine
open PySem PySem.W PyProof.Rows PySem.Calls
/-- where the iterator stands after the first m -/
inductive SrcAt (ax : Addr) (N m : Nat) : Obj → Prop
  | live : m ≤ N → SrcAt ax N m (lsO (.ref ax) (min m N))
  | gone : N < m → SrcAt ax N m (lsO .none N)

section
variable {w : World} {A : Around} {E : Value → Shared → Prop} {s : Shared} {g gi h : Heap} {tk : Nat} {L C D a c kf z TI TO i1 it ax : Addr} {oc : Obj} {cn : Str} {cs sc : Scope} {ccd : Value} {cl' : List (Str × Addr)} {kind N ep : Nat} {K : Nat → List Nat} {vs : List Value}
  {R : Result → Shared → Prop} {iter : Expr} {pos q1 q2 q3 q4 q5 q6 q7 q8 q9 : Pos} {k1 k2 : Nat}

/-- the order of the e-th, by the sign -/
def ordS (gt : Bool) (e : Nat) : Int := if gt = true then -(e : Int) else (e : Int)
theorem ordS_bey (gt : Bool) {e e' : Nat} (h : e < e') : Bey gt (ordS gt e) (ordS gt e') := by
  unfold Bey ordS
  cases gt
  · simp; first | lia | omega
  · simp; first | lia | omega

/-- [(key(elem), i, elem) for i, elem in zip(range(…), it)], its loop -/
theorem zipLoop (gt : Bool) (m : Nat) (hh : A.handled = none) (hd : A.depth + 4 < recursionLimit) (hkey : KeyOk w s kf gi kind K N) (hfn : ∀ h', Keeps gi h' → FnAt kf h') (hax : gi.get? ax = some (listOf vs.toArray ep)) (hv : IntsAre vs ((List.range N).map Int.ofNat)) (h63 : N < 63)
    (hc : gi.get? c = some oc) (hoc : oc.data = .cell (some (.ref kf)))
    (hap : Apart z TO i1 it [(TI, pairO (.ref i1) (.ref it)), (D, listOf #[] 0)]) (hTID : TI ≠ D)
    (hD1 : z < D) (hD2 : TO < D) (hD3 : i1 < D) (hD4 : it < D) (hD5 : TI < D) (hsz : D < h.objs.size)
    (Si : St gi C h [] [(z, zipO .none TI TO), (TO, pairO .none .none), (i1, rangeIt 0 (m : Int) (if gt = true then -1 else 1)), (it, lsO (.ref ax) 0), (TI, pairO (.ref i1) (.ref it)), (D, listOf #[] 0)])
    (hi : (compEnvC sc [("key", c)] C (envX cn cs L a ccd cl')).kindOf "i" = some .local) (he : (compEnvC sc [("key", c)] C (envX cn cs L a ccd cl')).kindOf "elem" = some .local) (hk : (compEnvC sc [("key", c)] C (envX cn cs L a ccd cl')).kindOf "key" = some .cell) (hsk : sc.kind = .function)
    (hR : ∀ h' tk' items el od tups al' ep' src, SrcAt ax N m src → St gi C h' al' ((it, src) :: (TI, pairO (.ref i1) (.ref it)) :: (D, listOf (List.toArray items) ep') :: tups) → Pool gt K kind tups items el od → items.map el = List.range (min m N) → (∀ v ∈ items, od v = ordS gt (el v)) → (∀ p ∈ tups, D < p.1) →
      R (.ok .next) (sh s h' tk')) :
    codeAny (model PySem.Challenge.rw_mr0271_01.row.prog w) A (.compLoop (.ListComp (.Tuple [.Call (.Name "key" q1) [.Name "elem" q2] [] q3, .Name "i" q4, .Name "elem" q5] k1 q6) [⟨.Tuple [.Name "i" q7, .Name "elem" q8] k2 q9, iter, [], 0⟩] sc pos) 0 (.ref z) (.ref D) (compEnvC sc [("key", c)] C (envX cn cs L a ccd cl'))) R (sh s h tk) := by
  have hvl : vs.length = N := by have := hv.length; simpa using this
  refine compLT (fun k h => ∃ (j : Nat) (items : List Value) (el : Value → Nat) (od : Value → Int) (tups : List (Addr × Obj)) (al' : List (Str × Value)) (ep' : Nat) (a0 b0 : Value), St gi C h al' ((z, zipO .none TI TO) :: (TO, pairO a0 b0) :: (i1, rangeIt (ordS gt j) ((m : Int) - j) (if gt = true then -1 else 1)) :: (it, lsO (.ref ax) j) :: (TI, pairO (.ref i1) (.ref it)) :: (D, listOf items.toArray ep') :: tups) ∧
      Pool gt K kind tups items el od ∧ items.map el = List.range j ∧ (∀ v ∈ items, od v = ordS gt (el v)) ∧ (∀ p ∈ tups, D < p.1) ∧ j ≤ m ∧ j ≤ N ∧ k = N - j ∧ D < h.objs.size) N ⟨0, [], fun _ => 0, fun _ => 0, [], [], 0, .none, .none, ?_, ⟨(fun _ hx => nomatch hx), (fun _ hx => nomatch hx), (fun _ hx => nomatch hx), List.nodup_nil⟩, rfl, (fun _ hx => nomatch hx), (fun _ hx => nomatch hx), Nat.zero_le _, Nat.zero_le _, rfl, hsz⟩ ?_
  · have : ordS gt 0 = 0 := by unfold ordS; cases gt <;> rfl
    rw [this, show ((m : Int) - ((0 : Nat) : Int)) = m by first | lia | omega]; exact Si
  rintro k h tk ⟨j, items, el, od, tups, al', ep', a0, b0, S, P, hel, hod, htD, hjm, hjN, hk', hsz⟩
  have hil : items.length = j := by have := congrArg List.length hel; simpa using this
  have hap' : Apart z TO i1 it ((TI, pairO (.ref i1) (.ref it)) :: (D, listOf items.toArray ep') :: tups) := ⟨hap.zTO, hap.zi1, hap.zi2, hap.TOi1, hap.TOi2, hap.i12, fun p hp => by
    rcases List.mem_cons.mp hp with rfl | hp
    · exact hap.r _ (.head _)
    · rcases List.mem_cons.mp hp with rfl | hp
      · exact ⟨Nat.ne_of_gt hD1, Nat.ne_of_gt hD2, Nat.ne_of_gt hD3, Nat.ne_of_gt hD4⟩
      · have := htD p hp
        exact ⟨Nat.ne_of_gt (Nat.lt_trans hD1 this), Nat.ne_of_gt (Nat.lt_trans hD2 this), Nat.ne_of_gt (Nat.lt_trans hD3 this), Nat.ne_of_gt (Nat.lt_trans hD4 this)⟩⟩
  by_cases hm : j < m
  · by_cases hN : j < N
    · obtain ⟨t0, ht0⟩ := intsAre_get hv (i := j) (by simpa using hN)
      have ht0 : vs[j]? = some (.int (j : Int) t0) := by simpa using ht0
      refine zItem hap' S (.head _) (by first | lia | omega) hax (by simpa using ht0) fun h1 T t1 tk1 S hT => ?_
      have hTD : D < T := by rw [hT]; exact hsz
      have hTz : T ≠ z := Nat.ne_of_gt (Nat.lt_trans hD1 hTD)
      refine goZ S (.tail hTz (uZ (D := hap'))) fun h2 S => ?_
      refine asgT hh S (S.N.get (.head _)) fun h3 S => ?_
      refine assignInOrder_cons (wpAny_assign_Name (storeCL S (fun h4 tk4 S => ?_) hsk hi))
      refine assignInOrder_cons (wpAny_assign_Name (storeCL S (fun h5 tk5 S => assignInOrder_nil ?_) hsk he))
      refine tupE (spliced_cons (Call_ (nameCC (S.keep _ _ hc) rfl hoc (callWith_F (s := sh s h5 tk5) (hfn _ S.keep) (args_cons (nameCL S rfl (args_nil ⟨hfn _ S.keep, ?_⟩) hsk he (by decide)))) hsk hk (by decide))))
      refine hkey.2 A h5 tk5 j t0 _ _ hN S.keep hd hh fun h6 tk6 t6 hk6 => ?_
      have S := S.grow hk6
      refine spliced_cons (nameCL S rfl (spliced_cons (nameCL S rfl (spliced_nil ⟨_, _, rfl, by rw [sizeLine_eq]; exact (by decide : (3 : Nat) ≤ 16777216), ?_⟩) hsk he (by decide))) hsk hi (by decide))
      have hbel := S.below
      have hTlt : T < h6.objs.size := hbel (T, _) (.head _)
      have S := S.push (tupO #[kv kind (K j) t6, .int (ordS gt j) t1, .int (j : Int) t0])
      have hx : Value.ref h6.objs.size ∉ items := fun hm' => by
        obtain ⟨a', o', e', hm'', _⟩ := P.trip _ hm'
        cases e'
        exact absurd (hbel (h6.objs.size, o') (.tail _ (.tail _ (.tail _ (.tail _ (.tail _ (.tail _ (.tail _ hm'')))))))) (Nat.lt_irrefl _)
      have P2 := (P.grow (led' := (h6.objs.size, tupO #[kv kind (K j) t6, .int (ordS gt j) t1, .int (j : Int) t0]) :: tups) (fun p hp => .tail _ hp)).add (x := .ref h6.objs.size) (j := j) (q := ordS gt j) hx rfl (.head _) ⟨t6, t1, t0, rfl⟩
        (fun v hv => List.mem_range.mp (by rw [← hel]; exact List.mem_map_of_mem hv))
        (fun v hv => by rw [hod v hv]; exact ordS_bey gt (List.mem_range.mp (by rw [← hel]; exact List.mem_map_of_mem hv)))
      have hDne : ∀ p ∈ tups, p.1 ≠ D := fun p hp => Nat.ne_of_gt (htD p hp)
      refine ⟨_, _, items.toArray, ep', gi, C, _, ((h6.objs.size, tupO #[kv kind (K j) t6, .int (ordS gt j) t1, .int (j : Int) t0]) :: (T, pairO (.int (ordS gt j) t1) (.int (j : Int) t0)) :: (z, zipO .none TI TO) :: (TO, pairO (.int (ordS gt j) t1) (.int (j : Int) t0)) :: (i1, rangeIt (ordS gt j + (if gt = true then -1 else 1)) ((m : Int) - j - 1) (if gt = true then -1 else 1)) :: (it, lsO (.ref ax) (j + 1)) :: (TI, pairO (.ref i1) (.ref it)) :: (D, listOf items.toArray ep') :: tups), _, rfl, S,
        .tail (Nat.ne_of_gt (Nat.lt_trans hTD hTlt)) (.tail (Nat.ne_of_gt hTD) (.tail (Nat.ne_of_lt hD1) (.tail (Nat.ne_of_lt hD2) (.tail (Nat.ne_of_lt hD3) (.tail (Nat.ne_of_lt hD4) (.tail hTID (.head hDne))))))), by rw [sizeLine_eq, List.size_toArray]; first | lia | omega, fun h7 S => ?_⟩
      have ne : ∀ v ∈ items, v ≠ .ref h6.objs.size := fun v hv e => hx (e ▸ hv)
      have e1 : ordS gt j + (if gt = true then -1 else 1) = ordS gt (j + 1) := by unfold ordS; cases gt <;> simp <;> first | lia | omega
      have e2 : ((m : Int) - j - 1) = ((m : Int) - ((j + 1 : Nat) : Int)) := by first | lia | omega
      rw [e1, e2, List.push_toArray] at S
      have S8 := S.sub (news' := (z, zipO .none TI TO) :: (TO, pairO (.int (ordS gt j) t1) (.int (j : Int) t0)) :: (i1, rangeIt (ordS gt (j + 1)) ((m : Int) - ((j + 1 : Nat) : Int)) (if gt = true then -1 else 1)) :: (it, lsO (.ref ax) (j + 1)) :: (TI, pairO (.ref i1) (.ref it)) :: (D, listOf (List.toArray (items ++ [Value.ref h6.objs.size])) (ep' + 1)) :: (h6.objs.size, tupO #[kv kind (K j) t6, .int (ordS gt j) t1, .int (j : Int) t0]) :: tups) fun p hp => by
          rcases List.mem_cons.mp hp with rfl | hp
          · exact .tail _ (.tail _ (.head _))
          rcases List.mem_cons.mp hp with rfl | hp
          · exact .tail _ (.tail _ (.tail _ (.head _)))
          rcases List.mem_cons.mp hp with rfl | hp
          · exact .tail _ (.tail _ (.tail _ (.tail _ (.head _))))
          rcases List.mem_cons.mp hp with rfl | hp
          · exact .tail _ (.tail _ (.tail _ (.tail _ (.tail _ (.head _)))))
          rcases List.mem_cons.mp hp with rfl | hp
          · exact .tail _ (.tail _ (.tail _ (.tail _ (.tail _ (.tail _ (.head _))))))
          rcases List.mem_cons.mp hp with rfl | hp
          · exact .tail _ (.tail _ (.tail _ (.tail _ (.tail _ (.tail _ (.tail _ (.head _)))))))
          rcases List.mem_cons.mp hp with rfl | hp
          · exact .head _
          · exact .tail _ (.tail _ (.tail _ (.tail _ (.tail _ (.tail _ (.tail _ (.tail _ hp)))))))
      refine ⟨N - (j + 1), by first | lia | omega, j + 1, items ++ [.ref h6.objs.size], put el (.ref h6.objs.size) j, put od (.ref h6.objs.size) (ordS gt j), (h6.objs.size, tupO #[kv kind (K j) t6, .int (ordS gt j) t1, .int (j : Int) t0]) :: tups, _, ep' + 1, _, _, S8, P2.perm (List.perm_append_singleton _ _), ?_, ?_, ?_, by first | lia | omega, by first | lia | omega, rfl, ?_⟩
      · rw [List.map_append, List.map_congr_left fun v hv => put_ne el j (ne v hv), hel, List.range_succ]
        simp [put_eq]
      · intro v hv
        rcases List.mem_append.mp hv with hv | hv
        · rw [put_ne _ _ (ne v hv), put_ne _ _ (ne v hv)]; exact hod v hv
        · rcases List.mem_singleton.mp hv with rfl
          rw [put_eq, put_eq]
      · intro p hp
        rcases List.mem_cons.mp hp with rfl | hp
        · exact Nat.lt_trans hTD hTlt
        · exact htD p hp
      · exact S.below (D, _) (.tail _ (.tail _ (.tail _ (.tail _ (.tail _ (.tail _ (.tail _ (.head _))))))))
    · have hjN' : j = N := by first | lia | omega
      refine zEndL hh hap' S (.head _) (by first | lia | omega) hax (by simp; first | lia | omega) fun h1 tk1 S => ?_
      exact hR h1 tk1 items el od tups al' ep' _ (.gone (by first | lia | omega)) (by rw [← hjN']; exact S) P (by rw [hel, show min m N = j by first | lia | omega]) hod htD
  · have hjm' : j = m := by first | lia | omega
    refine zEndR hh hap' S (.head _) (by first | lia | omega) fun h1 tk1 S => ?_
    exact hR h1 tk1 items el od tups al' ep' _ (.live (by first | lia | omega)) (by rw [show min m N = j by first | lia | omega]; exact S) P (by rw [hel, show min m N = j by first | lia | omega]) hod htD
end
end Mine
/- MEl -/
namespace Mine
open PySem PySem.W PyProof.Rows PySem.Calls
section
variable {w : World} {A : Around} {E : Value → Shared → Prop} {s : Shared} {gi h : Heap} {tk : Nat} {L C D a it Dl : Addr} {cn : Str} {cs sc : Scope} {ccd : Value} {cl cl' : List (Str × Addr)} {kind epl : Nat} {kk : Nat → List Nat} {od : Nat → Int} {e : Nat → Nat} {items : List Value}
  {R : Result → Shared → Prop} {iter : Expr} {pos q1 q7 q8 q9 q10 : Pos} {k2 : Nat}

/-- [elem for k, order, elem in result], its loop -/
theorem elemLoop (hh : A.handled = none) (hDl : gi.get? Dl = some (listOf items.toArray epl)) (hT : ∀ i, i < items.length → ∃ a o, items[i]? = some (.ref a) ∧ gi.get? a = some o ∧ IsT3 kind (kk i, od i, ((e i : Nat) : Int)) o) (h64 : items.length < 64) (hne : D ≠ it)
    (Si : St gi C h [] [(D, listOf #[] 0), (it, lsO (.ref Dl) 0)])
    (h1 : (compEnvC sc cl C (envX cn cs L a ccd cl')).kindOf "k" = some .local) (h2 : (compEnvC sc cl C (envX cn cs L a ccd cl')).kindOf "order" = some .local) (h3 : (compEnvC sc cl C (envX cn cs L a ccd cl')).kindOf "elem" = some .local) (hsk : sc.kind = .function)
    (hR : ∀ h' tk' ys al' ep', IntsAre ys ((List.range items.length).map fun i => ((e i : Nat) : Int)) → St gi C h' al' [(D, listOf (List.toArray ys) ep'), (it, lsO .none items.length)] → R (.ok .next) (sh s h' tk')) :
    codeAny (model PySem.Challenge.rw_mr0271_01.row.prog w) A (.compLoop (.ListComp (.Name "elem" q1) [⟨.Tuple [.Name "k" q7, .Name "order" q8, .Name "elem" q9] k2 q10, iter, [], 0⟩] sc pos) 0 (.ref it) (.ref D) (compEnvC sc cl C (envX cn cs L a ccd cl'))) R (sh s h tk) := by
  refine compLT (fun k h => ∃ (j : Nat) (ys : List Value) (al' : List (Str × Value)) (ep' : Nat), St gi C h al' [(D, listOf (List.toArray ys) ep'), (it, lsO (.ref Dl) j)] ∧ IntsAre ys ((List.range j).map fun i => ((e i : Nat) : Int)) ∧ j ≤ items.length ∧ k = items.length - j) items.length ⟨0, [], [], 0, Si, .nil, Nat.zero_le _, rfl⟩ ?_
  rintro k h tk ⟨j, ys, al', ep', S, hys, hj, hk⟩
  have hyl : ys.length = j := by have := hys.length; simpa using this
  by_cases hlt : j < items.length
  · obtain ⟨b, o, hb, hbo, t1, t2, t3, rfl⟩ := hT j hlt
    refine nxL S (.tail hne (.head fun _ hx => nomatch hx)) (S.keep _ _ hDl) (by simpa using hb) fun h4 S => ?_
    refine goL (src := .none) (S.N.get (.tail _ (.head _))) ?_
    refine asgT hh S (S.keep _ _ hbo) fun h5 S => ?_
    refine assignInOrder_cons (wpAny_assign_Name (storeCL S (fun h6 tk6 S => ?_) hsk h1))
    refine assignInOrder_cons (wpAny_assign_Name (storeCL S (fun h7 tk7 S => ?_) hsk h2))
    refine assignInOrder_cons (wpAny_assign_Name (storeCL S (fun h8 tk8 S => assignInOrder_nil ?_) hsk h3))
    refine nameCL S rfl ⟨_, _, ys.toArray, ep', gi, C, _, _, _, rfl, S, .head (fun p hp => by rcases List.mem_singleton.mp hp with rfl; exact hne.symm), by rw [sizeLine_eq, List.size_toArray]; first | lia | omega, fun h9 S => ?_⟩ hsk h3 (by decide)
    rw [List.push_toArray] at S
    refine ⟨items.length - (j + 1), by first | lia | omega, j + 1, _, _, ep' + 1, S, ?_, hlt, rfl⟩
    rw [List.range_succ, List.map_append]
    exact intsAre_snoc hys _ _
  · have hjl : j = items.length := by first | lia | omega
    subst hjl
    refine nxL_end hh S (.tail hne (.head fun _ hx => nomatch hx)) (S.keep _ _ hDl) (by simp) fun h4 S => ?_
    exact hR h4 _ ys al' ep' hys S
end

/-- x[0] of a tuple -/
theorem getT0 {prog : Program} {w : World} {A : Around} {E : Value → Shared → Prop} {s : Shared} {h : Heap} {tk : Nat} {l : Addr} {x : Value} {its : List Value} {t : Tok} {value slice : Expr} {Q : Value → Shared → Prop} (hl : h.get? l = some (tupO (x :: its).toArray)) (hq : Q x (sh s h tk))
    (hs : subscripted slice false (.ref l) (.int 0 t) = operate [.ref l, .int 0 t] (getItem (.ref l) (.int 0 t)) := by with_unfolding_all rfl) :
    wpAny (model prog w) A (subscriptTail value slice (.ref l) (.int 0 t)) Q E (sh s h tk) :=
  item_tupleT (s := sh s h tk) (l := x :: its) (k := 0) (j := 0) ⟨_, hl, rfl, _, rfl⟩ (by decide) (by decide) (by simp [seqIndex?]) rfl hq hs
end Mine
/- MRl -/
namespace Mine
open PySem PySem.W PyProof.Rows PySem.Calls
section
variable {gt : Bool} {K : Nat → List Nat} {kind : Nat} {led : List (Addr × Obj)} {items : List Value} {el : Value → Nat} {od : Value → Int}

theorem pool_step {j : Nat} {q : Int} {x : Value} {a : Addr} {o : Obj} (P : Pool gt K kind led items el od) (H : HeapFrom (rr gt K el) Value.none 0 items) (Lw : Lower (aheadR gt K) j (items.map el)) (h0 : 0 < items.length)
    (hx : x ∉ items) (he : x = .ref a) (hm : (a, o) ∈ led) (ht : IsT3 kind (K j, q, (j : Int)) o) (hq : ∀ v ∈ items, Bey gt (od v) q) (hk : kl gt (K j) (K (el (items.getD 0 .none))) = true) :
    Pool gt K kind led (x :: items) (put el x j) (put od x q) ∧ Pool gt K kind led (siF (rr gt K (put el x j)) .none (items.set 0 x) 0) (put el x j) (put od x q) ∧
    Lower (aheadR gt K) (j + 1) ((siF (rr gt K (put el x j)) .none (items.set 0 x) 0).map (put el x j)) ∧ HeapFrom (rr gt K (put el x j)) Value.none 0 (siF (rr gt K (put el x j)) .none (items.set 0 x) 0) ∧
    ∀ v ∈ siF (rr gt K (put el x j)) .none (items.set 0 x) 0, v = x ∨ v ∈ items := by
  have ne : ∀ v ∈ items, v ≠ x := fun v hv e => hx (e ▸ hv)
  have hj : ∀ v ∈ items, el v < j := fun v hv => Lw.lt _ (List.mem_map_of_mem hv)
  have PA := P.add (j := j) (q := q) hx he hm ht hj hq
  cases items with
  | nil => exact absurd h0 (Nat.lt_irrefl _)
  | cons v0 tl =>
    have hset : (v0 :: tl).set 0 x = x :: tl := rfl
    rw [hset]
    have hperm := siF_perm (r := rr gt K (put el x j)) (d := Value.none) (x :: tl) 0 (Nat.succ_pos _)
    have PS : Pool gt K kind led (x :: tl) (put el x j) (put od x q) := PA.sub (.cons_cons x (List.sublist_cons_self v0 tl))
    refine ⟨PA, PS.perm hperm, ?_, ?_, fun v hv => ?_⟩
    · have e0 : (v0 :: tl).getD 0 Value.none = v0 := rfl
      rw [e0] at hk
      have L2 := Lower.new (aheadR_sto gt K) (t := tl.map el) Lw (root_last P H rfl) (ahead_new hk)
      refine L2.perm ((hperm.map _).trans ?_)
      rw [List.map_cons, put_eq, List.map_congr_left fun v hv => put_ne el j (ne v (.tail _ hv))]
    · refine siF_heap (rr_swo gt K _) (x :: tl) 0 (Nat.succ_pos _) ?_
      have H2 : HeapFrom (rr gt K (put el x j)) Value.none 0 (v0 :: tl) := heap_congr H fun u hu v hv => by unfold rr; rw [put_ne _ _ (ne u hu), put_ne _ _ (ne v hv)]
      exact heap_set0 (x := x) H2
    · rcases List.mem_cons.mp (hperm.mem_iff.mp hv) with h | h
      · exact .inl h
      · exact .inr (.tail _ h)
theorem pool_skip {j : Nat} (P : Pool gt K kind led items el od) (H : HeapFrom (rr gt K el) Value.none 0 items) (Lw : Lower (aheadR gt K) j (items.map el)) (h0 : 0 < items.length) (hk : kl gt (K j) (K (el (items.getD 0 .none))) = false) : Lower (aheadR gt K) (j + 1) (items.map el) := by
  cases items with
  | nil => exact absurd h0 (Nat.lt_irrefl _)
  | cons v0 tl => exact Lower.skip (aheadR_sto gt K) (t := tl.map el) Lw (root_last P H rfl) (ahead_old hk (Lw.lt _ (.head _)))
end

/-- where the iterator stands ahead of the j-th -/
inductive SrcJ (ax : Addr) (N j : Nat) : Obj → Prop
  | live : j ≤ N → SrcJ ax N j (lsO (.ref ax) j)
  | gone : j = N → SrcJ ax N j (lsO .none N)

abbrev locNs : List Str := ["elem", "it", "k", "top", "order", "_heapreplace", "result", "_order", "_elem"]
structure Vars (cs : Scope) (env : Env) : Prop where
  kind : cs.kind = .function
  loc : ∀ x ∈ locNs, env.kindOf x = some .local
section
variable {M : Model} {A : Around} {E : Value → Shared → Prop} {s : Shared} {b h : Heap} {tk : Nat} {L a : Addr} {cn : Str} {cs : Scope} {ccd : Value} {cl : List (Str × Addr)}
  {x : Str} {pos : Pos} {v : Value} {al : List (Str × Value)} {news : List (Addr × Obj)}
theorem nameV {Q : Value → Shared → Prop} (V : Vars cs (envX cn cs L a ccd cl)) (S : St b L h al news) (hv : al.lookup x = some v) (hq : Q v (sh s h tk)) (hx : x ∈ locNs := by decide) (hd : (x == ("__debug__" : Str)) = false := by decide) :
    wpAny M A (eval (.Name x pos) (envX cn cs L a ccd cl)) Q E (sh s h tk) := nameL S hv hq V.kind (V.loc x hx) hd
theorem loadV {Q : Value → Shared → Prop} (V : Vars cs (envX cn cs L a ccd cl)) (S : St b L h al news) (hv : al.lookup x = some v) (hq : Q v (sh s h tk)) (hx : x ∈ locNs := by decide) :
    wpAny M A (loadName (envX cn cs L a ccd cl) x) Q E (sh s h tk) := loadL S hv hq V.kind (V.loc x hx)
theorem storeV {Q : Unit → Shared → Prop} (V : Vars cs (envX cn cs L a ccd cl)) (S : St b L h al news) (hq : ∀ h' tk, St b L h' ((x, v) :: al) news → Q () (sh s h' tk)) (hx : x ∈ locNs := by decide) :
    wpAny M A (storeName (envX cn cs L a ccd cl) x v) Q E (sh s h tk) := storeL S hq V.kind (V.loc x hx)
end

section
variable {w : World} {A : Around} {E : Value → Shared → Prop} {s : Shared} {g h : Heap} {tk : Nat} {L D a c kf it ax : Addr} {oc : Obj} {cn : Str} {cs : Scope} {ccd : Value} {cl : List (Str × Addr)} {kind N ep : Nat} {K : Nat → List Nat} {vs : List Value}
  {p1 p2 p3 p4 p5 p6 p7 p8 p9 p10 p11 p12 p13 p14 p15 p16 p17 p18 p19 p20 p21 p22 p23 p24 p25 p26 p27 p28 p29 : Pos} {k1 k2 k3 k4 : Nat} {rest : List (Addr × Obj)}

/-- the contract of the heap's replacing -/
def ReplOk (w : World) (fn : Addr) (gt : Bool) : Prop := ∀ {A : Around} {s : Shared} {b h : Heap} {tk : Nat} (r : Value → Value → Bool) {Q E : Value → Shared → Prop} {l : Addr} {items univ : List Value} {ep : Nat} {item : Value}
  (_ : Ba w b) (_ : Keeps b h) (_ : h.get? l = some (listOf items.toArray ep) ∧ b.get? l = none) (_ : A.depth + 2 < recursionLimit) (_ : 0 < items.length) (_ : items.length < 64) (_ : A.units < 370) (_ : ∀ x ∈ items, x ∈ univ) (_ : item ∈ univ) (_ : CmpOk w (!gt) l h univ r)
  (_ : ∀ h' tk, KeepsBut [l] h h' → h'.get? l = some (listOf (siF r .none (items.set 0 item) 0).toArray ep) → Q (items.getD 0 .none) (sh s h' tk)),
  wpAny (model PySem.Challenge.rw_mr0271_01.row.prog w) A (call (.ref fn) [.ref l, item] []) Q E (sh s h tk)
def stp (gt : Bool) (q : Int) : Int := if gt = true then q - 1 else q + 1
theorem bey_stp (gt : Bool) (q : Int) : Bey gt q (stp gt q) := by unfold Bey stp; cases gt <;> simp <;> first | lia | omega
theorem bey_more {gt : Bool} {a q : Int} (h : Bey gt a q) : Bey gt a (stp gt q) := by unfold Bey stp at *; cases gt <;> simp at h ⊢ <;> first | lia | omega
/-- between the turns -/
inductive LI (gt : Bool) (K : Nat → List Nat) (kind : Nat) (HRF D it ax : Addr) (g : Heap) (L : Addr) (N M : Nat) (rest : List (Addr × Obj)) (n : Nat) (h : Heap) : Prop
  | mk (j : Nat) (its : List Value) (el : Value → Nat) (od : Value → Int) (led : List (Addr × Obj)) (ep' : Nat) (src : Obj) (tt tq : Tok) (q : Int)
    (S : St g L h [("top", kv kind (K (el (its.getD 0 .none))) tt), ("order", .int q tq), ("_heapreplace", .ref HRF), ("result", .ref D)] ((it, src) :: (D, listOf its.toArray ep') :: led))
    (hsrc : SrcJ ax N j src) (hre : ∀ p ∈ rest, p ∈ led) (hne : ∀ p ∈ led, p.1 ≠ it ∧ p.1 ≠ D) (P : Pool gt K kind led its el od) (H : HeapFrom (rr gt K el) Value.none 0 its) (Lw : Lower (aheadR gt K) j (its.map el)) (hil : its.length = M) (hq : ∀ v ∈ its, Bey gt (od v) q) (hn : n = N - j) : LI gt K kind HRF D it ax g L N M rest n h

/-- the loop that keeps the least, or the greatest, of them -/
theorem loopG {gt : Bool} {HRF : Addr} {op : Operator} {ce : Expr} {Q : Flow → Shared → Prop} {j0 : Nat} {items : List Value} {el : Value → Nat} {od : Value → Int} {led : List (Addr × Obj)} {epD : Nat} {src : Obj} {tt tq : Tok} {q0 : Int} (hrep : ReplOk w HRF gt) (hkp : keepIn (hd.heap_39 w.params) (.ref HRF) = true)
    (hce : ∀ (h : Heap) (tk : Nat) (al : List (Str × Value)) (news : List (Addr × Obj)) (x y : List Nat) (t u : Tok) (Q : Bool → Shared → Prop), St g L h al news → al.lookup ("k" : Str) = some (kv kind x t) → al.lookup ("top" : Str) = some (kv kind y u) → KOk kind x → KOk kind y → Q (kl gt x y) (sh s h tk) → wpAny (model PySem.Challenge.rw_mr0271_01.row.prog w) A (isTrue ce (envX cn cs L a ccd cl) (eval ce (envX cn cs L a ccd cl))) Q (fun _ _ => False) (sh s h tk))
    (hop : ∀ (q : Int) (t u : Tok) (h : Heap) (tk : Nat) (Q : Value → Shared → Prop), Q (.int (stp gt q) tk) (sh s h (tk + 1)) → wpAny (model PySem.Challenge.rw_mr0271_01.row.prog w) A (inplaceOp op (.int q t) (.int 1 u)) Q (fun _ _ => False) (sh s h tk))
    (B : Ba w g) (hh : A.handled = none) (hdp : A.depth + 4 < recursionLimit) (hun : A.units < 370) (hkey : KeyOk w s kf g kind K N) (hfn : ∀ h', Keeps g h' → FnAt kf h')
    (hax : g.get? ax = some (listOf vs.toArray ep)) (hv : IntsAre vs ((List.range N).map Int.ofNat)) (h63 : N < 63) (V : Vars cs (envX cn cs L a ccd cl)) (hkc : (envX cn cs L a ccd cl).kindOf "key" = some .cell) (hcl : cl.lookup ("key" : Str) = some c)
    (hoc : oc.data = .cell (some (.ref kf))) (hcr : (c, oc) ∈ rest) (hDit : D ≠ it)
    (S : St g L h [("it", .ref it), ("top", kv kind (K (el (items.getD 0 .none))) tt), ("order", .int q0 tq), ("_heapreplace", .ref HRF), ("result", .ref D)] ((it, src) :: (D, listOf items.toArray epD) :: led))
    (hsrc : SrcJ ax N j0 src) (hre : ∀ p ∈ rest, p ∈ led) (hne : ∀ p ∈ led, p.1 ≠ it ∧ p.1 ≠ D) (P : Pool gt K kind led items el od) (H : HeapFrom (rr gt K el) Value.none 0 items) (Lw : Lower (aheadR gt K) j0 (items.map el)) (h0 : 0 < items.length) (h64 : items.length < 64) (hq0 : ∀ v ∈ items, Bey gt (od v) q0)
    (hR : ∀ h' tk' items' el' od' led' ep' src', St g L h' [("result", .ref D)] ((it, src') :: (D, listOf (List.toArray items') ep') :: led') → Pool gt K kind led' items' el' od' → Lower (aheadR gt K) N (items'.map el') → items'.length = items.length → (∀ p ∈ rest, p ∈ led') → (∀ p ∈ led', p.1 ≠ it ∧ p.1 ≠ D) → Q .next (sh s h' tk')) :
    wpAny (model PySem.Challenge.rw_mr0271_01.row.prog w) A (exec (.For (.Name "elem" p1) (.Name "it" p2) [.Assign [.Name "k" p3] (.Call (.Name "key" p4) [.Name "elem" p5] [] p6) p7,
      .If ce [.Expr (.Call (.Name "_heapreplace" p11) [.Name "result" p12, .Tuple [.Name "k" p13, .Name "order" p14, .Name "elem" p15] k1 p16] [] p17) p18,
        .Assign [.Tuple [.Name "top" p19, .Name "_order" p20, .Name "_elem" p21] k2 p22] (.Subscript (.Name "result" p23) (.Constant (.int 0) k3 p24) p25) p26, .AugAssign (.Name "order" p27) op (.Constant (.int 1) k4 p28) p29] [] p8] [] p9) (envX cn cs L a ccd cl)) Q E (sh s h tk) := by
  have hvl : vs.length = N := by have := hv.length; simpa using this
  have hint : interactive (envX cn cs L a ccd cl) = false := by unfold interactive; rw [show (envX cn cs L a ccd cl).scope.kind = .function from V.kind]; rfl
  refine for_ (nameV V S rfl ?_)
  have hself : wpAny (model PySem.Challenge.rw_mr0271_01.row.prog w) A (pyIter (.ref it)) (fun r s' => r = .ref it ∧ s' = sh s h tk) E (sh s h tk) := by
    cases hsrc with
    | live _ => exact iterSelf (S.N.get (.head _)) ⟨rfl, rfl⟩
    | gone _ => exact iterSelf (S.N.get (.head _)) ⟨rfl, rfl⟩
  refine wpAny_mono hself (fun r s' hr => ?_) fun _ _ x => x
  obtain ⟨rfl, rfl⟩ := hr
  refine forL (LI gt K kind HRF D it ax g L N items.length rest) (N - j0)
    ⟨j0, items, el, od, led, epD, src, tt, tq, q0, S.weaken (by walk_at "al") (fun _ hp => hp), hsrc, hre, hne, P, H, Lw, rfl, hq0, rfl⟩ ?_
  clear S hsrc hre hne P H Lw hq0 hself
  rintro n h tk ⟨j, its, el, od, led, ep', src, tt, tq, q, S, hsrc, hre, hne, P, H, Lw, hil, hq, hn⟩
  have fin : ∀ {h' tk' src'}, St g L h' [("top", kv kind (K (el (its.getD 0 .none))) tt), ("order", .int q tq), ("_heapreplace", .ref HRF), ("result", .ref D)] ((it, src') :: (D, listOf its.toArray ep') :: led) → Lower (aheadR gt K) N (its.map el) → Q .next (sh s h' tk') := fun S' L' =>
    hR _ _ its el od led ep' _ (S'.weaken (by walk_at "al") fun _ hp => hp) P L' hil hre hne
  cases hsrc with
  | gone hj =>
    subst hj
    exact nxL_gone hh S (.head _) fun h' S => fin S Lw
  | live hj =>
    have hitU : ∀ p ∈ (D, listOf its.toArray ep') :: led, p.1 ≠ it := fun p hp => by
      rcases List.mem_cons.mp hp with rfl | hp
      · exact hDit
      · exact (hne p hp).1
    by_cases hjN : j < N
    · obtain ⟨t0, ht0⟩ := intsAre_get hv (i := j) (by simpa using hjN)
      have ht0 : vs[j]? = some (.int (j : Int) t0) := by simpa using ht0
      refine nxL S (.head hitU) (S.keep _ _ hax) (by simpa using ht0) fun h1 S => ?_
      refine wpAny_assign_Name (storeV V S fun h2 tk2 S => ?_)
      refine exN (wpAny_Assign_Name (Call_ (nameC S hcl (.tail _ (.tail _ (hre _ hcr))) hoc (callWith_F (s := sh s h2 tk2) (hfn _ S.keep) (args_cons (nameV V S rfl (args_nil ⟨hfn _ S.keep, ?_⟩)))) V.kind hkc (by decide))))
      refine hkey.2 A h2 tk2 j t0 _ _ hjN S.keep hdp hh fun h3 tk3 t3 hk3 => ?_
      have S := S.grow hk3
      refine storeV V S fun h4 tk4 S => ?_
      have h0' : 0 < its.length := by first | lia | omega
      have hg0 : its.getD 0 .none ∈ its := by simp [List.getD, h0']
      have hkj := hkey.1 j hjN
      have hke : ∀ v ∈ its, KOk kind (K (el v)) := fun v hv => hkey.1 _ (Nat.lt_of_lt_of_le (Lw.lt _ (List.mem_map_of_mem hv)) hj)
      refine exN (wpAny_If (hce _ _ _ _ _ _ _ _ _ S rfl rfl hkj (hke _ hg0) ?_))
      by_cases hc : kl gt (K j) (K (el (its.getD 0 .none))) = true
      · rw [if_pos hc]
        refine exN (wpAny_Expr_any ?_ hint rfl)
        refine Call_ (nameV V S rfl (callWith_K (K := hd.heap_39 w.params) B.X hkp ?_))
        refine args_cons (nameV V S rfl (args_cons ?_))
        refine tupE (spliced_cons (nameV V S rfl (spliced_cons (nameV V S rfl (spliced_cons (nameV V S rfl (spliced_nil ⟨_, _, rfl, by rw [sizeLine_eq]; exact (by decide : (3 : Nat) ≤ 16777216), ?_⟩)))))))
        have hbel := S.below
        have S := S.push (tupO #[kv kind (K j) t3, .int q tq, .int (j : Int) t0])
        have hx : Value.ref h4.objs.size ∉ its := fun hm' => by
          obtain ⟨a', o', e', hm'', _⟩ := P.trip _ hm'
          cases e'
          exact absurd (hbel (h4.objs.size, o') (.tail _ (.tail _ hm''))) (Nat.lt_irrefl _)
        have hDlt := hbel (D, _) (.tail _ (.head _))
        have hilt := hbel (it, _) (.head _)
        have S := S.sub (news' := (it, lsO (.ref ax) (j + 1)) :: (D, listOf its.toArray ep') :: (h4.objs.size, tupO #[kv kind (K j) t3, .int q tq, .int (j : Int) t0]) :: led) fun p hp => by
          rcases List.mem_cons.mp hp with rfl | hp
          · exact .tail _ (.head _)
          rcases List.mem_cons.mp hp with rfl | hp
          · exact .tail _ (.tail _ (.head _))
          rcases List.mem_cons.mp hp with rfl | hp
          · exact .head _
          · exact .tail _ (.tail _ (.tail _ hp))
        have hne2 : ∀ p ∈ (h4.objs.size, tupO #[kv kind (K j) t3, .int q tq, .int (j : Int) t0]) :: led, p.1 ≠ it ∧ p.1 ≠ D := fun p hp => by
          rcases List.mem_cons.mp hp with rfl | hp
          · exact ⟨Nat.ne_of_gt hilt, Nat.ne_of_gt hDlt⟩
          · exact hne p hp
        obtain ⟨PA, PS, L2, H2, hmem⟩ := pool_step (x := .ref h4.objs.size) (P.grow (led' := (h4.objs.size, tupO #[kv kind (K j) t3, .int q tq, .int (j : Int) t0]) :: led) fun p hp => .tail _ hp) H Lw h0' hx rfl (.head _) ⟨t3, tq, t0, rfl⟩ hq hc
        refine args_nil ⟨B.X.keeps S.keep, ?_⟩
        refine hrep (univ := .ref h4.objs.size :: its) (rr gt K (put el (.ref h4.objs.size) j)) B S.keep ⟨S.N.get (.tail _ (.head _)), (S.N _ (.tail _ (.head _))).2.2⟩ (by first | lia | omega) h0' (by first | lia | omega) hun (fun x hx => .tail _ hx) (.head _)
          (PA.cmp w (fun p hp => ⟨(S.N p (.tail _ (.tail _ hp))).1, (hne2 p hp).2⟩) fun v hv => ?_) fun h5 tk5 hk5 hD5 => ?_
        · rcases List.mem_cons.mp hv with rfl | hv
          · rw [put_eq]; exact hkj
          · rw [put_ne _ _ (show v ≠ Value.ref h4.objs.size from fun e => hx (e ▸ hv))]; exact hke v hv
        have S := S.chg (.tail (Ne.symm hDit) (.head fun p hp => (hne2 p hp).2)) hk5 hD5
        have hlen : (siF (rr gt K (put el (.ref h4.objs.size) j)) .none (its.set 0 (.ref h4.objs.size)) 0).length = its.length := by rw [siF_len, List.length_set]
        generalize siF (rr gt K (put el (.ref h4.objs.size) j)) .none (its.set 0 (.ref h4.objs.size)) 0 = its2 at S PS L2 H2 hmem hlen
        generalize put el (.ref h4.objs.size) j = el2 at S PS L2 H2
        have hg2 : its2.getD 0 .none ∈ its2 := by simp [List.getD, hlen, h0']
        obtain ⟨b0, o0, hb0, hbm, u1, u2, u3, ho0⟩ := PS.trip _ hg2
        have hi0 : its2.toArray[((0 : Int)).toNat]? = some (.ref b0) := by
          have : its2[0]? = some (its2.getD 0 .none) := by simp [List.getD, hlen, h0']
          rw [← hb0]; simpa using this
        refine exN (wpAny_Assign_stores (Subscript_ (nameV V S rfl (cInt (getL (S.N.get (.tail _ (.head _))) (by first | lia | omega) (by first | lia | omega) hi0 ?_)))) rfl rfl)
        show wpAny _ _ (assign (.Tuple [.Name "top" p19, .Name "_order" p20, .Name "_elem" p21] k2 p22) (envX cn cs L a ccd cl) (.ref b0)) _ _ _
        have hb1 := S.N.get (.tail _ (.tail _ hbm))
        rw [ho0] at hb1
        refine asgT hh S hb1 fun h6 S => ?_
        refine assignInOrder_cons (wpAny_assign_Name (storeV V S fun h7 tk7 S => ?_))
        refine assignInOrder_cons (wpAny_assign_Name (storeV V S fun h8 tk8 S => ?_))
        refine assignInOrder_cons (wpAny_assign_Name (storeV V S fun h9 tk9 S => assignInOrder_nil ?_))
        refine exN (wpAny_AugAssign_Name (loadV V S rfl (cInt (hop _ _ _ _ _ _ (storeV V S fun h10 tk10 S => wpAny_execs_nil (wpAny_execs_nil ?_))))))
        refine ⟨N - (j + 1), _, _, rfl, by first | lia | omega, j + 1, its2, el2, put od (.ref h4.objs.size) q, _, ep', _, _, _, _, S.weaken (by walk_at "al") (fun _ hp => hp), .live (by first | lia | omega), fun p hp => .tail _ (hre p hp), hne2, PS, H2, L2, by first | lia | omega, fun v hv => ?_, rfl⟩
        rcases hmem v hv with rfl | hv'
        · rw [put_eq]; exact bey_stp gt q
        · rw [put_ne _ _ (show v ≠ Value.ref h4.objs.size from fun e => hx (e ▸ hv'))]
          exact bey_more (hq v hv')
      · rw [if_neg hc]
        refine wpAny_execs_nil (wpAny_execs_nil ⟨N - (j + 1), _, _, rfl, by first | lia | omega, j + 1, its, el, od, led, ep', _, tt, tq, q, S.weaken (by walk_at "al") (fun _ hp => hp), .live (by first | lia | omega), hre, hne, P, H, pool_skip P H Lw h0' (by simpa using hc), hil, hq, rfl⟩)
    · have hjN' : j = N := by first | lia | omega
      subst hjN'
      refine nxL_end hh S (.head hitU) (S.keep _ _ hax) (by simp; first | lia | omega) fun h' S => ?_
      exact fin S Lw
end

section
variable {w : World} {A : Around} {E : Value → Shared → Prop} {s : Shared} {g h : Heap} {tk : Nat} {L D a c kf it ax : Addr} {oc : Obj} {cn : Str} {cs : Scope} {ccd : Value} {cl : List (Str × Addr)} {kind N ep : Nat} {K : Nat → List Nat} {vs : List Value}
  {p30 p31 p10 : Pos}
theorem replSmall (w : World) : ReplOk w 81 false := by
  intro A s b h tk r Q E l items univ ep item h1 h2 h3 h4 h5 h6 h7 h8 h9 h10 h11
  exact heapreplace_max r h1 h2 h3 h4 h5 h6 h7 h8 h9 h10 h11
theorem replLarge (w : World) : ReplOk w 67 true := by
  intro A s b h tk r Q E l items univ ep item h1 h2 h3 h4 h5 h6 h7 h8 h9 h10 h11
  exact heapreplace_min r h1 h2 h3 h4 h5 h6 h7 h8 h9 h10 h11
theorem ceSmall (V : Vars cs (envX cn cs L a ccd cl)) : ∀ (h : Heap) (tk : Nat) (al : List (Str × Value)) (news : List (Addr × Obj)) (x y : List Nat) (t u : Tok) (Q : Bool → Shared → Prop), St g L h al news → al.lookup ("k" : Str) = some (kv kind x t) → al.lookup ("top" : Str) = some (kv kind y u) → KOk kind x → KOk kind y → Q (kl false x y) (sh s h tk) → wpAny (model PySem.Challenge.rw_mr0271_01.row.prog w) A (isTrue (.Compare (.Name "k" p30) [.Lt] [.Name "top" p31] p10) (envX cn cs L a ccd cl) (eval (.Compare (.Name "k" p30) [.Lt] [.Name "top" p31] p10) (envX cn cs L a ccd cl))) Q (fun _ _ => False) (sh s h tk) :=
  fun h tk al news x y t u Q S h1 h2 k1 k2 hq => wpAny_isTrue_Compare1 (nameV V S h1 (nameV V S h2 (kvLt k1 k2 (wpAny_truthy_bool hq))))
theorem ceLarge (V : Vars cs (envX cn cs L a ccd cl)) : ∀ (h : Heap) (tk : Nat) (al : List (Str × Value)) (news : List (Addr × Obj)) (x y : List Nat) (t u : Tok) (Q : Bool → Shared → Prop), St g L h al news → al.lookup ("k" : Str) = some (kv kind x t) → al.lookup ("top" : Str) = some (kv kind y u) → KOk kind x → KOk kind y → Q (kl true x y) (sh s h tk) → wpAny (model PySem.Challenge.rw_mr0271_01.row.prog w) A (isTrue (.Compare (.Name "top" p30) [.Lt] [.Name "k" p31] p10) (envX cn cs L a ccd cl) (eval (.Compare (.Name "top" p30) [.Lt] [.Name "k" p31] p10) (envX cn cs L a ccd cl))) Q (fun _ _ => False) (sh s h tk) :=
  fun h tk al news x y t u Q S h1 h2 k1 k2 hq => wpAny_isTrue_Compare1 (nameV V S h2 (nameV V S h1 (kvLt k2 k1 (wpAny_truthy_bool hq))))
end
end Mine
/- MNsA -/
namespace Mine
open PySem PySem.W PyProof.Rows PySem.Calls
section
variable {M : Model} {A : Around} {E : Value → Shared → Prop} {s : Shared} {env : Env}
theorem CallK_ {func : Expr} {args : List Expr} {kws : List Keyword} {pos : Pos} {Q : Value → Shared → Prop}
    (h : wpAny M A (eval func env) (fun f s₁ => wpAny M A (callWith pos f [] (backTo pos (starEach args env)) (backToKw pos (keywordEach kws env))) Q E s₁) E s)
    (he : eval (.Call func args kws pos) env = (do callWith pos (← eval func env) [] (backTo pos (starEach args env)) (backToKw pos (keywordEach kws env))) := by rfl) :
    wpAny M A (eval (.Call func args kws pos) env) Q E s := by
  rw [he]; exact wpAny_bind h
end

theorem KeyOk.mono {w : World} {s : Shared} {kf : Addr} {b g : Heap} {kind n : Nat} {K : Nat → List Nat} (h : KeyOk w s kf b kind K n) (hk : Keeps b g) : KeyOk w s kf g kind K n :=
  ⟨h.1, fun A h' tk i t Q E hi hg hd hh hq => h.2 A h' tk i t Q E hi (hk.trans hg) hd hh hq⟩

theorem intsAre_pick {vs : List Value} {n : Nat} (hv : IntsAre vs ((List.range n).map Int.ofNat)) : ∀ (l : List Nat), (∀ x ∈ l, x < n) → IntsAre (l.map fun i => vs.getD i .none) (l.map Int.ofNat)
  | [], _ => .nil
  | x :: l, h => by
    obtain ⟨t, ht⟩ := intsAre_get hv (i := x) (by simpa using h x (.head _))
    have e : vs.getD x .none = .int (Int.ofNat x) t := by rw [List.getD_eq_getElem?_getD, ht]; simp
    rw [List.map_cons, List.map_cons, e]
    exact .cons _ _ (intsAre_pick hv l fun y hy => h y (.tail _ hy))
/-- x[:y] of a list -/
theorem upto {prog : Program} {w : World} {A : Around} {E : Value → Shared → Prop} {s : Shared} {b h : Heap} {tk : Nat} {L : Addr} {env : Env} {value up : Expr} {p pos : Pos} {Q : Value → Shared → Prop}
    (hv : wpAny (model prog w) A (eval value env) (fun v s₁ => ∃ l h₁ tk₁ its ep, v = .ref l ∧ s₁ = sh s h₁ tk₁ ∧ h₁.get? l = some (listOf its ep) ∧ its.size ≤ sizeLine ∧
      wpAny (model prog w) A (eval up env) (fun u s₂ => ∃ y t h₂ tk₂ al' news', u = .int y t ∧ s₂ = sh s h₂ tk₂ ∧ h₂.get? l = some (listOf its ep) ∧ St b L h₂ al' news' ∧
        ∀ D h', St b L h' al' ((D, listOf (slicePick its none (some y) none) 0) :: news') → (∀ q ∈ news', q.1 < D) → D = h₂.objs.size + 1 → Q (.ref D) (sh s h' tk₂)) E (sh s h₁ tk₁)) E (sh s h tk))
    (hs : ∀ l sl, subscripted (.Slice none (some up) none p) false (.ref l) (.ref sl) = operate [.ref sl, .ref l] (getItem (.ref l) (.ref sl)) := by intro _ _; with_unfolding_all rfl) :
    wpAny (model prog w) A (eval (.Subscript value (.Slice none (some up) none p) pos) env) Q E (sh s h tk) := by
  refine Subscript_ (wpAny_mono hv (fun v s₁ h₁ => ?_) fun _ _ x => x)
  obtain ⟨l, h₁, tk₁, its, ep, rfl, rfl, hl, hsz, hu⟩ := h₁
  refine wpAny_Slice (show wpAny _ _ (pure Value.none) _ _ _ from wpAny_pure ?_)
  show wpAny _ _ (eval up env) _ _ _
  refine wpAny_mono hu (fun u s₂ h₂ => ?_) fun _ _ x => x
  obtain ⟨y, t, h₂, tk₂, al', news', rfl, rfl, hl2, S, hq⟩ := h₂
  refine show wpAny _ _ (pure Value.none) _ _ _ from wpAny_pure ?_
  have S1 := S.push { cls := .type "slice", data := .fields #[.none, .int y t, .none] }
  have hl3 : (h₂.push { cls := .type "slice", data := .fields #[.none, .int y t, .none] }).get? l = some (listOf its ep) := Heap.get?_push_of_some _ hl2
  refine tail_any (s := sh s (h₂.push { cls := .type "slice", data := .fields #[.none, .int y t, .none] }) tk₂) (ops := [.ref h₂.objs.size, .ref l]) (Heap.IsList.typeIs ⟨_, hl3, rfl, _, rfl⟩) slot_list_getitem.lookup
    (wpAny_getItem_list_slice ⟨_, hl3, rfl, _, rfl⟩ (Heap.IsSliceOf.new ..) .none (.int _ _) .none (by simp) ?_ hsz) (hs _ _)
  have S2 := S1.push (listOf (slicePick its none (some y) none) 0)
  refine hq _ _ (S2.sub fun q hq => ?_) (fun q hq => Nat.lt_trans (S.below q hq) ?_) (Heap.size_push ..)
  · rcases List.mem_cons.mp hq with rfl | hq
    · exact .head _
    · exact .tail _ (.tail _ hq)
  · show h₂.objs.size < (h₂.push _).objs.size
    rw [Heap.size_push]; exact Nat.lt_succ_self _

/-- what is given to be walked: the list itself, or an iterator of it -/
inductive Given (ax : Addr) (fl : List (Addr × Obj)) : Value → List (Addr × Obj) → Prop
  | lst : Given ax fl (.ref ax) fl
  | itr {it : Addr} : it ∉ fl.map (·.1) → Given ax fl (.ref it) ((it, lsO (.ref ax) 0) :: fl)

theorem given_iter {prog : Program} {w : World} {A : Around} {E : Value → Shared → Prop} {s : Shared} {g h : Heap} {tk : Nat} {L ax c : Addr} {oc : Obj} {al : List (Str × Value)} {fl hide : List (Addr × Obj)} {arg : Value} {items : Array Value} {ep : Nat} {Q : Value → Shared → Prop}
    (G : Given ax fl arg hide) (S : St g L h al ((c, oc) :: hide)) (hax : g.get? ax = some (listOf items ep)) (hc : ∀ p ∈ hide, p.1 ≠ c)
    (hq : ∀ it h', St g L h' al ((it, lsO (.ref ax) 0) :: (c, oc) :: fl) → it ≠ c → it ∉ fl.map (·.1) → Q (.ref it) (sh s h' tk)) : wpAny (model prog w) A (pyIter arg) Q E (sh s h tk) := by
  cases G with
  | lst =>
    refine iterL S (S.keep _ _ hax) fun it h' S' hlt _ _ => hq it h' S' (Nat.ne_of_gt (hlt _ (.head _))) fun q => ?_
    obtain ⟨p, hp, e⟩ := List.mem_map.mp q
    exact absurd (hlt p (.tail _ hp)) (by rw [e]; exact Nat.lt_irrefl _)
  | itr hn =>
    rename_i it
    refine iterSelf (S.N.get (.tail _ (.head _))) (hq it h (S.sub fun p hp => ?_) (hc _ (.head _)) hn)
    rcases List.mem_cons.mp hp with rfl | hp
    · exact .tail _ (.head _)
    · rcases List.mem_cons.mp hp with rfl | hp
      · exact .head _
      · exact .tail _ (.tail _ hp)

theorem callRange3 {prog : Program} {w : World} {A : Around} {E : Value → Shared → Prop} {s : Shared} {b h : Heap} {tk : Nat} {L : Addr} {al : List (Str × Value)} {news : List (Addr × Obj)} {a n c : Int} {t u v : Tok} {Q : Value → Shared → Prop} (S : St b L h al news) (hc : c ≠ 0) (hsm : Builtin.divisionGoesByPylong (n - a) c = false)
    (hq : ∀ r t1 t2 t3 h', St b L h' al ((r, rangeO a n c t1 t2 t3) :: news) → (∀ p ∈ news, p.1 < r) → Q (.ref r) (sh s h' tk)) : wpAny (model prog w) A (call (.type "range") [.int a t, .int n u, .int c v]) Q E (sh s h tk) :=
  call_range_3 (s := sh s h tk) hc (hq _ _ _ _ _ (S.push _) S.below) (.inl hsm)

section
variable {gt : Bool} {K : Nat → List Nat} {kind : Nat} {led : List (Addr × Obj)} {items : List Value} {el : Value → Nat} {od : Value → Int}
theorem getD_mem {its : List Value} {i : Nat} (h : i < its.length) : its[i]? = some (its.getD i .none) ∧ its.getD i .none ∈ its := by
  constructor
  · simp [List.getD, h]
  · simp [List.getD, h]
theorem pool_trip (P : Pool gt K kind led items el od) (hk : ∀ v ∈ items, KOk kind (K (el v))) : Trip kind led items (fun i => tr K el od (items.getD i .none)) := fun i hi => by
  obtain ⟨e, hm⟩ := getD_mem hi
  obtain ⟨a, o, h1, h2, h3⟩ := P.trip _ hm
  exact ⟨a, o, by rw [e, h1], h2, h3, hk _ hm⟩
theorem pool_out {m N : Nat} {lt : K3 → K3 → Bool} (hlt : (fun a b => if gt = true then lt3 b a else lt3 a b) = lt) (P : Pool gt K kind led items el od) (Lw : Lower (aheadR gt K) N (items.map el)) (hl : items.length = min m N) :
    ∃ out : List Value, out = ((srt (stab lt (fun i => tr K el od (items.getD i Value.none))) items.length).map fun i => items.getD i Value.none) ∧ out.length = items.length ∧
      (∀ i, i < out.length → ∃ a o, out[i]? = some (.ref a) ∧ (a, o) ∈ led ∧ IsT3 kind (K (el (out.getD i .none)), od (out.getD i .none), ((el (out.getD i .none) : Nat) : Int)) o) ∧
      ((List.range out.length).map fun i => ((el (out.getD i .none) : Nat) : Int)) = ((srt (aheadR gt K) N).take m).map Int.ofNat := by
  subst hlt
  refine ⟨_, rfl, by rw [List.length_map, srt_len], fun i hi => ?_, ?_⟩
  · obtain ⟨e, hm⟩ := getD_mem hi
    obtain ⟨x, hx, hx'⟩ := List.mem_map.mp hm
    have hxl : x < items.length := List.mem_range.mp ((srt_perm _ _).mem_iff.mp hx)
    have hmi := (getD_mem hxl).2
    rw [hx'] at hmi
    obtain ⟨a, o, h1, h2, h3⟩ := P.trip _ hmi
    exact ⟨a, o, by rw [e, h1], h2, h3⟩
  · have hs := pool_sorted (m := m) P Lw
    have hmap : ∀ (l : List Value), (List.range l.length).map (fun i => ((el (l.getD i .none) : Nat) : Int)) = (l.map el).map Int.ofNat := fun l => by
      refine List.ext_getElem (by simp) fun i h1 h2 => ?_
      have : i < l.length := by simpa using h2
      simp [this]
    rw [hmap]
    congr 1
    rw [List.map_map]
    refine Eq.trans hs ?_
    rw [hl]
    rw [List.take_eq_take_iff, srt_len]; first | lia | omega
end

section
variable {prog : Program} {w : World} {A : Around} {E : Value → Shared → Prop} {s s₀ : Shared} {env : Env} {o : Expr} {apos pos p1 p2 : Pos} {k : Nat} {Q : Value → Shared → Prop}
/-- x.sort() -/
theorem sortM0 {D : Addr} {its : Array Value} {ep : Nat} {h : Heap} {tk : Nat} (hl : h.get? D = some (listOf its ep)) (hc : wpAny (model prog w) A (call (.builtin "list.sort") [.ref D]) Q E (sh s h tk)) : MethodOnS prog w A E "sort" (.ref D) pos [] Q (sh s h tk) := by
  refine ⟨"list", "list.sort", F.plainAttrs_list, F.slot_list_sort, F.type_list_sort, ⟨_, hl, rfl⟩, (fun a e => by cases e; exact ⟨_, hl, rfl⟩), ?_⟩
  exact callWith_builtin rfl (evalArgs_nil3 hc)
/-- x.sort(reverse=True) -/
theorem sortM1 (h : wpAny (model prog w) A (eval o env) (fun ov s₁ => ∃ D its ep h tk, ov = .ref D ∧ s₁ = sh s h tk ∧ h.get? D = some (listOf its ep) ∧ wpAny (model prog w) A (call (.builtin "list.sort") [.ref D] [(Str.ofString "reverse", .bool true)]) Q E (sh s h tk)) E s₀)
    (hbase : attributeBase o "sort" env (eval o env) = eval o env := by rfl) (hline : (apos.endLine == pos.line) = true := by rfl) :
    wpAny (model prog w) A (eval (.Call (.Attribute o "sort" apos) [] [⟨some "reverse", .Constant (.bool true) k p1, p2⟩] pos) env) Q E s₀ := by
  rw [arm_eval_Call, hbase]
  refine wpAny_bind (wpAny_mono h (fun ov s₁ h₁ => ?_) fun _ _ e => e)
  obtain ⟨D, its, ep, h, tk, rfl, rfl, hl, hc⟩ := h₁
  refine wpAny_bind (wpAny_standAt ?_)
  have hform : methodCallForm (([] : List Expr).length + [(⟨some "reverse", .Constant (.bool true) k p1, p2⟩ : Keyword)].length) (backTo pos (starEach [] env)) (backToKw pos (keywordEach [⟨some "reverse", .Constant (.bool true) k p1, p2⟩] env)) = true := rfl
  have hpos : methodCallPos true o env apos pos = pure pos := by unfold methodCallPos; simp [hline]
  unfold methodCall
  rw [hform]
  refine wpAny_bind (wpAny_holding (getMethod_builtin (s := sh s h tk) (T := "list") ⟨_, hl, rfl⟩ F.plainAttrs_list F.slot_list_sort F.type_list_sort (fun a e => by cases e; exact ⟨_, hl, rfl⟩) ?_))
  refine wpAny_bind (wpAny_of_eq hpos ?_)
  refine callWith_builtin_kwB rfl rfl (evalArgs_kw2_nil rfl (kwAll_cons (wpAny_Constant_bool (kwAll_nil ?_))))
  exact hc
end
end Mine
/- MRun1 -/
namespace Mine
open PySem PySem.W PyProof.Rows PySem.Calls
section
variable {prog : Program} {w : World} {A : Around} {E : Value → Shared → Prop} {s : Shared} {gi h : Heap} {tk : Nat} {L C D a it ax : Addr} {cn : Str} {cs sc : Scope} {ccd : Value} {cl cl' : List (Str × Addr)} {kind ep : Nat} {vs : List Value}
  {R : Result → Shared → Prop} {iter : Expr} {pos q : Pos}

/-- [elt for x in list], each a text or octets -/
theorem kvLoop {x : Str} {elt : Expr} (P : Nat → List Nat → Prop) (hh : A.handled = none) (hl : gi.get? ax = some (listOf vs.toArray ep)) (h64 : vs.length < 64) (hne : D ≠ it)
    (Si : St gi C h [] [(D, listOf #[] 0), (it, lsO (.ref ax) 0)])
    (hx : (compEnvC sc cl C (envX cn cs L a ccd cl')).kindOf x = some .local) (hsk : sc.kind = .function)
    (helt : ∀ i, i < vs.length → ∀ h' tk' al' news' (Q' : Value → Shared → Prop), St gi C h' ((x, vs.getD i .none) :: al') news' → (∀ l h'' tk'' t'', P i l → Keeps h' h'' → Q' (kv kind l t'') (sh s h'' tk'')) →
      wpAny (model prog w) A (eval elt (compEnvC sc cl C (envX cn cs L a ccd cl'))) Q' (fun _ _ => False) (sh s h' tk'))
    (hR : ∀ h' tk' al' ks ep', ks.length = vs.length → (∀ i, i < ks.length → P i (kF ks i)) → St gi C h' al' [(D, listOf (kvs kind ks).toArray ep'), (it, lsO .none vs.length)] → R (.ok .next) (sh s h' tk')) :
    codeAny (model prog w) A (.compLoop (.ListComp elt [⟨.Name x q, iter, [], 0⟩] sc pos) 0 (.ref it) (.ref D) (compEnvC sc cl C (envX cn cs L a ccd cl'))) R (sh s h tk) := by
  refine compL (fun k h => ∃ (j : Nat) (ks : List (List Nat × Tok)) (al' : List (Str × Value)) (ep' : Nat), St gi C h al' [(D, listOf (kvs kind ks).toArray ep'), (it, lsO (.ref ax) j)] ∧ ks.length = j ∧ (∀ i, i < j → P i (kF ks i)) ∧ j ≤ vs.length ∧ k = vs.length - j) vs.length
    ⟨0, [], [], 0, Si, rfl, fun i hi => absurd hi (Nat.not_lt_zero _), Nat.zero_le _, rfl⟩ ?_
  rintro k h tk ⟨j, ks, al', ep', S, hkl, hP, hj, hk⟩
  by_cases hlt : j < vs.length
  · obtain ⟨e0, _⟩ := getD_mem hlt
    refine nxL S (.tail hne (.head fun _ hx => nomatch hx)) (S.keep _ _ hl) (by simpa using e0) fun h4 S => ?_
    refine wpAny_assign_Name (storeCL S (fun h5 tk5 S => ?_) hsk hx)
    refine helt j hlt h5 tk5 _ _ _ S fun l h6 tk6 t6 hp hk6 => ?_
    have S := S.grow hk6
    refine ⟨_, _, (kvs kind ks).toArray, ep', gi, C, _, _, _, rfl, S, .head (fun p hp => by rcases List.mem_singleton.mp hp with rfl; exact hne.symm), by rw [sizeLine_eq, List.size_toArray]; simp [kvs]; first | lia | omega, fun h9 S => ?_⟩
    have e : (kvs kind ks).toArray.push (kv kind l t6) = (kvs kind (ks ++ [(l, t6)])).toArray := by simp [kvs]
    rw [e] at S
    refine ⟨vs.length - (j + 1), by first | lia | omega, j + 1, ks ++ [(l, t6)], _, ep' + 1, S, by simp [hkl], fun i hi => ?_, hlt, rfl⟩
    by_cases hij : i < j
    · have : kF (ks ++ [(l, t6)]) i = kF ks i := by simp [kF, List.getD_eq_getElem?_getD, List.getElem?_append_left (show i < ks.length by first | lia | omega)]
      rw [this]; exact hP i hij
    · have hij : i = j := by first | lia | omega
      subst hij
      have : kF (ks ++ [(l, t6)]) i = l := by simp [kF, List.getD_eq_getElem?_getD, ← hkl]
      rw [this]; exact hp
  · have hjl : j = vs.length := by first | lia | omega
    subst hjl
    refine nxL_end hh S (.tail hne (.head fun _ hx => nomatch hx)) (S.keep _ _ hl) (by simp) fun h4 S => ?_
    exact hR h4 _ al' ks ep' hkl (fun i hi => hP i (by first | lia | omega)) S

/-- a str's iterator -/
def SIt (x : Str) (t : Tok) (i : Nat) (o : Obj) : Prop := o.cls = .type (strIterType x) ∧ o.data = .fields #[.str x t, .int i 0]
theorem iterS {b : Heap} {al : List (Str × Value)} {news : List (Addr × Obj)} {x : Str} {t : Tok} {Q : Value → Shared → Prop} (S : St b L h al news) (hq : ∀ it o h', SIt x t 0 o → St b L h' al ((it, o) :: news) → (∀ p ∈ news, p.1 < it) → h'.objs.size = it + 1 → Q (.ref it) (sh s h' tk)) :
    wpAny (model prog w) A (pyIter (.str x t)) Q E (sh s h tk) :=
  wpAny_pyIter_strU (s := sh s h tk) (hq _ _ _ ⟨rfl, rfl⟩ (S.push _) S.below (Heap.size_push ..))
theorem selfS {x : Str} {t : Tok} {i : Nat} {o : Obj} {Q : Value → Shared → Prop} (ho : SIt x t i o) (hi : h.get? it = some o) (hq : Q (.ref it) (sh s h tk)) : wpAny (model prog w) A (pyIter (.ref it)) Q E (sh s h tk) := by
  have hi' : (sh s h tk).heap.IsStrIter it (strIterType x) x t i := ⟨o, hi, ho⟩
  unfold strIterType at hi'
  split at hi'
  · exact wpAny_pyIter_striter_ascii hi' hq
  · exact wpAny_pyIter_striter_wide hi' hq
theorem nextS {b : Heap} {al : List (Str × Value)} {news : List (Addr × Obj)} {x : Str} {t : Tok} {i c : Nat} {o : Obj} {f : Obj → List (Addr × Obj)} {Q : Option Value → Shared → Prop} (S : St b L h al news) (U : ∀ o', Upd it o o' news (f o')) (ho : SIt x t i o) (hx : x.cps[i]? = some c)
    (hq : ∀ o' h', SIt x t (i + 1) o' → St b L h' al (f o') → Q (some (.str ⟨#[c]⟩ tk)) (sh s h' (tk + 1))) : wpAny (model prog w) A (pyNext (.ref it)) Q E (sh s h tk) := by
  have hm : (it, o) ∈ news := by
    obtain ⟨pre, post, rfl, _⟩ := (U o).split
    exact List.mem_append.mpr (.inr (.head _))
  have hi' : (sh s h tk).heap.IsStrIter it (strIterType x) x t i := ⟨o, S.N.get hm, ho⟩
  have key : ∀ ty, ty = strIterType x → ∀ h', h'.IsStrIter it ty x t (i + 1) → Heap.SameBut it h h' → Q (some (.str ⟨#[c]⟩ tk)) (sh s h' (tk + 1)) := fun ty e h' hi hs => by
    subst e
    obtain ⟨o', ho', hb⟩ := hi
    exact hq o' h' hb (S.upd (U o') hs ho')
  by_cases ha : x.cps.all (· < 128) = true
  · have e : strIterType x = "str_ascii_iterator" := by unfold strIterType; rw [if_pos ha]
    rw [e] at hi' key
    exact wpAny_pyNext_ascii_item hi' hx fun h' hi hs => key _ rfl h' hi hs
  · have e : strIterType x = "str_iterator" := by unfold strIterType; rw [if_neg ha]
    rw [e] at hi' key
    exact wpAny_pyNext_wide_item hi' hx fun h' hi hs => key _ rfl h' hi hs
theorem nextS_end {b : Heap} {al : List (Str × Value)} {news news' : List (Addr × Obj)} {x : Str} {t : Tok} {i : Nat} {o : Obj} {Q : Option Value → Shared → Prop} (hh : A.handled = none) (S : St b L h al news) (hm : (it, o) ∈ news) (ho : SIt x t i o) (hx : x.cps[i]? = none) (hn : ∀ p ∈ news', p ∈ news ∧ p.1 ≠ it)
    (hq : ∀ h', St b L h' al news' → Q none (sh s h' tk)) : wpAny (model prog w) A (pyNext (.ref it)) Q E (sh s h tk) := by
  have hi' : (sh s h tk).heap.IsStrIter it (strIterType x) x t i := ⟨o, S.N.get hm, ho⟩
  by_cases ha : x.cps.all (· < 128) = true
  · have e : strIterType x = "str_ascii_iterator" := by unfold strIterType; rw [if_pos ha]
    rw [e] at hi'
    exact wpAny_pyNext_ascii_end hh hi' hx fun h' he => hq h' (S.drop hm he hn)
  · have e : strIterType x = "str_iterator" := by unfold strIterType; rw [if_neg ha]
    rw [e] at hi'
    exact wpAny_pyNext_wide_end hh hi' hx fun h' he => hq h' (S.drop hm he hn)

/-- [ord(sign) for sign in text], its loop -/
theorem ordLoop {q1 q2 q3 : Pos} {l : List Nat} {t : Tok} {o₀ : Obj} (hh : A.handled = none) (hB : Ba w gi) (hl : l.length ≤ 2 ^ 20) (hne : D ≠ it) (ho₀ : SIt ⟨l.toArray⟩ t 0 o₀)
    (Si : St gi C h [] [(D, listOf #[] 0), (it, o₀)]) (e1 : nsIn (hd.heap_39 w.params) mainGlobals "ord" = some none)
    (hx : (compEnvC sc cl C (envX cn cs L a ccd cl')).kindOf "sign" = some .local) (ho : (compEnvC sc cl C (envX cn cs L a ccd cl')).kindOf "ord" = some .globalImplicit) (hsk : sc.kind = .function)
    (hR : ∀ h' tk' al' ys ep', IntsAre ys (l.map Int.ofNat) → St gi C h' al' [(D, listOf (List.toArray ys) ep')] → R (.ok .next) (sh s h' tk')) :
    codeAny (model prog w) A (.compLoop (.ListComp (.Call (.Name "ord" q1) [.Name "sign" q2] [] q3) [⟨.Name "sign" q, iter, [], 0⟩] sc pos) 0 (.ref it) (.ref D) (compEnvC sc cl C (envX cn cs L a ccd cl'))) R (sh s h tk) := by
  refine compL (fun k h => ∃ (j : Nat) (ys : List Value) (o : Obj) (al' : List (Str × Value)) (ep' : Nat), St gi C h al' [(D, listOf ys.toArray ep'), (it, o)] ∧ SIt ⟨l.toArray⟩ t j o ∧ IntsAre ys ((l.take j).map Int.ofNat) ∧ j ≤ l.length ∧ k = l.length - j) l.length
    ⟨0, [], o₀, [], 0, Si, ho₀, by simpa using .nil, Nat.zero_le _, rfl⟩ ?_
  rintro k h tk ⟨j, ys, o, al', ep', S, hbit, hys, hj, hk⟩
  have hyl : ys.length = j := by have := hys.length; simp at this; first | lia | omega
  by_cases hlt : j < l.length
  · refine nextS (f := fun o' => [(D, listOf ys.toArray ep'), (it, o')]) (c := l[j]) S (fun o' => .tail hne (.head fun _ hx => nomatch hx)) hbit (by simp [hlt]) fun o' h4 hbit S => ?_
    refine wpAny_assign_Name (storeCL S (fun h5 tk5 S => ?_) hsk hx)
    refine Call_ (nameCB hB S e1 (by boot_fast) (by decide) (PyProof.Rows.callWith_builtin1 (args_cons (nameCL S rfl (args_nil (P.ord_of_char (s := sh s h5 tk5) ?_)) hsk hx (by decide)))) hsk ho (by decide))
    refine ⟨h5, tk5 + 1, ys.toArray, ep', gi, C, _, _, _, rfl, S, .head (fun p hp => by rcases List.mem_singleton.mp hp with rfl; exact hne.symm), by rw [sizeLine_eq, List.size_toArray]; first | lia | omega, fun h9 S => ?_⟩
    rw [List.push_toArray] at S
    refine ⟨l.length - (j + 1), by first | lia | omega, j + 1, _, _, _, ep' + 1, S, hbit, ?_, hlt, rfl⟩
    rw [List.take_succ_eq_append_getElem hlt, List.map_append]
    exact intsAre_snoc hys _ _
  · have hjl : j = l.length := by first | lia | omega
    subst hjl
    refine nextS_end (news' := [(D, listOf ys.toArray ep')]) hh S (.tail _ (.head _)) hbit (by simp) (fun p hp => ?_) fun h4 S => ?_
    · rcases List.mem_singleton.mp hp with rfl
      exact ⟨.head _, hne⟩
    · refine hR h4 _ al' ys ep' ?_ S
      rwa [List.take_length] at hys
end

section
variable {prog : Program} {w : World} {A : Around} {E : Value → Shared → Prop} {s : Shared} {g b h h' : Heap} {tk : Nat} {L D : Addr} {al : List (Str × Value)} {news rest fl fl' : List (Addr × Obj)}
theorem intsAre_at {us : List Value} {xs : List Int} (h : IntsAre us xs) : ∀ {i : Nat}, i < us.length → ∃ t, us[i]? = some (.int (xs.getD i 0) t) := by
  induction h with
  | nil => intro i hi; exact absurd hi (Nat.not_lt_zero _)
  | cons n t _ ih =>
    intro i hi
    cases i with
    | zero => exact ⟨t, rfl⟩
    | succ i => simpa using ih (Nat.lt_of_succ_lt_succ hi)
/-- two lists of the same ints are not unlike -/
theorem neInts {l l' : Addr} {us vs : List Value} {xs : List Int} {e1 e2 : Nat} {Q : Value → Shared → Prop} (hl : h.get? l = some (listOf us.toArray e1)) (hl' : h.get? l' = some (listOf vs.toArray e2)) (hu : IntsAre us xs) (hv : IntsAre vs xs) (hun : A.units < cLine)
    (hq : Q (.bool false) (sh s h tk)) : wpAny (model prog w) A (compareOp .NotEq (.ref l) (.ref l')) Q E (sh s h tk) := by
  have n1 := hu.length
  have n2 := hv.length
  have r := SeqAt.RcNeAt.lists (A := A) (s := sh s h tk) (l := l) (b := l') (items := us.toArray) (items2 := vs.toArray) (e := fun _ => true) ⟨_, hl, rfl, _, rfl⟩ ⟨_, hl', rfl, _, rfl⟩ (by simp [n1, n2]) hun fun j h1 h2 => by
    obtain ⟨t1, e1⟩ := intsAre_at hu (i := j) (by simpa using h1)
    obtain ⟨t2, e2⟩ := intsAre_at hv (i := j) (by simpa using h2)
    have q1 : us.toArray[j] = .int (xs.getD j 0) t1 := by
      have : us.toArray[j]? = some (.int (xs.getD j 0) t1) := by simpa using e1
      exact (Array.getElem?_eq_some_iff.mp this).2
    have q2 : vs.toArray[j] = .int (xs.getD j 0) t2 := by
      have : vs.toArray[j]? = some (.int (xs.getD j 0) t2) := by simpa using e2
      exact (Array.getElem?_eq_some_iff.mp this).2
    rw [q1, q2]
    have := SeqAt.EqAt.int_int (A := A.in1) (s := sh s h tk) (xs.getD j 0) t1 (xs.getD j 0) t2
    rwa [beq_self_eq_true] at this
  refine EqBoolInt.of_rcne r ?_
  have : (List.range us.toArray.size).all (fun _ => true) = true := by simp
  rw [this]; exact hq

/-- list(range(n)) -/
theorem callListRange {r : Addr} {n : Nat} {t1 t2 t3 : Tok} {Q : Value → Shared → Prop} (hh : A.handled = none) (S : St b L h al news) (hr : h.get? r = some (rangeO 0 (n : Int) 1 t1 t2 t3)) (hn : n < 2 ^ 20)
    (hq : ∀ D vs ep h' tk', IntsAre vs ((List.range n).map Int.ofNat) → St b L h' al ((D, listOf (List.toArray vs) ep) :: news) → (∀ p ∈ news, p.1 < D) → Q (.ref D) (sh s h' tk')) : wpAny (model prog w) A (call (.type "list") [.ref r]) Q E (sh s h tk) := by
  refine call_list_range (s := sh s h tk) (n := n) hh hr (by simp [Builtin.Range.small, Builtin.Range.rangeFitsLong, rangeSize_one]; split <;> first | lia | omega) (by rw [rangeSize_one]; split <;> first | lia | omega) (by first | lia | omega) fun h' tk' acc c' hk hS hacc => ?_
  refine hq _ acc.toList c' h' tk' ?_ (by rw [Array.toArray_toList]; exact S.fresh hk (Nat.le_refl _) hS) S.below
  have key : ∀ (l : List Value) (j : Nat), (∀ (i : Nat) (v : Value), l[i]? = some v → ∃ t, v = Value.int (((j + i : Nat)) : Int) t) → IntsAre l ((List.range' j l.length).map Int.ofNat) := by
    intro l
    induction l with
    | nil => intro j _; exact .nil
    | cons v l ih =>
      intro j hv
      obtain ⟨t, rfl⟩ := hv 0 v rfl
      rw [List.length_cons, List.range'_succ, List.map_cons]
      exact .cons _ _ (ih (j + 1) fun i v e => by
        obtain ⟨t, rfl⟩ := hv (i + 1) v e
        exact ⟨t, by rw [show j + (i + 1) = j + 1 + i by first | lia | omega]⟩)
  have := key acc.toList 0 fun i v e => by
    obtain ⟨t, rfl⟩ := hacc.2 i v (by simpa using e)
    exact ⟨t, by simp⟩
  rw [List.range_eq_range']
  have hl : acc.toList.length = n := by simpa using hacc.1
  rwa [hl] at this

theorem maxTwo {a c : Int} {t u : Tok} {Q : Value → Shared → Prop} (hh : A.handled = none) (S : St b L h al news) (hq : ∀ h' tk' t', St b L h' al news → Q (.int (if c > a then c else a) t') (sh s h' tk')) : wpAny (model prog w) A (call (.builtin "max") [.int a t, .int c u]) Q E (sh s h tk) := by
  refine max_two_ints (s := sh s h tk) hh fun h' tk' hk => ?_
  have := fun t' => hq h' tk' t' (S.grow hk)
  split
  · rename_i hc
    have e := this u
    rw [if_pos hc] at e; exact e
  · rename_i hc
    have e := this t
    rw [if_neg hc] at e; exact e

/-- the frame's object -/
theorem St.obj (S : St g L h al news) : ∃ oL, h.get? L = some oL ∧ (∀ vs, oL.data ≠ .fields vs) ∧ g.get? L = none := by
  obtain ⟨⟨m, F, _⟩, _⟩ := S
  obtain ⟨oL, es, ep, hL, hd, _⟩ := F.ns
  exact ⟨oL, hL, fun vs q => by rw [hd] at q; (cases q), Heap.get?_none_of_le F.above⟩
/-- back from a call that may have changed `hs` and the slots of the frames -/
theorem St.after {hs : List Addr} {oL oD : Obj} {sl : Array (Option Value)} (S : St g L h al news) (hoL : h.get? L = some oL) (hg : ∀ a ∈ hs, g.get? a = none) (hk : KeepsBut hs h h') (hL' : h'.get? L = some { oL with slots := sl })
    (hr : ∀ p ∈ rest, p ∈ news ∧ p.1 ∉ hs) (hfl : ∀ p ∈ fl', h'.get? p.1 = some p.2) (hfn : ∀ p ∈ fl', ∃ o, (p.1, o) ∈ news) (hD : h'.get? D = some oD) (hDn : h.get? D = none) : St g L h' al ((D, oD) :: (rest ++ fl')) := by
  obtain ⟨⟨m, F, hm⟩, N⟩ := S
  refine ⟨⟨m, ⟨?_, fun a o e => hk a o (fun q => ?_) (F.keep a o e), F.above⟩, hm⟩, fun p hp => ?_⟩
  · obtain ⟨o, es, ep, e1, e2, r⟩ := F.ns
    rw [hoL] at e1; cases e1
    exact ⟨_, es, ep, hL', e2, r⟩
  · rw [hg a q] at e; cases e
  · rcases List.mem_cons.mp hp with rfl | hp
    · refine ⟨hD, fun q => ?_, ?_⟩
      · have q : D = L := q
        rw [q, hoL] at hDn; cases hDn
      · show g.get? D = none
        cases q : g.get? D with
        | none => rfl
        | some o => rw [F.keep _ _ q] at hDn; cases hDn
    · rcases List.mem_append.mp hp with hp | hp
      · have z := N p (hr p hp).1
        exact ⟨hk _ _ (hr p hp).2 z.1, z.2⟩
      · obtain ⟨o, hm'⟩ := hfn p hp
        exact ⟨hfl p hp, (N _ hm').2⟩
end
end Mine
/- MRun2 -/
namespace Mine
open PySem PySem.W PyProof.Rows PySem.Calls
section
variable {M : Model} {A : Around} {E : Value → Shared → Prop} {s : Shared} {g h : Heap} {tk : Nat} {L a c P : Addr} {cn : Str} {cs : Scope} {cl : List (Str × Addr)} {al : List (Str × Value)} {news : List (Addr × Obj)} {gg : Obj → List (Addr × Obj)}
  {p : Program} {loose : List Str} {mean : ExcName → Option Value} {mg mb : Str → Option Value} {name : Str} {params : Arguments} {body : List Stmt} {scope : Scope} {ps : Array Value} {pos : Pos} {clos : List (Str × Addr)}
/-- a def within a def -/
theorem nestS {Q : Flow → Shared → Prop} (S : St g L h al news) (T : Top p loose mean mg mb g) (Cd : CodeHd g c P) (U : UpdF P (tabObj ps) news gg) (ht : TriplesOk ps.toList) (hnf : codeAmong pos ps.toList = none)
    (hcl : closureFor scope (envX cn cs L a (.ref c) cl) = pure clos)
    (hq : ∀ f fo c' oc tb vs t ctv doc pm h' tk', fo = fnMade name (qualnameIn (envX cn cs L a (.ref c) cl) name name) params body scope clos doc pm c' ctv → tb = tabObj (ps ++ #[rawInt pos.line, rawInt pos.col, .ref c']) → St g L h' ((name, .ref f) :: al) ((f, fo) :: (c', oc) :: gg tb) →
      oc.data = .fields vs → vs[1]? = some (.str (qualnameIn (envX cn cs L a (.ref c) cl) name name) t) → (∀ q ∈ news, q.1 < c') → c' < f → Q .next (sh s h' tk'))
    (hd0 : params.defaults = [] := by rfl) (hk0 : params.kw_defaults = [] := by rfl) (ha : annTrees params none (envX cn cs L a (.ref c) cl) = [] := by rfl) (hk : cs.kind = .function := by rfl) (hx : (envX cn cs L a (.ref c) cl).kindOf name = some .local := by rfl) :
    wpAny M A (exec (.FunctionDef name params body [] none [] scope none name pos) (envX cn cs L a (.ref c) cl)) Q E (sh s h tk) := by
  obtain ⟨⟨m, F, hm⟩, N⟩ := S
  refine nestDef_K hd0 hk0 ha (nest_K (s := sh s h tk) F N T Cd rfl U ht hnf hcl fun f c' oc vs t ctv doc h' tk' F' N' h1 h2 h3 h4 => ?_)
  exact storeL (s := s) ⟨⟨m, F', hm⟩, N'⟩ (fun h'' tk'' S => hq f _ c' oc _ vs t ctv doc _ h'' tk'' rfl rfl S h1 h2 h3 h4) hk hx
/-- a name of an outer frame, its cell standing in the heap -/
theorem nameFB {o : Obj} {x : Str} {v : Value} {ccd : Value} {Q : Value → Shared → Prop} (hh : h.get? c = some o) (hc : cl.lookup x = some c) (hd : o.data = .cell (some v)) (hq : Q v (sh s h tk))
    (hk : cs.kind = .function := by rfl) (hx : (envX cn cs L a ccd cl).kindOf x = some .free := by rfl) (hb : (x == ("__debug__" : Str)) = false := by decide) (hn : (x == ("__classdict__" : Str)) = false := by decide) :
    wpAny M A (eval (.Name x pos) (envX cn cs L a ccd cl)) Q E (sh s h tk) :=
  wpAny_Name (wpAny_loadName_free (s := sh s h tk) (env := envX cn cs L a ccd cl) hk hx hc ⟨o, hh, hd⟩ hq hn) hb
end

section
variable {prog : Program} {w : World} {A : Around} {s : Shared} {b h : Heap} {tk : Nat} {Q E : Value → Shared → Prop} {name qual : Str} {params : Arguments} {body : List Stmt} {scope : Scope} {clos : List (Str × Addr)} {doc pm ctv : Value} {f c' : Addr} {args : List Value} {binds : List (Str × Value)}
/-- entering a def that a def has made -/
theorem enterN (B : Ba w h) (hf : h.get? f = some (fnMade name qual params body scope clos doc pm c' ctv)) (hcd : h.CodeRec (.ref c') qual) (hroom : A.depth < recursionLimit)
    (hbind : BindsTo (sh s h tk) (fnX name qual params body scope clos .none .none doc pm none (.ref c') ctv) ⟨args, []⟩ binds) (hloc : ∀ y ∈ binds, scope.names.lookup y.1 = some .local) (hcell : ∀ x ∈ scope.names, x.2 ≠ .cell) (hnd : ∀ p ∈ binds, binds.reverse.lookup p.1 = some p.2)
    (hw : ∀ L' h₁ tk, St h L' h₁ binds [] → wpAny (model prog w) (A.deeper (envX qual scope L' f (.ref c') clos)) (execs body (envX qual scope L' f (.ref c') clos)) (fun fl s' => Q (match fl with | .ret v => v | _ => .none) s') (fun _ _ => False) (sh s h₁ tk))
    (hco : scope.isCoroutine = false) (hgen : scope.isGenerator = false) (hk : scope.kind = .function) : wpAny (model prog w) A (call (.ref f) args []) Q E (sh s h tk) := by
  obtain ⟨X, _, _, _, _, T⟩ := B
  refine wpAny_call (codeAny_call_def (fd := fnX name qual params body scope clos .none .none doc pm none (.ref c') ctv) (body := body) (binds := binds) hroom hf rfl T.nolimit hcd rfl hbind hcell hloc (fun h₁ hns hk₁ => ?_) hco hgen hk)
  exact wpAny_mono (hw h.objs.size h₁ _ ⟨⟨_, ⟨hns, fun a o e => hk₁ a o e, Nat.le_refl _⟩, fun x v e => hnd (x, v) (mem_of_lookup e)⟩, fun q hq => nomatch hq⟩) (fun fl s' hl => hl) fun _ _ y => y.elim
end

/-- the key _law_by_octets -/
theorem keyOct {w : World} {s : Shared} {b : Heap} {kf c c' D : Addr} {oc : Obj} {ks : List (List Nat × Tok)} {ep : Nat} {name qual : Str} {params : Arguments} {scope : Scope} {p1 p2 p3 p4 p5 p6 : Pos} {doc pm ctv : Value}
    (B : Ba w b) (hf : b.get? kf = some (fnMade name qual params [.Return (some (.Call (.Name "_quote_periods" p1) [.Subscript (.Name "rows" p2) (.Name "place" p3) p4] [] p5)) p6] scope [("rows", c)] doc pm c' ctv)) (hcd : b.CodeRec (.ref c') qual)
    (hc : b.get? c = some oc) (hoc : oc.data = .cell (some (.ref D))) (hD : b.get? D = some (listOf (kvs 1 ks).toArray ep)) (hk : ∀ p ∈ ks, (∀ x ∈ p.1, x < 256) ∧ p.1.length ≤ 3) (h64 : ks.length < 64)
    (hbd : ∀ s' i t, BindsTo s' (fnX name qual params [.Return (some (.Call (.Name "_quote_periods" p1) [.Subscript (.Name "rows" p2) (.Name "place" p3) p4] [] p5)) p6] scope [("rows", c)] .none .none doc pm none (.ref c') ctv) ⟨[.int i t], []⟩ [("place", .int i t)])
    (hsc : scope.kind = .function) (hco : scope.isCoroutine = false) (hgen : scope.isGenerator = false) (hloc : scope.names.lookup ("place" : Str) = some .local) (hcell : ∀ x ∈ scope.names, x.2 ≠ .cell)
    (h1 : ∀ L', (envX qual scope L' kf (.ref c') [("rows", c)]).kindOf "place" = some .local) (h2 : ∀ L', (envX qual scope L' kf (.ref c') [("rows", c)]).kindOf "rows" = some .free) (h3 : ∀ L', (envX qual scope L' kf (.ref c') [("rows", c)]).kindOf "_quote_periods" = some .globalImplicit) :
    KeyOk w s kf b 1 (fun i => qF true (kF ks i)) ks.length := by
  have hm : ∀ i, i < ks.length → (∀ x ∈ kF ks i, x < 256) ∧ (kF ks i).length ≤ 3 := fun i hi => by
    have : kF ks i = ks[i].1 := by simp [kF, hi]
    rw [this]; exact hk _ (List.getElem_mem hi)
  refine ⟨fun i hi => ?_, fun A h tk i t Q E hi hkb hdp hh hq => ?_⟩
  · refine .inr ⟨rfl, fun x hx => ?_⟩
    rcases qF_mem hx with h | h
    · exact (hm i hi).1 x h
    · first | lia | omega
  have Bh := B.keeps hkb
  have hcd' : h.CodeRec (.ref c') qual := hcd.keeps hkb
  refine enterN (binds := [("place", .int (i : Int) t)]) Bh (hkb _ _ hf) hcd' (by first | lia | omega) (hbd _ _ _) (fun y hy => by rcases List.mem_singleton.mp hy with rfl; exact hloc) hcell (by walk_at "al") (fun L' h₁ tk S => ?_) hco hgen hsc
  obtain ⟨t1, ht1⟩ := kvs_get (kind := 1) hi
  refine exN (wpAny_Return_some (Call_ (nameK Bh S (by k_is) (callWith_K (K := hd.heap_39 w.params) Bh.X (by k_is) (args_cons (Subscript_ (nameFB (S.keep _ _ (hkb _ _ hc)) rfl hoc (nameL S rfl (getL (S.keep _ _ (hkb _ _ hD)) (by first | lia | omega) (by first | lia | omega) (by simpa using ht1) (args_nil ⟨Bh.X.keeps S.keep, ?_⟩)) hsc (h1 L') (by decide)) hsc (h2 L') (by decide) (by decide))))) hsc (h3 L') (by decide))))
  refine quote_periods Bh S.keep (show A.depth + 1 < _ by first | lia | omega) (by have := (hm i hi).2; first | lia | omega) (hm i hi).1 fun h' tk' t' hk' => hq h' tk' t' (fun a o e => hk' a o (S.keep a o e))

/-- the key _law_by_text -/
theorem keyTxt {w : World} {s : Shared} {b : Heap} {kf c c' D : Addr} {oc : Obj} {ks : List (List Nat × Tok)} {ep : Nat} {name qual : Str} {params : Arguments} {scope : Scope} {p1 p2 p3 p4 p5 p6 : Pos} {doc pm ctv : Value}
    (B : Ba w b) (hf : b.get? kf = some (fnMade name qual params [.Return (some (.Call (.Name "quotedata" p1) [.Subscript (.Name "texts" p2) (.Name "place" p3) p4] [] p5)) p6] scope [("texts", c)] doc pm c' ctv)) (hcd : b.CodeRec (.ref c') qual)
    (hc : b.get? c = some oc) (hoc : oc.data = .cell (some (.ref D))) (hD : b.get? D = some (listOf (kvs 0 ks).toArray ep)) (hk : ∀ p ∈ ks, (∀ x ∈ p.1, x < 256) ∧ p.1.length ≤ 3) (h64 : ks.length < 64)
    (hbd : ∀ s' i t, BindsTo s' (fnX name qual params [.Return (some (.Call (.Name "quotedata" p1) [.Subscript (.Name "texts" p2) (.Name "place" p3) p4] [] p5)) p6] scope [("texts", c)] .none .none doc pm none (.ref c') ctv) ⟨[.int i t], []⟩ [("place", .int i t)])
    (hsc : scope.kind = .function) (hco : scope.isCoroutine = false) (hgen : scope.isGenerator = false) (hloc : scope.names.lookup ("place" : Str) = some .local) (hcell : ∀ x ∈ scope.names, x.2 ≠ .cell)
    (h1 : ∀ L', (envX qual scope L' kf (.ref c') [("texts", c)]).kindOf "place" = some .local) (h2 : ∀ L', (envX qual scope L' kf (.ref c') [("texts", c)]).kindOf "texts" = some .free) (h3 : ∀ L', (envX qual scope L' kf (.ref c') [("texts", c)]).kindOf "quotedata" = some .globalImplicit) :
    KeyOk w s kf b 0 (fun i => qF true (eF (kF ks i))) ks.length := by
  have hm : ∀ i, i < ks.length → (∀ x ∈ kF ks i, x < 256) ∧ (kF ks i).length ≤ 3 := fun i hi => by
    have : kF ks i = ks[i].1 := by simp [kF, hi]
    rw [this]; exact hk _ (List.getElem_mem hi)
  refine ⟨fun i hi => ?_, fun A h tk i t Q E hi hkb hdp hh hq => ?_⟩
  · exact .inl rfl
  have Bh := B.keeps hkb
  have hcd' : h.CodeRec (.ref c') qual := hcd.keeps hkb
  refine enterN (binds := [("place", .int (i : Int) t)]) Bh (hkb _ _ hf) hcd' (by first | lia | omega) (hbd _ _ _) (fun y hy => by rcases List.mem_singleton.mp hy with rfl; exact hloc) hcell (by walk_at "al") (fun L' h₁ tk S => ?_) hco hgen hsc
  obtain ⟨t1, ht1⟩ := kvs_get (kind := 0) hi
  refine exN (wpAny_Return_some (Call_ (nameK Bh S (by k_is) (callWith_K (K := hd.heap_39 w.params) Bh.X (by k_is) (args_cons (Subscript_ (nameFB (S.keep _ _ (hkb _ _ hc)) rfl hoc (nameL S rfl (getL (S.keep _ _ (hkb _ _ hD)) (by first | lia | omega) (by first | lia | omega) (by simpa using ht1) (args_nil ⟨Bh.X.keeps S.keep, ?_⟩)) hsc (h1 L') (by decide)) hsc (h2 L') (by decide) (by decide))))) hsc (h3 L') (by decide))))
  refine quotedata Bh S.keep (show A.depth + 1 < _ by first | lia | omega) (by have := (hm i hi).2; first | lia | omega) fun h' tk' t' hk' => hq h' tk' t' (fun a o e => hk' a o (S.keep a o e))
end Mine
/- MRunP -/
namespace Mine
open PySem PySem.W PyProof.Rows PySem.Calls
theorem qF_app : ∀ (x y : List Nat) (b : Bool), qF b (x ++ 10 :: y) = qF b x ++ 10 :: qF true y
  | [], y, b => by simp [qF]
  | c :: x, y, b => by
    rw [List.cons_append, qF, qF]
    split
    · rw [qF_app x y false]; rfl
    · rw [qF_app x y]; rfl
theorem qF_ret : ∀ (x : List Nat) (b : Bool), qF b (x ++ [13]) = qF b x ++ [13]
  | [], b => by simp [qF]
  | c :: x, b => by
    rw [List.cons_append, qF, qF]
    split
    · rw [qF_ret x false]; rfl
    · rw [qF_ret x]; rfl
theorem qF_app2 (x y : List Nat) (b : Bool) : qF b (x ++ 13 :: 10 :: y) = qF b x ++ 13 :: 10 :: qF true y := by
  have : x ++ 13 :: 10 :: y = (x ++ [13]) ++ 10 :: y := by simp
  rw [this, qF_app, qF_ret]; simp
theorem eF_app : ∀ (x y : List Nat), eF (x ++ 13 :: 10 :: y) = eF x ++ 13 :: 10 :: eF y
  | [], y => by simp [eF]
  | [c], y => by
    by_cases h : c = 13
    · subst h; simp [eF]
    · by_cases h2 : c = 10
      · subst h2; simp [eF]
      · simp [eF, h, h2]
  | c :: d :: x, y => by
    have ih := eF_app (d :: x) y
    have ih2 := eF_app x y
    simp only [List.cons_append] at ih ⊢
    rw [eF, eF]
    split
    · rw [ih2]; rfl
    · split
      · rw [ih]; rfl
      · rw [ih]; rfl
theorem join_map {f : List Nat → List Nat} {sep : List Nat} (h : ∀ x y, f (x ++ sep ++ y) = f x ++ sep ++ f y) (h0 : f [] = []) : ∀ ls : List (List Nat), f (joinL sep ls) = joinL sep (ls.map f)
  | [] => h0
  | [x] => rfl
  | x :: y :: r => by rw [joinL, h, join_map h h0 (y :: r)]; rfl
theorem qF_join (ls : List (List Nat)) : qF true (joinL [10] ls) = joinL [10] (ls.map (qF true)) :=
  join_map (fun x y => by simpa using qF_app x y true) rfl ls
theorem qeF_join (ls : List (List Nat)) : qF true (eF (joinL [13, 10] ls)) = joinL [13, 10] (ls.map fun l => qF true (eF l)) := by
  rw [join_map (f := eF) (sep := [13, 10]) (fun x y => by simpa using eF_app x y) rfl ls, join_map (f := qF true) (sep := [13, 10]) (fun x y => by simpa using qF_app2 x y true) rfl, List.map_map]
  rfl
theorem eF_mem {x : Nat} : ∀ {l : List Nat}, x ∈ eF l → x ∈ l ∨ x = 13 ∨ x = 10
  | [], h => nomatch h
  | [c], h => by
    rw [eF] at h
    split at h
    · simp at h; first | lia | omega
    · exact .inl h
  | c :: d :: r, h => by
    rw [eF] at h
    split at h
    · rcases List.mem_cons.mp h with h | h
      · exact .inr (.inl h)
      rcases List.mem_cons.mp h with h | h
      · exact .inr (.inr h)
      rcases eF_mem h with h | h
      · exact .inl (.tail _ (.tail _ h))
      · exact .inr h
    split at h
    · rcases List.mem_cons.mp h with h | h
      · exact .inr (.inl h)
      rcases List.mem_cons.mp h with h | h
      · exact .inr (.inr h)
      rcases eF_mem (l := d :: r) h with h | h
      · exact .inl (.tail _ h)
      · exact .inr h
    · rcases List.mem_cons.mp h with h | h
      · exact .inl (by rw [h]; exact .head _)
      rcases eF_mem (l := d :: r) h with h | h
      · exact .inl (.tail _ h)
      · exact .inr h
theorem joinL_len (sep : List Nat) {m : Nat} : ∀ {ls : List (List Nat)}, (∀ l ∈ ls, l.length ≤ m) → (joinL sep ls).length ≤ (m + sep.length) * ls.length
  | [], _ => Nat.zero_le _
  | [x], h => by have := h x (.head _); simp [joinL]; first | lia | omega
  | x :: y :: r, h => by
    have i := joinL_len sep (ls := y :: r) fun l hl => h l (.tail _ hl)
    have := h x (.head _)
    rw [joinL, List.length_append, List.length_append, List.length_cons, Nat.mul_succ]
    first | lia | omega
theorem joinL_mem {sep : List Nat} {x : Nat} : ∀ {ls : List (List Nat)}, x ∈ joinL sep ls → x ∈ sep ∨ ∃ l ∈ ls, x ∈ l
  | [], h => nomatch h
  | [y], h => .inr ⟨y, .head _, h⟩
  | y :: z :: r, h => by
    rw [joinL] at h
    rcases List.mem_append.mp h with h | h
    · rcases List.mem_append.mp h with h | h
      · exact .inr ⟨y, .head _, h⟩
      · exact .inl h
    · rcases joinL_mem h with h | ⟨l, hl, h⟩
      · exact .inl h
      · exact .inr ⟨l, .tail _ hl, h⟩
theorem sum_len {m : Nat} : ∀ {ks : List (List Nat × Tok)}, (∀ p ∈ ks, p.1.length ≤ m) → (ks.map (·.1.length)).sum ≤ m * ks.length
  | [], _ => Nat.zero_le _
  | p :: r, h => by
    have := sum_len (ks := r) fun q hq => h q (.tail _ hq)
    have := h p (.head _)
    rw [List.map_cons, List.sum_cons, List.length_cons, Nat.mul_succ]; first | lia | omega

/-- lists told by their places -/
theorem kF_ext {ks ks' : List (List Nat × Tok)} {f : List Nat → List Nat} (h0 : f [] = []) (hl : ks'.length = ks.length) (h : ∀ i, i < ks'.length → kF ks' i = f (kF ks i)) : kF ks' = fun i => f (kF ks i) := by
  funext i
  by_cases hi : i < ks'.length
  · exact h i hi
  · have e1 : kF ks' i = [] := by simp [kF, List.getD_eq_getElem?_getD, List.getElem?_eq_none (Nat.le_of_not_lt hi)]
    have e2 : kF ks i = [] := by simp [kF, List.getD_eq_getElem?_getD, List.getElem?_eq_none (show ks.length ≤ i by first | lia | omega)]
    rw [e1, e2, h0]
theorem kF_all {ks : List (List Nat × Tok)} {P : List Nat → Prop} (h : ∀ i, i < ks.length → P (kF ks i)) : ∀ p ∈ ks, P p.1 := fun p hp => by
  obtain ⟨i, hi, rfl⟩ := List.mem_iff_getElem.mp hp
  have := h i hi
  simpa [kF, hi] using this
theorem kF_map {ks : List (List Nat × Tok)} {n : Nat} {f : Nat → List Nat} (hl : ks.length = n) (h : ∀ i, i < ks.length → kF ks i = f i) : ks.map (·.1) = (List.range n).map f := by
  refine List.ext_getElem (by simp [hl]) fun i h1 h2 => ?_
  have hi : i < ks.length := by simpa using h1
  have := h i hi
  simp only [List.getElem_map, List.getElem_range]
  rw [← this]; simp [kF, hi]
theorem map_at {β γ : Type} {l : List β} (d : β) (f : β → γ) : (List.range l.length).map (fun i => f (l.getD i d)) = l.map f := by
  refine List.ext_getElem (by simp) fun i h1 h2 => ?_
  have : i < l.length := by simpa using h2
  simp [this]
end Mine
/- MRun3 -/
namespace Mine
open PySem PySem.W PyProof.Rows PySem.Calls
theorem iterK {prog : Program} {w : World} {A : Around} {E : Value → Shared → Prop} {s : Shared} {b h : Heap} {tk : Nat} {L : Addr} {al : List (Str × Value)} {news : List (Addr × Obj)} {ax : Addr} {items : Array Value} {ep : Nat} {Q : Value → Shared → Prop} (S : St b L h al news) (hl : h.get? ax = some (listOf items ep))
    (hq : ∀ it h', Keeps h h' → St b L h' al ((it, lsO (.ref ax) 0) :: news) → (∀ p ∈ news, p.1 < it) → it = h.objs.size → Q (.ref it) (sh s h' tk)) : wpAny (model prog w) A (pyIter (.ref ax)) Q E (sh s h tk) :=
  wpAny_pyIter_list (s := sh s h tk) ⟨_, hl, rfl, _, rfl⟩ (hq _ _ (fun a o e => Heap.get?_push_of_some _ e) (S.push _) S.below rfl)

section
variable {w : World} {A : Around} {E : Value → Shared → Prop} {s : Shared} {g h : Heap} {tk : Nat} {L a ax : Addr} {cn : Str} {cs scope : Scope} {ccd : Value} {cl cl' : List (Str × Addr)} {kind ep : Nat} {vs : List Value} {al : List (Str × Value)} {news : List (Addr × Obj)}
  {iter elt : Expr} {pos q spos py : Pos} {x y : Str}

/-- what is asked of a comprehension's part -/
def EltOk (w : World) (A : Around) (s : Shared) (g : Heap) (news : List (Addr × Obj)) (env : Env) (scope : Scope) (cl : List (Str × Addr)) (x : Str) (vs : List Value) (elt : Expr) (kind : Nat) (P : Nat → List Nat → Prop) : Prop :=
  ∀ gi C, Keeps g gi → (∀ p ∈ news, gi.get? p.1 = some p.2) → ∀ i, i < vs.length → ∀ h' tk' al' news' (Q' : Value → Shared → Prop), St gi C h' ((x, vs.getD i .none) :: al') news' → (∀ l h'' tk'' t'', P i l → Keeps h' h'' → Q' (kv kind l t'') (sh s h'' tk'')) →
    wpAny (model PySem.Challenge.rw_mr0271_01.row.prog w) A (eval elt (compEnvC scope cl C env)) Q' (fun _ _ => False) (sh s h' tk')

theorem compKvV {Q : Value → Shared → Prop} (P : Nat → List Nat → Prop) (S : St g L h al news) (hh : A.handled = none) (hev : ∀ Q' : Value → Shared → Prop, Q' (.ref ax) (sh s h tk) → wpAny (model PySem.Challenge.rw_mr0271_01.row.prog w) A (eval iter (envX cn cs L a ccd cl')) Q' E (sh s h tk)) (hax : h.get? ax = some (listOf vs.toArray ep)) (h64 : vs.length < 64)
    (helt : EltOk w A s g news (envX cn cs L a ccd cl') scope cl x vs elt kind P)
    (hq : ∀ D ks ep' h' tk', ks.length = vs.length → (∀ i, i < ks.length → P i (kF ks i)) → St g L h' al ((D, listOf (kvs kind ks).toArray ep') :: news) → (∀ p ∈ news, p.1 < D) → Q (.ref D) (sh s h' tk'))
    (hclos : closureFor scope (envX cn cs L a ccd cl') = pure cl := by rfl) (hkind : scope.kind = .function := by rfl) (hnames : ∀ x ∈ scope.names, x.2 = .local → scope.names.lookup x.1 = some .local := by decide) (hcell : ∀ y ∈ scope.names, y.2 ≠ .cell := by decide)
    (hs : ∀ x, foldedSetIterable iter (envX cn cs L a ccd cl') x = pure x := by intro _; rfl) (hx : ∀ C, (compEnvC scope cl C (envX cn cs L a ccd cl')).kindOf x = some .local := by intro _; rfl) :
    wpAny (model PySem.Challenge.rw_mr0271_01.row.prog w) A (eval (.ListComp elt [⟨.Name x q, iter, [], 0⟩] scope pos) (envX cn cs L a ccd cl')) Q E (sh s h tk) := by
  refine compV (s := s) (cl := cl) (hev _ (iterK S hax fun it h4 hk4 S4 hlt hit => ?_)) hclos hkind hnames hcell hs

  have hax4 : h4.get? ax = some (listOf vs.toArray ep) := hk4 _ _ hax
  refine ⟨h4, _, [(it, lsO (.ref ax) 0)], rfl, fun p hp => (S4.N p (by rcases List.mem_singleton.mp hp with rfl; exact .head _)).1, fun h₂ tk₂ Q' E' hp hq => iterSelf (hp _ (.head _)) hq, fun gi C h5 tk5 Si hC hgi1 hgi2 hgi3 => ?_⟩
  have hn : ∀ b, b < it → b ∉ [(it, lsO (.ref ax) 0)].map (·.1) := fun b hb hm => by
    simp only [List.map_cons, List.map_nil] at hm
    rw [List.mem_singleton.mp hm] at hb; exact absurd hb (Nat.lt_irrefl _)
  have hold : ∀ b o, h.get? b = some o → gi.get? b = some o := fun b o e => hgi1 b o (hn b (by rw [hit]; exact Heap.lt_size e)) (hk4 b o e)
  have hi4 : it < h4.objs.size := S4.below (it, _) (.head _)
  refine kvLoop P hh (hold _ _ hax) h64 (Nat.ne_of_gt hi4) Si (hx C) hkind (helt gi C (fun b o e => hold b o (S.keep b o e)) (fun p hp => hold _ _ (S.N p hp).1)) fun h6 tk6 al6 ks ep6 hkl hP Sf => ?_
  have hnw : ∀ p ∈ [(h4.objs.size, listOf (kvs kind ks).toArray ep6), (it, lsO .none vs.length)], p.1 ∈ [(it, lsO (.ref ax) 0)].map (·.1) ∨ h4.objs.size ≤ p.1 := fun p hp => by
    rcases List.mem_cons.mp hp with rfl | hp
    · exact .inr (Nat.le_refl _)
    · rcases List.mem_singleton.mp hp with rfl; exact .inl (.head _)
  have hrest : ∀ p ∈ news, p ∈ (it, lsO (.ref ax) 0) :: news ∧ p.1 ∉ [(it, lsO (.ref ax) 0)].map (·.1) := fun p hp => ⟨.tail _ hp, hn _ (hlt p hp)⟩
  have hhide : ∀ p ∈ [(it, lsO (.ref ax) 0)], p ∈ (it, lsO (.ref ax) 0) :: news := fun p hp => by rcases List.mem_singleton.mp hp with rfl; exact .head _
  have hsub : ∀ p ∈ (h4.objs.size, listOf (kvs kind ks).toArray ep6) :: news, p ∈ [(h4.objs.size, listOf (kvs kind ks).toArray ep6), (it, lsO .none vs.length)] ++ news := fun p hp => by
    rcases List.mem_cons.mp hp with rfl | hp
    · exact .head _
    · exact .tail _ (.tail _ hp)
  have hlt4 : ∀ p ∈ news, p.1 < h4.objs.size := fun p hp => Nat.lt_trans (hlt p hp) hi4

  exact compEnd (rest := news) S4 hhide hrest hgi1 Sf hC hnw fun h7 S7 => hq _ ks ep6 h7 tk6 hkl hP (S7.sub hsub) hlt4

theorem compKvA {Q : Flow → Shared → Prop} (P : Nat → List Nat → Prop) (S : St g L h al news) (hh : A.handled = none) (hev : ∀ Q' : Value → Shared → Prop, Q' (.ref ax) (sh s h tk) → wpAny (model PySem.Challenge.rw_mr0271_01.row.prog w) A (eval iter (envX cn cs L a ccd cl')) Q' E (sh s h tk)) (hax : h.get? ax = some (listOf vs.toArray ep)) (h64 : vs.length < 64)
    (helt : EltOk w A s g news (envX cn cs L a ccd cl') scope cl x vs elt kind P)
    (hq : ∀ D ks ep' h' tk', ks.length = vs.length → (∀ i, i < ks.length → P i (kF ks i)) → St g L h' ((y, .ref D) :: al) ((D, listOf (kvs kind ks).toArray ep') :: news) → (∀ p ∈ news, p.1 < D) → Q .next (sh s h' tk'))
    (hsw : swapsWith (.ListComp elt [⟨.Name x q, iter, [], 0⟩] scope pos) (some (.Name y py)) spos.line (envX cn cs L a ccd cl') = pure true := by rfl)
    (hclos : closureFor scope (envX cn cs L a ccd cl') = pure cl := by rfl) (hkind : scope.kind = .function := by rfl) (hnames : ∀ x ∈ scope.names, x.2 = .local → scope.names.lookup x.1 = some .local := by decide) (hcell : ∀ y ∈ scope.names, y.2 ≠ .cell := by decide)
    (hs : ∀ x, foldedSetIterable iter (envX cn cs L a ccd cl') x = pure x := by intro _; rfl) (hx : ∀ C, (compEnvC scope cl C (envX cn cs L a ccd cl')).kindOf x = some .local := by intro _; rfl) (hck : cs.kind = .function := by rfl) (hy : (envX cn cs L a ccd cl').kindOf y = some .local := by rfl) :
    wpAny (model PySem.Challenge.rw_mr0271_01.row.prog w) A (exec (.Assign [.Name y py] (.ListComp elt [⟨.Name x q, iter, [], 0⟩] scope pos) spos) (envX cn cs L a ccd cl')) Q E (sh s h tk) := by
  refine compA (s := s) (cl := cl) (hev _ (iterK S hax fun it h4 hk4 S4 hlt hit => ?_)) hsw hclos hkind hnames hcell hs

  have hax4 : h4.get? ax = some (listOf vs.toArray ep) := hk4 _ _ hax
  refine ⟨h4, _, [(it, lsO (.ref ax) 0)], rfl, fun p hp => (S4.N p (by rcases List.mem_singleton.mp hp with rfl; exact .head _)).1, fun h₂ tk₂ Q' E' hp hq => iterSelf (hp _ (.head _)) hq, fun gi C h5 tk5 Si hC hgi1 hgi2 hgi3 => ?_⟩
  have hn : ∀ b, b < it → b ∉ [(it, lsO (.ref ax) 0)].map (·.1) := fun b hb hm => by
    simp only [List.map_cons, List.map_nil] at hm
    rw [List.mem_singleton.mp hm] at hb; exact absurd hb (Nat.lt_irrefl _)
  have hold : ∀ b o, h.get? b = some o → gi.get? b = some o := fun b o e => hgi1 b o (hn b (by rw [hit]; exact Heap.lt_size e)) (hk4 b o e)
  have hi4 : it < h4.objs.size := S4.below (it, _) (.head _)
  refine kvLoop P hh (hold _ _ hax) h64 (Nat.ne_of_gt hi4) Si (hx C) hkind (helt gi C (fun b o e => hold b o (S.keep b o e)) (fun p hp => hold _ _ (S.N p hp).1)) fun h6 tk6 al6 ks ep6 hkl hP Sf => ?_
  have hnw : ∀ p ∈ [(h4.objs.size, listOf (kvs kind ks).toArray ep6), (it, lsO .none vs.length)], p.1 ∈ [(it, lsO (.ref ax) 0)].map (·.1) ∨ h4.objs.size ≤ p.1 := fun p hp => by
    rcases List.mem_cons.mp hp with rfl | hp
    · exact .inr (Nat.le_refl _)
    · rcases List.mem_singleton.mp hp with rfl; exact .inl (.head _)
  have hrest : ∀ p ∈ news, p ∈ (it, lsO (.ref ax) 0) :: news ∧ p.1 ∉ [(it, lsO (.ref ax) 0)].map (·.1) := fun p hp => ⟨.tail _ hp, hn _ (hlt p hp)⟩
  have hhide : ∀ p ∈ [(it, lsO (.ref ax) 0)], p ∈ (it, lsO (.ref ax) 0) :: news := fun p hp => by rcases List.mem_singleton.mp hp with rfl; exact .head _
  have hsub : ∀ p ∈ (h4.objs.size, listOf (kvs kind ks).toArray ep6) :: news, p ∈ [(h4.objs.size, listOf (kvs kind ks).toArray ep6), (it, lsO .none vs.length)] ++ news := fun p hp => by
    rcases List.mem_cons.mp hp with rfl | hp
    · exact .head _
    · exact .tail _ (.tail _ hp)
  have hlt4 : ∀ p ∈ news, p.1 < h4.objs.size := fun p hp => Nat.lt_trans (hlt p hp) hi4

  refine compEndU (rest := news) S4 hhide hrest hgi1 Sf hC hnw fun oC So hne => ?_
  exact wpAny_assign_Name (storeL So (fun h7 tk7 So => ⟨h7, tk7, _, _, rfl, So, hne, fun h8 S8 => hq _ ks ep6 h8 tk7 hkl hP (S8.sub hsub) hlt4⟩) hck hy)
end

/-- the contract of nsmallest and of nlargest -/
def SelOk (fn : Addr) (gt : Bool) : Prop := ∀ {w : World} {A : Around} {s : Shared} {b b₂ h : Heap} {tk : Nat} {Q E : Value → Shared → Prop} {n : Int} {t : Tok} {arg : Value} {kf ax : Addr} {kind N ep : Nat} {K : Nat → List Nat} {vs : List Value} {hide fl : List (Addr × Obj)} {outer : List Env}
  (_ : Ba w b) (_ : Keeps b h) (_ : A.depth + 8 < recursionLimit) (_ : A.handled = none) (_ : A.units < 300) (_ : A.frames = some outer) (_ : FrOk outer fl)
  (_ : Given ax fl arg hide) (_ : ∀ p ∈ hide, h.get? p.1 = some p.2 ∧ b.get? p.1 = none)
  (_ : KeyOk w s kf b₂ kind K N) (_ : ∀ h', Keeps b₂ h' → FnAt kf h') (_ : ∀ a o, b₂.get? a = some o → h.get? a = some o ∧ a ∉ hide.map (·.1))
  (_ : h.get? ax = some (listOf vs.toArray ep)) (_ : ax ∉ hide.map (·.1)) (_ : IntsAre vs ((List.range N).map Int.ofNat)) (_ : 2 ≤ N) (_ : N < 63) (_ : -64 < n) (_ : n < 64)
  (_ : ∀ D its ep' h' tk' fl', SlotsOf fl fl' → (∀ p ∈ fl', h'.get? p.1 = some p.2) → KeepsBut (hide.map (·.1)) h h' → h.get? D = none → h'.get? D = some (listOf (List.toArray its) ep') →
    IntsAre its (((srt (aheadR gt K) N).take n.toNat).map Int.ofNat) → Q (.ref D) (sh s h' tk')),
  wpAny (model PySem.Challenge.rw_mr0271_01.row.prog w) A (call (.ref fn) [.int n t, arg] [(Str.ofString "key", .ref kf)]) Q E (sh s h tk)

theorem St.swap {g h : Heap} {L : Addr} {al : List (Str × Value)} {a b : Addr × Obj} {rest : List (Addr × Obj)} (S : St g L h al (a :: (rest ++ [b]))) : St g L h al (a :: b :: rest) := S.sub fun p hp => by
  rcases List.mem_cons.mp hp with rfl | hp
  · exact .head _
  · rcases List.mem_cons.mp hp with rfl | hp
    · exact .tail _ (List.mem_append_right _ (.head _))
    · exact .tail _ (List.mem_append_left _ hp)
theorem St.turn {g h : Heap} {L : Addr} {al : List (Str × Value)} {a b : Addr × Obj} {rest : List (Addr × Obj)} (S : St g L h al (a :: b :: rest)) : St g L h al (b :: a :: rest) := S.sub fun p hp => by
  rcases List.mem_cons.mp hp with rfl | hp
  · exact .tail _ (.head _)
  · rcases List.mem_cons.mp hp with rfl | hp
    · exact .head _
    · exact .tail _ (.tail _ hp)
theorem St.pop {g h : Heap} {L : Addr} {al : List (Str × Value)} {a : Addr × Obj} {rest : List (Addr × Obj)} (S : St g L h al (a :: rest)) : St g L h al rest := S.sub fun p hp => .tail _ hp

/-- the list of places, or an iterator of it -/
inductive Arg (ax : Addr) (news : List (Addr × Obj)) : Value → List Addr → Prop
  | lst : Arg ax news (.ref ax) []
  | itr {it : Addr} : (it, lsO (.ref ax) 0) ∈ news → Arg ax news (.ref it) [it]

theorem sel_use {w : World} {A : Around} {s : Shared} {g h : Heap} {tk : Nat} {Q E : Value → Shared → Prop} {L Lw : Addr} {ow : Obj} {al : List (Str × Value)} {news rest : List (Addr × Obj)} {fn : Addr} {gt : Bool} {n : Int} {t : Tok} {arg : Value} {its0 : List Addr} {kf ax : Addr} {kind N ep : Nat} {K : Nat → List Nat} {vs : List Value} {env : Env} {outer : List Env}
    (H : SelOk fn gt) (S : St g L h al news) (B : Ba w g) (hroom : A.depth + 8 < recursionLimit) (hh : A.handled = none) (hun : A.units < 300) (hfr : A.frames = some (env :: outer)) (hk : env.scope.kind ≠ .module) (hL : env.frame = some L) (hfo : FrOk outer [(Lw, ow)]) (hLw : (Lw, ow) ∈ news) (G : Arg ax news arg its0)
    (hrest : ∀ p ∈ rest, p ∈ news ∧ p.1 ≠ Lw ∧ p.1 ∉ its0) (hax : (ax, listOf vs.toArray ep) ∈ rest) (hiL : Lw ∉ its0)
    (hkey : ∀ b₂, Keeps g b₂ → (∀ p ∈ rest, b₂.get? p.1 = some p.2) → KeyOk w s kf b₂ kind K N ∧ ∀ h', Keeps b₂ h' → FnAt kf h')
    (hv : IntsAre vs ((List.range N).map Int.ofNat)) (h2 : 2 ≤ N) (h63 : N < 63) (hn1 : -64 < n) (hn2 : n < 64)
    (hq : ∀ D its ep' ow' h' tk', FrOk outer [(Lw, ow')] → St g L h' al ((D, listOf (List.toArray its) ep') :: (Lw, ow') :: rest) → h.get? D = none → IntsAre its (((srt (aheadR gt K) N).take n.toNat).map Int.ofNat) → Q (.ref D) (sh s h' tk')) :
    wpAny (model PySem.Challenge.rw_mr0271_01.row.prog w) A (call (.ref fn) [.int n t, arg] [(Str.ofString "key", .ref kf)]) Q E (sh s h tk) := by
  obtain ⟨oL, hoL, hoLd, hgL⟩ := S.obj
  have hLwL : Lw ≠ L := (S.N _ hLw).2.1
  obtain ⟨hide, hG, hN, hmap⟩ : ∃ hide, Given ax [(L, oL), (Lw, ow)] arg hide ∧ (∀ p ∈ hide, h.get? p.1 = some p.2 ∧ g.get? p.1 = none) ∧ hide.map (·.1) = its0 ++ [L, Lw] := by
    have h0 : ∀ p ∈ [(L, oL), (Lw, ow)], h.get? p.1 = some p.2 ∧ g.get? p.1 = none := fun p hp => by
      rcases List.mem_cons.mp hp with rfl | hp
      · exact ⟨hoL, hgL⟩
      · rcases List.mem_singleton.mp hp with rfl
        exact ⟨(S.N _ hLw).1, (S.N _ hLw).2.2⟩
    cases G with
    | lst => exact ⟨_, .lst, h0, rfl⟩
    | itr hm =>
      rename_i it
      refine ⟨_, .itr (fun q => ?_), fun p hp => ?_, rfl⟩
      · simp only [List.map_cons, List.map_nil] at q
        rcases List.mem_cons.mp q with q | q
        · exact (S.N _ hm).2.1 q
        · exact hiL (by rw [List.mem_singleton.mp q]; exact .head _)
      · rcases List.mem_cons.mp hp with rfl | hp
        · exact ⟨(S.N _ hm).1, (S.N _ hm).2.2⟩
        · exact h0 p hp
  have hrh : ∀ p ∈ rest, p.1 ∉ hide.map (·.1) := fun p hp q => by
    rw [hmap] at q
    rcases List.mem_append.mp q with q | q
    · exact (hrest p hp).2.2 q
    · rcases List.mem_cons.mp q with q | q
      · exact (S.N _ (hrest p hp).1).2.1 q
      · exact (hrest p hp).2.1 (List.mem_singleton.mp q)
  have hgh : ∀ b o, g.get? b = some o → b ∉ hide.map (·.1) := fun b o e q => by
    obtain ⟨p, hp, rfl⟩ := List.mem_map.mp q
    rw [(hN p hp).2] at e; cases e
  obtain ⟨k1, k2⟩ := hkey (hideAll h (hide.map (·.1))) (fun b o e => hideAll_get _ (S.keep b o e) (hgh b o e)) fun p hp => hideAll_get _ (S.N p (hrest p hp).1).1 (hrh p hp)
  refine H B S.keep hroom hh hun hfr (.cons hk hL hoLd hfo) hG hN k1 k2 (fun b o e => ⟨of_hideAll _ e, fun q => ?_⟩) (S.N _ (hrest _ hax).1).1 (hrh _ hax) hv h2 h63 hn1 hn2 fun D its ep' h' tk' fl' hsl hfl hkb hDn hD hints => ?_
  · rw [hideAll_none _ q] at e; cases e
  cases hsl with
  | cons sl hsl =>
    cases hsl with
    | cons sl2 hsl =>
      cases hsl
      refine hq D its ep' _ h' tk' (hfo.slots (.cons sl2 .nil)) (St.swap (S.after (hs := hide.map (·.1)) hoL (fun b hb => ?_) hkb (hfl _ (.head _)) (fun p hp => ⟨(hrest p hp).1, hrh p hp⟩) (fun p hp => ?_) (fun p hp => ?_) hD hDn)) hDn hints
      · obtain ⟨p, hp, rfl⟩ := List.mem_map.mp hb
        exact (hN p hp).2
      · rcases List.mem_singleton.mp hp with rfl
        exact hfl _ (.tail _ (.head _))
      · rcases List.mem_singleton.mp hp with rfl
        exact ⟨ow, hLw⟩

/-- _law_order(x, greatest)[:some] -/
theorem orderUpto {w : World} {A : Around} {E : Value → Shared → Prop} {s : Shared} {g h : Heap} {tk : Nat} {L a lk : Addr} {cn : Str} {cs : Scope} {ccd : Value} {cl : List (Str × Addr)} {kind epk : Nat} {ks : List (List Nat × Tok)} {al : List (Str × Value)} {news : List (Addr × Obj)} {gt : Bool} {y : Int} {t : Tok} {v : Str} {p1 p2 p3 p4 p5 p6 p7 : Pos} {k : Nat} {Q : Value → Shared → Prop}
    (S : St g L h al news) (B : Ba w g) (hroom : A.depth < recursionLimit) (hh : A.handled = none) (hev : ∀ Q' : Value → Shared → Prop, Q' (.ref lk) (sh s h tk) → wpAny (model PySem.Challenge.rw_mr0271_01.row.prog w) A (eval (.Name v p2) (envX cn cs L a ccd cl)) Q' E (sh s h tk))
    (hlk : h.get? lk = some (listOf (kvs kind ks).toArray epk)) (hk : ∀ p ∈ ks, KOk kind p.1) (h63 : ks.length < 64) (hsm : al.lookup ("some" : Str) = some (.int y t)) (hy : 0 ≤ y)
    (hq : ∀ D its ep h' tk', IntsAre its (((srt (aheadR gt (kF ks)) ks.length).take y.toNat).map Int.ofNat) → St g L h' al ((D, listOf (List.toArray its) ep) :: news) → Q (.ref D) (sh s h' tk'))
    (hck : cs.kind = .function := by rfl) (h1 : (envX cn cs L a ccd cl).kindOf "_law_order" = some .globalImplicit := by rfl) (h2 : (envX cn cs L a ccd cl).kindOf "some" = some .local := by rfl) :
    wpAny (model PySem.Challenge.rw_mr0271_01.row.prog w) A (eval (.Subscript (.Call (.Name "_law_order" p1) [.Name v p2, .Constant (.bool gt) k p3] [] p4) (.Slice none (some (.Name "some" p5)) none p6) p7) (envX cn cs L a ccd cl)) Q E (sh s h tk) := by
  refine upto (b := g) (L := L) ?_
  refine Call_ (nameK B S (by k_is) (callWith_K (K := hd.heap_39 w.params) B.X (by k_is) (args_cons (hev _ (args_cons (wpAny_Constant_bool (args_nil ⟨B.X.keeps S.keep, ?_⟩)))))) hck h1 (by decide))
  refine law_order B S.keep hroom hh hk h63 hlk fun D its ep h4 tk4 hk4 hD hints hDn => ?_
  have S4 := S.fresh' hk4 hDn hD
  have hil : its.length = ks.length := by have := hints.length; simpa [srt_len] using this
  refine ⟨D, h4, tk4, its.toArray, ep, rfl, rfl, hD, by rw [sizeLine_eq, List.size_toArray]; first | lia | omega, ?_⟩
  refine nameL S4 hsm ⟨y, t, h4, tk4, al, _, rfl, rfl, hD, S4, fun D2 h5 S5 _ _ => ?_⟩ hck h2 (by decide)
  refine hq D2 (slicePick its.toArray none (some y) none).toList 0 h5 tk4 ?_ (S5.sub fun p hp => ?_)
  · have := slice_ints_uptoW hints hy
    rw [List.map_take]; exact this
  · rcases List.mem_cons.mp hp with rfl | hp
    · rw [Array.toArray_toList]; exact .head _
    · exact .tail _ (.tail _ hp)
end Mine
/- MRun4 -/
namespace Mine
open PySem PySem.W PyProof.Rows PySem.Calls
section
variable {w : World} {A : Around} {E : Value → Shared → Prop} {s : Shared} {g h : Heap} {tk : Nat} {L a c D : Addr} {oc : Obj} {cn : Str} {cs scope : Scope} {ccd : Value} {cl' : List (Str × Addr)} {kind ep : Nat} {vs : List Value} {ls : List Nat} {ks : List (List Nat × Tok)} {al : List (Str × Value)} {news : List (Addr × Obj)}
  {p1 p2 p3 p4 p5 : Pos} {v : Str}

theorem getD_ints (hv : IntsAre vs (ls.map Int.ofNat)) {i : Nat} (hi : i < vs.length) : ∃ t, vs.getD i .none = .int ((ls.getD i 0 : Nat) : Int) t := by
  have hl : vs.length = ls.length := by have := hv.length; simpa using this
  obtain ⟨t, ht⟩ := intsAre_get hv (i := i) (by first | lia | omega)
  refine ⟨t, ?_⟩
  have e : ls[i]'(by first | lia | omega) = ls.getD i 0 := by simp [show i < ls.length by first | lia | omega]
  rw [List.getD_eq_getElem?_getD, ht, ← e]; rfl
theorem getD_lt {n : Nat} (hls : ∀ x ∈ ls, x < n) {i : Nat} (hi : i < ls.length) : ls.getD i 0 < n := by
  have : ls.getD i 0 ∈ ls := by simp [List.getD, hi]
  exact hls _ this

/-- x[place] -/
theorem elt_pick (hc : (c, oc) ∈ news) (hoc : oc.data = .cell (some (.ref D))) (hD : (D, listOf (kvs kind ks).toArray ep) ∈ news) (hv : IntsAre vs (ls.map Int.ofNat)) (hls : ∀ x ∈ ls, x < ks.length) (h64 : ks.length < 64) (hsk : scope.kind = .function)
    (h1 : ∀ C, (compEnvC scope [(v, c)] C (envX cn cs L a ccd cl')).kindOf v = some .cell) (h2 : ∀ C, (compEnvC scope [(v, c)] C (envX cn cs L a ccd cl')).kindOf "place" = some .local) (hvd : (v == ("__debug__" : Str)) = false) :
    EltOk w A s g news (envX cn cs L a ccd cl') scope [(v, c)] "place" vs (.Subscript (.Name v p1) (.Name "place" p2) p3) kind (fun i l => l = kF ks (ls.getD i 0)) := by
  intro gi C hk hn i hi h' tk' al' news' Q' Si hq
  have hl : vs.length = ls.length := by have := hv.length; simpa using this
  obtain ⟨t, ht⟩ := getD_ints hv hi
  rw [ht] at Si
  have hlt := getD_lt hls (i := i) (by first | lia | omega)
  obtain ⟨t1, ht1⟩ := kvs_get (kind := kind) hlt
  refine Subscript_ (nameCC (Si.keep _ _ (hn _ hc)) (by simp [List.lookup]) hoc ?_ hsk (h1 C) hvd)
  refine nameCL Si rfl (getL (Si.keep _ _ (hn _ hD)) (by first | lia | omega) (by first | lia | omega) (by simpa using ht1) ?_) hsk (h2 C) (by decide)
  exact hq _ _ _ _ rfl (Keeps.refl _)

/-- _law_dots(x[place]) -/
theorem elt_dots (B : Ba w g) (hh : A.handled = none) (hroom : A.depth < recursionLimit) (hc : (c, oc) ∈ news) (hoc : oc.data = .cell (some (.ref D))) (hD : (D, listOf (kvs 1 ks).toArray ep) ∈ news) (hv : IntsAre vs (ls.map Int.ofNat)) (hls : ∀ x ∈ ls, x < ks.length) (h64 : ks.length < 64)
    (hk3 : ∀ p ∈ ks, (∀ x ∈ p.1, x < 256) ∧ p.1.length ≤ 3) (hsk : scope.kind = .function)
    (h1 : ∀ C, (compEnvC scope [(v, c)] C (envX cn cs L a ccd cl')).kindOf v = some .cell) (h2 : ∀ C, (compEnvC scope [(v, c)] C (envX cn cs L a ccd cl')).kindOf "place" = some .local) (h3 : ∀ C, (compEnvC scope [(v, c)] C (envX cn cs L a ccd cl')).kindOf "_law_dots" = some .globalImplicit) (hvd : (v == ("__debug__" : Str)) = false) :
    EltOk w A s g news (envX cn cs L a ccd cl') scope [(v, c)] "place" vs (.Call (.Name "_law_dots" p4) [.Subscript (.Name v p1) (.Name "place" p2) p3] [] p5) 1 (fun i l => l = qF true (kF ks (ls.getD i 0))) := by
  intro gi C hk hn i hi h' tk' al' news' Q' Si hq
  have Bi := B.keeps hk
  have hl : vs.length = ls.length := by have := hv.length; simpa using this
  obtain ⟨t, ht⟩ := getD_ints hv hi
  rw [ht] at Si
  have hlt := getD_lt hls (i := i) (by first | lia | omega)
  obtain ⟨t1, ht1⟩ := kvs_get (kind := 1) hlt
  have hm : (∀ x ∈ kF ks (ls.getD i 0), x < 256) ∧ (kF ks (ls.getD i 0)).length ≤ 3 := by
    have : kF ks (ls.getD i 0) = ks[ls.getD i 0].1 := by simp only [kF]; rw [List.getD_eq_getElem?_getD, List.getElem?_eq_getElem hlt]; rfl
    rw [this]; exact hk3 _ (List.getElem_mem hlt)
  refine Call_ (nameCK Bi Si (by k_is) (callWith_K (K := hd.heap_39 w.params) Bi.X (by k_is) (args_cons (Subscript_ (nameCC (Si.keep _ _ (hn _ hc)) (by simp [List.lookup]) hoc ?_ hsk (h1 C) hvd)))) hsk (h3 C) (by decide))
  refine nameCL Si rfl (getL (Si.keep _ _ (hn _ hD)) (by first | lia | omega) (by first | lia | omega) (by simpa using ht1) (args_nil ⟨Bi.X.keeps Si.keep, ?_⟩)) hsk (h2 C) (by decide)
  exact law_dots Bi Si.keep hroom hh (by first | lia | omega) hm.1 (srcBytes w s _ t1 hm.1) fun h'' tk'' t'' hk' => hq _ h'' tk'' t'' rfl hk'

/-- the last loop: each text alone -/
theorem aloneLoop {Q : Flow → Shared → Prop} {q1 q2 q3 q4 q5 q6 q7 q8 q9 q10 q11 q12 q13 q14 q15 q16 q17 q18 q19 q20 q21 q22 : Pos} {sc : Scope} {Dg Da Db : Addr} {eg ea eb : Nat} {kb : List (List Nat × Tok)} {rest : List (Addr × Obj)} {mv : Value} (B : Ba w g) (hh : A.handled = none) (hroom : A.depth < recursionLimit)
    (S : St g L h [("alone", .ref Da), ("bare", .ref Db), ("greatest", .ref Dg), ("mail", mv)] ((Da, listOf #[] ea) :: rest)) (hg : (Dg, listOf vs.toArray eg) ∈ rest) (hb : (Db, listOf (kvs 0 kb).toArray eb) ∈ rest) (hne : ∀ p ∈ rest, p.1 ≠ Da)
    (hv : IntsAre vs (ls.map Int.ofNat)) (hls : ∀ x ∈ ls, x < kb.length) (h64 : kb.length < 64) (hl64 : ls.length < 64) (hk6 : ∀ p ∈ kb, (∀ x ∈ p.1, x < 256) ∧ p.1.length ≤ 6)
    (V : ∀ x ∈ (["alone", "bare", "greatest", "place", "octets"] : List Str), (envX cn cs L a ccd cl').kindOf x = some .local) (hck : cs.kind = .function) (g1 : (envX cn cs L a ccd cl').kindOf "_law_text" = some .globalImplicit) (g2 : (envX cn cs L a ccd cl').kindOf "_law_dots" = some .globalImplicit)
    (hsw : swapsWith (.ListComp (.Call (.Name "ord" q3) [.Name "sign" q4] [] q5) [⟨.Name "sign" q6, .Subscript (.Name "bare" q7) (.Name "place" q8) q9, [], 0⟩] sc q10) (some (.Name "octets" q11)) q12.line (envX cn cs L a ccd cl') = pure true) (hclos : closureFor sc (envX cn cs L a ccd cl') = pure []) (hsk : sc.kind = .function)
    (hnames : ∀ x ∈ sc.names, x.2 = .local → sc.names.lookup x.1 = some .local) (hcell : ∀ y ∈ sc.names, y.2 ≠ .cell) (s1 : ∀ C, (compEnvC sc [] C (envX cn cs L a ccd cl')).kindOf "sign" = some .local) (s2 : ∀ C, (compEnvC sc [] C (envX cn cs L a ccd cl')).kindOf "ord" = some .globalImplicit)
    (hbase : attributeBase (.Name "alone" q13) "append" (envX cn cs L a ccd cl') (eval (.Name "alone" q13) (envX cn cs L a ccd cl')) = eval (.Name "alone" q13) (envX cn cs L a ccd cl')) (hline : (q14.endLine == q15.line) = true)
    (hR : ∀ h' tk' ka ea', ka.map (·.1) = ls.map (fun x => qF true (kF kb x)) → St g L h' [("alone", .ref Da), ("mail", mv)] ((Da, listOf (kvs 0 ka).toArray ea') :: rest) → Q .next (sh s h' tk')) :
    wpAny (model PySem.Challenge.rw_mr0271_01.row.prog w) A (exec (.For (.Name "place" q1) (.Name "greatest" q2) [.Assign [.Name "octets" q11] (.ListComp (.Call (.Name "ord" q3) [.Name "sign" q4] [] q5) [⟨.Name "sign" q6, .Subscript (.Name "bare" q7) (.Name "place" q8) q9, [], 0⟩] sc q10) q12,
      .Expr (.Call (.Attribute (.Name "alone" q13) "append" q14) [.Call (.Name "_law_text" q16) [.Call (.Name "_law_dots" q17) [.Name "octets" q18] [] q19] [] q20] [] q15) q21] [] q22) (envX cn cs L a ccd cl')) Q E (sh s h tk) := by
  have hvl : vs.length = ls.length := by have := hv.length; simpa using this
  have hint : interactive (envX cn cs L a ccd cl') = false := by unfold interactive; rw [show (envX cn cs L a ccd cl').scope.kind = .function from hck]; rfl
  refine for_ (nameL S rfl (iterK S (S.N.get (.tail _ hg)) fun it h4 hk4 S hlt hit => ?_) hck (V _ (by decide)) (by decide))
  refine forL (fun n h => ∃ (j : Nat) (ka : List (List Nat × Tok)) (ea' : Nat), St g L h [("alone", .ref Da), ("bare", .ref Db), ("mail", mv)] ((it, lsO (.ref Dg) j) :: (Da, listOf (kvs 0 ka).toArray ea') :: rest) ∧ ka.map (·.1) = (ls.take j).map (fun x => qF true (kF kb x)) ∧ j ≤ ls.length ∧ n = ls.length - j) ls.length
    ⟨0, [], ea, S.weaken (by walk_at "al") (fun _ hp => hp), by simp, Nat.zero_le _, rfl⟩ ?_
  clear S
  rintro n h tk ⟨j, ka, ea', S, hka, hj, hn⟩
  have hkl : ka.length = j := by have := congrArg List.length hka; simp at this; first | lia | omega
  have hDai : Da < it := hlt (Da, _) (.head _)
  have hnit : ∀ p ∈ (Da, listOf (kvs 0 ka).toArray ea') :: rest, p.1 ≠ it := fun p hp => by
    rcases List.mem_cons.mp hp with rfl | hp
    · exact Nat.ne_of_lt hDai
    · exact Nat.ne_of_lt (hlt p (.tail _ hp))
  by_cases hjl : j < ls.length
  · obtain ⟨t0, ht0⟩ := getD_ints hv (i := j) (by first | lia | omega)
    obtain ⟨e0, _⟩ := getD_mem (its := vs) (i := j) (by first | lia | omega)
    rw [ht0] at e0
    refine nxL (x := .int ((ls.getD j 0 : Nat) : Int) t0) S (.head hnit) (S.N.get (.tail _ (.tail _ hg))) (by simpa using e0) fun h5 S => ?_
    refine wpAny_assign_Name (storeL S (fun h6 tk6 S => ?_) hck (V _ (by decide)))
    have hpl := getD_lt hls hjl
    obtain ⟨t1, ht1⟩ := kvs_get (kind := 0) hpl
    have hm : (∀ x ∈ kF kb (ls.getD j 0), x < 256) ∧ (kF kb (ls.getD j 0)).length ≤ 6 := by
      have : kF kb (ls.getD j 0) = kb[ls.getD j 0].1 := by simp only [kF]; rw [List.getD_eq_getElem?_getD, List.getElem?_eq_getElem hpl]; rfl
      rw [this]; exact hk6 _ (List.getElem_mem hpl)
    refine exN (compA (s := s) (cl := []) ?_ hsw hclos hsk hnames hcell (fun _ => rfl))
    refine Subscript_ (nameL S rfl (nameL S rfl (getL (x := kv 0 (kF kb (ls.getD j 0)) t1) (S.N.get (.tail _ (.tail _ hb))) (by first | lia | omega) (by first | lia | omega) (by simpa using ht1) ?_) hck (V _ (by decide)) (by decide)) hck (V _ (by decide)) (by decide))
    show wpAny _ _ (pyIter (.str ⟨(kF kb (ls.getD j 0)).toArray⟩ t1)) _ _ _
    refine iterS S fun it2 o₀ h7 hbit S hlt2 hsz2 => ?_
    refine ⟨h7, _, [(it2, o₀)], rfl, fun p hp => (S.N p (by rcases List.mem_singleton.mp hp with rfl; exact .head _)).1, fun h₂ tk₂ Q' E' hp hq => selfS hbit (hp _ (.head _)) hq, fun gi C h8 tk8 Si hC hgi1 hgi2 hgi3 => ?_⟩
    have Bi := B.inner S (hide := [(it2, o₀)]) (fun p hp => by rcases List.mem_singleton.mp hp with rfl; exact .head _) hgi1
    have hi7 : it2 < h7.objs.size := S.below (it2, _) (.head _)
    refine ordLoop hh Bi (by first | lia | omega) (Nat.ne_of_gt hi7) hbit Si (by k_is) (s1 C) (s2 C) hsk fun h9 tk9 al9 ys ep9 hys Sf => ?_
    refine compEndU (hide := [(it2, o₀)]) (rest := (it, lsO (.ref Dg) (j + 1)) :: (Da, listOf (kvs 0 ka).toArray ea') :: rest) S (fun p hp => by rcases List.mem_singleton.mp hp with rfl; exact .head _) (fun p hp => ⟨.tail _ hp, fun q => ?_⟩) hgi1 Sf hC (fun p hp => by rcases List.mem_singleton.mp hp with rfl; exact .inr (Nat.le_refl _)) fun oC So hneC => ?_
    · have := hlt2 p hp
      simp only [List.map_cons, List.map_nil] at q
      rw [List.mem_singleton.mp q] at this; exact absurd this (Nat.lt_irrefl _)
    refine wpAny_assign_Name (storeL So (fun h10 tk10 So => ⟨h10, tk10, _, _, rfl, So, hneC, fun h11 S11 => ?_⟩) hck (V _ (by decide)))
    have hbig : ∀ p ∈ (it, lsO (.ref Dg) (j + 1)) :: (Da, listOf (kvs 0 ka).toArray ea') :: rest, p.1 < h7.objs.size := fun p hp => S.below p (.tail _ hp)
    have S := S11
    clear So S11 Si Sf
    refine exN (wpAny_Expr ?_ hint rfl)
    refine Call_method1 hbase rfl hline (nameL S rfl (appM (b := g) (L := L) (S.N.get (.tail _ (.tail _ (.head _)))) ?_) hck (V _ (by decide)) (by decide))
    refine Call_ (nameK B S (by k_is) (callWith_K (K := hd.heap_39 w.params) B.X (by k_is) (args_cons ?_)) hck g1 (by decide))
    refine Call_ (nameK B S (by k_is) (callWith_K (K := hd.heap_39 w.params) B.X (by k_is) (args_cons (nameL S rfl (args_nil ⟨B.X.keeps S.keep, ?_⟩) hck (V _ (by decide)) (by decide)))) hck g2 (by decide))
    refine law_dots B S.keep hroom hh (by first | lia | omega) hm.1 (srcList w s (S.N.get (.head _)) hys) fun h12 tk12 t12 hk12 => ?_
    have S := S.grow hk12
    refine args_nil ⟨B.X.keeps S.keep, ?_⟩
    have hql := qF_len (kF kb (ls.getD j 0)) true
    refine law_text B S.keep hroom hh (by first | lia | omega) (fun x hx => ?_) fun h13 tk13 t13 hk13 => ?_
    · rcases qF_mem hx with h | h
      · exact hm.1 x h
      · first | lia | omega
    have S := S.grow hk13
    refine ⟨_, _, _, h13, tk13, ea', rfl, S, .tail (Nat.ne_of_gt (hbig _ (.tail _ (.head _)))) (.tail (Nat.ne_of_gt hDai) (.head hne)), by rw [sizeLine_eq, List.size_toArray]; simp [kvs]; first | lia | omega, fun h14 S => wpAny_execs_nil ?_⟩
    have e : (kvs 0 ka).toArray.push (kv 0 (qF true (kF kb (ls.getD j 0))) t13) = (kvs 0 (ka ++ [(qF true (kF kb (ls.getD j 0)), t13)])).toArray := by simp [kvs]
    rw [e] at S
    refine ⟨ls.length - (j + 1), _, _, rfl, by first | lia | omega, j + 1, ka ++ [(qF true (kF kb (ls.getD j 0)), t13)], ea' + 1, S.weaken (by walk_at "al") (fun p hp => .tail _ hp), ?_, hjl, rfl⟩
    rw [List.map_append, hka, List.take_succ_eq_append_getElem hjl, List.map_append]
    simp [hjl]
  · have hjl' : j = ls.length := by first | lia | omega
    subst hjl'
    refine nxL_end hh S (.head hnit) (S.N.get (.tail _ (.tail _ hg))) (by simp; first | lia | omega) fun h5 S => ?_
    exact hR h5 _ ka ea' (by rw [hka, List.take_length]) (S.weaken (by walk_at "al") fun p hp => .tail _ hp)
end
end Mine
/- MNs -/
namespace Mine
open PySem PySem.W PyProof.Rows PySem.Calls
theorem nsmallest {w : World} {A : Around} {s : Shared} {b b₂ h : Heap} {tk : Nat} {Q E : Value → Shared → Prop} {n : Int} {t : Tok} {arg : Value} {kf ax : Addr} {kind N ep : Nat} {K : Nat → List Nat} {vs : List Value} {hide fl : List (Addr × Obj)} {outer : List Env}
  (B : Ba w b) (hb : Keeps b h) (hroom : A.depth + 8 < recursionLimit) (hh : A.handled = none) (hun : A.units < 300) (hfr : A.frames = some outer) (hfo : FrOk outer fl)
  (G : Given ax fl arg hide) (hN : ∀ p ∈ hide, h.get? p.1 = some p.2 ∧ b.get? p.1 = none)
  (hkey : KeyOk w s kf b₂ kind K N) (hfn : ∀ h', Keeps b₂ h' → FnAt kf h') (hb₂ : ∀ a o, b₂.get? a = some o → h.get? a = some o ∧ a ∉ hide.map (·.1))
  (hax : h.get? ax = some (listOf vs.toArray ep)) (haxh : ax ∉ hide.map (·.1)) (hv : IntsAre vs ((List.range N).map Int.ofNat)) (h2 : 2 ≤ N) (h63 : N < 63) (hn1 : -64 < n) (hn2 : n < 64)
  (hQ : ∀ D its ep' h' tk' fl', SlotsOf fl fl' → (∀ p ∈ fl', h'.get? p.1 = some p.2) → KeepsBut (hide.map (·.1)) h h' → h.get? D = none → h'.get? D = some (listOf (List.toArray its) ep') →
    IntsAre its (((srt (aheadR false K) N).take n.toNat).map Int.ofNat) → Q (.ref D) (sh s h' tk')) :
  wpAny (model PySem.Challenge.rw_mr0271_01.row.prog w) A (call (.ref 122) [.int n t, arg] [(Str.ofString "key", .ref kf)]) Q E (sh s h tk) := by
  refine enterC B hb hide hN (by k_is) (by k_is) (by first | lia | omega) (binds := [("n", .int n t), ("iterable", arg), ("key", .ref kf)]) (al := [("n", .int n t), ("iterable", arg)]) (binds_K (K := hd.heap_39 w.params) (B.keeps hb).X rfl (by k_is) rfl rfl rfl) (fun n x hx => ?_) (by decide) (fun L' => by walk_at "al") ?_
  · rcases List.mem_cons.mp hx with rfl | hx
    · exact .inl rfl
    · rcases List.mem_cons.mp hx with rfl | hx
      · exact .inl rfl
      · rcases List.mem_singleton.mp hx with rfl
        exact .inr ⟨rfl, rfl⟩
  intro g L h₁ tk cells S Y B hL hg1 hg2 hg3
  obtain ⟨oc, rfl, hoc⟩ := Y.one
  have hoc : oc.data = .cell (some (.ref kf)) := hoc
  have kb : ∀ {h' al ns}, St g L h' al ns → KeepsBut (hide.map (·.1)) h h' := fun S' x o n e => S'.keep x o (hg1 x o n e)
  have hkg : KeyOk w s kf g kind K N := hkey.mono fun a o e => hg1 a o (hb₂ a o e).2 (hb₂ a o e).1
  have hfg : ∀ h', Keeps g h' → FnAt kf h' := fun h' hk => hfn h' fun a o e => hk a o (hg1 a o (hb₂ a o e).2 (hb₂ a o e).1)
  have haxg : g.get? ax = some (listOf vs.toArray ep) := hg1 _ _ haxh hax
  have hcne : ∀ p ∈ hide, p.1 ≠ L + 1 := fun p hp q => by
    have h1 := Heap.lt_size (hN p hp).1
    rw [q, hL] at h1
    exact absurd h1 (Nat.not_lt.mpr (Nat.le_succ _))
  have hfresh : ∀ {h' al ns D o}, St g L h' al ns → (D, o) ∈ ns → D ∉ hide.map (·.1) → h.get? D = none := fun {h' al ns D o} S' hm hn => by
    cases q : h.get? D with
    | none => rfl
    | some o' => rw [← (S'.N _ hm).2.2]; exact (hg1 _ _ hn q).symm ▸ rfl
  have hbig : ∀ D, L < D → D ∉ hide.map (·.1) := fun D hD q => by
    obtain ⟨p, hp, e⟩ := List.mem_map.mp q
    have h1 := Heap.lt_size (hN p hp).1
    rw [e, ← hL] at h1
    exact absurd h1 (Nat.not_lt.mpr (Nat.le_of_lt hD))
  have hflh : ∀ p ∈ fl, p ∈ hide := by
    cases G with
    | lst => exact fun p hp => hp
    | itr _ => exact fun p hp => .tail _ hp
  refine exN (wpAny_If (wpAny_isTrue_Compare1 (nameL S rfl (cInt (P.eq_int (wpAny_truthy_bool ?_))))))
  by_cases hone : n = 1
  · subst hone
    rw [if_pos (by decide)]
    refine exN (wpAny_Assign_Name (Call_ (nameB B S (by k_is) (by boot_fast) (by decide) (PyProof.Rows.callWith_builtin1 (args_cons (nameL S rfl (args_nil (callIter ?_))))))))
    refine given_iter G S haxg hcne fun it h3 S hitc hitf => ?_
    refine storeL S fun h3 tk3 S => ?_
    refine exN (wpAny_Assign_Name (Call_ (nameB B S (by k_is) (by boot_fast) (by decide) (callWith_type0 (callObject S fun so h4 S _ _ => storeL S fun h5 tk5 S => ?_)))))
    refine exN (wpAny_Assign_Name (CallK_ (nameB B S (by k_is) (by boot_fast) (by decide) (callWith_kw (args_cons (nameL S rfl (args_nil (kws_cons (nameL S rfl (kws_cons (nameC S rfl (.tail _ (.head _)) hoc (kws_nil ?_))))))))))))
    refine min_call (rest := (L + 1, oc) :: fl) (n := N) (by exact hh) hkg (show A.depth + 1 + 4 < _ by first | lia | omega) haxg hv (by first | lia | omega) S (fun p hp => ?_) fun bb t' h6 tk6 hbest S => ?_
    · rcases List.mem_cons.mp hp with rfl | hp
      · exact hitc.symm
      · exact fun q => hitf (q ▸ List.mem_map_of_mem hp)
    refine storeL S fun h7 tk7 S => ?_
    refine exN (wpAny_Return_some (wpAny_IfExp (wpAny_isTrue_Compare1 (nameL S rfl (nameL S rfl (wpAny_is_other rfl (by intro e; cases e) (wpAny_truthy_bool ?_)))))))
    rw [if_neg (by decide)]
    refine listE (spliced_cons (nameL S rfl (spliced_nil ⟨_, _, rfl, by rw [sizeLine_eq]; exact (by decide : (1 : Nat) ≤ 16777216), ?_⟩)))
    have hlt := S.lt
    have S := S.push (listOf #[.int (bb : Int) t'] 0)
    refine hQ _ [.int (bb : Int) t'] 0 _ _ fl (SlotsOf.refl fl) (fun p hp => (S.N p (.tail _ (.tail _ (.tail _ hp)))).1) (kb S) (hfresh S (.head _) (hbig _ hlt)) (S.N.get (.head _)) ?_
    rw [show ((1 : Int)).toNat = 1 from rfl, hbest.take (aheadR_sto false K)]
    exact .cons _ _ .nil
  · rw [if_neg (by simpa using hone)]
    refine wpAny_execs_nil ?_
    refine exN (wpAny_mono (Q := fun (f : Flow) (s' : Shared) => (f = .next ∧ ∃ h' tk' fl' hide', s' = sh s h' tk' ∧ SlotsOf fl fl' ∧ Given ax fl' arg hide' ∧ hide'.map (·.1) = hide.map (·.1) ∧ St g L h' [("n", .int n t), ("iterable", arg)] ((L + 1, oc) :: hide')) ∨ ∃ v, f = .ret v ∧ Q v s') ?tr (fun f s' hf => ?rs) fun _ _ x => x)
    case tr =>
      cases G with
      | lst =>
        have hvl : vs.length = N := by have := hv.length; simpa using this
        refine wpAny_Try_except (exN (wpAny_Assign_Name (Call_ (nameB B S (by k_is) (by boot_fast) (by decide) (PyProof.Rows.callWith_builtin1 (args_cons (nameL S rfl (args_nil (len_list (s := sh s _ _) ⟨_, S.keep _ _ haxg, rfl, _, rfl⟩ (by rw [List.size_toArray]; first | lia | omega) (storeL (s := s) S fun h3 tk3 S => wpAny_execs_nil ?_))))))))))
        rw [List.size_toArray, hvl] at S
        refine exN (wpAny_If (wpAny_isTrue_Compare1 (nameL S rfl (nameL S rfl (P.ge_int (wpAny_truthy_bool ?_))))))
        by_cases hge : n ≥ (N : Int)
        · rw [if_pos (by simpa using hge)]
          refine exN (wpAny_Return_some (upto (b := g) (L := L) ?_))
          refine CallK_ (nameB B S (by k_is) (by boot_fast) (by decide) (callWith_kw (args_cons (nameL S rfl (args_nil (kws_cons (nameC S rfl (.head _) hoc (kws_nil ?_))))))))
          refine keys_sorted false S hkg (show A.depth + 1 + 4 < _ by first | lia | omega) (by exact hh) (S.keep _ _ haxg) hv h2 (by first | lia | omega) (by unfold argsOk; kernel_rfl) (fun x => by unfold argsOk; kernel_rfl) (fun x => ksk_t1 kf x) fun D h4 tk4 ep4 S hlt => ?_
          have hlt4 := S.lt
          refine ⟨D, _, _, _, _, rfl, rfl, S.N.get (.head _), by rw [sizeLine_eq, List.size_toArray, List.length_map, srt_len]; first | lia | omega, ?_⟩
          refine nameL S rfl ⟨_, _, _, _, _, _, rfl, rfl, S.N.get (.head _), S, fun D2 h5 S hlt hD2 => .inr ⟨_, rfl, ?_⟩⟩
          have hints : IntsAre ((srt (aheadR false K) N).map fun i => vs.getD i .none) ((srt (aheadR false K) N).map Int.ofNat) := intsAre_pick hv _ fun x hx => List.mem_range.mp ((srt_perm _ _).mem_iff.mp hx)
          have hp := slice_ints_uptoW hints (y := n) (by first | lia | omega)
          refine hQ _ (slicePick ((srt (aheadR false K) N).map fun i => vs.getD i .none).toArray none (some n) none).toList 0 _ _ _ (SlotsOf.refl _) (fun p hp => (S.N p (.tail _ (.tail _ (.tail _ hp)))).1) (kb S) (hfresh S (.head _) (hbig _ (by rw [hD2]; exact Nat.lt_succ_of_lt hlt4))) ?_ ?_
          · rw [Array.toArray_toList]; exact S.N.get (.head _)
          · rw [List.map_take]; exact hp
        · rw [if_neg (by simpa using hge)]
          exact wpAny_execs_nil (wpAny_execs_nil (.inl ⟨rfl, _, _, _, _, rfl, SlotsOf.refl _, .lst, rfl, S.weaken (by walk_at "al") fun p hp => hp⟩))
      | itr hn =>
        rename_i it
        refine wpAny_Try_except (exN (wpAny_Assign_Name (Call_ (nameB B S (by k_is) (by boot_fast) (by decide) (PyProof.Rows.callWith_builtin1 (args_cons (nameL S rfl (args_nil (lenRaise (by exact hh) (S.N.get (.tail _ (.head _))) fun e h3 tk3 hx => ?_)))))))))
        refine caught (rest := [(L + 1, oc), (it, lsO (.ref ax) 0)]) B S hfo (fun p hp => ?_) hx (by show A.frames.map _ = _; rw [hfr]; rfl) rfl rfl rfl (by k_is) (by k_is) fun h4 fl' tk4 hsl S => .inl ⟨rfl, _, _, fl', (it, lsO (.ref ax) 0) :: fl', rfl, hsl, .itr (by rw [hsl.fst]; exact hn), by simp [hsl.fst], S⟩
        rcases List.mem_cons.mp hp with rfl | hp
        · intro q
          obtain ⟨p, hp, e⟩ := List.mem_map.mp q
          exact hcne p (.tail _ hp) e
        · rcases List.mem_singleton.mp hp with rfl; exact hn
    rcases hf with ⟨rfl, h3, tk3, fl', hide', rfl, hsl, G', hmap, S⟩ | ⟨v, rfl, hv'⟩
    · have hcne' : ∀ p ∈ hide', p.1 ≠ L + 1 := fun p hp q => by
        have : p.1 ∈ hide.map (·.1) := hmap ▸ List.mem_map_of_mem hp
        obtain ⟨p', hp', e'⟩ := List.mem_map.mp this
        exact hcne p' hp' (e'.trans q)
      refine exN (wpAny_If (wpAny_isTrue_Compare1 (nameC S rfl (.head _) hoc (Constant_none (wpAny_is_other rfl (by intro e; cases e) (wpAny_truthy_bool ?_))))))
      rw [if_neg (by decide)]
      refine wpAny_execs_nil ?_
      refine exN (wpAny_Assign_Name (Call_ (nameB B S (by k_is) (by boot_fast) (by decide) (PyProof.Rows.callWith_builtin1 (args_cons (nameL S rfl (args_nil (callIter ?_))))))))
      refine given_iter G' S haxg hcne' fun it h4 S hitc hitf => ?_
      refine storeL S fun h5 tk5 S => ?_
      refine exN ?_
      refine compA (s := s) (cl := [("key", L + 1)]) (hsw := by kernel_rfl) (hclos := by kernel_rfl) ?_
      refine Call_ (nameB B S (by k_is) (by boot_fast) (by decide) ?_)
      refine PyProof.Rows.callWith_type1 ?_
      refine args_cons ?_
      refine Call_ (nameB B S (by k_is) (by boot_fast) (by decide) ?_)
      refine PyProof.Rows.callWith_type1 ?_
      refine args_cons (nameL S rfl (args_nil ?_))
      refine callRange S fun r t1 t2 h6 tk6 S hlt6 => ?_
      refine args_cons (nameL S rfl (args_nil ?_))
      refine callZip S (S.N.get (.head _)) (S.N.get (.tail _ (.head _))) (by simp [Builtin.Range.small, Builtin.Range.rangeFitsLong, rangeSize_one]; split <;> first | lia | omega) fun i1 TI TO z h7 S hb1 hb2 hb3 hb4 hb5 hb6 => ?_
      rw [show Builtin.Range.rangeSize 0 n 1 = (n.toNat : Int) by rw [rangeSize_one]; split <;> first | lia | omega] at S
      refine zSelf (S.N.get (.head _)) ?_
      have hmem : ∀ p ∈ [(z, zipO .none TI TO), (TO, pairO .none .none), (i1, rangeIt 0 (n.toNat : Int) 1), (it, lsO (.ref ax) 0), (TI, pairO (.ref i1) (.ref it))], p ∈ (z, zipO .none TI TO) :: (TO, pairO .none .none) :: (TI, pairO (.ref i1) (.ref it)) :: (i1, rangeIt 0 (n.toNat : Int) 1) :: (r, rangeO 0 n 1 t1 t t2) :: (it, lsO (.ref ax) 0) :: (L + 1, oc) :: fl' := fun p hp => by
        rcases List.mem_cons.mp hp with rfl | hp
        · exact .head _
        rcases List.mem_cons.mp hp with rfl | hp
        · exact .tail _ (.head _)
        rcases List.mem_cons.mp hp with rfl | hp
        · exact .tail _ (.tail _ (.tail _ (.head _)))
        rcases List.mem_cons.mp hp with rfl | hp
        · exact .tail _ (.tail _ (.tail _ (.tail _ (.tail _ (.head _)))))
        rcases List.mem_singleton.mp hp with rfl
        exact .tail _ (.tail _ (.head _))
      refine ⟨h7, _, _, rfl, fun p hp => (S.N p (hmem p hp)).1, fun h₂ tk₂ Q' E' hp hq => zSelf (hp _ (.head _)) hq, fun gi C h8 tk8 Si hC hgi1 hgi2 hgi3 => ?_⟩
      have hLi : L + 1 < i1 := hb1 (L + 1, oc) (.tail _ (.tail _ (.head _)))
      have hnot : ∀ a, a ≠ it → a < i1 → a ∉ [(z, zipO .none TI TO), (TO, pairO .none .none), (i1, rangeIt 0 (n.toNat : Int) 1), (it, lsO (.ref ax) 0), (TI, pairO (.ref i1) (.ref it))].map (·.1) := fun a ha hlt hm => by
        simp only [List.map_cons, List.map_nil] at hm
        rcases List.mem_cons.mp hm with rfl | hm
        · exact absurd hlt (Nat.not_lt.mpr (Nat.le_of_lt (Nat.lt_trans hb3 (Nat.lt_trans hb4 hb5))))
        rcases List.mem_cons.mp hm with rfl | hm
        · exact absurd hlt (Nat.not_lt.mpr (Nat.le_of_lt (Nat.lt_trans hb3 hb4)))
        rcases List.mem_cons.mp hm with rfl | hm
        · exact absurd hlt (Nat.lt_irrefl _)
        rcases List.mem_cons.mp hm with rfl | hm
        · exact ha rfl
        rcases List.mem_singleton.mp hm with rfl
        exact absurd hlt (Nat.not_lt.mpr (Nat.le_of_lt hb3))
      have hgg : Keeps g gi := fun a o e => hgi1 a o (fun q => by
        obtain ⟨p, hp, rfl⟩ := List.mem_map.mp q
        rw [(S.N p (hmem p hp)).2.2] at e; cases e) (S.keep a o e)
      have hDz : z < h7.objs.size := S.below (z, _) (.head _)
      have hDT : TO < h7.objs.size := S.below (TO, _) (.tail _ (.head _))
      have hDI : TI < h7.objs.size := S.below (TI, _) (.tail _ (.tail _ (.head _)))
      have hD1 : i1 < h7.objs.size := S.below (i1, _) (.tail _ (.tail _ (.tail _ (.head _))))
      have hDi : it < h7.objs.size := Nat.lt_trans hb2 hD1
      refine zipLoop false n.toNat (by exact hh) (show A.depth + 1 + 4 < _ by first | lia | omega) (hkg.mono hgg) (fun h' hk => hfg h' (hgg.trans hk)) (hgg _ _ haxg) hv h63 (hgi1 (L + 1) oc (hnot _ hitc.symm hLi) (S.N.get (.tail _ (.tail _ (.tail _ (.tail _ (.tail _ (.tail _ (.head _)))))))))  hoc
        ⟨Nat.ne_of_gt hb5, Nat.ne_of_gt (Nat.lt_trans hb3 (Nat.lt_trans hb4 hb5)), Nat.ne_of_gt (Nat.lt_trans hb2 (Nat.lt_trans hb3 (Nat.lt_trans hb4 hb5))), Nat.ne_of_gt (Nat.lt_trans hb3 hb4), Nat.ne_of_gt (Nat.lt_trans hb2 (Nat.lt_trans hb3 hb4)), Nat.ne_of_gt hb2, fun p hp => ?ap⟩
        (Nat.ne_of_lt hDI) hDz hDT hD1 hDi hDI (Si.below _ (.head _)) (Si.sub fun p hp => ?ss) rfl rfl rfl rfl ?_
      case ap =>
        rcases List.mem_cons.mp hp with rfl | hp
        · exact ⟨Nat.ne_of_lt (Nat.lt_trans hb4 hb5), Nat.ne_of_lt hb4, Nat.ne_of_gt hb3, Nat.ne_of_gt (Nat.lt_trans hb2 hb3)⟩
        · rcases List.mem_singleton.mp hp with rfl
          exact ⟨Nat.ne_of_gt hDz, Nat.ne_of_gt hDT, Nat.ne_of_gt hD1, Nat.ne_of_gt hDi⟩
      case ss =>
        rcases List.mem_cons.mp hp with rfl | hp
        · exact .tail _ (.head _)
        rcases List.mem_cons.mp hp with rfl | hp
        · exact .tail _ (.tail _ (.head _))
        rcases List.mem_cons.mp hp with rfl | hp
        · exact .tail _ (.tail _ (.tail _ (.head _)))
        rcases List.mem_cons.mp hp with rfl | hp
        · exact .tail _ (.tail _ (.tail _ (.tail _ (.head _))))
        rcases List.mem_cons.mp hp with rfl | hp
        · exact .tail _ (.tail _ (.tail _ (.tail _ (.tail _ (.head _)))))
        rcases List.mem_singleton.mp hp with rfl
        exact .head _
      intro h9 tk9 items el od tups al9 ep9 src hsrc S9 P hel hod htD
      have hitl : it < i1 := hb2
      have hfl' : ∀ p ∈ fl', p.1 ≠ it ∧ p.1 < i1 := fun p hp => ⟨fun q => hitf (q ▸ List.mem_map_of_mem hp), hb1 p (.tail _ (.tail _ (.tail _ hp)))⟩
      have hrst : ∀ p ∈ (L + 1, oc) :: fl', p.1 ≠ it ∧ p.1 < i1 := fun p hp => by
        rcases List.mem_cons.mp hp with rfl | hp
        · exact ⟨hitc.symm, hLi⟩
        · exact hfl' p hp
      have hDD : L < h7.objs.size := S.lt
      have hil : items.length = min n.toNat N := by have := congrArg List.length hel; simpa using this
      refine compEndU (rest := (L + 1, oc) :: fl') S hmem (fun p hp => ⟨.tail _ (.tail _ (.tail _ (.tail _ (.tail _ (.tail _ hp))))), hnot p.1 (hrst p hp).1 (hrst p hp).2⟩) hgi1 S9 hC (fun p hp => ?nw) fun oC So hneC => ?_
      case nw =>
        rcases List.mem_cons.mp hp with rfl | hp
        · exact .inl (.tail _ (.tail _ (.tail _ (.head _))))
        rcases List.mem_cons.mp hp with rfl | hp
        · exact .inl (.tail _ (.tail _ (.tail _ (.tail _ (.head _)))))
        rcases List.mem_cons.mp hp with rfl | hp
        · exact .inr (Nat.le_refl _)
        · exact .inr (Nat.le_of_lt (htD p hp))
      refine wpAny_assign_Name (storeL So fun h10 tk10 So => ⟨h10, tk10, _, _, rfl, So, hneC, fun h11 S11 => ?_⟩)
      have hne : ∀ p ∈ tups ++ (L + 1, oc) :: fl', p.1 ≠ it ∧ p.1 ≠ h7.objs.size := fun p hp => by
        rcases List.mem_append.mp hp with hp | hp
        · exact ⟨Nat.ne_of_gt (Nat.lt_trans hDi (htD p hp)), Nat.ne_of_gt (htD p hp)⟩
        · exact ⟨(hrst p hp).1, Nat.ne_of_lt (Nat.lt_trans (hrst p hp).2 hD1)⟩
      have hfl2 : ∀ p ∈ fl', p ∈ tups ++ (L + 1, oc) :: fl' := fun p hp => List.mem_append_right _ (.tail _ hp)
      have S := S11.sub (news' := (it, src) :: (h7.objs.size, listOf items.toArray ep9) :: (tups ++ (L + 1, oc) :: fl')) fun p hp => by
        rcases List.mem_cons.mp hp with rfl | hp
        · exact .head _
        · exact .tail _ (.tail _ hp)
      have P := P.grow (led' := tups ++ (L + 1, oc) :: fl') fun p hp => List.mem_append_left _ hp
      clear S11 So S9 Si
      generalize hDe : h7.objs.size = D at S hne hDD hDi htD
      clear hmem hrst hfl' hneC hgi1 hgi2 hgi3 hC hDz hDT hDI
      have hDf : ∀ {h' al ns o}, St g L h' al ns → (D, o) ∈ ns → h.get? D = none := fun S' hm => hfresh S' hm (hbig D hDD)
      refine exN (wpAny_If (isTrue_not (wpAny_isTrue_value (nameL S rfl (wpAny_truthy_list (s := sh s h11 tk10) ⟨_, S.N.get (.tail _ (.head _)), rfl, _, rfl⟩ (by rw [List.size_toArray]; first | lia | omega) ?_)))))
      by_cases hemp : items = []
      · rw [if_pos (by simp [hemp])]
        refine exN (wpAny_Return_some (nameL (s := s) S rfl ?_))
        refine hQ D [] ep9 _ _ fl' hsl (fun p hp => (S.N p (.tail _ (.tail _ (hfl2 p hp)))).1) (kb S) (hDf S (.tail _ (.head _))) (hemp ▸ S.N.get (.tail _ (.head _))) ?_
        have : n.toNat = 0 := by
          have : items.length = 0 := by rw [hemp]; rfl
          first | lia | omega
        rw [this]; exact .nil
      rw [if_neg (by simp [hemp])]
      have hil0 : 0 < items.length := List.length_pos_iff.mpr hemp
      have hnn : (2 : Int) ≤ n := by first | lia | omega
      have hil2 : 2 ≤ items.length := by first | lia | omega
      refine wpAny_execs_nil ?_
      have hkit : ∀ v ∈ items, KOk kind (K (el v)) := fun v hv => hkg.1 _ (by
        have : el v ∈ List.range (min n.toNat N) := hel ▸ List.mem_map_of_mem hv
        have := List.mem_range.mp this
        first | lia | omega)
      have Lw : Lower (aheadR false K) (min n.toNat N) (items.map el) := Lower.all _ _ (by rw [hel])
      refine exN (wpAny_Expr (Call_ (nameK B S (by k_is) (callWith_K (s := sh s h11 (tk10 + 1 + 1)) (K := hd.heap_39 w.params) B.X (by k_is) (args_cons (nameL S rfl (args_nil ⟨B.X.keeps S.keep, ?_⟩)))))))
      refine heapify_max (rr false K el) B S.keep ⟨S.N.get (.tail _ (.head _)), (S.N _ (.tail _ (.head _))).2.2⟩ (show A.depth + 1 + 2 < _ by first | lia | omega) (by first | lia | omega) (show A.units + 3 < 370 by first | lia | omega) (by exact hh) (P.cmp w (fun p hp => ⟨(S.N p (.tail _ (.tail _ hp))).1, (hne p hp).2⟩) hkit) fun h12 tk12 hk12 hD12 => ?_
      have hitD : D ≠ it := Nat.ne_of_gt hDi
      have S := S.chg (.tail hitD.symm (.head fun p hp => (hne p hp).2)) hk12 hD12
      have hpm : (hfF (rr false K el) Value.none (items.length / 2) items).Perm items := hfF_perm _ _ (Nat.div_le_self ..)
      have H := heapify_heap (d := Value.none) (rr_swo false K el) items
      have P := P.perm hpm
      have Lw := Lw.perm (hpm.map el)
      have hq0 : ∀ v ∈ hfF (rr false K el) Value.none (items.length / 2) items, Bey false (od v) n := fun v hv => by
        have hv := hpm.mem_iff.mp hv
        have : el v ∈ List.range (min n.toNat N) := hel ▸ List.mem_map_of_mem hv
        have := List.mem_range.mp this
        rw [hod v hv]; unfold Bey ordS; simp; first | lia | omega
      have hil' : (hfF (rr false K el) Value.none (items.length / 2) items).length = items.length := hfF_len _ _
      generalize hfF (rr false K el) Value.none (items.length / 2) items = items2 at S H P Lw hq0 hil'
      obtain ⟨e0, hm0⟩ := getD_mem (its := items2) (i := 0) (by first | lia | omega)
      obtain ⟨b0, o0, hb0, hbm, u1, u2, u3, ho0⟩ := P.trip _ hm0
      have hi0 : items2.toArray[((0 : Int)).toNat]? = some (.ref b0) := by rw [← hb0]; simpa using e0
      have hb1' := S.N.get (.tail _ (.tail _ hbm))
      rw [ho0] at hb1'
      refine exN (wpAny_Assign_Name (Subscript_ (Subscript_ (nameL S rfl (cInt (getL (S.N.get (.tail _ (.head _))) (by first | lia | omega) (by first | lia | omega) hi0 (cInt (getT0 hb1' (storeL S fun h13 tk13 S => ?_)))))))))
      refine exN (wpAny_Assign_Name (nameL S rfl (storeL S fun h14 tk14 S => ?_)))
      refine exN (wpAny_Assign_Name (nameK B S (by k_is) (storeL S fun h15 tk15 S => ?_)))
      refine exN (loopG (replSmall w) (by k_is) (ceSmall ⟨rfl, by walk_at "al"⟩) (fun q t u h tk Q hq => iaddI hq) (rest := (L + 1, oc) :: fl') (j0 := min n.toNat N) B (by exact hh) (show A.depth + 1 + 4 < _ by first | lia | omega) (show A.units + 3 < 370 by first | lia | omega) hkg hfg haxg hv h63 ⟨rfl, by walk_at "al"⟩ rfl rfl hoc (.head _) hitD (S.weaken (by walk_at "al") fun _ hp => hp) ?src (fun p hp => List.mem_append_right _ hp) hne P H Lw (by first | lia | omega) (by first | lia | omega) hq0 fun h16 tk16 items3 el3 od3 led3 ep3 src3 S P3 Lw3 hil3 hre3 hne3 => ?_)
      case src =>
        cases hsrc with
        | live h => exact .live (by first | lia | omega)
        | gone h => exact .gone (by first | lia | omega)
      have S := S.sub (news' := (D, listOf items3.toArray ep3) :: led3) fun p hp => .tail _ hp
      have hk3 : ∀ v ∈ items3, KOk kind (K (el3 v)) := fun v hv => hkg.1 _ (Lw3.lt _ (List.mem_map_of_mem hv))
      refine exN (wpAny_Expr (Call_method0 rfl rfl (nameL S rfl (sortM0 (s := s) (S.N.get (.head _)) ?_))))
      refine sortMin S (fun p hp => (hne3 p hp).2) (pool_trip P3 hk3) (by first | lia | omega) (by first | lia | omega) fun h17 ep17 S => ?_
      obtain ⟨out, hout, hol, hT, hfin⟩ := pool_out (m := n.toNat) (N := N) (lt := lt3) rfl P3 Lw3 (by first | lia | omega)
      rw [← hout] at S
      refine exN (wpAny_Return_some ?_)
      refine compV (s := s) (cl := []) ?_
      refine nameL S rfl (iterL S (S.N.get (.head _)) fun it2 h18 S hlt18 hit2 hs18 => ?_)
      refine ⟨h18, _, [(it2, lsO (.ref D) 0)], rfl, fun p hp => (S.N p (by rcases List.mem_singleton.mp hp with rfl; exact .head _)).1, fun h₂ tk₂ Q' E' hp hq => iterSelf (hp _ (.head _)) hq, fun gj C2 h19 tk19 Sj hC2 hgj1 hgj2 hgj3 => ?_⟩
      have hn2 : ∀ p ∈ (D, listOf out.toArray ep17) :: led3, p.1 ∉ [(it2, lsO (.ref D) 0)].map (·.1) := fun p hp q => by
        have := hlt18 p hp
        simp only [List.map_cons, List.map_nil] at q
        rw [List.mem_singleton.mp q] at this; exact absurd this (Nat.lt_irrefl _)
      have hi2 : it2 < h18.objs.size := S.below (it2, _) (.head _)
      refine elemLoop (kind := kind) (items := out) (kk := fun i => K (el3 (out.getD i .none))) (od := fun i => od3 (out.getD i .none)) (e := fun i => el3 (out.getD i .none)) (by exact hh) (hgj1 _ _ (hn2 _ (.head _)) (S.N.get (.tail _ (.head _)))) (fun i hi => ?tt) (by first | lia | omega) (Nat.ne_of_gt hi2) Sj rfl rfl rfl rfl fun h20 tk20 ys al20 ep20 hys Sf => ?_
      case tt =>
        obtain ⟨a, o, e1, e2, e3⟩ := hT i hi
        exact ⟨a, o, e1, hgj1 _ _ (hn2 _ (.tail _ e2)) (S.N.get (.tail _ (.tail _ e2))), e3⟩
      have hL18 : L < h18.objs.size := S.lt
      refine compEnd (rest := (D, listOf out.toArray ep17) :: led3) S (fun p hp => by rcases List.mem_singleton.mp hp with rfl; exact .head _) (fun p hp => ⟨.tail _ hp, hn2 p hp⟩) hgj1 Sf hC2 (fun p hp => ?nw2) fun h21 S => ?_
      case nw2 =>
        rcases List.mem_cons.mp hp with rfl | hp
        · exact .inr (Nat.le_refl _)
        · rcases List.mem_singleton.mp hp with rfl; exact .inl (.head _)
      refine hQ _ ys ep20 _ _ fl' hsl (fun p hp => (S.N p (.tail _ (.tail _ (.tail _ (hre3 _ (.tail _ hp)))))).1) (kb S) (hfresh S (.head _) (hbig _ hL18)) (S.N.get (.head _)) ?_
      rw [← hfin]; exact hys
    · exact hv'
end Mine
/- MNl -/
namespace Mine
open PySem PySem.W PyProof.Rows PySem.Calls
theorem nlargest {w : World} {A : Around} {s : Shared} {b b₂ h : Heap} {tk : Nat} {Q E : Value → Shared → Prop} {n : Int} {t : Tok} {arg : Value} {kf ax : Addr} {kind N ep : Nat} {K : Nat → List Nat} {vs : List Value} {hide fl : List (Addr × Obj)} {outer : List Env}
  (B : Ba w b) (hb : Keeps b h) (hroom : A.depth + 8 < recursionLimit) (hh : A.handled = none) (hun : A.units < 300) (hfr : A.frames = some outer) (hfo : FrOk outer fl)
  (G : Given ax fl arg hide) (hN : ∀ p ∈ hide, h.get? p.1 = some p.2 ∧ b.get? p.1 = none)
  (hkey : KeyOk w s kf b₂ kind K N) (hfn : ∀ h', Keeps b₂ h' → FnAt kf h') (hb₂ : ∀ a o, b₂.get? a = some o → h.get? a = some o ∧ a ∉ hide.map (·.1))
  (hax : h.get? ax = some (listOf vs.toArray ep)) (haxh : ax ∉ hide.map (·.1)) (hv : IntsAre vs ((List.range N).map Int.ofNat)) (h2 : 2 ≤ N) (h63 : N < 63) (hn1 : -64 < n) (hn2 : n < 64)
  (hQ : ∀ D its ep' h' tk' fl', SlotsOf fl fl' → (∀ p ∈ fl', h'.get? p.1 = some p.2) → KeepsBut (hide.map (·.1)) h h' → h.get? D = none → h'.get? D = some (listOf (List.toArray its) ep') →
    IntsAre its (((srt (aheadR true K) N).take n.toNat).map Int.ofNat) → Q (.ref D) (sh s h' tk')) :
  wpAny (model PySem.Challenge.rw_mr0271_01.row.prog w) A (call (.ref 128) [.int n t, arg] [(Str.ofString "key", .ref kf)]) Q E (sh s h tk) := by
  refine enterC B hb hide hN (by k_is) (by k_is) (by first | lia | omega) (binds := [("n", .int n t), ("iterable", arg), ("key", .ref kf)]) (al := [("n", .int n t), ("iterable", arg)]) (binds_K (K := hd.heap_39 w.params) (B.keeps hb).X rfl (by k_is) rfl rfl rfl) (fun n x hx => ?_) (by decide) (fun L' => by walk_at "al") ?_
  · rcases List.mem_cons.mp hx with rfl | hx
    · exact .inl rfl
    · rcases List.mem_cons.mp hx with rfl | hx
      · exact .inl rfl
      · rcases List.mem_singleton.mp hx with rfl
        exact .inr ⟨rfl, rfl⟩
  intro g L h₁ tk cells S Y B hL hg1 hg2 hg3
  obtain ⟨oc, rfl, hoc⟩ := Y.one
  have hoc : oc.data = .cell (some (.ref kf)) := hoc
  have kb : ∀ {h' al ns}, St g L h' al ns → KeepsBut (hide.map (·.1)) h h' := fun S' x o n e => S'.keep x o (hg1 x o n e)
  have hkg : KeyOk w s kf g kind K N := hkey.mono fun a o e => hg1 a o (hb₂ a o e).2 (hb₂ a o e).1
  have hfg : ∀ h', Keeps g h' → FnAt kf h' := fun h' hk => hfn h' fun a o e => hk a o (hg1 a o (hb₂ a o e).2 (hb₂ a o e).1)
  have haxg : g.get? ax = some (listOf vs.toArray ep) := hg1 _ _ haxh hax
  have hcne : ∀ p ∈ hide, p.1 ≠ L + 1 := fun p hp q => by
    have h1 := Heap.lt_size (hN p hp).1
    rw [q, hL] at h1
    exact absurd h1 (Nat.not_lt.mpr (Nat.le_succ _))
  have hfresh : ∀ {h' al ns D o}, St g L h' al ns → (D, o) ∈ ns → D ∉ hide.map (·.1) → h.get? D = none := fun {h' al ns D o} S' hm hn => by
    cases q : h.get? D with
    | none => rfl
    | some o' => rw [← (S'.N _ hm).2.2]; exact (hg1 _ _ hn q).symm ▸ rfl
  have hbig : ∀ D, L < D → D ∉ hide.map (·.1) := fun D hD q => by
    obtain ⟨p, hp, e⟩ := List.mem_map.mp q
    have h1 := Heap.lt_size (hN p hp).1
    rw [e, ← hL] at h1
    exact absurd h1 (Nat.not_lt.mpr (Nat.le_of_lt hD))
  have hflh : ∀ p ∈ fl, p ∈ hide := by
    cases G with
    | lst => exact fun p hp => hp
    | itr _ => exact fun p hp => .tail _ hp
  refine exN (wpAny_If (wpAny_isTrue_Compare1 (nameL S rfl (cInt (P.eq_int (wpAny_truthy_bool ?_))))))
  by_cases hone : n = 1
  · subst hone
    rw [if_pos (by decide)]
    refine exN (wpAny_Assign_Name (Call_ (nameB B S (by k_is) (by boot_fast) (by decide) (PyProof.Rows.callWith_builtin1 (args_cons (nameL S rfl (args_nil (callIter ?_))))))))
    refine given_iter G S haxg hcne fun it h3 S hitc hitf => ?_
    refine storeL S fun h3 tk3 S => ?_
    refine exN (wpAny_Assign_Name (Call_ (nameB B S (by k_is) (by boot_fast) (by decide) (callWith_type0 (callObject S fun so h4 S _ _ => storeL S fun h5 tk5 S => ?_)))))
    refine exN (wpAny_Assign_Name (CallK_ (nameB B S (by k_is) (by boot_fast) (by decide) (callWith_kw (args_cons (nameL S rfl (args_nil (kws_cons (nameL S rfl (kws_cons (nameC S rfl (.tail _ (.head _)) hoc (kws_nil ?_))))))))))))
    refine max_call (rest := (L + 1, oc) :: fl) (n := N) (by exact hh) hkg (show A.depth + 1 + 4 < _ by first | lia | omega) haxg hv (by first | lia | omega) S (fun p hp => ?_) fun bb t' h6 tk6 hbest S => ?_
    · rcases List.mem_cons.mp hp with rfl | hp
      · exact hitc.symm
      · exact fun q => hitf (q ▸ List.mem_map_of_mem hp)
    refine storeL S fun h7 tk7 S => ?_
    refine exN (wpAny_Return_some (wpAny_IfExp (wpAny_isTrue_Compare1 (nameL S rfl (nameL S rfl (wpAny_is_other rfl (by intro e; cases e) (wpAny_truthy_bool ?_)))))))
    rw [if_neg (by decide)]
    refine listE (spliced_cons (nameL S rfl (spliced_nil ⟨_, _, rfl, by rw [sizeLine_eq]; exact (by decide : (1 : Nat) ≤ 16777216), ?_⟩)))
    have hlt := S.lt
    have S := S.push (listOf #[.int (bb : Int) t'] 0)
    refine hQ _ [.int (bb : Int) t'] 0 _ _ fl (SlotsOf.refl fl) (fun p hp => (S.N p (.tail _ (.tail _ (.tail _ hp)))).1) (kb S) (hfresh S (.head _) (hbig _ hlt)) (S.N.get (.head _)) ?_
    rw [show ((1 : Int)).toNat = 1 from rfl, hbest.take (aheadR_sto true K)]
    exact .cons _ _ .nil
  · rw [if_neg (by simpa using hone)]
    refine wpAny_execs_nil ?_
    refine exN (wpAny_mono (Q := fun (f : Flow) (s' : Shared) => (f = .next ∧ ∃ h' tk' fl' hide', s' = sh s h' tk' ∧ SlotsOf fl fl' ∧ Given ax fl' arg hide' ∧ hide'.map (·.1) = hide.map (·.1) ∧ St g L h' [("n", .int n t), ("iterable", arg)] ((L + 1, oc) :: hide')) ∨ ∃ v, f = .ret v ∧ Q v s') ?tr (fun f s' hf => ?rs) fun _ _ x => x)
    case tr =>
      cases G with
      | lst =>
        have hvl : vs.length = N := by have := hv.length; simpa using this
        refine wpAny_Try_except (exN (wpAny_Assign_Name (Call_ (nameB B S (by k_is) (by boot_fast) (by decide) (PyProof.Rows.callWith_builtin1 (args_cons (nameL S rfl (args_nil (len_list (s := sh s _ _) ⟨_, S.keep _ _ haxg, rfl, _, rfl⟩ (by rw [List.size_toArray]; first | lia | omega) (storeL (s := s) S fun h3 tk3 S => wpAny_execs_nil ?_))))))))))
        rw [List.size_toArray, hvl] at S
        refine exN (wpAny_If (wpAny_isTrue_Compare1 (nameL S rfl (nameL S rfl (P.ge_int (wpAny_truthy_bool ?_))))))
        by_cases hge : n ≥ (N : Int)
        · rw [if_pos (by simpa using hge)]
          refine exN (wpAny_Return_some (upto (b := g) (L := L) ?_))
          refine CallK_ (nameB B S (by k_is) (by boot_fast) (by decide) (callWith_kw (args_cons (nameL S rfl (args_nil (kws_cons (nameC S rfl (.head _) hoc (kws_cons (wpAny_Constant_bool (kws_nil ?_))))))))))
          refine keys_sorted true S hkg (show A.depth + 1 + 4 < _ by first | lia | omega) (by exact hh) (S.keep _ _ haxg) hv h2 (by first | lia | omega) (ksk_s2 _ _ _) (fun x => ksk_l2 _ _ _) (fun x => ksk_t2 kf x true) fun D h4 tk4 ep4 S hlt => ?_
          have hlt4 := S.lt
          refine ⟨D, _, _, _, _, rfl, rfl, S.N.get (.head _), by rw [sizeLine_eq, List.size_toArray, List.length_map, srt_len]; first | lia | omega, ?_⟩
          refine nameL S rfl ⟨_, _, _, _, _, _, rfl, rfl, S.N.get (.head _), S, fun D2 h5 S hlt hD2 => .inr ⟨_, rfl, ?_⟩⟩
          have hints : IntsAre ((srt (aheadR true K) N).map fun i => vs.getD i .none) ((srt (aheadR true K) N).map Int.ofNat) := intsAre_pick hv _ fun x hx => List.mem_range.mp ((srt_perm _ _).mem_iff.mp hx)
          have hp := slice_ints_uptoW hints (y := n) (by first | lia | omega)
          refine hQ _ (slicePick ((srt (aheadR true K) N).map fun i => vs.getD i .none).toArray none (some n) none).toList 0 _ _ _ (SlotsOf.refl _) (fun p hp => (S.N p (.tail _ (.tail _ (.tail _ hp)))).1) (kb S) (hfresh S (.head _) (hbig _ (by rw [hD2]; exact Nat.lt_succ_of_lt hlt4))) ?_ ?_
          · rw [Array.toArray_toList]; exact S.N.get (.head _)
          · rw [List.map_take]; exact hp
        · rw [if_neg (by simpa using hge)]
          exact wpAny_execs_nil (wpAny_execs_nil (.inl ⟨rfl, _, _, _, _, rfl, SlotsOf.refl _, .lst, rfl, S.weaken (by walk_at "al") fun p hp => hp⟩))
      | itr hn =>
        rename_i it
        refine wpAny_Try_except (exN (wpAny_Assign_Name (Call_ (nameB B S (by k_is) (by boot_fast) (by decide) (PyProof.Rows.callWith_builtin1 (args_cons (nameL S rfl (args_nil (lenRaise (by exact hh) (S.N.get (.tail _ (.head _))) fun e h3 tk3 hx => ?_)))))))))
        refine caught (rest := [(L + 1, oc), (it, lsO (.ref ax) 0)]) B S hfo (fun p hp => ?_) hx (by show A.frames.map _ = _; rw [hfr]; rfl) rfl rfl rfl (by k_is) (by k_is) fun h4 fl' tk4 hsl S => .inl ⟨rfl, _, _, fl', (it, lsO (.ref ax) 0) :: fl', rfl, hsl, .itr (by rw [hsl.fst]; exact hn), by simp [hsl.fst], S⟩
        rcases List.mem_cons.mp hp with rfl | hp
        · intro q
          obtain ⟨p, hp, e⟩ := List.mem_map.mp q
          exact hcne p (.tail _ hp) e
        · rcases List.mem_singleton.mp hp with rfl; exact hn
    rcases hf with ⟨rfl, h3, tk3, fl', hide', rfl, hsl, G', hmap, S⟩ | ⟨v, rfl, hv'⟩
    · have hcne' : ∀ p ∈ hide', p.1 ≠ L + 1 := fun p hp q => by
        have : p.1 ∈ hide.map (·.1) := hmap ▸ List.mem_map_of_mem hp
        obtain ⟨p', hp', e'⟩ := List.mem_map.mp this
        exact hcne p' hp' (e'.trans q)
      refine exN (wpAny_If (wpAny_isTrue_Compare1 (nameC S rfl (.head _) hoc (Constant_none (wpAny_is_other rfl (by intro e; cases e) (wpAny_truthy_bool ?_))))))
      rw [if_neg (by decide)]
      refine wpAny_execs_nil ?_
      refine exN (wpAny_Assign_Name (Call_ (nameB B S (by k_is) (by boot_fast) (by decide) (PyProof.Rows.callWith_builtin1 (args_cons (nameL S rfl (args_nil (callIter ?_))))))))
      refine given_iter G' S haxg hcne' fun it h4 S hitc hitf => ?_
      refine storeL S fun h5 tk5 S => ?_
      refine exN ?_
      refine compA (s := s) (cl := [("key", L + 1)]) (hsw := by kernel_rfl) (hclos := by kernel_rfl) ?_
      refine Call_ (nameB B S (by k_is) (by boot_fast) (by decide) ?_)
      refine PyProof.Rows.callWith_type1 ?_
      refine args_cons ?_
      refine Call_ (nameB B S (by k_is) (by boot_fast) (by decide) ?_)
      refine PyProof.Rows.callWith_type1 ?_
      refine args_cons (cInt (args_cons (wpAny_UnaryOp (nameL S rfl (negI (args_cons (wpAny_UnaryOp (cInt (negI (args_nil ?_))))))))))
      refine callRange3 S (by decide) (PyProof.noPylong_small (by decide)) fun r t1 t2 t3 h6 S hlt6 => ?_
      refine args_cons (nameL S rfl (args_nil ?_))
      refine callZip S (S.N.get (.head _)) (S.N.get (.tail _ (.head _))) (by simp [Builtin.Range.small, Builtin.Range.rangeFitsLong, rangeSize_down]; split <;> first | first | lia | omega | (simp; first | lia | omega)) fun i1 TI TO z h7 S hb1 hb2 hb3 hb4 hb5 hb6 => ?_
      rw [show Builtin.Range.rangeSize 0 (-n) (-1) = (n.toNat : Int) by rw [rangeSize_down]; split <;> first | lia | omega] at S
      refine zSelf (S.N.get (.head _)) ?_
      have hmem : ∀ p ∈ [(z, zipO .none TI TO), (TO, pairO .none .none), (i1, rangeIt 0 (n.toNat : Int) (-1)), (it, lsO (.ref ax) 0), (TI, pairO (.ref i1) (.ref it))], p ∈ (z, zipO .none TI TO) :: (TO, pairO .none .none) :: (TI, pairO (.ref i1) (.ref it)) :: (i1, rangeIt 0 (n.toNat : Int) (-1)) :: (r, rangeO 0 (-n) (-1) t1 t2 t3) :: (it, lsO (.ref ax) 0) :: (L + 1, oc) :: fl' := fun p hp => by
        rcases List.mem_cons.mp hp with rfl | hp
        · exact .head _
        rcases List.mem_cons.mp hp with rfl | hp
        · exact .tail _ (.head _)
        rcases List.mem_cons.mp hp with rfl | hp
        · exact .tail _ (.tail _ (.tail _ (.head _)))
        rcases List.mem_cons.mp hp with rfl | hp
        · exact .tail _ (.tail _ (.tail _ (.tail _ (.tail _ (.head _)))))
        rcases List.mem_singleton.mp hp with rfl
        exact .tail _ (.tail _ (.head _))
      refine ⟨h7, _, _, rfl, fun p hp => (S.N p (hmem p hp)).1, fun h₂ tk₂ Q' E' hp hq => zSelf (hp _ (.head _)) hq, fun gi C h8 tk8 Si hC hgi1 hgi2 hgi3 => ?_⟩
      have hLi : L + 1 < i1 := hb1 (L + 1, oc) (.tail _ (.tail _ (.head _)))
      have hnot : ∀ a, a ≠ it → a < i1 → a ∉ [(z, zipO .none TI TO), (TO, pairO .none .none), (i1, rangeIt 0 (n.toNat : Int) (-1)), (it, lsO (.ref ax) 0), (TI, pairO (.ref i1) (.ref it))].map (·.1) := fun a ha hlt hm => by
        simp only [List.map_cons, List.map_nil] at hm
        rcases List.mem_cons.mp hm with rfl | hm
        · exact absurd hlt (Nat.not_lt.mpr (Nat.le_of_lt (Nat.lt_trans hb3 (Nat.lt_trans hb4 hb5))))
        rcases List.mem_cons.mp hm with rfl | hm
        · exact absurd hlt (Nat.not_lt.mpr (Nat.le_of_lt (Nat.lt_trans hb3 hb4)))
        rcases List.mem_cons.mp hm with rfl | hm
        · exact absurd hlt (Nat.lt_irrefl _)
        rcases List.mem_cons.mp hm with rfl | hm
        · exact ha rfl
        rcases List.mem_singleton.mp hm with rfl
        exact absurd hlt (Nat.not_lt.mpr (Nat.le_of_lt hb3))
      have hgg : Keeps g gi := fun a o e => hgi1 a o (fun q => by
        obtain ⟨p, hp, rfl⟩ := List.mem_map.mp q
        rw [(S.N p (hmem p hp)).2.2] at e; cases e) (S.keep a o e)
      have hDz : z < h7.objs.size := S.below (z, _) (.head _)
      have hDT : TO < h7.objs.size := S.below (TO, _) (.tail _ (.head _))
      have hDI : TI < h7.objs.size := S.below (TI, _) (.tail _ (.tail _ (.head _)))
      have hD1 : i1 < h7.objs.size := S.below (i1, _) (.tail _ (.tail _ (.tail _ (.head _))))
      have hDi : it < h7.objs.size := Nat.lt_trans hb2 hD1
      refine zipLoop true n.toNat (by exact hh) (show A.depth + 1 + 4 < _ by first | lia | omega) (hkg.mono hgg) (fun h' hk => hfg h' (hgg.trans hk)) (hgg _ _ haxg) hv h63 (hgi1 (L + 1) oc (hnot _ hitc.symm hLi) (S.N.get (.tail _ (.tail _ (.tail _ (.tail _ (.tail _ (.tail _ (.head _)))))))))  hoc
        ⟨Nat.ne_of_gt hb5, Nat.ne_of_gt (Nat.lt_trans hb3 (Nat.lt_trans hb4 hb5)), Nat.ne_of_gt (Nat.lt_trans hb2 (Nat.lt_trans hb3 (Nat.lt_trans hb4 hb5))), Nat.ne_of_gt (Nat.lt_trans hb3 hb4), Nat.ne_of_gt (Nat.lt_trans hb2 (Nat.lt_trans hb3 hb4)), Nat.ne_of_gt hb2, fun p hp => ?ap⟩
        (Nat.ne_of_lt hDI) hDz hDT hD1 hDi hDI (Si.below _ (.head _)) (Si.sub fun p hp => ?ss) rfl rfl rfl rfl ?_
      case ap =>
        rcases List.mem_cons.mp hp with rfl | hp
        · exact ⟨Nat.ne_of_lt (Nat.lt_trans hb4 hb5), Nat.ne_of_lt hb4, Nat.ne_of_gt hb3, Nat.ne_of_gt (Nat.lt_trans hb2 hb3)⟩
        · rcases List.mem_singleton.mp hp with rfl
          exact ⟨Nat.ne_of_gt hDz, Nat.ne_of_gt hDT, Nat.ne_of_gt hD1, Nat.ne_of_gt hDi⟩
      case ss =>
        rcases List.mem_cons.mp hp with rfl | hp
        · exact .tail _ (.head _)
        rcases List.mem_cons.mp hp with rfl | hp
        · exact .tail _ (.tail _ (.head _))
        rcases List.mem_cons.mp hp with rfl | hp
        · exact .tail _ (.tail _ (.tail _ (.head _)))
        rcases List.mem_cons.mp hp with rfl | hp
        · exact .tail _ (.tail _ (.tail _ (.tail _ (.head _))))
        rcases List.mem_cons.mp hp with rfl | hp
        · exact .tail _ (.tail _ (.tail _ (.tail _ (.tail _ (.head _)))))
        rcases List.mem_singleton.mp hp with rfl
        exact .head _
      intro h9 tk9 items el od tups al9 ep9 src hsrc S9 P hel hod htD
      have hitl : it < i1 := hb2
      have hfl' : ∀ p ∈ fl', p.1 ≠ it ∧ p.1 < i1 := fun p hp => ⟨fun q => hitf (q ▸ List.mem_map_of_mem hp), hb1 p (.tail _ (.tail _ (.tail _ hp)))⟩
      have hrst : ∀ p ∈ (L + 1, oc) :: fl', p.1 ≠ it ∧ p.1 < i1 := fun p hp => by
        rcases List.mem_cons.mp hp with rfl | hp
        · exact ⟨hitc.symm, hLi⟩
        · exact hfl' p hp
      have hDD : L < h7.objs.size := S.lt
      have hil : items.length = min n.toNat N := by have := congrArg List.length hel; simpa using this
      refine compEndU (rest := (L + 1, oc) :: fl') S hmem (fun p hp => ⟨.tail _ (.tail _ (.tail _ (.tail _ (.tail _ (.tail _ hp))))), hnot p.1 (hrst p hp).1 (hrst p hp).2⟩) hgi1 S9 hC (fun p hp => ?nw) fun oC So hneC => ?_
      case nw =>
        rcases List.mem_cons.mp hp with rfl | hp
        · exact .inl (.tail _ (.tail _ (.tail _ (.head _))))
        rcases List.mem_cons.mp hp with rfl | hp
        · exact .inl (.tail _ (.tail _ (.tail _ (.tail _ (.head _)))))
        rcases List.mem_cons.mp hp with rfl | hp
        · exact .inr (Nat.le_refl _)
        · exact .inr (Nat.le_of_lt (htD p hp))
      refine wpAny_assign_Name (storeL So fun h10 tk10 So => ⟨h10, tk10, _, _, rfl, So, hneC, fun h11 S11 => ?_⟩)
      have hne : ∀ p ∈ tups ++ (L + 1, oc) :: fl', p.1 ≠ it ∧ p.1 ≠ h7.objs.size := fun p hp => by
        rcases List.mem_append.mp hp with hp | hp
        · exact ⟨Nat.ne_of_gt (Nat.lt_trans hDi (htD p hp)), Nat.ne_of_gt (htD p hp)⟩
        · exact ⟨(hrst p hp).1, Nat.ne_of_lt (Nat.lt_trans (hrst p hp).2 hD1)⟩
      have hfl2 : ∀ p ∈ fl', p ∈ tups ++ (L + 1, oc) :: fl' := fun p hp => List.mem_append_right _ (.tail _ hp)
      have S := S11.sub (news' := (it, src) :: (h7.objs.size, listOf items.toArray ep9) :: (tups ++ (L + 1, oc) :: fl')) fun p hp => by
        rcases List.mem_cons.mp hp with rfl | hp
        · exact .head _
        · exact .tail _ (.tail _ hp)
      have P := P.grow (led' := tups ++ (L + 1, oc) :: fl') fun p hp => List.mem_append_left _ hp
      clear S11 So S9 Si
      generalize hDe : h7.objs.size = D at S hne hDD hDi htD
      clear hmem hrst hfl' hneC hgi1 hgi2 hgi3 hC hDz hDT hDI
      have hDf : ∀ {h' al ns o}, St g L h' al ns → (D, o) ∈ ns → h.get? D = none := fun S' hm => hfresh S' hm (hbig D hDD)
      refine exN (wpAny_If (isTrue_not (wpAny_isTrue_value (nameL S rfl (wpAny_truthy_list (s := sh s h11 tk10) ⟨_, S.N.get (.tail _ (.head _)), rfl, _, rfl⟩ (by rw [List.size_toArray]; first | lia | omega) ?_)))))
      by_cases hemp : items = []
      · rw [if_pos (by simp [hemp])]
        refine exN (wpAny_Return_some (nameL (s := s) S rfl ?_))
        refine hQ D [] ep9 _ _ fl' hsl (fun p hp => (S.N p (.tail _ (.tail _ (hfl2 p hp)))).1) (kb S) (hDf S (.tail _ (.head _))) (hemp ▸ S.N.get (.tail _ (.head _))) ?_
        have : n.toNat = 0 := by
          have : items.length = 0 := by rw [hemp]; rfl
          first | lia | omega
        rw [this]; exact .nil
      rw [if_neg (by simp [hemp])]
      have hil0 : 0 < items.length := List.length_pos_iff.mpr hemp
      have hnn : (2 : Int) ≤ n := by first | lia | omega
      have hil2 : 2 ≤ items.length := by first | lia | omega
      refine wpAny_execs_nil ?_
      have hkit : ∀ v ∈ items, KOk kind (K (el v)) := fun v hv => hkg.1 _ (by
        have : el v ∈ List.range (min n.toNat N) := hel ▸ List.mem_map_of_mem hv
        have := List.mem_range.mp this
        first | lia | omega)
      have Lw : Lower (aheadR true K) (min n.toNat N) (items.map el) := Lower.all _ _ (by rw [hel])
      refine exN (wpAny_Expr (Call_ (nameK B S (by k_is) (callWith_K (s := sh s h11 (tk10 + 1 + 1)) (K := hd.heap_39 w.params) B.X (by k_is) (args_cons (nameL S rfl (args_nil ⟨B.X.keeps S.keep, ?_⟩)))))))
      refine heapify_min (rr true K el) B S.keep ⟨S.N.get (.tail _ (.head _)), (S.N _ (.tail _ (.head _))).2.2⟩ (show A.depth + 1 + 2 < _ by first | lia | omega) (by first | lia | omega) (show A.units + 3 < 370 by first | lia | omega) (by exact hh) (P.cmp w (fun p hp => ⟨(S.N p (.tail _ (.tail _ hp))).1, (hne p hp).2⟩) hkit) fun h12 tk12 hk12 hD12 => ?_
      have hitD : D ≠ it := Nat.ne_of_gt hDi
      have S := S.chg (.tail hitD.symm (.head fun p hp => (hne p hp).2)) hk12 hD12
      have hpm : (hfF (rr true K el) Value.none (items.length / 2) items).Perm items := hfF_perm _ _ (Nat.div_le_self ..)
      have H := heapify_heap (d := Value.none) (rr_swo true K el) items
      have P := P.perm hpm
      have Lw := Lw.perm (hpm.map el)
      have hq0 : ∀ v ∈ hfF (rr true K el) Value.none (items.length / 2) items, Bey true (od v) (-n) := fun v hv => by
        have hv := hpm.mem_iff.mp hv
        have : el v ∈ List.range (min n.toNat N) := hel ▸ List.mem_map_of_mem hv
        have := List.mem_range.mp this
        rw [hod v hv]; unfold Bey ordS; simp; first | lia | omega
      have hil' : (hfF (rr true K el) Value.none (items.length / 2) items).length = items.length := hfF_len _ _
      generalize hfF (rr true K el) Value.none (items.length / 2) items = items2 at S H P Lw hq0 hil'
      obtain ⟨e0, hm0⟩ := getD_mem (its := items2) (i := 0) (by first | lia | omega)
      obtain ⟨b0, o0, hb0, hbm, u1, u2, u3, ho0⟩ := P.trip _ hm0
      have hi0 : items2.toArray[((0 : Int)).toNat]? = some (.ref b0) := by rw [← hb0]; simpa using e0
      have hb1' := S.N.get (.tail _ (.tail _ hbm))
      rw [ho0] at hb1'
      refine exN (wpAny_Assign_Name (Subscript_ (Subscript_ (nameL S rfl (cInt (getL (S.N.get (.tail _ (.head _))) (by first | lia | omega) (by first | lia | omega) hi0 (cInt (getT0 hb1' (storeL S fun h13 tk13 S => ?_)))))))))
      refine exN (wpAny_Assign_Name (wpAny_UnaryOp (nameL S rfl (negI (storeL S fun h14 tk14 S => ?_)))))
      refine exN (wpAny_Assign_Name (nameK B S (by k_is) (storeL S fun h15 tk15 S => ?_)))
      refine exN (loopG (replLarge w) (by k_is) (ceLarge ⟨rfl, by walk_at "al"⟩) (fun q t u h tk Q hq => isubI hq) (rest := (L + 1, oc) :: fl') (j0 := min n.toNat N) B (by exact hh) (show A.depth + 1 + 4 < _ by first | lia | omega) (show A.units + 3 < 370 by first | lia | omega) hkg hfg haxg hv h63 ⟨rfl, by walk_at "al"⟩ rfl rfl hoc (.head _) hitD (S.weaken (by walk_at "al") fun _ hp => hp) ?src (fun p hp => List.mem_append_right _ hp) hne P H Lw (by first | lia | omega) (by first | lia | omega) hq0 fun h16 tk16 items3 el3 od3 led3 ep3 src3 S P3 Lw3 hil3 hre3 hne3 => ?_)
      case src =>
        cases hsrc with
        | live h => exact .live (by first | lia | omega)
        | gone h => exact .gone (by first | lia | omega)
      have S := S.sub (news' := (D, listOf items3.toArray ep3) :: led3) fun p hp => .tail _ hp
      have hk3 : ∀ v ∈ items3, KOk kind (K (el3 v)) := fun v hv => hkg.1 _ (Lw3.lt _ (List.mem_map_of_mem hv))
      refine exN (wpAny_Expr (sortM1 (s := s) (nameL S rfl ⟨D, _, _, _, _, rfl, rfl, S.N.get (.head _), ?_⟩)))
      refine sortMax S (fun p hp => (hne3 p hp).2) (pool_trip P3 hk3) (by first | lia | omega) (by first | lia | omega) fun h17 ep17 S => ?_
      obtain ⟨out, hout, hol, hT, hfin⟩ := pool_out (m := n.toNat) (N := N) (lt := (fun a b => lt3 b a)) rfl P3 Lw3 (by first | lia | omega)
      rw [← hout] at S
      refine exN (wpAny_Return_some ?_)
      refine compV (s := s) (cl := []) ?_
      refine nameL S rfl (iterL S (S.N.get (.head _)) fun it2 h18 S hlt18 hit2 hs18 => ?_)
      refine ⟨h18, _, [(it2, lsO (.ref D) 0)], rfl, fun p hp => (S.N p (by rcases List.mem_singleton.mp hp with rfl; exact .head _)).1, fun h₂ tk₂ Q' E' hp hq => iterSelf (hp _ (.head _)) hq, fun gj C2 h19 tk19 Sj hC2 hgj1 hgj2 hgj3 => ?_⟩
      have hn2 : ∀ p ∈ (D, listOf out.toArray ep17) :: led3, p.1 ∉ [(it2, lsO (.ref D) 0)].map (·.1) := fun p hp q => by
        have := hlt18 p hp
        simp only [List.map_cons, List.map_nil] at q
        rw [List.mem_singleton.mp q] at this; exact absurd this (Nat.lt_irrefl _)
      have hi2 : it2 < h18.objs.size := S.below (it2, _) (.head _)
      refine elemLoop (kind := kind) (items := out) (kk := fun i => K (el3 (out.getD i .none))) (od := fun i => od3 (out.getD i .none)) (e := fun i => el3 (out.getD i .none)) (by exact hh) (hgj1 _ _ (hn2 _ (.head _)) (S.N.get (.tail _ (.head _)))) (fun i hi => ?tt) (by first | lia | omega) (Nat.ne_of_gt hi2) Sj rfl rfl rfl rfl fun h20 tk20 ys al20 ep20 hys Sf => ?_
      case tt =>
        obtain ⟨a, o, e1, e2, e3⟩ := hT i hi
        exact ⟨a, o, e1, hgj1 _ _ (hn2 _ (.tail _ e2)) (S.N.get (.tail _ (.tail _ e2))), e3⟩
      have hL18 : L < h18.objs.size := S.lt
      refine compEnd (rest := (D, listOf out.toArray ep17) :: led3) S (fun p hp => by rcases List.mem_singleton.mp hp with rfl; exact .head _) (fun p hp => ⟨.tail _ hp, hn2 p hp⟩) hgj1 Sf hC2 (fun p hp => ?nw2) fun h21 S => ?_
      case nw2 =>
        rcases List.mem_cons.mp hp with rfl | hp
        · exact .inr (Nat.le_refl _)
        · rcases List.mem_singleton.mp hp with rfl; exact .inl (.head _)
      refine hQ _ ys ep20 _ _ fl' hsl (fun p hp => (S.N p (.tail _ (.tail _ (.tail _ (hre3 _ (.tail _ hp)))))).1) (kb S) (hfresh S (.head _) (hbig _ hL18)) (S.N.get (.head _)) ?_
      rw [← hfin]; exact hys
    · exact hv'
end Mine
/- MRun -/
namespace Mine
open PySem PySem.W PyProof.Rows PySem.Calls
theorem sel_small : SelOk 122 false := fun a b c d e f g h i j k l m n o p q r s t => nsmallest a b c d e f g h i j k l m n o p q r s t
theorem sel_large : SelOk 128 true := fun a b c d e f g h i j k l m n o p q r s t => nlargest a b c d e f g h i j k l m n o p q r s t

theorem law_run {w : World} {A : Around} {s : Shared} {b h : Heap} {tk : Nat} {Q E : Value → Shared → Prop} {wish : Int} {t : Tok} {ln Lw : Addr} {ow : Obj} {ns : List Value} {xs : List Int} {ep : Nat} {env0 : Env}
  {p : Program} {loose : List Str} {mean : ExcName → Option Value} {mg mb : Str → Option Value}
  (B : Ba w b) (T : Top p loose mean mg mb b) (hb : Keeps b h) (hroom : A.depth + 12 < recursionLimit) (hh : A.handled = none) (hun : A.units < 250) (hfr : A.frames = some [env0]) (hfo : FrOk [env0] [(Lw, ow)])
  (hLw : h.get? Lw = some ow ∧ b.get? Lw = none) (hP : h.get? 163 = some (tabObj #[]) ∧ b.get? 163 = none) (hne : Lw ≠ 163)
  (hln : h.get? ln = some (listOf ns.toArray ep)) (hlnL : ln ≠ Lw) (hi : IntsAre ns xs) (h6 : 6 ≤ xs.length) (h14 : xs.length ≤ 14)
  (hQ : ∀ h' tk' ps, KeepsBut [163, Lw] h h' → h'.get? 163 = some (tabObj ps) → Q (.bool true) (sh s h' tk')) :
  wpAny (model PySem.Challenge.rw_mr0271_01.row.prog w) A (call (.ref 166) [.int wish t, .ref ln] []) Q E (sh s h tk) := by
  have hln1 : ln ≠ 163 := fun q => by rw [q, hP.1] at hln; cases hln
  have hnl : ns.length = xs.length := hi.length
  have hdep : A.depth + 1 < recursionLimit := by first | lia | omega
  refine enterC B hb [(163, tabObj #[]), (Lw, ow)] (fun p hp => ?_) (by k_is) (by k_is) (by first | lia | omega) (binds := [("wish", .int wish t), ("numbers", .ref ln)]) (al := [("wish", .int wish t), ("numbers", .ref ln)]) (BindsTo.of_eq rfl) (fun n x hx => ?_) (by decide) (fun L' => by walk_at "al") ?_
  · rcases List.mem_cons.mp hp with rfl | hp
    · exact hP
    · rcases List.mem_singleton.mp hp with rfl; exact hLw
  · rcases List.mem_cons.mp hx with rfl | hx
    · exact .inl rfl
    · rcases List.mem_singleton.mp hx with rfl; exact .inl rfl
  intro g L h₁ tk cells S Y B' hL hg1 hg2 hg3
  have T : Top p loose mean mg mb g := T.keeps fun a o e => hg1 a o (fun q => by
    rcases List.mem_cons.mp q with q | q
    · rw [q, hP.2] at e; cases e
    · rw [List.mem_singleton.mp q, hLw.2] at e; cases e) (hb a o e)
  have B := B'
  clear B'
  obtain ⟨oT, oR, rfl, hoT, hoR⟩ := Y.two
  have hoT : oT.data = .cell none := hoT
  have hoR : oR.data = .cell none := hoR
  clear Y
  have h163 : 163 < L := by rw [hL]; exact Heap.lt_size hP.1
  have hLwL : Lw < L := by rw [hL]; exact Heap.lt_size hLw.1
  have kbf : ∀ {h' al ns}, St g L h' al ns → KeepsBut [163, Lw] h h' := fun S' x o n e => S'.keep x o (hg1 x o n e)
  have hlng : g.get? ln = some (listOf ns.toArray ep) := hg1 _ _ (fun q => by
    rcases List.mem_cons.mp q with q | q
    · exact hln1 q
    · exact hlnL (List.mem_singleton.mp q)) hln
  have S : St g L h₁ [("wish", .int wish t), ("numbers", .ref ln)] [(163, tabObj #[]), (L + 1, oR), (L + 2, oT), (Lw, ow)] := S.weaken (by walk_at "al") (by walk_at "nw")
  -- rows
  refine exN (wpAny_Assign_Name ?_ (by kernel_rfl))
  refine compKvV (kind := 1) (cl := []) (fun _ l => l.length ≤ 3 ∧ ∀ x ∈ l, x < 256) S (by exact hh) (fun Q' hq => nameL S rfl hq) (S.keep _ _ hlng) (by first | lia | omega) ?_ fun Dr kr er h2 tk2 hkr hPr S hlr => ?_
  · intro gi C hk hn i hi' h' tk' al' news' Q' Si hq
    have Bi := B.keeps hk
    obtain ⟨ti, hti⟩ := intsAre_at hi hi'
    have hti' : ns.getD i .none = .int (xs.getD i 0) ti := by rw [List.getD_eq_getElem?_getD, hti]; rfl
    rw [hti'] at Si
    refine Call_ (nameCK Bi Si (by k_is) (callWith_K (K := hd.heap_39 w.params) Bi.X (by k_is) (args_cons (nameCL Si rfl (args_nil ⟨Bi.X.keeps Si.keep, ?_⟩)))))
    exact law_octets Bi Si.keep hdep (by exact hh) fun l h'' tk'' t'' h1 h2 hk' => hq l h'' tk'' t'' ⟨h1, h2⟩ hk'
  have hLr : L < Dr := Nat.lt_trans (Nat.lt_succ_self _) (hlr (L + 1, oR) (.tail _ (.head _)))
  have ne1 : (163 : Addr) ≠ L + 1 := Nat.ne_of_lt (Nat.lt_succ_of_lt h163)
  have ne2 : (163 : Addr) ≠ L + 2 := Nat.ne_of_lt (Nat.lt_succ_of_lt (Nat.lt_succ_of_lt h163))
  have ne3 : Lw ≠ L + 1 := Nat.ne_of_lt (Nat.lt_succ_of_lt hLwL)
  have ne4 : Lw ≠ L + 2 := Nat.ne_of_lt (Nat.lt_succ_of_lt (Nat.lt_succ_of_lt hLwL))
  have ne5 : L + 2 ≠ L + 1 := Nat.succ_ne_self _
  have big : ∀ {a : Addr}, L + 2 < a → a ≠ 163 ∧ a ≠ Lw ∧ a ≠ L + 1 ∧ a ≠ L + 2 := fun {a} ha => by
    have ha1 : L < a := Nat.lt_trans (Nat.lt_succ_of_lt (Nat.lt_succ_self L)) ha
    exact ⟨Nat.ne_of_gt (Nat.lt_trans h163 ha1), Nat.ne_of_gt (Nat.lt_trans hLwL ha1), Nat.ne_of_gt (Nat.lt_trans (Nat.lt_succ_self _) ha), Nat.ne_of_gt ha⟩
  have hkvl : ∀ k (ks : List (List Nat × Tok)), (kvs k ks).length = ks.length := fun k ks => by simp [kvs]
  have bDr : L + 2 < Dr := hlr (L + 2, oT) (.tail _ (.tail _ (.head _)))
  refine storeC S (c := L + 1) rfl (UpdF.tail (big bDr).2.2.1 (UpdF.tail ne1 (UpdF.head fun p hp => ?_))) hoR fun h3 oR S hoR => ?_
  · rcases List.mem_cons.mp hp with rfl | hp
    · exact ne5
    · rcases List.mem_singleton.mp hp with rfl; exact ne3
  have hkr' : kr.length = xs.length := by first | lia | omega
  have hr3 : ∀ p ∈ kr, (∀ x ∈ p.1, x < 256) ∧ p.1.length ≤ 3 := fun p hp => ⟨(kF_all (P := fun l => l.length ≤ 3 ∧ ∀ x ∈ l, x < 256) hPr p hp).2, (kF_all (P := fun l => l.length ≤ 3 ∧ ∀ x ∈ l, x < 256) hPr p hp).1⟩
  -- texts
  refine exN (wpAny_Assign_Name ?_ (by kernel_rfl))
  refine compKvV (kind := 0) (cl := []) (fun i l => l = kF kr i) S (by exact hh) (fun Q' hq => nameC S rfl (.tail _ (.tail _ (.head _))) hoR hq) (S.N.get (.head _)) (by rw [hkvl]; first | lia | omega) ?_ fun Dt kt et h4 tk4 hkt hPt S hlt => ?_
  · intro gi C hk hn i hi' h' tk' al' news' Q' Si hq
    have Bi := B.keeps hk
    rw [hkvl] at hi'
    obtain ⟨ti, hti'⟩ := getD_kvs (kind := 1) hi'
    rw [hti'] at Si
    refine Call_ (nameCK Bi Si (by k_is) (callWith_K (K := hd.heap_39 w.params) Bi.X (by k_is) (args_cons (nameCL Si rfl (args_nil ⟨Bi.X.keeps Si.keep, ?_⟩)))))
    exact law_text Bi Si.keep hdep (by exact hh) (by have := (hPr i hi').1; first | lia | omega) (hPr i hi').2 fun h'' tk'' t'' hk' => hq _ h'' tk'' t'' rfl hk'
  have bDt : L + 2 < Dt := hlt (L + 2, oT) (.tail _ (.tail _ (.tail _ (.head _))))
  have hDrt : Dr < Dt := hlt (Dr, _) (.head _)
  refine storeC S (c := L + 2) rfl (UpdF.tail (big bDt).2.2.2 (UpdF.tail (big bDr).2.2.2 (UpdF.tail ne2 (UpdF.tail ne5.symm (UpdF.head fun p hp => ?_))))) hoT fun h5 oT S hoT => ?_
  · rcases List.mem_singleton.mp hp with rfl; exact ne4
  have hkt' : kt.length = xs.length := by rw [hkvl] at hkt; first | lia | omega
  have eT : kF kt = kF kr := by
    have := kF_ext (ks := kr) (ks' := kt) (f := id) rfl (by first | lia | omega) hPt
    exact this
  -- bare
  refine exN ?_
  refine compKvA (kind := 0) (cl := []) (fun i l => l = eF (kF kt i)) S (by exact hh) (fun Q' hq => nameC S rfl (.tail _ (.tail _ (.tail _ (.tail _ (.head _))))) hoT hq) (S.N.get (.head _)) (by rw [hkvl]; first | lia | omega) ?_ (fun Db kb eb h6 tk6 hkb hPb S hlb => ?_) (hsw := by kernel_rfl)
  · intro gi C hk hn i hi' h' tk' al' news' Q' Si hq
    have Bi := B.keeps hk
    rw [hkvl] at hi'
    obtain ⟨ti, hti'⟩ := getD_kvs (kind := 0) hi'
    rw [hti'] at Si
    refine Call_ (nameCK Bi Si (by k_is) (callWith_K (K := hd.heap_39 w.params) Bi.X (by k_is) (args_cons (nameCL Si rfl (args_nil ⟨Bi.X.keeps Si.keep, ?_⟩)))))
    exact law_ends Bi Si.keep hdep (by rw [eT]; have := (hPr i (by first | lia | omega)).1; first | lia | omega) fun h'' tk'' t'' hk' => hq _ h'' tk'' t'' rfl hk'
  have bDb : L + 2 < Db := hlb (L + 2, oT) (.tail _ (.tail _ (.tail _ (.tail _ (.head _)))))
  have hkb' : kb.length = xs.length := by rw [hkvl] at hkb; first | lia | omega
  have eB : kF kb = fun i => eF (kF kr i) := by
    have := kF_ext (ks := kt) (ks' := kb) (f := eF) rfl (by first | lia | omega) hPb
    rw [this, eT]
  -- places
  refine exN (wpAny_Assign_Name (Call_ (nameB B S (by k_is) (by boot_fast) (by decide) (PyProof.Rows.callWith_type1 (args_cons (Call_ (nameB B S (by k_is) (by boot_fast) (by decide) (PyProof.Rows.callWith_type1 (args_cons ?_)))))))))
  refine Call_ (nameB B S (by k_is) (by boot_fast) (by decide) (PyProof.Rows.callWith_builtin1 (args_cons (nameC S rfl (.tail _ (.tail _ (.tail _ (.tail _ (.head _))))) hoR (args_nil (len_list (s := sh s _ _) ⟨_, S.N.get (.tail _ (.tail _ (.head _))), rfl, _, rfl⟩ (by rw [List.size_toArray, hkvl]; first | lia | omega) ?_))))))
  rw [List.size_toArray, hkvl, hkr']
  refine args_nil (callRange S fun r t1 t2 h7 tk7 S hlt7 => args_nil (callListRange (by exact hh) S (S.N.get (.head _)) (by first | lia | omega) fun Dp vp ep' h8 tk8 hvp S hlp => ?_))
  have bDp : L + 2 < Dp := hlp (L + 2, oT) (.tail _ (.tail _ (.tail _ (.tail _ (.tail _ (.tail _ (.head _)))))))
  refine storeL S fun h9 tk9 S => ?_
  have S : St g L h9 [("places", .ref Dp), ("bare", .ref Db), ("wish", .int wish t)] [(163, tabObj #[]), (Dp, listOf vp.toArray ep'), (Db, listOf (kvs 0 kb).toArray eb), (Dt, listOf (kvs 0 kt).toArray et), (Dr, listOf (kvs 1 kr).toArray er), (L + 1, oR), (L + 2, oT), (Lw, ow)] := S.weaken (by walk_at "al") (by walk_at "nw")
  -- many
  refine exN (wpAny_Assign_Name (wpAny_BinOp (wpAny_BinOp (nameL S rfl (wpAny_BinOp (Call_ (nameB B S (by k_is) (by boot_fast) (by decide) (PyProof.Rows.callWith_builtin1 (args_cons (nameC S rfl (.tail _ (.tail _ (.tail _ (.tail _ (.tail _ (.head _)))))) hoR (args_nil (len_list (s := sh s _ _) ⟨_, S.N.get (.tail _ (.tail _ (.tail _ (.tail _ (.head _))))), rfl, _, rfl⟩ (by rw [List.size_toArray, hkvl]; first | lia | omega) ?_))))))))))))
  rw [List.size_toArray, hkvl, hkr']
  refine cInt (addI (modI (by first | lia | omega) (cInt (subI (storeL S fun h10 tk10 S => ?_)))))
  have hm1 : -64 < wish.fmod ((xs.length : Int) + 3) - 1 := by
    have := Int.fmod_nonneg_of_pos wish (b := (xs.length : Int) + 3) (by first | lia | omega)
    first | lia | omega
  have hm2 : wish.fmod ((xs.length : Int) + 3) - 1 < 64 := by
    have := Int.fmod_lt_of_pos wish (b := (xs.length : Int) + 3) (by first | lia | omega)
    first | lia | omega
  generalize wish.fmod ((xs.length : Int) + 3) - 1 = mm at S hm1 hm2
  obtain ⟨tm, S⟩ : ∃ tm, St g L h10 [("many", .int mm tm), ("places", .ref Dp), ("bare", .ref Db), ("wish", .int wish t)] [(163, tabObj #[]), (Dp, listOf vp.toArray ep'), (Db, listOf (kvs 0 kb).toArray eb), (Dt, listOf (kvs 0 kt).toArray et), (Dr, listOf (kvs 1 kr).toArray er), (L + 1, oR), (L + 2, oT), (Lw, ow)] := ⟨_, S⟩
  -- some
  refine exN (wpAny_Assign_Name (Call_ (nameB B S (by k_is) (by boot_fast) (by decide) (PyProof.Rows.callWith_builtin1 (args_cons (cInt (args_cons (nameL S rfl (args_nil (maxTwo (by exact hh) S fun h11 tk11 ty S => storeL S fun h12 tk12 S => ?_))))))))))
  have hy0 : 0 ≤ (if mm > 0 then mm else 0) := by split <;> first | lia | omega
  have hyn : (if mm > 0 then mm else 0).toNat = mm.toNat := by split <;> first | lia | omega
  generalize (if mm > 0 then mm else 0) = yy at S hy0 hyn
  -- the two defs
  have Cd : CodeHd g 165 163 := codeHd_of_K B.X (by kernel_rfl)
  refine exN (nestS (clos := [("rows", L + 1)]) S T Cd (UpdF.head fun p hp => ?_) trivial rfl (by kernel_rfl) fun f1 fo1 c1 oc1 tb1 vs1 u1 ctv1 doc1 pm1 h13 tk13 hfo1 htb1 S hd1 hv1 hlt1 hcf1 => ?_)
  · rcases List.mem_cons.mp hp with rfl | hp
    · exact (big bDp).1
    rcases List.mem_cons.mp hp with rfl | hp
    · exact (big bDb).1
    rcases List.mem_cons.mp hp with rfl | hp
    · exact (big bDt).1
    rcases List.mem_cons.mp hp with rfl | hp
    · exact (big bDr).1
    rcases List.mem_cons.mp hp with rfl | hp
    · exact ne1.symm
    rcases List.mem_cons.mp hp with rfl | hp
    · exact ne2.symm
    rcases List.mem_singleton.mp hp with rfl
    exact hne
  have bc1 : L + 2 < c1 := hlt1 (L + 2, oT) (.tail _ (.tail _ (.tail _ (.tail _ (.tail _ (.tail _ (.head _)))))))
  have bf1 : L + 2 < f1 := Nat.lt_trans bc1 hcf1
  subst htb1
  refine exN (nestS (clos := [("texts", L + 2)]) S T Cd (UpdF.tail (big bf1).1 (UpdF.tail (big bc1).1 (UpdF.head fun p hp => ?_))) ⟨⟩ (by kernel_rfl) (by kernel_rfl) fun f2 fo2 c2 oc2 tb2 vs2 u2 ctv2 doc2 pm2 h14 tk14 hfo2 htb2 S hd2 hv2 hlt2 hcf2 => ?_)
  · rcases List.mem_cons.mp hp with rfl | hp
    · exact (big bDp).1
    rcases List.mem_cons.mp hp with rfl | hp
    · exact (big bDb).1
    rcases List.mem_cons.mp hp with rfl | hp
    · exact (big bDt).1
    rcases List.mem_cons.mp hp with rfl | hp
    · exact (big bDr).1
    rcases List.mem_cons.mp hp with rfl | hp
    · exact ne1.symm
    rcases List.mem_cons.mp hp with rfl | hp
    · exact ne2.symm
    rcases List.mem_singleton.mp hp with rfl
    exact hne
  have bc2 : L + 2 < c2 := hlt2 (L + 2, oT) (.tail _ (.tail _ (.tail _ (.tail _ (.tail _ (.tail _ (.tail _ (.tail _ (.head _)))))))))
  have bf2 : L + 2 < f2 := Nat.lt_trans bc2 hcf2
  -- least
  have hE : ∀ {e : Env}, e.scope.kind = .function → e.scope.kind ≠ .module := fun h q => by rw [h] at q; cases q
  have nf : ∀ {a : Addr}, L + 2 < a → a ≠ Lw := fun h => (big h).2.1
  have key1 : ∀ b₂, Keeps g b₂ → b₂.get? f1 = some fo1 → b₂.get? c1 = some oc1 → b₂.get? (L + 1) = some oR → b₂.get? Dr = some (listOf (kvs 1 kr).toArray er) → KeyOk w s f1 b₂ 1 (fun i => qF true (kF kr i)) xs.length ∧ ∀ h', Keeps b₂ h' → FnAt f1 h' := fun b₂ hk e1 e2 e3 e4 => by
    subst hfo1
    refine ⟨hkr' ▸ keyOct (B.keeps hk) e1 ⟨_, _, _, _, rfl, e2, hd1, hv1⟩ e3 hoR e4 hr3 (by first | lia | omega) (fun _ _ _ => BindsTo.of_eq rfl) rfl rfl rfl rfl (by decide) (fun _ => rfl) (fun _ => rfl) (fun _ => rfl), fun h' hk' => ⟨_, _, _, _, hk' _ _ e1⟩⟩
  have ht3 : ∀ p ∈ kt, (∀ x ∈ p.1, x < 256) ∧ p.1.length ≤ 3 := kF_all (P := fun l => (∀ x ∈ l, x < 256) ∧ l.length ≤ 3) fun i hi => by rw [eT]; exact ⟨(hPr i (by first | lia | omega)).2, (hPr i (by first | lia | omega)).1⟩
  have key2 : ∀ b₂, Keeps g b₂ → b₂.get? f2 = some fo2 → b₂.get? c2 = some oc2 → b₂.get? (L + 2) = some oT → b₂.get? Dt = some (listOf (kvs 0 kt).toArray et) → KeyOk w s f2 b₂ 0 (fun i => qF true (eF (kF kt i))) xs.length ∧ ∀ h', Keeps b₂ h' → FnAt f2 h' := fun b₂ hk e1 e2 e3 e4 => by
    subst hfo2
    refine ⟨hkt' ▸ keyTxt (B.keeps hk) e1 ⟨_, _, _, _, rfl, e2, hd2, hv2⟩ e3 hoT e4 ht3 (by first | lia | omega) (fun _ _ _ => BindsTo.of_eq rfl) rfl rfl rfl rfl (by decide) (fun _ => rfl) (fun _ => rfl) (fun _ => rfl), fun h' hk' => ⟨_, _, _, _, hk' _ _ e1⟩⟩
  obtain ⟨core, mf1, mc1, mf2, mc2, m163, mDp, mDb, mDt, mDr, mR, mT, hneC, S⟩ : ∃ core : List (Addr × Obj), (f1, fo1) ∈ core ∧ (c1, oc1) ∈ core ∧ (f2, fo2) ∈ core ∧ (c2, oc2) ∈ core ∧ (163, tb2) ∈ core ∧ (Dp, listOf vp.toArray ep') ∈ core ∧ (Db, listOf (kvs 0 kb).toArray eb) ∈ core ∧ (Dt, listOf (kvs 0 kt).toArray et) ∈ core ∧ (Dr, listOf (kvs 1 kr).toArray er) ∈ core ∧ (L + 1, oR) ∈ core ∧ (L + 2, oT) ∈ core ∧ (∀ p ∈ core, p.1 ≠ Lw) ∧ St g L h14 [("_law_by_octets", .ref f1), ("_law_by_text", .ref f2), ("some", .int yy ty), ("many", .int mm tm), ("places", .ref Dp), ("bare", .ref Db)] ((Lw, ow) :: core) := ⟨[(f1, fo1), (c1, oc1), (f2, fo2), (c2, oc2), (163, tb2), (Dp, listOf vp.toArray ep'), (Db, listOf (kvs 0 kb).toArray eb), (Dt, listOf (kvs 0 kt).toArray et), (Dr, listOf (kvs 1 kr).toArray er), (L + 1, oR), (L + 2, oT)], by k_mem, by k_mem, by k_mem, by k_mem, by k_mem, by k_mem, by k_mem, by k_mem, by k_mem, by k_mem, by k_mem, List.forall_mem_cons.mpr ⟨nf bf1, List.forall_mem_cons.mpr ⟨nf bc1, List.forall_mem_cons.mpr ⟨nf bf2, List.forall_mem_cons.mpr ⟨nf bc2, List.forall_mem_cons.mpr ⟨hne.symm, List.forall_mem_cons.mpr ⟨nf bDp, List.forall_mem_cons.mpr ⟨nf bDb, List.forall_mem_cons.mpr ⟨nf bDt, List.forall_mem_cons.mpr ⟨nf bDr, List.forall_mem_cons.mpr ⟨ne3.symm, List.forall_mem_cons.mpr ⟨ne4.symm, fun _ h => nomatch h⟩⟩⟩⟩⟩⟩⟩⟩⟩⟩⟩, S.weaken (by walk_at "al") (by walk_at "nw")⟩
  have hd9 : A.depth + 1 + 8 < recursionLimit := by first | lia | omega
  have hu3 : A.units + 3 < 300 := by first | lia | omega
  have huc : A.units + 3 < cLine := Nat.lt_trans hu3 (by decide)
  have hN2 : 2 ≤ xs.length := by first | lia | omega
  have hN63 : xs.length < 63 := by first | lia | omega
  have hkr64 : kr.length < 64 := by first | lia | omega
  have hkt64 : kt.length < 64 := by first | lia | omega
  have hkb64 : kb.length < 64 := by first | lia | omega
  refine exN (wpAny_Assign_Name ?_)
  refine CallK_ (nameK B S (by k_is) (callWith_KW (K := hd.heap_39 w.params) B.X (by k_is) rfl (args_cons (nameL S rfl (args_cons (nameL S rfl (args_nil (kwAll_cons (nameL S rfl (kwAll_nil ⟨B.X.keeps S.keep, ?_⟩))))))))))
  have hLwN1 := S.N.get (a := Lw) (o := ow) (.head _)
  have neL1 : ∀ p ∈ core, p.1 ≠ Lw := hneC
  refine sel_use (rest := core) (N := xs.length) sel_small S B hd9 (by exact hh) hu3 (by show A.frames.map _ = _; rw [hfr]; rfl) (hE rfl) rfl hfo (.head _) .lst (fun p hp => ⟨.tail _ hp, neL1 p hp, fun q => nomatch q⟩) mDp (fun q => nomatch q)
    (fun b₂ hk hr => key1 b₂ hk (hr _ mf1) (hr _ mc1) (hr _ mR) (hr _ mDr)) hvp hN2 hN63 hm1 hm2 fun D1 il1 el1 ow hs1 tks1 hfo S hn1 hI1 => ?_
  have nD1 : D1 ≠ Lw := fun q => by rw [q, hLwN1] at hn1; cases hn1
  have hI1 : IntsAre il1 (((srt (aheadR false (kF kr)) kr.length).take yy.toNat).map Int.ofNat) := by rw [hyn, hkr', ← aheadR_qF false true]; exact hI1
  refine storeL S fun hl1 tkl1 S => ?_
  have S := S.turn
  refine exN (wpAny_If (wpAny_isTrue_Compare1 (nameL S rfl ?_)))
  refine orderUpto (ks := kr) (kind := 1) (gt := false) S B hdep (by exact hh) (fun Q' hq => nameC S rfl (.tail _ (.tail _ mR)) hoR hq) (S.N.get (.tail _ (.tail _ mDr))) (fun p hp => .inr ⟨rfl, (hr3 p hp).1⟩) hkr64 rfl hy0 fun Do1 io1 eo1 ho1 tko1 hio1 S => ?_
  refine neInts (S.N.get (.tail _ (.tail _ (.head _)))) (S.N.get (.head _)) hI1 hio1 huc (wpAny_truthy_bool ?_)
  rw [if_neg Bool.false_ne_true]
  refine wpAny_execs_nil ?_
  have S := S.pop
  refine exN (wpAny_If (wpAny_isTrue_Compare1 ?_))
  refine CallK_ (nameK B S (by k_is) (callWith_KW (K := hd.heap_39 w.params) B.X (by k_is) rfl (args_cons (nameL S rfl (args_cons ?_)))))
  refine Call_ (nameB B S (by k_is) (by boot_fast) (by decide) (PyProof.Rows.callWith_builtin1 (args_cons (nameL S rfl (args_nil (callIter (iterK S (S.N.get (.tail _ (.tail _ mDp))) fun it2 hi2 hki2 S hlti2 hiti2 => ?_)))))))
  refine args_nil (kwAll_cons (nameL S rfl (kwAll_nil ⟨B.X.keeps S.keep, ?_⟩)))
  have hLwN2 := S.N.get (a := Lw) (o := ow) (.tail _ (.head _))
  have neL2 : ∀ p ∈ (D1, listOf il1.toArray el1) :: core, p.1 ≠ Lw := List.forall_mem_cons.mpr ⟨nD1, hneC⟩
  refine sel_use (rest := (D1, listOf il1.toArray el1) :: core) (N := xs.length) sel_large S B hd9 (by exact hh) hu3 (by show A.frames.map _ = _; rw [hfr]; rfl) (hE rfl) rfl hfo (.tail _ (.head _)) (.itr (.head _)) (fun p hp => ⟨.tail _ (.tail _ hp), neL2 p hp, fun q => absurd (List.mem_singleton.mp q) (Nat.ne_of_lt (hlti2 p (.tail _ hp)))⟩) (.tail _ mDp) (fun q => absurd (List.mem_singleton.mp q) (Nat.ne_of_lt (hlti2 (Lw, ow) (.head _))))
    (fun b₂ hk hr => key1 b₂ hk (hr _ (.tail _ mf1)) (hr _ (.tail _ mc1)) (hr _ (.tail _ mR)) (hr _ (.tail _ mDr))) hvp hN2 hN63 hm1 hm2 fun D2 il2 el2 ow hs2 tks2 hfo S hn2 hI2 => ?_
  have nD2 : D2 ≠ Lw := fun q => by rw [q, hLwN2] at hn2; cases hn2
  have hI2 : IntsAre il2 (((srt (aheadR true (kF kr)) kr.length).take yy.toNat).map Int.ofNat) := by rw [hyn, hkr', ← aheadR_qF true true]; exact hI2
  refine orderUpto (ks := kr) (kind := 1) (gt := true) S B hdep (by exact hh) (fun Q' hq => nameC S rfl (.tail _ (.tail _ (.tail _ mR))) hoR hq) (S.N.get (.tail _ (.tail _ (.tail _ mDr)))) (fun p hp => .inr ⟨rfl, (hr3 p hp).1⟩) hkr64 rfl hy0 fun Do2 io2 eo2 ho2 tko2 hio2 S => ?_
  refine neInts (S.N.get (.tail _ (.head _))) (S.N.get (.head _)) hI2 hio2 huc (wpAny_truthy_bool ?_)
  rw [if_neg Bool.false_ne_true]
  refine wpAny_execs_nil ?_
  have S := S.pop.pop
  refine exN (wpAny_Assign_Name ?_)
  refine CallK_ (nameK B S (by k_is) (callWith_KW (K := hd.heap_39 w.params) B.X (by k_is) rfl (args_cons (nameL S rfl (args_cons (nameL S rfl (args_nil (kwAll_cons (nameL S rfl (kwAll_nil ⟨B.X.keeps S.keep, ?_⟩))))))))))
  have hLwN3 := S.N.get (a := Lw) (o := ow) (.head _)
  have neL3 : ∀ p ∈ (D1, listOf il1.toArray el1) :: core, p.1 ≠ Lw := List.forall_mem_cons.mpr ⟨nD1, hneC⟩
  refine sel_use (rest := (D1, listOf il1.toArray el1) :: core) (N := xs.length) sel_large S B hd9 (by exact hh) hu3 (by show A.frames.map _ = _; rw [hfr]; rfl) (hE rfl) rfl hfo (.head _) .lst (fun p hp => ⟨.tail _ hp, neL3 p hp, fun q => nomatch q⟩) (.tail _ mDp) (fun q => nomatch q)
    (fun b₂ hk hr => key2 b₂ hk (hr _ (.tail _ mf2)) (hr _ (.tail _ mc2)) (hr _ (.tail _ mT)) (hr _ (.tail _ mDt))) hvp hN2 hN63 hm1 hm2 fun D3 il3 el3 ow hs3 tks3 hfo S hn3 hI3 => ?_
  have nD3 : D3 ≠ Lw := fun q => by rw [q, hLwN3] at hn3; cases hn3
  have hI3 : IntsAre il3 (((srt (aheadR true (kF kb)) kb.length).take yy.toNat).map Int.ofNat) := by rw [hyn, hkb', eB, ← eT, ← aheadR_qF true true]; exact hI3
  refine storeL S fun hl3 tkl3 S => ?_
  have S := S.turn
  refine exN (wpAny_If (wpAny_isTrue_Compare1 (nameL S rfl ?_)))
  refine orderUpto (ks := kb) (kind := 0) (gt := true) S B hdep (by exact hh) (fun Q' hq => nameL S rfl hq) (S.N.get (.tail _ (.tail _ (.tail _ mDb)))) (fun p hp => .inl rfl) hkb64 rfl hy0 fun Do3 io3 eo3 ho3 tko3 hio3 S => ?_
  refine neInts (S.N.get (.tail _ (.tail _ (.head _)))) (S.N.get (.head _)) hI3 hio3 huc (wpAny_truthy_bool ?_)
  rw [if_neg Bool.false_ne_true]
  refine wpAny_execs_nil ?_
  have S := S.pop
  refine exN (wpAny_If (wpAny_isTrue_Compare1 ?_))
  refine CallK_ (nameK B S (by k_is) (callWith_KW (K := hd.heap_39 w.params) B.X (by k_is) rfl (args_cons (nameL S rfl (args_cons ?_)))))
  refine Call_ (nameB B S (by k_is) (by boot_fast) (by decide) (PyProof.Rows.callWith_builtin1 (args_cons (nameL S rfl (args_nil (callIter (iterK S (S.N.get (.tail _ (.tail _ (.tail _ mDp)))) fun it4 hi4 hki4 S hlti4 hiti4 => ?_)))))))
  refine args_nil (kwAll_cons (nameL S rfl (kwAll_nil ⟨B.X.keeps S.keep, ?_⟩)))
  have hLwN4 := S.N.get (a := Lw) (o := ow) (.tail _ (.head _))
  have neL4 : ∀ p ∈ (D3, listOf il3.toArray el3) :: (D1, listOf il1.toArray el1) :: core, p.1 ≠ Lw := List.forall_mem_cons.mpr ⟨nD3, List.forall_mem_cons.mpr ⟨nD1, hneC⟩⟩
  refine sel_use (rest := (D3, listOf il3.toArray el3) :: (D1, listOf il1.toArray el1) :: core) (N := xs.length) sel_small S B hd9 (by exact hh) hu3 (by show A.frames.map _ = _; rw [hfr]; rfl) (hE rfl) rfl hfo (.tail _ (.head _)) (.itr (.head _)) (fun p hp => ⟨.tail _ (.tail _ hp), neL4 p hp, fun q => absurd (List.mem_singleton.mp q) (Nat.ne_of_lt (hlti4 p (.tail _ hp)))⟩) (.tail _ (.tail _ mDp)) (fun q => absurd (List.mem_singleton.mp q) (Nat.ne_of_lt (hlti4 (Lw, ow) (.head _))))
    (fun b₂ hk hr => key2 b₂ hk (hr _ (.tail _ (.tail _ mf2))) (hr _ (.tail _ (.tail _ mc2))) (hr _ (.tail _ (.tail _ mT))) (hr _ (.tail _ (.tail _ mDt)))) hvp hN2 hN63 hm1 hm2 fun D4 il4 el4 ow hs4 tks4 hfo S hn4 hI4 => ?_
  have nD4 : D4 ≠ Lw := fun q => by rw [q, hLwN4] at hn4; cases hn4
  have hI4 : IntsAre il4 (((srt (aheadR false (kF kb)) kb.length).take yy.toNat).map Int.ofNat) := by rw [hyn, hkb', eB, ← eT, ← aheadR_qF false true]; exact hI4
  refine orderUpto (ks := kb) (kind := 0) (gt := false) S B hdep (by exact hh) (fun Q' hq => nameL S rfl hq) (S.N.get (.tail _ (.tail _ (.tail _ (.tail _ mDb))))) (fun p hp => .inl rfl) hkb64 rfl hy0 fun Do4 io4 eo4 ho4 tko4 hio4 S => ?_
  refine neInts (S.N.get (.tail _ (.head _))) (S.N.get (.head _)) hI4 hio4 huc (wpAny_truthy_bool ?_)
  rw [if_neg Bool.false_ne_true]
  refine wpAny_execs_nil ?_
  have S := S.pop.pop

  have hl1 := hI1.length
  have hl3 := hI3.length
  obtain ⟨ls1, hI1, hls1, hn1⟩ : ∃ ls : List Nat, IntsAre il1 (ls.map Int.ofNat) ∧ (∀ x ∈ ls, x < kr.length) ∧ ls.length ≤ kr.length := ⟨_, hI1, fun x hx => List.mem_range.mp ((srt_perm _ _).mem_iff.mp (List.mem_of_mem_take hx)), by rw [List.length_take, srt_len]; first | lia | omega⟩
  obtain ⟨ls3, hI3, hls3, hn3⟩ : ∃ ls : List Nat, IntsAre il3 (ls.map Int.ofNat) ∧ (∀ x ∈ ls, x < kb.length) ∧ ls.length ≤ kb.length := ⟨_, hI3, fun x hx => List.mem_range.mp ((srt_perm _ _).mem_iff.mp (List.mem_of_mem_take hx)), by rw [List.length_take, srt_len]; first | lia | omega⟩
  have hl1 : il1.length = ls1.length := by have := hI1.length; simpa using this
  have hl3 : il3.length = ls3.length := by have := hI3.length; simpa using this
  -- whole
  refine exN (wpAny_Assign_Name (Call_ (nameK B S (by k_is) (callWith_K (K := hd.heap_39 w.params) B.X (by k_is) (args_cons ?_)))))
  refine Call_method1 rfl rfl rfl (cBytes ?_)
  refine methJoin (kind := 1) (sep := [10]) (.inr rfl) ?_
  refine compKvV (kind := 1) (cl := [("rows", L + 1)]) _ S (by exact hh) (fun Q' hq => nameL S rfl hq) (S.N.get (.tail _ (.tail _ (.head _)))) (by first | lia | omega) (elt_pick (D := Dr) (ks := kr) (oc := oR) (.tail _ (.tail _ (.tail _ mR))) hoR (.tail _ (.tail _ (.tail _ mDr))) hI1 hls1 hkr64 rfl (fun _ => rfl) (fun _ => rfl) (by decide)) (fun Dw kw ew hw tkw hkw hPw S hlw => ?_) (hclos := by kernel_rfl)
  have hw3 : ∀ p ∈ kw, (∀ x ∈ p.1, x < 256) ∧ p.1.length ≤ 3 := kF_all (P := fun l => (∀ x ∈ l, x < 256) ∧ l.length ≤ 3) fun i hi => by
    rw [hPw i hi]
    have := hPr _ (getD_lt hls1 (i := i) (by first | lia | omega))
    exact ⟨this.2, this.1⟩
  have ew1 : kw.map (·.1) = ls1.map (kF kr) := by
    rw [kF_map (n := ls1.length) (f := fun i => kF kr (ls1.getD i 0)) (by first | lia | omega) hPw]; exact map_at 0 (kF kr)
  have hjl : (joinL [10] (kw.map (·.1))).length ≤ (3 + 1) * (kw.map (·.1)).length := joinL_len [10] fun l hl => by
    obtain ⟨p, hp, rfl⟩ := List.mem_map.mp hl
    exact (hw3 p hp).2
  rw [List.length_map] at hjl
  refine ⟨Dw, hw, tkw, kw, ew, rfl, rfl, S.N.get (.head _), by have := sum_len (m := 3) fun p hp => (hw3 p hp).2; simp; first | lia | omega, fun t' k => ?_⟩
  refine args_nil ⟨B.X.keeps S.keep, ?_⟩
  refine quote_periods B S.keep hdep (by first | lia | omega) (fun x hx => ?_) fun hq1 tkq1 tq1 hkq1 => ?_
  · rcases joinL_mem hx with h | ⟨l, hl, h⟩
    · rw [List.mem_singleton.mp h]; first | lia | omega
    · obtain ⟨p, hp, rfl⟩ := List.mem_map.mp hl
      exact (hw3 p hp).1 x h
  have S := S.grow hkq1
  refine storeL S fun hq2 tkq2 S => ?_
  rw [qF_join, ew1, List.map_map] at S
  have S := S.pop

  refine exN (wpAny_If (wpAny_isTrue_Compare1 (nameL S rfl ?_)))
  refine Call_method1 rfl rfl rfl (cBytes ?_)
  refine methJoin (kind := 1) (sep := [10]) (.inr rfl) ?_
  refine compKvV (kind := 1) (cl := [("rows", L + 1)]) _ S (by exact hh) (fun Q' hq => nameL S rfl hq) (S.N.get (.tail _ (.tail _ (.head _)))) (by first | lia | omega) (elt_dots (D := Dr) (ks := kr) (oc := oR) B (by exact hh) hdep (.tail _ (.tail _ (.tail _ mR))) hoR (.tail _ (.tail _ (.tail _ mDr))) hI1 hls1 hkr64 hr3 rfl (fun _ => rfl) (fun _ => rfl) (fun _ => rfl) (by decide)) (fun Dd kd ed hw tkw hkd hPd S hld => ?_) (hclos := by kernel_rfl)
  have ed1 : kd.map (·.1) = ls1.map (qF true ∘ kF kr) := by
    rw [kF_map (n := ls1.length) (f := fun i => qF true (kF kr (ls1.getD i 0))) (by first | lia | omega) hPd]; exact map_at 0 (qF true ∘ kF kr)
  have hd3 : ∀ p ∈ kd, p.1.length ≤ 6 := kF_all (P := fun l => l.length ≤ 6) fun i hi => by
    rw [hPd i hi]
    have := (hPr _ (getD_lt hls1 (i := i) (by first | lia | omega))).1
    have := qF_len (kF kr (ls1.getD i 0)) true
    first | lia | omega
  refine ⟨Dd, hw, tkw, kd, ed, rfl, rfl, S.N.get (.head _), by have := sum_len (m := 6) hd3; simp; first | lia | omega, fun t' k => ?_⟩
  rw [ed1]
  refine ne_bytes (s := sh s hw k) (wpAny_truthy_bool ?_)
  rw [bne_self_eq_false, if_neg Bool.false_ne_true]
  refine wpAny_execs_nil ?_
  have S := S.pop
  -- mail
  refine exN (wpAny_Assign_Name (Call_ (nameK B S (by k_is) (callWith_K (K := hd.heap_39 w.params) B.X (by k_is) (args_cons ?_)))))
  refine Call_method1 rfl rfl rfl (cStr ?_)
  refine methJoin (kind := 0) (sep := [13, 10]) (.inl rfl) ?_
  refine compKvV (kind := 0) (cl := [("texts", L + 2)]) _ S (by exact hh) (fun Q' hq => nameL S rfl hq) (S.N.get (.tail _ (.head _))) (by first | lia | omega) (elt_pick (D := Dt) (ks := kt) (oc := oT) (.tail _ (.tail _ (.tail _ mT))) hoT (.tail _ (.tail _ (.tail _ mDt))) hI3 (fun x hx => by have := hls3 x hx; first | lia | omega) hkt64 rfl (fun _ => rfl) (fun _ => rfl) (by decide)) (fun Dm km em hm tkm hkm hPm S hlm => ?_) (hclos := by kernel_rfl)
  have hm3 : ∀ p ∈ km, p.1.length ≤ 3 := kF_all (P := fun l => l.length ≤ 3) fun i hi => by
    rw [hPm i hi, eT]
    exact (hPr _ (by have := getD_lt hls3 (i := i) (by first | lia | omega); first | lia | omega)).1
  have em1 : km.map (·.1) = ls3.map (kF kt) := by
    rw [kF_map (n := ls3.length) (f := fun i => kF kt (ls3.getD i 0)) (by first | lia | omega) hPm]; exact map_at 0 (kF kt)
  have hjm : (joinL [13, 10] (km.map (·.1))).length ≤ (3 + 2) * (km.map (·.1)).length := joinL_len [13, 10] fun l hl => by
    obtain ⟨p, hp, rfl⟩ := List.mem_map.mp hl
    exact hm3 p hp
  rw [List.length_map] at hjm
  refine ⟨Dm, hm, tkm, km, em, rfl, rfl, S.N.get (.head _), by have := sum_len (m := 3) hm3; simp; first | lia | omega, fun t' k => ?_⟩
  refine args_nil ⟨B.X.keeps S.keep, ?_⟩
  refine quotedata B S.keep hdep (by first | lia | omega) fun hq3 tkq3 tq3 hkq3 => ?_
  have S := S.grow hkq3
  refine storeL S fun hq4 tkq4 S => ?_
  rw [qeF_join, em1, List.map_map] at S
  -- alone
  have hbl := S.below
  refine exN (wpAny_Assign_Name (listE (spliced_nil ⟨_, _, rfl, Nat.zero_le _, storeL (S.push _) fun hq5 tkq5 S => ?_⟩)))
  have hk6 : ∀ p ∈ kb, (∀ x ∈ p.1, x < 256) ∧ p.1.length ≤ 6 := kF_all (P := fun l => (∀ x ∈ l, x < 256) ∧ l.length ≤ 6) fun i hi => by
    rw [eB]
    have h1 := hPr i (by first | lia | omega)
    have h2 := eF_len (kF kr i)
    refine ⟨fun x hx => ?_, by show (eF (kF kr i)).length ≤ 6; first | lia | omega⟩
    rcases eF_mem hx with h | h | h
    · exact h1.2 x h
    · first | lia | omega
    · first | lia | omega
  refine exN (aloneLoop (ls := ls3) (kb := kb) (Da := hq4.objs.size) (ea := 0) (rest := [(D3, listOf il3.toArray el3), (Db, listOf (kvs 0 kb).toArray eb), (163, tb2)]) (mv := kv 0 (joinL [13, 10] (ls3.map ((fun l => qF true (eF l)) ∘ kF kt))) tq3) B (by exact hh) hdep (S.weaken (by walk_at "al") (List.forall_mem_cons.mpr ⟨.head _, List.forall_mem_cons.mpr ⟨.tail _ (.tail _ (.tail _ (.head _))), List.forall_mem_cons.mpr ⟨.tail _ (.tail _ (.tail _ (.tail _ (.tail _ mDb)))), List.forall_mem_cons.mpr ⟨.tail _ (.tail _ (.tail _ (.tail _ (.tail _ m163)))), fun _ h => nomatch h⟩⟩⟩⟩)) (.head _) (.tail _ (.head _))
    (List.forall_mem_cons.mpr ⟨Nat.ne_of_lt (hbl (D3, listOf il3.toArray el3) (.tail _ (.tail _ (.head _)))), List.forall_mem_cons.mpr ⟨Nat.ne_of_lt (hbl (Db, listOf (kvs 0 kb).toArray eb) (.tail _ (.tail _ (.tail _ (.tail _ mDb))))), List.forall_mem_cons.mpr ⟨Nat.ne_of_lt (hbl (163, tb2) (.tail _ (.tail _ (.tail _ (.tail _ m163))))), fun _ h => nomatch h⟩⟩⟩)
    hI3 hls3 hkb64 (Nat.lt_of_le_of_lt hn3 hkb64) hk6 (by walk_at "al") rfl rfl rfl (by kernel_rfl) (by kernel_rfl) rfl (by decide) (by decide) (fun _ => rfl) (fun _ => rfl) rfl rfl fun h' tk' ka ea' hka S => ?_)
  refine exN (wpAny_Return_some (wpAny_Compare1 (nameL S rfl ?_)))
  refine Call_method1 rfl rfl rfl (cStr ?_)
  refine methJoin (kind := 0) (sep := [13, 10]) (.inl rfl) ?_
  have ha3 : ∀ p ∈ ka, p.1.length ≤ 12 := fun p hp => by
    have : p.1 ∈ ka.map (·.1) := List.mem_map_of_mem hp
    rw [hka] at this
    obtain ⟨x, hx, e⟩ := List.mem_map.mp this
    have h1 : (kF kb x).length ≤ 6 := by
      have hxl := hls3 x hx
      have : kF kb x = kb[x].1 := by simp [kF, hxl]
      rw [this]; exact (hk6 _ (List.getElem_mem hxl)).2
    have h2 := qF_len (kF kb x) true
    rw [← e]; first | lia | omega
  have hkal : ka.length = ls3.length := by have := congrArg List.length hka; simpa using this
  refine nameL S rfl ⟨_, _, _, ka, ea', rfl, rfl, S.N.get (.head _), by have := sum_len (m := 12) ha3; simp; first | lia | omega, fun t' k => kvEq (.inl rfl) (.inl rfl) ?_⟩
  have e : joinL [13, 10] (ls3.map ((fun l => qF true (eF l)) ∘ kF kt)) = joinL [13, 10] (ka.map (·.1)) := by rw [hka, eB, eT]; rfl
  rw [e, beq_self_eq_true]
  subst htb2
  exact hQ h' k _ (kbf S) (S.N.get (.tail _ (.tail _ (.tail _ (.head _)))))
end Mine
/- MLaw -/
namespace Mine
open PySem PySem.W PyProof.Rows PySem.Calls
theorem addL {prog : Program} {w : World} {A : Around} {E : Value → Shared → Prop} {s : Shared} {g h : Heap} {tk : Nat} {L l b' : Addr} {al : List (Str × Value)} {news : List (Addr × Obj)} {vs ws : List Value} {Q : Value → Shared → Prop} (S : St g L h al news) (hl : h.IsList l vs.toArray) (hb : h.IsList b' ws.toArray) (hsz : vs.length + ws.length ≤ 1000)
    (hq : ∀ h', St g L h' al ((h.objs.size, listOf (vs ++ ws).toArray 0) :: news) → Q (.ref h.objs.size) (sh s h' tk)) : wpAny (model prog w) A (binaryOp .Add (.ref l) (.ref b')) Q E (sh s h tk) := by
  obtain ⟨⟨m, F, hm⟩, N⟩ := S
  exact add_lists (s := sh s h tk) F N hl hb (fun h' F' N' => hq h' ⟨⟨m, F', hm⟩, N'⟩) (by rw [sizeLine_eq]; first | lia | omega)

/-- the law's one statement -/
theorem law_go {w : World} {A : Around} {E : Value → Shared → Prop} {s : Shared} {g h : Heap} {tk : Nat} {L a sc : Addr} {cn : Str} {cs : Scope} {ccd : Value} {vs : List Value} {xs : List Int} {Q : Flow → Shared → Prop} {p : Program} {loose : List Str} {mean : ExcName → Option Value} {mg mb : Str → Option Value}
    {q1 q2 q3 q4 q5 q6 q7 q8 q9 q10 q11 q12 q13 q14 q15 q16 q17 q18 q19 q20 q21 q22 : Pos} {k1 k2 k3 k4 k5 k6 k7 k8 k9 k10 : Nat}
    (B : Ba w g) (T : Top p loose mean mg mb g) (S : St g L h [("script", .ref sc)] [(163, tabObj #[])]) (hsc : g.IsList sc vs.toArray) (hI : IntsAre vs xs) (h63 : xs.length ≤ 63)
    (hck : cs.kind = .function) (hx : (envX cn cs L a ccd []).kindOf "script" = some .local) (hr : (envX cn cs L a ccd []).kindOf "_law_run" = some .globalImplicit)
    (hroom : A.depth + 12 < recursionLimit) (hh : A.handled = none) (hun : A.units < 250) (hfr : A.frames = some [envX cn cs L a ccd []])
    (hq : ∀ h' tk' ps, Keeps g h' → h'.get? 163 = some (tabObj ps) → Q (.ret (.bool true)) (sh s h' tk')) :
    wpAny (model PySem.Challenge.rw_mr0271_01.row.prog w) A (execs [.Return (some (.Call (.Name "_law_run" q1) [.Subscript (.BinOp (.Name "script" q2) .Add (.List [.Constant (.int 5) k1 q3] q4) q5) (.Constant (.int 0) k2 q6) q7,
      .BinOp (.List [.Constant (.int 26) k3 q8, .Constant (.int 83) k4 q9, .Constant (.int 2) k5 q10, .Constant (.int 3) k6 q11, .Constant (.int 10) k7 q12, .Constant (.int 21) k8 q13] q14) .Add (.Subscript (.Name "script" q15) (.Slice (some (.Constant (.int 1) k9 q16)) (some (.Constant (.int 9) k10 q17)) none q18) q19) q20] [] q21)) q22] (envX cn cs L a ccd [])) Q E (sh s h tk) := by
  have hvl := hI.length
  have hsi : ∀ {h' : Heap}, Keeps g h' → h'.IsList sc vs.toArray := fun hk => let ⟨o, e, r⟩ := hsc; ⟨o, hk _ _ e, r⟩
  obtain ⟨oL, hoL, hoLd, hgL⟩ := S.obj
  have hg163 : g.get? 163 = none := (S.N _ (.head _)).2.2
  have hL163 : L ≠ 163 := fun q => (S.N (163, tabObj #[]) (.head _)).2.1 q.symm
  refine exN (wpAny_Return_some (Call_ (nameK B S (by k_is) (callWith_K (K := hd.heap_39 w.params) B.X (by k_is) (args_cons ?_)) hck hr (by decide))))
  refine Subscript_ (wpAny_BinOp (nameL S rfl (listE (spliced_cons (cInt (spliced_nil ⟨_, _, rfl, by rw [sizeLine_eq]; exact (by decide : (1 : Nat) ≤ 16777216), ?_⟩)))) hck hx (by decide)))
  have S1 := S.push (listOf #[.int 5 tk] 0)
  refine addL (ws := [.int 5 tk]) S1 (hsi S1.keep) ⟨_, S1.N.get (.head _), rfl, _, rfl⟩ (by simp; first | lia | omega) fun h2 S2 => ?_
  obtain ⟨wish, t, hw⟩ : ∃ wish t, (vs ++ [Value.int 5 tk])[0]? = some (.int wish t) := by
    cases hI with
    | nil => exact ⟨5, tk, rfl⟩
    | cons n t _ => exact ⟨n, t, rfl⟩
  refine cInt (getL (S2.N.get (.head _)) (by first | lia | omega) (by first | lia | omega) (x := .int wish t) (by simpa using hw) (args_cons ?_))
  refine wpAny_BinOp (listE (spliced_cons (cInt (spliced_cons (cInt (spliced_cons (cInt (spliced_cons (cInt (spliced_cons (cInt (spliced_cons (cInt (spliced_nil ⟨_, _, rfl, by rw [sizeLine_eq]; exact (by decide : (6 : Nat) ≤ 16777216), ?_⟩))))))))))))))
  have S3 := S2.push (listOf #[.int 26 (tk + 1 + 1), .int 83 (tk + 1 + 1 + 1), .int 2 (tk + 1 + 1 + 1 + 1), .int 3 (tk + 1 + 1 + 1 + 1 + 1), .int 10 (tk + 1 + 1 + 1 + 1 + 1 + 1), .int 21 (tk + 1 + 1 + 1 + 1 + 1 + 1 + 1)] 0)
  refine Subscript_ (nameL S3 rfl (wpAny_Slice ?_) hck hx (by decide))
  show wpAny _ _ (eval (.Constant (.int 1) k9 q16) _) _ _ _
  refine cInt ?_
  show wpAny _ _ (eval (.Constant (.int 9) k10 q17) _) _ _ _
  refine cInt ?_
  refine show wpAny _ _ (pure Value.none) _ _ _ from wpAny_pure ?_
  obtain ⟨six, hsix, hsl, h3, hh3, S3'⟩ : ∃ six : List Value, IntsAre six [26, 83, 2, 3, 10, 21] ∧ six.length = 6 ∧ ∃ h3, h3 = h2.push (listOf #[.int 26 (tk + 1 + 1), .int 83 (tk + 1 + 1 + 1), .int 2 (tk + 1 + 1 + 1 + 1), .int 3 (tk + 1 + 1 + 1 + 1 + 1), .int 10 (tk + 1 + 1 + 1 + 1 + 1 + 1), .int 21 (tk + 1 + 1 + 1 + 1 + 1 + 1 + 1)] 0) ∧ St g L h3 [("script", .ref sc)] [(h2.objs.size, listOf six.toArray 0), (163, tabObj #[])] :=
    ⟨[.int 26 (tk + 1 + 1), .int 83 (tk + 1 + 1 + 1), .int 2 (tk + 1 + 1 + 1 + 1), .int 3 (tk + 1 + 1 + 1 + 1 + 1), .int 10 (tk + 1 + 1 + 1 + 1 + 1 + 1), .int 21 (tk + 1 + 1 + 1 + 1 + 1 + 1 + 1)], .cons _ _ (.cons _ _ (.cons _ _ (.cons _ _ (.cons _ _ (.cons _ _ .nil))))), rfl, _, rfl, S3.weaken (by walk_at "al") (by walk_at "nw")⟩
  rw [← hh3]
  generalize htk : tk + 1 + 1 + 1 + 1 + 1 + 1 + 1 + 1 = tk9
  clear hh3 S3
  have S4 := S3'.push { cls := .type "slice", data := .fields #[.int 1 tk9, .int 9 (tk9 + 1), .none] }
  refine tail_any (s := sh s (h3.push { cls := .type "slice", data := .fields #[.int 1 tk9, .int 9 (tk9 + 1), .none] }) (tk9 + 1 + 1)) (ops := [.ref h3.objs.size, .ref sc]) (Heap.IsList.typeIs (hsi S4.keep)) slot_list_getitem.lookup
    (wpAny_getItem_list_slice (hsi S4.keep) (Heap.IsSliceOf.new ..) (.int _ _) (.int _ _) .none (by simp) ?_ (by rw [List.size_toArray, sizeLine_eq]; first | lia | omega)) (by with_unfolding_all rfl)
  have S5 := S4.push (listOf (slicePick vs.toArray (some 1) (some 9) none) 0)
  have hsl9 := slice_ints_plain hI 1 9
  have hl9 : (slicePick vs.toArray (some 1) (some 9) none).toList.length ≤ 8 := by
    rw [hsl9.length, List.length_take]
    have h1 := clipAt_min (n := xs.length) (y := 1) (by first | lia | omega)
    have h2 := clipAt_min (n := xs.length) (y := 9) (by first | lia | omega)
    split at h1 <;> split at h2 <;> first | lia | omega
  refine addL (vs := six) (ws := (slicePick vs.toArray (some 1) (some 9) none).toList) S5 ⟨_, S5.N.get (a := h2.objs.size) (o := listOf six.toArray 0) (by k_mem), rfl, _, rfl⟩ ⟨_, S5.N.get (.head _), rfl, 0, by rw [Array.toArray_toList]⟩ (by first | lia | omega) fun h6 S6 => args_nil ⟨B.X.keeps S6.keep, ?_⟩
  obtain ⟨oL, hoL, hoLd, _⟩ := S6.obj
  have hln := S6.N _ (.head _)
  have h163 := S6.N (163, tabObj #[]) (by k_mem)
  refine law_run (ep := 0) (env0 := envX cn cs L a ccd []) B T S6.keep hroom hh hun hfr (.cons (by show cs.kind ≠ .module; rw [hck]; decide) rfl hoLd .nil) ⟨hoL, hgL⟩ ⟨h163.1, hg163⟩ hL163 hln.1 hln.2.1 (hsix.append hsl9) ?_ ?_ fun h7 tk7 ps hk7 h7163 => ?_
  · simp
  · rw [← (hsix.append hsl9).length, List.length_append, hsl]; first | lia | omega
  · exact hq h7 tk7 ps (fun b o e => hk7 b o (fun q => by
      rcases List.mem_cons.mp q with q | q
      · rw [q, hg163] at e; cases e
      · rw [List.mem_singleton.mp q, hgL] at e; cases e) (S6.keep b o e)) h7163
end Mine
open PySem PySem.W PyProof.Rows PySem.Calls
theorem PySem.Challenge.cw_mr0271_01_holds : PySem.Challenge.rw_mr0271_01.Holds := by
  refine Mine.hd ?_
  k_go0
  rename_i w s₀ s₁ mg mb G Y fa o pm cd doc kV ho hcd hg X V T B TE TW xs hs hlay0 hL1 hr1 hl2 w4 w3 sc vs w0 hL ra w1 r0 hI hr hc1 hc2 hD h₁ X' T' K' F' N' l0
  refine Mine.law_go (s := s₁) (tk := s₁.toks + 1) (sc := sc) (vs := vs) (xs := xs) (p := topProg) ⟨X', _, _, _, _, topRead_of T'⟩ T' ⟨⟨_, F', fun x v e => ?_⟩, N'⟩ lifted hI (by first | lia | omega) rfl rfl rfl (show 1 + claimMargin + 1 + 12 < recursionLimit by decide +kernel) rfl (show 4 + 3 < 250 by decide) rfl fun h' tk' ps hk h163 => ?_
  · exact e
  · refine ⟨⟨.inl ⟨.bool true, _, _, rfl, fun _ => rfl, .bool true, by wrow_post, fun _ => ⟨.nil, fun _ h => nomatch h⟩⟩, hk, rfl, hg⟩, ⟨_, h163⟩, trivial⟩
